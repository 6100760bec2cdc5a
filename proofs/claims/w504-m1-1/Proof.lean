import JvmDerived
import JvmDerived.Pilot.@@N@@Statement
import JvmDerived.Pilot.@@N@@Code
set_option linter.unusedVariables false
set_option linter.unusedSimpArgs false
namespace Jvm.RoadKit
open Sem ClassFile Op Lib Jvm.Stand Jvm.Free Jvm.LawKit
section New
variable {p : Program} {l : Launch} {e : Env} {R : Room} {s : State} {m : MethodId} {args : Array Value} {below : List Frame} {meth : Method} {c : Code} {T : State} {locs : List Loc} {cells slots : Nat}
theorem retI (X : Stand p l e R s m args below meth c T locs cells slots) (hx : p.tables.exec = Jvm.exec) {pc : Nat} {Ls : Array Slot} {z : Int32} {rest : List Value} (hret : meth.sig.returnType = some .int) (hd : decode c.code pc = .ok (.ireturn, 1)) {fs : List Frame}
    (hl : ∀ (f : JFrame) (acts : List Action), f.method = m → f.locked = none → f.entered = [] → (doReturn e (T.setTop f) acts (some (.int z))).1 = T.setFrames fs) : Steps p.tables e below (T.setTop (mkF m pc Ls (.int z :: rest))) (T.setFrames fs) := by
  have hm' : T.vm.method? m = some meth := X.method'
  have hn : narrow .int (.int z) = .int z := rfl
  show Steps p.tables e below (T.setTop { method := m, pc := pc, locals := Ls, stack := _ :: rest, locked := none }) _
  jvm_step X.here [X.here.top, hx, hd, hm', hret, hn]
  first | (intro acts; rw [hl _ acts rfl rfl rfl]) | rw [hl _ _ rfl rfl rfl]
  exact Steps.refl _
end New
end Jvm.RoadKit
namespace Jvm.Pilot.@@N@@
open Jvm Jvm.ClassFile Sem Op Lib Jvm.Free Jvm.Stand Jvm.LawKit Jvm.RoadKit Bundle Jvm.Pilot.@@N@@.Jvm.D
/-! what every block of a body's walk is given -/
def Ctx (p : Program) (Z s : State) (a0 : Array Value) (m : MethodId) (meth : Method) (c : Code) (own nm : String) (bytes : ByteArray) (maxl : Nat) (rt : Option FieldType) : Prop :=
  p.tables.exec = Jvm.exec ∧ Z.Warmed39 s.vm ∧ (∀ d ∈ tables_1, d.before a0 Z = true) ∧ c.code = bytes ∧ c.maxLocals = maxl ∧ meth.sig.returnType = rt ∧ s.vm.findClass own = some m.cls ∧ meth.name = nm ∧ meth.locks = false
/-- from the state A the body's run ends, returns, and leaves what Q says -/
def Fin (p : Program) (e : Env) (below : List Frame) (s : State) (cells slots : Nat) (Q : Option Value → Heap → List Loc → Prop) (A : State) : Prop :=
  ∃ s₂ o, Steps p.tables e below A s₂ ∧ s₂.status = .running ∧ Ended s₂ below o ∧ ∃ v L, o = .returned v ∧ Q v s₂.heap L ∧ FrameEnd s o s₂ L cells slots
section Ends
variable {p : Program} {l : Launch} {e : Env} {R : Room} {s : State} {m : MethodId} {args : Array Value} {below : List Frame} {meth : Method} {c : Code} {T : State} {locs : List Loc} {cells slots : Nat} {C S : Nat} {Q : Option Value → Heap → List Loc → Prop}
theorem Fin.by {A B : State} (h : ∀ t, Steps p.tables e below B t → Steps p.tables e below A t) (k : Fin p e below s C S Q B) : Fin p e below s C S Q A := by
  obtain ⟨s₂, o, h1, r⟩ := k
  exact ⟨s₂, o, h _ h1, r⟩
theorem own_retI (X : Stand p l e R s m args below meth c T locs cells slots) (hx : p.tables.exec = Jvm.exec) (hlk : meth.locks = false) {pc : Nat} {Ls : Array Slot} {z : Int32} {rest : List Value} (hret : meth.sig.returnType = some .int) (hd : decode c.code pc = .ok (.ireturn, 1)) (hc : cells ≤ C) (hs : slots ≤ S)
    (hq : Q (some (.int z)) T.heap locs) : Fin p e below s C S Q (T.setTop (mkF m pc Ls (.int z :: rest))) := by
  obtain ⟨fs, hr, hrun, hended, hW, hsame⟩ := X.leave (v := some (.int z)) (fun h => by rw [hret] at h; cases h) hlk
  exact ⟨_, _, retI X hx hret hd hr, hrun, hended, _, _, rfl, hq, ⟨_, rfl⟩, hW, hsame.mono hc hs⟩
theorem own_retN (X : Stand p l e R s m args below meth c T locs cells slots) (hx : p.tables.exec = Jvm.exec) (hlk : meth.locks = false) {pc : Nat} {Ls : Array Slot} {z : Int32} {rest : List Value} {t : FieldType} (hret : meth.sig.returnType = some t) (ht : t = .boolean ∨ t = .byte ∨ t = .char ∨ t = .short) (hd : decode c.code pc = .ok (.ireturn, 1)) (hc : cells ≤ C) (hs : slots ≤ S)
    (hq : Q (some (.int (nar t z))) T.heap locs) : Fin p e below s C S Q (T.setTop (mkF m pc Ls (.int z :: rest))) := by
  obtain ⟨fs, hr, hrun, hended, hW, hsame⟩ := X.leave (v := some (.int (nar t z))) (fun h => by rw [hret] at h; cases h) hlk
  exact ⟨_, _, retN X hx hret ht hd hr, hrun, hended, _, _, rfl, hq, ⟨_, rfl⟩, hW, hsame.mono hc hs⟩
theorem own_retJ (X : Stand p l e R s m args below meth c T locs cells slots) (hx : p.tables.exec = Jvm.exec) (hlk : meth.locks = false) {pc : Nat} {Ls : Array Slot} {z : Int64} (hret : meth.sig.returnType = some .long) (hd : decode c.code pc = .ok (.lreturn, 1)) (hc : cells ≤ C) (hs : slots ≤ S)
    (hq : Q (some (.long z)) T.heap locs) : Fin p e below s C S Q (T.setTop (mkF m pc Ls [.long z])) := by
  obtain ⟨fs, hr, hrun, hended, hW, hsame⟩ := X.leave (v := some (.long z)) (fun h => by rw [hret] at h; cases h) hlk
  exact ⟨_, _, X.lreturnOut hx hret hd hr, hrun, hended, _, _, rfl, hq, ⟨_, rfl⟩, hW, hsame.mono hc hs⟩
theorem own_retR (X : Stand p l e R s m args below meth c T locs cells slots) (hx : p.tables.exec = Jvm.exec) (hlk : meth.locks = false) {pc : Nat} {Ls : Array Slot} {z : Addr} {t : FieldType} (hret : meth.sig.returnType = some t) (ht : t.isReference = true) (hd : decode c.code pc = .ok (.areturn, 1)) (hc : cells ≤ C) (hs : slots ≤ S)
    (hq : Q (some (.ref z)) T.heap locs) : Fin p e below s C S Q (T.setTop (mkF m pc Ls [.ref z])) := by
  obtain ⟨fs, hr, hrun, hended, hW, hsame⟩ := X.leave (v := some (.ref z)) (fun h => by rw [hret] at h; cases h) hlk
  exact ⟨_, _, X.areturnOut hx rfl hret ht hd hr, hrun, hended, _, _, rfl, hq, ⟨_, rfl⟩, hW, hsame.mono hc hs⟩
theorem own_ret0 (X : Stand p l e R s m args below meth c T locs cells slots) (hx : p.tables.exec = Jvm.exec) (hlk : meth.locks = false) {pc : Nat} {Ls : Array Slot} (hret : meth.sig.returnType = none) (hd : decode c.code pc = .ok (.return_, 1)) (hc : cells ≤ C) (hs : slots ≤ S)
    (hq : Q none T.heap locs) : Fin p e below s C S Q (T.setTop (mkF m pc Ls [])) := by
  obtain ⟨fs, hr, hrun, hended, hW, hsame⟩ := X.leave (v := none) (fun _ => rfl) hlk
  exact ⟨_, _, X.returnOut hx hret hd hr, hrun, hended, _, _, rfl, hq, ⟨_, rfl⟩, hW, hsame.mono hc hs⟩
end Ends
section Arrays
variable {Z : State} {h h' : Heap} {a : Addr} {k : ClassId} {ty : FieldType} {n j : Int32} {vs : List Value} {d : Value}
/-- what an array of ints holds at the place j -/
def own_at (xs : List Int32) (j : Int32) : Int32 := xs.getD j.toNatClampNeg 0
def own_atJ (xs : List Int64) (j : Int32) : Int64 := xs.getD j.toNatClampNeg 0
theorem own_mapD (xs : List Int32) (i : Nat) : (xs.map Value.int).getD i (.int 0) = .int (xs.getD i 0) := by
  rw [List.getD_eq_getElem?_getD, List.getD_eq_getElem?_getD, List.getElem?_map]; cases xs[i]? <;> rfl
theorem own_mapDJ (xs : List Int64) (i : Nat) : (xs.map Value.long).getD i (.long 0) = .long (xs.getD i 0) := by
  rw [List.getD_eq_getElem?_getD, List.getD_eq_getElem?_getD, List.getElem?_map]; cases xs[i]? <;> rfl
theorem own_open (V : Arv Z h a k ty n vs d) (hj : ¬ (j < 0) ∧ j < n) : ∃ cl, Arr Z h a cl ty ∧ ¬ (j < 0 ∨ cl.slots.size ≤ j.toNatClampNeg) ∧ True := by
  obtain ⟨cl, Ar, -, S, -, -, -⟩ := V
  exact ⟨cl, Ar, inb_of S hj, trivial⟩
theorem own_readI {xs : List Int32} (V : Arv Z h a k ty n (xs.map Value.int) (.int 0)) (hj : ¬ (j < 0) ∧ j < n) (i : Nat) (hi : j.toNatClampNeg = i) : ∃ cl, Arr Z h a cl ty ∧ ¬ (j < 0 ∨ cl.slots.size ≤ j.toNatClampNeg) ∧ cl.slots[j.toNatClampNeg]? = some (.int (xs.getD i 0)) := by
  obtain ⟨cl, Ar, -, S, -, H, -⟩ := V
  have q := inb_of S hj
  refine ⟨cl, Ar, q, ?_⟩
  rw [H _ (Nat.lt_of_not_le fun y => q (Or.inr y)), own_mapD, hi]
theorem own_readJ {xs : List Int64} (V : Arv Z h a k ty n (xs.map Value.long) (.long 0)) (hj : ¬ (j < 0) ∧ j < n) (i : Nat) (hi : j.toNatClampNeg = i) : ∃ cl, Arr Z h a cl ty ∧ ¬ (j < 0 ∨ cl.slots.size ≤ j.toNatClampNeg) ∧ cl.slots[j.toNatClampNeg]? = some (.long (xs.getD i 0)) := by
  obtain ⟨cl, Ar, -, S, -, H, -⟩ := V
  have q := inb_of S hj
  refine ⟨cl, Ar, q, ?_⟩
  rw [H _ (Nat.lt_of_not_le fun y => q (Or.inr y)), own_mapDJ, hi]
theorem own_setI {xs : List Int32} {v : Int32} (V : Arv Z h a k ty n (xs.map Value.int) (.int 0)) (ln : xs.length = n.toNatClampNeg) (hj : ¬ (j < 0) ∧ j < n) (W : Wr h h' a j.toNatClampNeg (.int v)) (hf : fits ty (.int v) = true) (i : Nat) (hi : j.toNatClampNeg = i) :
    Arv Z h' a k ty n ((xs.set i v).map Value.int) (.int 0) ∧ (xs.set i v).length = n.toNatClampNeg := by
  subst hi
  obtain ⟨cl, Ar, q1, S, q3, H, G⟩ := V
  have q := inb_of S hj
  have W2 := Arv.set Ar q1 S q3 H G hf W j.toNatClampNeg rfl (by rw [List.length_map, ln, ← S]; exact Nat.lt_of_not_le fun y => q (Or.inr y))
  rw [List.map_set]
  exact ⟨W2, by rw [List.length_set]; exact ln⟩
theorem own_setJ {xs : List Int64} {v : Int64} (V : Arv Z h a k ty n (xs.map Value.long) (.long 0)) (ln : xs.length = n.toNatClampNeg) (hj : ¬ (j < 0) ∧ j < n) (W : Wr h h' a j.toNatClampNeg (.long v)) (hf : fits ty (.long v) = true) (i : Nat) (hi : j.toNatClampNeg = i) :
    Arv Z h' a k ty n ((xs.set i v).map Value.long) (.long 0) ∧ (xs.set i v).length = n.toNatClampNeg := by
  subst hi
  obtain ⟨cl, Ar, q1, S, q3, H, G⟩ := V
  have q := inb_of S hj
  have W2 := Arv.set Ar q1 S q3 H G hf W j.toNatClampNeg rfl (by rw [List.length_map, ln, ← S]; exact Nat.lt_of_not_le fun y => q (Or.inr y))
  rw [List.map_set]
  exact ⟨W2, by rw [List.length_set]; exact ln⟩
theorem own_newI (A : Arr Z h a (newA k ty n) ty) (hd : defaultValue ty = .int 0) (q : ¬ n < 0) {xs : List Int32} (hxs : xs = List.replicate n.toNatClampNeg 0) : Arv Z h a k ty n (xs.map Value.int) (.int 0) ∧ xs.length = n.toNatClampNeg := by
  subst hxs
  have V := Arv.new A q
  rw [hd] at V
  have V2 := V.pad (pad_rep [] (.int 0) n.toNatClampNeg)
  rw [List.map_replicate]
  exact ⟨V2, by rw [List.length_replicate]⟩
theorem own_newJ (A : Arr Z h a (newA k ty n) ty) (hd : defaultValue ty = .long 0) (q : ¬ n < 0) {xs : List Int64} (hxs : xs = List.replicate n.toNatClampNeg 0) : Arv Z h a k ty n (xs.map Value.long) (.long 0) ∧ xs.length = n.toNatClampNeg := by
  subst hxs
  have V := Arv.new A q
  rw [hd] at V
  have V2 := V.pad (pad_rep [] (.long 0) n.toNatClampNeg)
  rw [List.map_replicate]
  exact ⟨V2, by rw [List.length_replicate]⟩
end Arrays

theorem own_ltL {x y : Int64} : x < y ↔ x.toInt < y.toInt := Int64.lt_iff_toInt_lt
theorem own_ltI {x y : Int32} : x < y ↔ x.toInt < y.toInt := Int32.lt_iff_toInt_lt
/-- the bits from the seventh on are all 0: the number is below 128 -/
theorem own_hi (x : Int64) (h : 0 ≤ x.toInt) : (x &&& (-128 : Int64)) = (0 : Int64) ↔ x.toInt < 128 := by
  have e1 : ((x &&& (-128 : Int64)) &&& (127 : Int64)) = 0 := by rw [Int64.and_assoc, show (-128 : Int64) &&& 127 = 0 from by decide, Int64.and_zero]
  have e2 : ((x &&& (-128 : Int64)) ||| (x &&& (127 : Int64))) = x := by
    apply Int64.toBitVec_inj.mp
    rw [Int64.toBitVec_or, Int64.toBitVec_and, Int64.toBitVec_and, ← BitVec.and_or_distrib_left, show (-128 : Int64).toBitVec ||| (127 : Int64).toBitVec = BitVec.allOnes 64 from by decide, BitVec.and_allOnes]
  have m1 := c_maskL (x &&& (-128 : Int64)) 127 7 (by decide) (by decide)
  have m2 := c_maskL x 127 7 (by decide) (by decide)
  rw [e1] at m1
  have z : (0 : Int64).toInt = 0 := rfl
  have o := c_orL (x &&& (-128 : Int64)) (x &&& (127 : Int64)) 7 (by decide) 128 (by decide) (by omega) (by omega) (by omega)
  rw [e2] at o
  have r := rng64 (x &&& (-128 : Int64)); have r2 := rng64 x
  constructor
  · intro q; rw [q] at o; omega
  · intro q; exact Int64.toInt_inj.mp (by omega)
theorem own_hn (x : Int64) (h : 0 ≤ x.toInt) (q : ¬ ((x &&& (-128 : Int64)) = (0 : Int64))) : 128 ≤ x.toInt := by
  have := own_hi x h
  exact Int.not_lt.mp fun w => q (this.mpr w)
theorem own_sh (x : Int64) : ((x.toUInt64 >>> ((7 : Int32) &&& 0x3f).toInt64.toUInt64).toInt64).toInt = (x.toInt % 18446744073709551616) / 128 := c_lushr x 7 7 (by decide) (by decide)
theorem own_i1 (i : Int32) (h : i.toInt ≤ 100) : (i + (1 : Int32)).toInt = i.toInt + 1 := by
  have := c_iadd i 1; have := rng32 (i + 1); have := rng32 i; have z : (1 : Int32).toInt = 1 := rfl; omega
theorem own_ix (i : Int32) (h : 0 ≤ i.toInt ∧ i.toInt ≤ 8) : ¬ (i < (0 : Int32)) ∧ i < (10 : Int32) := by
  have z0 : (0 : Int32).toInt = 0 := rfl
  have z1 : (10 : Int32).toInt = 10 := rfl
  rw [own_ltI, own_ltI]; omega
theorem own_val (v : Int64) (s : Int32) : 0 ≤ (((v &&& (9223372036854775807 : Int64)).toUInt64 >>> ((s &&& (63 : Int32)) &&& 0x3f).toInt64.toUInt64).toInt64).toInt := by
  have h := c_maskL v 9223372036854775807 63 (by decide) (by decide)
  generalize v &&& 9223372036854775807 = x at *
  by_cases q : (s &&& 63).toBitVec.toNat % 64 = 0
  · have e : ((s &&& (63 : Int32)) &&& 0x3f).toInt64 = 0 := by
      have := (sm64 (s &&& 63) 0 q).1
      exact Int64.toBitVec_inj.mp this
    rw [e, show (0 : Int64).toUInt64 = 0 from rfl, UInt64.shiftRight_zero, Int64.toInt64_toUInt64]
    omega
  · have := c_lushr x (s &&& 63) _ rfl (by omega)
    rw [this]
    have h1 : 0 ≤ x.toInt % 18446744073709551616 := by omega
    exact Int.ediv_nonneg h1 (by exact Int.natCast_nonneg _)
theorem d1_0 : decode prog_37_method_2_code 0 = .ok (.lload_n 0, 1) := by decide +kernel
theorem d1_1 : decode prog_37_method_2_code 1 = .ok (.lstore_n 3, 1) := by decide +kernel
theorem d1_2 : decode prog_37_method_2_code 2 = .ok (.iconst 0, 1) := by decide +kernel
theorem d1_3 : decode prog_37_method_2_code 3 = .ok (.istore 5, 2) := by decide +kernel
theorem d1_5 : decode prog_37_method_2_code 5 = .ok (.lload_n 3, 1) := by decide +kernel
theorem d1_6 : decode prog_37_method_2_code 6 = .ok (.ldc2_w 7, 3) := by decide +kernel
theorem d1_9 : decode prog_37_method_2_code 9 = .ok (.land, 1) := by decide +kernel
theorem d1_10 : decode prog_37_method_2_code 10 = .ok (.lconst 0, 1) := by decide +kernel
theorem d1_11 : decode prog_37_method_2_code 11 = .ok (.lcmp, 1) := by decide +kernel
theorem d1_12 : decode prog_37_method_2_code 12 = .ok (.ifCond .eq 29, 3) := by decide +kernel
theorem d1_15 : decode prog_37_method_2_code 15 = .ok (.aload_n 2, 1) := by decide +kernel
theorem d1_16 : decode prog_37_method_2_code 16 = .ok (.iload 5, 2) := by decide +kernel
theorem d1_18 : decode prog_37_method_2_code 18 = .ok (.iinc 5 1, 3) := by decide +kernel
theorem d1_21 : decode prog_37_method_2_code 21 = .ok (.lload_n 3, 1) := by decide +kernel
theorem d1_22 : decode prog_37_method_2_code 22 = .ok (.ldc2_w 9, 3) := by decide +kernel
theorem d1_25 : decode prog_37_method_2_code 25 = .ok (.land, 1) := by decide +kernel
theorem d1_26 : decode prog_37_method_2_code 26 = .ok (.ldc2_w 11, 3) := by decide +kernel
theorem d1_29 : decode prog_37_method_2_code 29 = .ok (.lor, 1) := by decide +kernel
theorem d1_30 : decode prog_37_method_2_code 30 = .ok (.l2i, 1) := by decide +kernel
theorem d1_31 : decode prog_37_method_2_code 31 = .ok (.i2b, 1) := by decide +kernel
theorem d1_32 : decode prog_37_method_2_code 32 = .ok (.bastore, 1) := by decide +kernel
theorem d1_33 : decode prog_37_method_2_code 33 = .ok (.lload_n 3, 1) := by decide +kernel
theorem d1_34 : decode prog_37_method_2_code 34 = .ok (.bipush 7, 2) := by decide +kernel
theorem d1_36 : decode prog_37_method_2_code 36 = .ok (.lushr, 1) := by decide +kernel
theorem d1_37 : decode prog_37_method_2_code 37 = .ok (.lstore_n 3, 1) := by decide +kernel
theorem d1_38 : decode prog_37_method_2_code 38 = .ok (.goto (-33), 3) := by decide +kernel
theorem d1_41 : decode prog_37_method_2_code 41 = .ok (.aload_n 2, 1) := by decide +kernel
theorem d1_42 : decode prog_37_method_2_code 42 = .ok (.iload 5, 2) := by decide +kernel
theorem d1_44 : decode prog_37_method_2_code 44 = .ok (.iinc 5 1, 3) := by decide +kernel
theorem d1_47 : decode prog_37_method_2_code 47 = .ok (.lload_n 3, 1) := by decide +kernel
theorem d1_48 : decode prog_37_method_2_code 48 = .ok (.l2i, 1) := by decide +kernel
theorem d1_49 : decode prog_37_method_2_code 49 = .ok (.i2b, 1) := by decide +kernel
theorem d1_50 : decode prog_37_method_2_code 50 = .ok (.bastore, 1) := by decide +kernel
theorem d1_51 : decode prog_37_method_2_code 51 = .ok (.iload 5, 2) := by decide +kernel
theorem d1_53 : decode prog_37_method_2_code 53 = .ok (.ireturn, 1) := by decide +kernel
theorem pn_1 : plainName "com/example/search_suggest/searchsuggest/engine/Varint" = true := by first | (simp [plainName, overriddenIn]; done) | decide +kernel
def R1 : Room := { frames := 0, cells := 0, slots := 0, locals := 0 }
def Q1 (Z : State) (o2 : Addr) (o2_k : ClassId) (h0 : Heap) (n0 : Nat) (r : Int32 × List Int32) (v : Option Value) (h : Heap) (L : List Loc) : Prop := v = some (.int r.1) ∧ Fr n0 L ∧ Keep h0 h [o2] ∧ Arv Z h o2 o2_k .byte (10 : Int32) ((r.2).map Value.int) (.int 0) ∧ (r.2).length = (10 : Int32).toNatClampNeg
def f1_5 : Nat → Int64 → Int64 → Int32 → List Int32 → Int32 × List Int32
  | 0, _, _, _, _ => ((0 : Int32), [])
  | k + 1, v0, v3, v5, o2_xs => (if (v3 &&& (-128 : Int64)) = (0 : Int64) then ((v5 + (1 : Int32)), (o2_xs.set (v5).toNatClampNeg (((v3.toInt32).toInt8.toInt32).toInt8.toInt32))) else (f1_5 k v0 ((v3.toUInt64 >>> ((7 : Int32) &&& 0x3f).toInt64.toUInt64).toInt64) (v5 + (1 : Int32)) (o2_xs.set (v5).toNatClampNeg (((((v3 &&& (127 : Int64)) ||| (128 : Int64)).toInt32).toInt8.toInt32).toInt8.toInt32))))
set_option maxRecDepth 65536 in
set_option maxHeartbeats 40000000 in
theorem b1_5 {p : Program} {l : Launch} {e : Env} {s : State} {m : MethodId} {args : Array Value} {below : List Frame} {meth : Method} {c : Code} {Z : State} {a0 : Array Value} (B : Ctx p Z s a0 m meth c "com/example/search_suggest/searchsuggest/engine/Varint" "encode" prog_37_method_2_code 6 (some .int)) (h0 : Heap) (n0 : Nat)  : ∀ (k : Nat) {T0 : State} {locs : List Loc} {h : Heap} (v0 : Int64) (o2 : Addr) (v3 : Int64) (v5 : Int32) (o2_k : ClassId) (o2_xs : List Int32) (X0 : Stand p l e R1 s m args below meth c T0 locs 0 0) (e0 : T0.heap = h) (N0 : Fr n0 locs) (Z0 : n0 ≤ h.size) (K : Keep h0 h [o2]) (V_o2 : Arv Z h o2 o2_k .byte (10 : Int32) (o2_xs.map Value.int) (.int 0)) (ln_o2 : o2_xs.length = (10 : Int32).toNatClampNeg) (g_o2 : n0 ≤ o2) (hj : 0 ≤ v3.toInt ∧ ((v5.toInt = 0 ∧ v3.toInt < 9223372036854775808) ∨ (v5.toInt = 1 ∧ v3.toInt < 72057594037927936) ∨ (v5.toInt = 2 ∧ v3.toInt < 562949953421312) ∨ (v5.toInt = 3 ∧ v3.toInt < 4398046511104) ∨ (v5.toInt = 4 ∧ v3.toInt < 34359738368) ∨ (v5.toInt = 5 ∧ v3.toInt < 268435456) ∨ (v5.toInt = 6 ∧ v3.toInt < 2097152) ∨ (v5.toInt = 7 ∧ v3.toInt < 16384) ∨ (v5.toInt = 8 ∧ v3.toInt < 128))) (hmu : (8 - v5.toInt).toNat < k) (r : Int32 × List Int32) (hr : f1_5 k v0 v3 v5 o2_xs = r),
    Fin p e below s R1.cells R1.slots (Q1 Z o2 o2_k h0 n0 r) (T0.setTop (mkF m 5 #[.val (.long v0), .second, .val (.ref o2), .val (.long v3), .second, .val (.int v5)] [])) := by
  obtain ⟨hx, hZ, hw, hby, hml, hret, hown, hnm, hlk⟩ := B
  intro k
  induction k with
  | zero => intro T0 locs h v0 o2 v3 v5 o2_k o2_xs X0 e0 N0 Z0 K V_o2 ln_o2 g_o2 hj hmu r hr; exact absurd hmu (Nat.not_lt_zero _)
  | succ k ih =>
    intro T0 locs h v0 o2 v3 v5 o2_k o2_xs X0 e0 N0 Z0 K V_o2 ln_o2 g_o2 hj hmu r hr
    unfold f1_5 at hr
    refine Fin.by (B := T0.setTop (mkF m 12 #[.val (.long v0), .second, .val (.ref o2), .val (.long v3), .second, .val (.int v5)] [(.int (lcmpW (v3 &&& (-128 : Int64)) (0 : Int64)))])) (fun t k => ?_) ?_
    · show Steps p.tables e below (T0.setTop (mkF m 5 #[.val (.long v0), .second, .val (.ref o2), .val (.long v3), .second, .val (.int v5)] [])) _
      refine XS.lloadN X0.here hx rfl (hb hby d1_5) rfl  ?_
      show Steps p.tables e below (T0.setTop (mkF m 6 #[.val (.long v0), .second, .val (.ref o2), .val (.long v3), .second, .val (.int v5)] [(.long v3)])) _
      refine X0.ldc2Long hx hown (mvT hZ (hw _ (List.mem_of_getElem? (i := 14) rfl))) (g := (mkF m 6 #[.val (.long v0), .second, .val (.ref o2), .val (.long v3), .second, .val (.int v5)] [(.long v3)])) rfl (hb hby d1_6) _ ?_
      show Steps p.tables e below (T0.setTop (mkF m 9 #[.val (.long v0), .second, .val (.ref o2), .val (.long v3), .second, .val (.int v5)] [(.long (-128 : Int64)), (.long v3)])) _
      refine XS.land X0.here hx rfl (hb hby d1_9) rfl ?_
      show Steps p.tables e below (T0.setTop (mkF m 10 #[.val (.long v0), .second, .val (.ref o2), .val (.long v3), .second, .val (.int v5)] [(.long (v3 &&& (-128 : Int64)))])) _
      refine XS.lconst X0.here hx rfl (hb hby d1_10) ?_
      show Steps p.tables e below (T0.setTop (mkF m 11 #[.val (.long v0), .second, .val (.ref o2), .val (.long v3), .second, .val (.int v5)] [(.long (0 : Int64)), (.long (v3 &&& (-128 : Int64)))])) _
      refine XS.lcmp X0.here hx rfl (hb hby d1_11) rfl ?_
      exact k
    by_cases hc12 : (v3 &&& (-128 : Int64)) = (0 : Int64)
    · rw [if_pos hc12] at hr
      refine Fin.by (B := T0.setTop (mkF m 41 #[.val (.long v0), .second, .val (.ref o2), .val (.long v3), .second, .val (.int v5)] [])) (fun t k => ?_) ?_
      · show Steps p.tables e below (T0.setTop (mkF m 12 #[.val (.long v0), .second, .val (.ref o2), .val (.long v3), .second, .val (.int v5)] [(.int (lcmpW (v3 &&& (-128 : Int64)) (0 : Int64)))])) _
        exact XS.ifYes X0.here hx rfl (pc0 := 12) (pc' := 41) rfl (hb hby d1_12) rfl ((if0 _ _).trans (teq ((lw_eq _ _).mpr hc12)).1) (by decide) (by decide) k
      refine Fin.by (B := T0.setTop (mkF m 50 #[.val (.long v0), .second, .val (.ref o2), .val (.long v3), .second, .val (.int (v5 + (1 : Int32)))] [(.int ((v3.toInt32).toInt8.toInt32)), (.int v5), (.ref o2)])) (fun t k => ?_) ?_
      · show Steps p.tables e below (T0.setTop (mkF m 41 #[.val (.long v0), .second, .val (.ref o2), .val (.long v3), .second, .val (.int v5)] [])) _
        refine XS.aloadN X0.here hx rfl (hb hby d1_41) rfl rfl ?_
        show Steps p.tables e below (T0.setTop (mkF m 42 #[.val (.long v0), .second, .val (.ref o2), .val (.long v3), .second, .val (.int v5)] [(.ref o2)])) _
        refine XS.iload X0.here hx rfl (hb hby d1_42) rfl  ?_
        show Steps p.tables e below (T0.setTop (mkF m 44 #[.val (.long v0), .second, .val (.ref o2), .val (.long v3), .second, .val (.int v5)] [(.int v5), (.ref o2)])) _
        refine XS.iinc X0.here hx rfl (hb hby d1_44) rfl (l' := #[.val (.long v0), .second, .val (.ref o2), .val (.long v3), .second, .val (.int (v5 + (1 : Int32)))]) rfl ?_
        show Steps p.tables e below (T0.setTop (mkF m 47 #[.val (.long v0), .second, .val (.ref o2), .val (.long v3), .second, .val (.int (v5 + (1 : Int32)))] [(.int v5), (.ref o2)])) _
        refine XS.lloadN X0.here hx rfl (hb hby d1_47) rfl  ?_
        show Steps p.tables e below (T0.setTop (mkF m 48 #[.val (.long v0), .second, .val (.ref o2), .val (.long v3), .second, .val (.int (v5 + (1 : Int32)))] [(.long v3), (.int v5), (.ref o2)])) _
        refine XS.l2i X0.here hx rfl (hb hby d1_48) rfl ?_
        show Steps p.tables e below (T0.setTop (mkF m 49 #[.val (.long v0), .second, .val (.ref o2), .val (.long v3), .second, .val (.int (v5 + (1 : Int32)))] [(.int (v3.toInt32)), (.int v5), (.ref o2)])) _
        refine XS.i2b X0.here hx rfl (hb hby d1_49) rfl ?_
        exact k
      have hin1 : ¬ (v5 < 0) ∧ v5 < (10 : Int32) := own_ix v5 (by omega)
      obtain ⟨cl1, Ar1, hi1, q1⟩ := own_open V_o2 hin1
      obtain ⟨T1, h1, X1, e1, W1, st1⟩ := stB X0 hx hZ e0 Ar1 (j := v5) hi1 (g := (mkF m 50 #[.val (.long v0), .second, .val (.ref o2), .val (.long v3), .second, .val (.int (v5 + (1 : Int32)))] [(.int ((v3.toInt32).toInt8.toInt32)), (.int v5), (.ref o2)])) rfl rfl (hb hby d1_50)
      obtain ⟨V_o2_1, ln_o2_1⟩ : Arv Z h1 o2 o2_k .byte (10 : Int32) ((o2_xs.set (v5).toNatClampNeg (((v3.toInt32).toInt8.toInt32).toInt8.toInt32)).map Value.int) (.int 0) ∧ (o2_xs.set (v5).toNatClampNeg (((v3.toInt32).toInt8.toInt32).toInt8.toInt32)).length = (10 : Int32).toNatClampNeg := own_setI V_o2 ln_o2 hin1 W1 (fits_nar_byte _) (v5).toNatClampNeg rfl
      have N1 := Fr.snoc X1 N0 g_o2
      have Z1 : n0 ≤ h1.size := Nat.le_trans Z0 (Nat.le_of_eq W1.size.symm)
      have K1 := K.wr W1 (Or.inl (by simp))
      refine Fin.by (B := T1.setTop (mkF m 51 #[.val (.long v0), .second, .val (.ref o2), .val (.long v3), .second, .val (.int (v5 + (1 : Int32)))] [])) (fun t k => st1 t k) ?_
      refine Fin.by (B := T1.setTop (mkF m 53 #[.val (.long v0), .second, .val (.ref o2), .val (.long v3), .second, .val (.int (v5 + (1 : Int32)))] [(.int (v5 + (1 : Int32)))])) (fun t k => ?_) ?_
      · show Steps p.tables e below (T1.setTop (mkF m 51 #[.val (.long v0), .second, .val (.ref o2), .val (.long v3), .second, .val (.int (v5 + (1 : Int32)))] [])) _
        refine XS.iload X1.here hx rfl (hb hby d1_51) rfl  ?_
        exact k
      subst hr
      exact own_retI X1 hx hlk hret (hb hby d1_53) (by decide) (by decide) ⟨rfl, N1, (by rw [e1]; exact K1), (by rw [e1]; exact V_o2_1), ln_o2_1⟩
    · rw [if_neg hc12] at hr
      refine Fin.by (B := T0.setTop (mkF m 15 #[.val (.long v0), .second, .val (.ref o2), .val (.long v3), .second, .val (.int v5)] [])) (fun t k => ?_) ?_
      · show Steps p.tables e below (T0.setTop (mkF m 12 #[.val (.long v0), .second, .val (.ref o2), .val (.long v3), .second, .val (.int v5)] [(.int (lcmpW (v3 &&& (-128 : Int64)) (0 : Int64)))])) _
        exact XS.ifNo X0.here hx rfl (hb hby d1_12) rfl ((if0 _ _).trans (feq (fun q => hc12 ((lw_eq _ _).mp q))).1) k
      refine Fin.by (B := T0.setTop (mkF m 32 #[.val (.long v0), .second, .val (.ref o2), .val (.long v3), .second, .val (.int (v5 + (1 : Int32)))] [(.int ((((v3 &&& (127 : Int64)) ||| (128 : Int64)).toInt32).toInt8.toInt32)), (.int v5), (.ref o2)])) (fun t k => ?_) ?_
      · show Steps p.tables e below (T0.setTop (mkF m 15 #[.val (.long v0), .second, .val (.ref o2), .val (.long v3), .second, .val (.int v5)] [])) _
        refine XS.aloadN X0.here hx rfl (hb hby d1_15) rfl rfl ?_
        show Steps p.tables e below (T0.setTop (mkF m 16 #[.val (.long v0), .second, .val (.ref o2), .val (.long v3), .second, .val (.int v5)] [(.ref o2)])) _
        refine XS.iload X0.here hx rfl (hb hby d1_16) rfl  ?_
        show Steps p.tables e below (T0.setTop (mkF m 18 #[.val (.long v0), .second, .val (.ref o2), .val (.long v3), .second, .val (.int v5)] [(.int v5), (.ref o2)])) _
        refine XS.iinc X0.here hx rfl (hb hby d1_18) rfl (l' := #[.val (.long v0), .second, .val (.ref o2), .val (.long v3), .second, .val (.int (v5 + (1 : Int32)))]) rfl ?_
        show Steps p.tables e below (T0.setTop (mkF m 21 #[.val (.long v0), .second, .val (.ref o2), .val (.long v3), .second, .val (.int (v5 + (1 : Int32)))] [(.int v5), (.ref o2)])) _
        refine XS.lloadN X0.here hx rfl (hb hby d1_21) rfl  ?_
        show Steps p.tables e below (T0.setTop (mkF m 22 #[.val (.long v0), .second, .val (.ref o2), .val (.long v3), .second, .val (.int (v5 + (1 : Int32)))] [(.long v3), (.int v5), (.ref o2)])) _
        refine X0.ldc2Long hx hown (mvT hZ (hw _ (List.mem_of_getElem? (i := 20) rfl))) (g := (mkF m 22 #[.val (.long v0), .second, .val (.ref o2), .val (.long v3), .second, .val (.int (v5 + (1 : Int32)))] [(.long v3), (.int v5), (.ref o2)])) rfl (hb hby d1_22) _ ?_
        show Steps p.tables e below (T0.setTop (mkF m 25 #[.val (.long v0), .second, .val (.ref o2), .val (.long v3), .second, .val (.int (v5 + (1 : Int32)))] [(.long (127 : Int64)), (.long v3), (.int v5), (.ref o2)])) _
        refine XS.land X0.here hx rfl (hb hby d1_25) rfl ?_
        show Steps p.tables e below (T0.setTop (mkF m 26 #[.val (.long v0), .second, .val (.ref o2), .val (.long v3), .second, .val (.int (v5 + (1 : Int32)))] [(.long (v3 &&& (127 : Int64))), (.int v5), (.ref o2)])) _
        refine X0.ldc2Long hx hown (mvT hZ (hw _ (List.mem_of_getElem? (i := 21) rfl))) (g := (mkF m 26 #[.val (.long v0), .second, .val (.ref o2), .val (.long v3), .second, .val (.int (v5 + (1 : Int32)))] [(.long (v3 &&& (127 : Int64))), (.int v5), (.ref o2)])) rfl (hb hby d1_26) _ ?_
        show Steps p.tables e below (T0.setTop (mkF m 29 #[.val (.long v0), .second, .val (.ref o2), .val (.long v3), .second, .val (.int (v5 + (1 : Int32)))] [(.long (128 : Int64)), (.long (v3 &&& (127 : Int64))), (.int v5), (.ref o2)])) _
        refine XS.lor X0.here hx rfl (hb hby d1_29) rfl ?_
        show Steps p.tables e below (T0.setTop (mkF m 30 #[.val (.long v0), .second, .val (.ref o2), .val (.long v3), .second, .val (.int (v5 + (1 : Int32)))] [(.long ((v3 &&& (127 : Int64)) ||| (128 : Int64))), (.int v5), (.ref o2)])) _
        refine XS.l2i X0.here hx rfl (hb hby d1_30) rfl ?_
        show Steps p.tables e below (T0.setTop (mkF m 31 #[.val (.long v0), .second, .val (.ref o2), .val (.long v3), .second, .val (.int (v5 + (1 : Int32)))] [(.int (((v3 &&& (127 : Int64)) ||| (128 : Int64)).toInt32)), (.int v5), (.ref o2)])) _
        refine XS.i2b X0.here hx rfl (hb hby d1_31) rfl ?_
        exact k
      have hin2 : ¬ (v5 < 0) ∧ v5 < (10 : Int32) := own_ix v5 (by omega)
      obtain ⟨cl2, Ar2, hi2, q2⟩ := own_open V_o2 hin2
      obtain ⟨T2, h2, X2, e2, W2, st2⟩ := stB X0 hx hZ e0 Ar2 (j := v5) hi2 (g := (mkF m 32 #[.val (.long v0), .second, .val (.ref o2), .val (.long v3), .second, .val (.int (v5 + (1 : Int32)))] [(.int ((((v3 &&& (127 : Int64)) ||| (128 : Int64)).toInt32).toInt8.toInt32)), (.int v5), (.ref o2)])) rfl rfl (hb hby d1_32)
      obtain ⟨V_o2_2, ln_o2_2⟩ : Arv Z h2 o2 o2_k .byte (10 : Int32) ((o2_xs.set (v5).toNatClampNeg (((((v3 &&& (127 : Int64)) ||| (128 : Int64)).toInt32).toInt8.toInt32).toInt8.toInt32)).map Value.int) (.int 0) ∧ (o2_xs.set (v5).toNatClampNeg (((((v3 &&& (127 : Int64)) ||| (128 : Int64)).toInt32).toInt8.toInt32).toInt8.toInt32)).length = (10 : Int32).toNatClampNeg := own_setI V_o2 ln_o2 hin2 W2 (fits_nar_byte _) (v5).toNatClampNeg rfl
      have N2 := Fr.snoc X2 N0 g_o2
      have Z2 : n0 ≤ h2.size := Nat.le_trans Z0 (Nat.le_of_eq W2.size.symm)
      have K2 := K.wr W2 (Or.inl (by simp))
      refine Fin.by (B := T2.setTop (mkF m 33 #[.val (.long v0), .second, .val (.ref o2), .val (.long v3), .second, .val (.int (v5 + (1 : Int32)))] [])) (fun t k => st2 t k) ?_
      refine Fin.by (B := T2.setTop (mkF m 5 #[.val (.long v0), .second, .val (.ref o2), .val (.long ((v3.toUInt64 >>> ((7 : Int32) &&& 0x3f).toInt64.toUInt64).toInt64)), .second, .val (.int (v5 + (1 : Int32)))] [])) (fun t k => ?_) ?_
      · show Steps p.tables e below (T2.setTop (mkF m 33 #[.val (.long v0), .second, .val (.ref o2), .val (.long v3), .second, .val (.int (v5 + (1 : Int32)))] [])) _
        refine XS.lloadN X2.here hx rfl (hb hby d1_33) rfl  ?_
        show Steps p.tables e below (T2.setTop (mkF m 34 #[.val (.long v0), .second, .val (.ref o2), .val (.long v3), .second, .val (.int (v5 + (1 : Int32)))] [(.long v3)])) _
        refine XS.bipush X2.here hx rfl (hb hby d1_34) ?_
        show Steps p.tables e below (T2.setTop (mkF m 36 #[.val (.long v0), .second, .val (.ref o2), .val (.long v3), .second, .val (.int (v5 + (1 : Int32)))] [(.int (7 : Int32)), (.long v3)])) _
        refine XS.lushr X2.here hx rfl (hb hby d1_36) rfl ?_
        show Steps p.tables e below (T2.setTop (mkF m 37 #[.val (.long v0), .second, .val (.ref o2), .val (.long v3), .second, .val (.int (v5 + (1 : Int32)))] [(.long ((v3.toUInt64 >>> ((7 : Int32) &&& 0x3f).toInt64.toUInt64).toInt64))])) _
        refine XS.lstoreN X2.here hx rfl (hb hby d1_37) rfl (l' := #[.val (.long v0), .second, .val (.ref o2), .val (.long ((v3.toUInt64 >>> ((7 : Int32) &&& 0x3f).toInt64.toUInt64).toInt64)), .second, .val (.int (v5 + (1 : Int32)))]) rfl ?_
        show Steps p.tables e below (T2.setTop (mkF m 38 #[.val (.long v0), .second, .val (.ref o2), .val (.long ((v3.toUInt64 >>> ((7 : Int32) &&& 0x3f).toInt64.toUInt64).toInt64)), .second, .val (.int (v5 + (1 : Int32)))] [])) _
        refine XS.goto X2.here hx rfl (pc0 := 38) (pc' := 5) rfl (hb hby d1_38) (by decide) (by decide) ?_
        exact k
      have hj_j : 0 ≤ ((v3.toUInt64 >>> ((7 : Int32) &&& 0x3f).toInt64.toUInt64).toInt64).toInt ∧ (((v5 + (1 : Int32)).toInt = 0 ∧ ((v3.toUInt64 >>> ((7 : Int32) &&& 0x3f).toInt64.toUInt64).toInt64).toInt < 9223372036854775808) ∨ ((v5 + (1 : Int32)).toInt = 1 ∧ ((v3.toUInt64 >>> ((7 : Int32) &&& 0x3f).toInt64.toUInt64).toInt64).toInt < 72057594037927936) ∨ ((v5 + (1 : Int32)).toInt = 2 ∧ ((v3.toUInt64 >>> ((7 : Int32) &&& 0x3f).toInt64.toUInt64).toInt64).toInt < 562949953421312) ∨ ((v5 + (1 : Int32)).toInt = 3 ∧ ((v3.toUInt64 >>> ((7 : Int32) &&& 0x3f).toInt64.toUInt64).toInt64).toInt < 4398046511104) ∨ ((v5 + (1 : Int32)).toInt = 4 ∧ ((v3.toUInt64 >>> ((7 : Int32) &&& 0x3f).toInt64.toUInt64).toInt64).toInt < 34359738368) ∨ ((v5 + (1 : Int32)).toInt = 5 ∧ ((v3.toUInt64 >>> ((7 : Int32) &&& 0x3f).toInt64.toUInt64).toInt64).toInt < 268435456) ∨ ((v5 + (1 : Int32)).toInt = 6 ∧ ((v3.toUInt64 >>> ((7 : Int32) &&& 0x3f).toInt64.toUInt64).toInt64).toInt < 2097152) ∨ ((v5 + (1 : Int32)).toInt = 7 ∧ ((v3.toUInt64 >>> ((7 : Int32) &&& 0x3f).toInt64.toUInt64).toInt64).toInt < 16384) ∨ ((v5 + (1 : Int32)).toInt = 8 ∧ ((v3.toUInt64 >>> ((7 : Int32) &&& 0x3f).toInt64.toUInt64).toInt64).toInt < 128)) := by first | (have r := rng64 v0; have z : (0 : Int32).toInt = 0 := rfl; omega) | (have q := own_hn v3 hj.1 hc12; have w := own_sh v3; have y := own_i1 v5 (by omega); omega)
      have hmu_j : (8 - (v5 + (1 : Int32)).toInt).toNat < k := by have q := own_hn v3 hj.1 hc12; have y := own_i1 v5 (by omega); omega
      exact ih v0 o2 ((v3.toUInt64 >>> ((7 : Int32) &&& 0x3f).toInt64.toUInt64).toInt64) (v5 + (1 : Int32)) o2_k (o2_xs.set (v5).toNatClampNeg (((((v3 &&& (127 : Int64)) ||| (128 : Int64)).toInt32).toInt8.toInt32).toInt8.toInt32)) X2 e2 N2 Z2 K2 V_o2_2 ln_o2_2 g_o2 hj_j hmu_j _ hr
def f1_0 (v0 : Int64) (o2_xs : List Int32) : Int32 × List Int32 := (f1_5 9 v0 v0 (0 : Int32) o2_xs)
set_option maxRecDepth 65536 in
set_option maxHeartbeats 40000000 in
theorem b1_0 {p : Program} {l : Launch} {e : Env} {s : State} {m : MethodId} {args : Array Value} {below : List Frame} {meth : Method} {c : Code} {Z : State} {a0 : Array Value} (B : Ctx p Z s a0 m meth c "com/example/search_suggest/searchsuggest/engine/Varint" "encode" prog_37_method_2_code 6 (some .int)) {T0 : State} {locs : List Loc} {h : Heap} (h0 : Heap) (n0 : Nat) (v0 : Int64) (o2 : Addr) (o2_k : ClassId) (o2_xs : List Int32) (X0 : Stand p l e R1 s m args below meth c T0 locs 0 0) (e0 : T0.heap = h) (N0 : Fr n0 locs) (Z0 : n0 ≤ h.size) (K : Keep h0 h [o2]) (V_o2 : Arv Z h o2 o2_k .byte (10 : Int32) (o2_xs.map Value.int) (.int 0)) (ln_o2 : o2_xs.length = (10 : Int32).toNatClampNeg) (g_o2 : n0 ≤ o2) (hv : 0 ≤ v0.toInt) (r : Int32 × List Int32) (hr : f1_0 v0 o2_xs = r) :
    Fin p e below s R1.cells R1.slots (Q1 Z o2 o2_k h0 n0 r) (T0.setTop (mkF m 0 #[.val (.long v0), .second, .val (.ref o2), .unset, .unset, .unset] [])) := by
  obtain ⟨hx, hZ, hw, hby, hml, hret, hown, hnm, hlk⟩ := B
  unfold f1_0 at hr
  refine Fin.by (B := T0.setTop (mkF m 5 #[.val (.long v0), .second, .val (.ref o2), .val (.long v0), .second, .val (.int (0 : Int32))] [])) (fun t k => ?_) ?_
  · show Steps p.tables e below (T0.setTop (mkF m 0 #[.val (.long v0), .second, .val (.ref o2), .unset, .unset, .unset] [])) _
    refine XS.lloadN X0.here hx rfl (hb hby d1_0) rfl  ?_
    show Steps p.tables e below (T0.setTop (mkF m 1 #[.val (.long v0), .second, .val (.ref o2), .unset, .unset, .unset] [(.long v0)])) _
    refine XS.lstoreN X0.here hx rfl (hb hby d1_1) rfl (l' := #[.val (.long v0), .second, .val (.ref o2), .val (.long v0), .second, .unset]) rfl ?_
    show Steps p.tables e below (T0.setTop (mkF m 2 #[.val (.long v0), .second, .val (.ref o2), .val (.long v0), .second, .unset] [])) _
    refine XS.iconst X0.here hx rfl (hb hby d1_2) ?_
    show Steps p.tables e below (T0.setTop (mkF m 3 #[.val (.long v0), .second, .val (.ref o2), .val (.long v0), .second, .unset] [(.int (0 : Int32))])) _
    refine XS.istore X0.here hx rfl (hb hby d1_3) rfl (l' := #[.val (.long v0), .second, .val (.ref o2), .val (.long v0), .second, .val (.int (0 : Int32))]) rfl ?_
    exact k
  have hj_j : 0 ≤ v0.toInt ∧ (((0 : Int32).toInt = 0 ∧ v0.toInt < 9223372036854775808) ∨ ((0 : Int32).toInt = 1 ∧ v0.toInt < 72057594037927936) ∨ ((0 : Int32).toInt = 2 ∧ v0.toInt < 562949953421312) ∨ ((0 : Int32).toInt = 3 ∧ v0.toInt < 4398046511104) ∨ ((0 : Int32).toInt = 4 ∧ v0.toInt < 34359738368) ∨ ((0 : Int32).toInt = 5 ∧ v0.toInt < 268435456) ∨ ((0 : Int32).toInt = 6 ∧ v0.toInt < 2097152) ∨ ((0 : Int32).toInt = 7 ∧ v0.toInt < 16384) ∨ ((0 : Int32).toInt = 8 ∧ v0.toInt < 128)) := by first | (have r := rng64 v0; have z : (0 : Int32).toInt = 0 := rfl; omega) | (have q := own_hn v3 hj.1 hc12; have w := own_sh v3; have y := own_i1 v5 (by omega); omega)
  have hmu_j : (8 - (0 : Int32).toInt).toNat < 9 := by decide
  exact b1_5 ⟨hx, hZ, hw, hby, hml, hret, hown, hnm, hlk⟩ h0 n0  9 v0 o2 v0 (0 : Int32) o2_k o2_xs X0 e0 N0 Z0 K V_o2 ln_o2 g_o2 hj_j hmu_j _ hr
theorem ef_1 (m : MethodId) (v0 : Int64) (o2 : Addr) : entryFrame m #[(.long v0), (.ref o2)] 6 = (mkF m 0 #[.val (.long v0), .second, .val (.ref o2), .unset, .unset, .unset] []) := by first | (simp [entryFrame, mkF, argsToLocals, Value.category]; done) | rfl
set_option maxRecDepth 65536 in
set_option maxHeartbeats 40000000 in
theorem rm1 (l : Launch) (Z : State) (a0 : Array Value) (hw : ∀ d ∈ tables_1, d.before a0 Z = true) (ws : List Jvm.Cond) (v0 : Int64) (o2 : Addr) (o2_k : ClassId) (o2_xs : List Int32) (h0 : Heap) (n0 : Nat) (Z0 : n0 ≤ h0.size) (V_o2 : Arv Z h0 o2 o2_k .byte (10 : Int32) (o2_xs.map Value.int) (.int 0)) (ln_o2 : o2_xs.length = (10 : Int32).toNatClampNeg) (g_o2 : n0 ≤ o2) (hv : 0 ≤ v0.toInt) :
    MetFree l (⟨"com/example/search_suggest/searchsuggest/engine/Varint", "encode", "(J[B)I"⟩ : MethodName) (head1 (Jvm.Cond.code (⟨"com/example/search_suggest/searchsuggest/engine/Varint", "encode", "(J[B)I"⟩ : MethodName) prog_37_method_2_code 6 (some .int) :: ws) R1) (fun a U => a = #[(.long v0), (.ref o2)] ∧ Z.Warmed39 U.vm ∧ U.heap = h0) (fun _ _ _ _ _ => True) (fun _ U o U' => ∃ v L, o = .returned v ∧ (Q1 Z o2 o2_k h0 n0 (f1_0 v0 o2_xs)) v U'.heap L ∧ FrameEnd U o U' L R1.cells R1.slots) := by
  refine MetFree.of_bodySF (plainFor_of_name pn_1) hisR ?_
  intro p e s m args below meth c s₁ Bd hml0 hP hK
  obtain ⟨rfl, hZ, hh⟩ := hP
  have B : Ctx p Z s a0 m meth c "com/example/search_suggest/searchsuggest/engine/Varint" "encode" prog_37_method_2_code 6 (some .int) := ⟨Bd.exec, hZ, hw, Bd.bytes, hml0, Bd.returns, findClass_of_methodNamed Bd.named, (name_of_methodNamed Bd.named Bd.method).1, Bd.notSynchronized⟩
  have X0 : Stand p l e R1 s m #[(.long v0), (.ref o2)] below meth c s₁ [] 0 0 := Stand.of_body Bd
  have e0 : s₁.heap = h0 := by rw [← hh, Bd.state]; rfl
  have K := Keep.refl h0 [o2]
  show Fin p e below s R1.cells R1.slots (Q1 Z o2 o2_k h0 n0 (f1_0 v0 o2_xs)) (s₁.setTop (entryFrame m #[(.long v0), (.ref o2)] 6))
  refine Fin.by (fun t k => castTop (ef_1 m v0 o2) k) ?_
  exact b1_0 B h0 n0 v0 o2 o2_k o2_xs X0 e0 (Fr.nil n0) Z0 K V_o2 ln_o2 g_o2 hv _ rfl
theorem pd_0 : parseMethodDescriptor "(J[B)I" = some ⟨[.long, (.array .byte)], some .int⟩ := by decide +kernel
theorem d2_0 : decode method_3_code 0 = .ok (.iload_n 1, 1) := by decide +kernel
theorem d2_1 : decode method_3_code 1 = .ok (.iload 4, 2) := by decide +kernel
theorem d2_3 : decode method_3_code 3 = .ok (.if_icmp .lt 17, 3) := by decide +kernel
theorem d2_6 : decode method_3_code 6 = .ok (.aload_n 0, 1) := by decide +kernel
theorem d2_7 : decode method_3_code 7 = .ok (.iload_n 1, 1) := by decide +kernel
theorem d2_8 : decode method_3_code 8 = .ok (.baload, 1) := by decide +kernel
theorem d2_9 : decode method_3_code 9 = .ok (.iload 5, 2) := by decide +kernel
theorem d2_11 : decode method_3_code 11 = .ok (.if_icmp .ne 7, 3) := by decide +kernel
theorem d2_14 : decode method_3_code 14 = .ok (.iconst 1, 1) := by decide +kernel
theorem d2_15 : decode method_3_code 15 = .ok (.goto 4, 3) := by decide +kernel
theorem d2_18 : decode method_3_code 18 = .ok (.iconst 0, 1) := by decide +kernel
theorem d2_19 : decode method_3_code 19 = .ok (.ireturn, 1) := by decide +kernel
theorem d2_20 : decode method_3_code 20 = .ok (.lload_n 2, 1) := by decide +kernel
theorem d2_21 : decode method_3_code 21 = .ok (.bipush 7, 2) := by decide +kernel
theorem d2_23 : decode method_3_code 23 = .ok (.iload_n 1, 1) := by decide +kernel
theorem d2_24 : decode method_3_code 24 = .ok (.imul, 1) := by decide +kernel
theorem d2_25 : decode method_3_code 25 = .ok (.lushr, 1) := by decide +kernel
theorem d2_26 : decode method_3_code 26 = .ok (.ldc2_w 39, 3) := by decide +kernel
theorem d2_29 : decode method_3_code 29 = .ok (.land, 1) := by decide +kernel
theorem d2_30 : decode method_3_code 30 = .ok (.l2i, 1) := by decide +kernel
theorem d2_31 : decode method_3_code 31 = .ok (.istore 6, 2) := by decide +kernel
theorem d2_33 : decode method_3_code 33 = .ok (.iload_n 1, 1) := by decide +kernel
theorem d2_34 : decode method_3_code 34 = .ok (.iload 4, 2) := by decide +kernel
theorem d2_36 : decode method_3_code 36 = .ok (.iconst 1, 1) := by decide +kernel
theorem d2_37 : decode method_3_code 37 = .ok (.isub, 1) := by decide +kernel
theorem d2_38 : decode method_3_code 38 = .ok (.if_icmp .ge 11, 3) := by decide +kernel
theorem d2_41 : decode method_3_code 41 = .ok (.iload 6, 2) := by decide +kernel
theorem d2_43 : decode method_3_code 43 = .ok (.sipush 128, 3) := by decide +kernel
theorem d2_46 : decode method_3_code 46 = .ok (.ior, 1) := by decide +kernel
theorem d2_47 : decode method_3_code 47 = .ok (.istore 6, 2) := by decide +kernel
theorem d2_49 : decode method_3_code 49 = .ok (.aload_n 0, 1) := by decide +kernel
theorem d2_50 : decode method_3_code 50 = .ok (.iload_n 1, 1) := by decide +kernel
theorem d2_51 : decode method_3_code 51 = .ok (.baload, 1) := by decide +kernel
theorem d2_52 : decode method_3_code 52 = .ok (.iload 6, 2) := by decide +kernel
theorem d2_54 : decode method_3_code 54 = .ok (.i2b, 1) := by decide +kernel
theorem d2_55 : decode method_3_code 55 = .ok (.if_icmp .ne 7, 3) := by decide +kernel
theorem d2_58 : decode method_3_code 58 = .ok (.iconst 1, 1) := by decide +kernel
theorem d2_59 : decode method_3_code 59 = .ok (.goto 4, 3) := by decide +kernel
theorem d2_62 : decode method_3_code 62 = .ok (.iconst 0, 1) := by decide +kernel
theorem d2_63 : decode method_3_code 63 = .ok (.ireturn, 1) := by decide +kernel
theorem pn_2 : plainName "com/example/search_suggest/searchsuggest/engine/VarintEncodePinLaw" = true := by first | (simp [plainName, overriddenIn]; done) | decide +kernel
def R2 : Room := { frames := 0, cells := 0, slots := 0, locals := 0 }
def Q2 (Z : State)  (h0 : Heap) (n0 : Nat) (r : Int32) (v : Option Value) (h : Heap) (L : List Loc) : Prop := v = some (.int r) ∧ Fr n0 L ∧ h = h0
def f2_49 (v1 : Int32) (v2 : Int64) (v4 : Int32) (v5 : Int32) (v6 : Int32) (o0_xs : List Int32) : Int32 := (if (own_at o0_xs v1) = (v6.toInt8.toInt32) then (1 : Int32) else (0 : Int32))
set_option maxRecDepth 65536 in
set_option maxHeartbeats 40000000 in
theorem b2_49 {p : Program} {l : Launch} {e : Env} {s : State} {m : MethodId} {args : Array Value} {below : List Frame} {meth : Method} {c : Code} {Z : State} {a0 : Array Value} (B : Ctx p Z s a0 m meth c "com/example/search_suggest/searchsuggest/engine/VarintEncodePinLaw" "byteOk" method_3_code 7 (some .boolean)) {T0 : State} {locs : List Loc} {h : Heap} (h0 : Heap) (n0 : Nat) (o0 : Addr) (v1 : Int32) (v2 : Int64) (v4 : Int32) (v5 : Int32) (v6 : Int32) (o0_k : ClassId) (o0_xs : List Int32) (X0 : Stand p l e R2 s m args below meth c T0 locs 0 0) (e0 : T0.heap = h) (N0 : Fr n0 locs) (Z0 : n0 ≤ h.size) (hh0 : h = h0) (V_o0 : Arv Z h o0 o0_k .byte (10 : Int32) (o0_xs.map Value.int) (.int 0)) (ln_o0 : o0_xs.length = (10 : Int32).toNatClampNeg) (hi : ¬ (v1 < (0 : Int32)) ∧ v1 < (10 : Int32)) (r : Int32) (hr : f2_49 v1 v2 v4 v5 v6 o0_xs = r) :
    Fin p e below s R2.cells R2.slots (Q2 Z  h0 n0 r) (T0.setTop (mkF m 49 #[.val (.ref o0), .val (.int v1), .val (.long v2), .second, .val (.int v4), .val (.int v5), .val (.int v6)] [])) := by
  obtain ⟨hx, hZ, hw, hby, hml, hret, hown, hnm, hlk⟩ := B
  unfold f2_49 at hr
  refine Fin.by (B := T0.setTop (mkF m 51 #[.val (.ref o0), .val (.int v1), .val (.long v2), .second, .val (.int v4), .val (.int v5), .val (.int v6)] [(.int v1), (.ref o0)])) (fun t k => ?_) ?_
  · show Steps p.tables e below (T0.setTop (mkF m 49 #[.val (.ref o0), .val (.int v1), .val (.long v2), .second, .val (.int v4), .val (.int v5), .val (.int v6)] [])) _
    refine XS.aloadN X0.here hx rfl (hb hby d2_49) rfl rfl ?_
    show Steps p.tables e below (T0.setTop (mkF m 50 #[.val (.ref o0), .val (.int v1), .val (.long v2), .second, .val (.int v4), .val (.int v5), .val (.int v6)] [(.ref o0)])) _
    refine XS.iloadN X0.here hx rfl (hb hby d2_50) rfl  ?_
    exact k
  have hin1 : ¬ (v1 < 0) ∧ v1 < (10 : Int32) := hi
  obtain ⟨cl1, Ar1, hi1, q1⟩ := own_readI V_o0 hin1 _ rfl
  refine Fin.by (B := T0.setTop (mkF m 52 #[.val (.ref o0), .val (.int v1), .val (.long v2), .second, .val (.int v4), .val (.int v5), .val (.int v6)] [(.int (own_at o0_xs v1))])) (fun t k => ?_) ?_
  · show Steps p.tables e below (T0.setTop (mkF m 51 #[.val (.ref o0), .val (.int v1), .val (.long v2), .second, .val (.int v4), .val (.int v5), .val (.int v6)] [(.int v1), (.ref o0)])) _
    exact X0.baloadBytes hx (j := v1) (v := (.int (own_at o0_xs v1))) (by rw [e0]; exact Ar1.1) (State.isArrayOf_alike hZ.alike Ar1.2.1) Ar1.2.2 hi1 q1 (g := (mkF m 51 #[.val (.ref o0), .val (.int v1), .val (.long v2), .second, .val (.int v4), .val (.int v5), .val (.int v6)] [(.int v1), (.ref o0)])) rfl rfl (hb hby d2_51) _ k
  refine Fin.by (B := T0.setTop (mkF m 55 #[.val (.ref o0), .val (.int v1), .val (.long v2), .second, .val (.int v4), .val (.int v5), .val (.int v6)] [(.int (v6.toInt8.toInt32)), (.int (own_at o0_xs v1))])) (fun t k => ?_) ?_
  · show Steps p.tables e below (T0.setTop (mkF m 52 #[.val (.ref o0), .val (.int v1), .val (.long v2), .second, .val (.int v4), .val (.int v5), .val (.int v6)] [(.int (own_at o0_xs v1))])) _
    refine XS.iload X0.here hx rfl (hb hby d2_52) rfl  ?_
    show Steps p.tables e below (T0.setTop (mkF m 54 #[.val (.ref o0), .val (.int v1), .val (.long v2), .second, .val (.int v4), .val (.int v5), .val (.int v6)] [(.int v6), (.int (own_at o0_xs v1))])) _
    refine XS.i2b X0.here hx rfl (hb hby d2_54) rfl ?_
    exact k
  by_cases hc55 : (own_at o0_xs v1) = (v6.toInt8.toInt32)
  · rw [if_pos hc55] at hr
    refine Fin.by (B := T0.setTop (mkF m 58 #[.val (.ref o0), .val (.int v1), .val (.long v2), .second, .val (.int v4), .val (.int v5), .val (.int v6)] [])) (fun t k => ?_) ?_
    · show Steps p.tables e below (T0.setTop (mkF m 55 #[.val (.ref o0), .val (.int v1), .val (.long v2), .second, .val (.int v4), .val (.int v5), .val (.int v6)] [(.int (v6.toInt8.toInt32)), (.int (own_at o0_xs v1))])) _
      exact XS.icmpNo X0.here hx rfl (hb hby d2_55) rfl (teq hc55).2 k
    refine Fin.by (B := T0.setTop (mkF m 63 #[.val (.ref o0), .val (.int v1), .val (.long v2), .second, .val (.int v4), .val (.int v5), .val (.int v6)] [(.int (1 : Int32))])) (fun t k => ?_) ?_
    · show Steps p.tables e below (T0.setTop (mkF m 58 #[.val (.ref o0), .val (.int v1), .val (.long v2), .second, .val (.int v4), .val (.int v5), .val (.int v6)] [])) _
      refine XS.iconst X0.here hx rfl (hb hby d2_58) ?_
      show Steps p.tables e below (T0.setTop (mkF m 59 #[.val (.ref o0), .val (.int v1), .val (.long v2), .second, .val (.int v4), .val (.int v5), .val (.int v6)] [(.int (1 : Int32))])) _
      refine XS.goto X0.here hx rfl (pc0 := 59) (pc' := 63) rfl (hb hby d2_59) (by decide) (by decide) ?_
      exact k
    subst hr
    exact own_retN X0 hx hlk (t := .boolean) hret (by simp) (hb hby d2_63) (by decide) (by decide) ⟨rfl, N0, (e0.trans hh0)⟩
  · rw [if_neg hc55] at hr
    refine Fin.by (B := T0.setTop (mkF m 62 #[.val (.ref o0), .val (.int v1), .val (.long v2), .second, .val (.int v4), .val (.int v5), .val (.int v6)] [])) (fun t k => ?_) ?_
    · show Steps p.tables e below (T0.setTop (mkF m 55 #[.val (.ref o0), .val (.int v1), .val (.long v2), .second, .val (.int v4), .val (.int v5), .val (.int v6)] [(.int (v6.toInt8.toInt32)), (.int (own_at o0_xs v1))])) _
      exact XS.icmpYes X0.here hx rfl (pc0 := 55) (pc' := 62) rfl (hb hby d2_55) rfl (feq hc55).2 (by decide) (by decide) k
    refine Fin.by (B := T0.setTop (mkF m 63 #[.val (.ref o0), .val (.int v1), .val (.long v2), .second, .val (.int v4), .val (.int v5), .val (.int v6)] [(.int (0 : Int32))])) (fun t k => ?_) ?_
    · show Steps p.tables e below (T0.setTop (mkF m 62 #[.val (.ref o0), .val (.int v1), .val (.long v2), .second, .val (.int v4), .val (.int v5), .val (.int v6)] [])) _
      refine XS.iconst X0.here hx rfl (hb hby d2_62) ?_
      exact k
    subst hr
    exact own_retN X0 hx hlk (t := .boolean) hret (by simp) (hb hby d2_63) (by decide) (by decide) ⟨rfl, N0, (e0.trans hh0)⟩
def f2_0 (v1 : Int32) (v2 : Int64) (v4 : Int32) (v5 : Int32) (o0_xs : List Int32) : Int32 := (if v1 < v4 then (if v1 < (v4 - (1 : Int32)) then (f2_49 v1 v2 v4 v5 (((((v2.toUInt64 >>> (((7 : Int32) * v1) &&& 0x3f).toInt64.toUInt64).toInt64) &&& (127 : Int64)).toInt32) ||| (128 : Int32)) o0_xs) else (f2_49 v1 v2 v4 v5 ((((v2.toUInt64 >>> (((7 : Int32) * v1) &&& 0x3f).toInt64.toUInt64).toInt64) &&& (127 : Int64)).toInt32) o0_xs)) else (if (own_at o0_xs v1) = v5 then (1 : Int32) else (0 : Int32)))
set_option maxRecDepth 65536 in
set_option maxHeartbeats 40000000 in
theorem b2_0 {p : Program} {l : Launch} {e : Env} {s : State} {m : MethodId} {args : Array Value} {below : List Frame} {meth : Method} {c : Code} {Z : State} {a0 : Array Value} (B : Ctx p Z s a0 m meth c "com/example/search_suggest/searchsuggest/engine/VarintEncodePinLaw" "byteOk" method_3_code 7 (some .boolean)) {T0 : State} {locs : List Loc} {h : Heap} (h0 : Heap) (n0 : Nat) (o0 : Addr) (v1 : Int32) (v2 : Int64) (v4 : Int32) (v5 : Int32) (o0_k : ClassId) (o0_xs : List Int32) (X0 : Stand p l e R2 s m args below meth c T0 locs 0 0) (e0 : T0.heap = h) (N0 : Fr n0 locs) (Z0 : n0 ≤ h.size) (hh0 : h = h0) (V_o0 : Arv Z h o0 o0_k .byte (10 : Int32) (o0_xs.map Value.int) (.int 0)) (ln_o0 : o0_xs.length = (10 : Int32).toNatClampNeg) (hi : ¬ (v1 < (0 : Int32)) ∧ v1 < (10 : Int32)) (r : Int32) (hr : f2_0 v1 v2 v4 v5 o0_xs = r) :
    Fin p e below s R2.cells R2.slots (Q2 Z  h0 n0 r) (T0.setTop (mkF m 0 #[.val (.ref o0), .val (.int v1), .val (.long v2), .second, .val (.int v4), .val (.int v5), .unset] [])) := by
  obtain ⟨hx, hZ, hw, hby, hml, hret, hown, hnm, hlk⟩ := B
  unfold f2_0 at hr
  refine Fin.by (B := T0.setTop (mkF m 3 #[.val (.ref o0), .val (.int v1), .val (.long v2), .second, .val (.int v4), .val (.int v5), .unset] [(.int v4), (.int v1)])) (fun t k => ?_) ?_
  · show Steps p.tables e below (T0.setTop (mkF m 0 #[.val (.ref o0), .val (.int v1), .val (.long v2), .second, .val (.int v4), .val (.int v5), .unset] [])) _
    refine XS.iloadN X0.here hx rfl (hb hby d2_0) rfl  ?_
    show Steps p.tables e below (T0.setTop (mkF m 1 #[.val (.ref o0), .val (.int v1), .val (.long v2), .second, .val (.int v4), .val (.int v5), .unset] [(.int v1)])) _
    refine XS.iload X0.here hx rfl (hb hby d2_1) rfl  ?_
    exact k
  by_cases hc3 : v1 < v4
  · rw [if_pos hc3] at hr
    refine Fin.by (B := T0.setTop (mkF m 20 #[.val (.ref o0), .val (.int v1), .val (.long v2), .second, .val (.int v4), .val (.int v5), .unset] [])) (fun t k => ?_) ?_
    · show Steps p.tables e below (T0.setTop (mkF m 3 #[.val (.ref o0), .val (.int v1), .val (.long v2), .second, .val (.int v4), .val (.int v5), .unset] [(.int v4), (.int v1)])) _
      exact XS.icmpYes X0.here hx rfl (pc0 := 3) (pc' := 20) rfl (hb hby d2_3) rfl (tlt hc3).1 (by decide) (by decide) k
    refine Fin.by (B := T0.setTop (mkF m 38 #[.val (.ref o0), .val (.int v1), .val (.long v2), .second, .val (.int v4), .val (.int v5), .val (.int ((((v2.toUInt64 >>> (((7 : Int32) * v1) &&& 0x3f).toInt64.toUInt64).toInt64) &&& (127 : Int64)).toInt32))] [(.int (v4 - (1 : Int32))), (.int v1)])) (fun t k => ?_) ?_
    · show Steps p.tables e below (T0.setTop (mkF m 20 #[.val (.ref o0), .val (.int v1), .val (.long v2), .second, .val (.int v4), .val (.int v5), .unset] [])) _
      refine XS.lloadN X0.here hx rfl (hb hby d2_20) rfl  ?_
      show Steps p.tables e below (T0.setTop (mkF m 21 #[.val (.ref o0), .val (.int v1), .val (.long v2), .second, .val (.int v4), .val (.int v5), .unset] [(.long v2)])) _
      refine XS.bipush X0.here hx rfl (hb hby d2_21) ?_
      show Steps p.tables e below (T0.setTop (mkF m 23 #[.val (.ref o0), .val (.int v1), .val (.long v2), .second, .val (.int v4), .val (.int v5), .unset] [(.int (7 : Int32)), (.long v2)])) _
      refine XS.iloadN X0.here hx rfl (hb hby d2_23) rfl  ?_
      show Steps p.tables e below (T0.setTop (mkF m 24 #[.val (.ref o0), .val (.int v1), .val (.long v2), .second, .val (.int v4), .val (.int v5), .unset] [(.int v1), (.int (7 : Int32)), (.long v2)])) _
      refine XS.imul X0.here hx rfl (hb hby d2_24) rfl ?_
      show Steps p.tables e below (T0.setTop (mkF m 25 #[.val (.ref o0), .val (.int v1), .val (.long v2), .second, .val (.int v4), .val (.int v5), .unset] [(.int ((7 : Int32) * v1)), (.long v2)])) _
      refine XS.lushr X0.here hx rfl (hb hby d2_25) rfl ?_
      show Steps p.tables e below (T0.setTop (mkF m 26 #[.val (.ref o0), .val (.int v1), .val (.long v2), .second, .val (.int v4), .val (.int v5), .unset] [(.long ((v2.toUInt64 >>> (((7 : Int32) * v1) &&& 0x3f).toInt64.toUInt64).toInt64))])) _
      refine X0.ldc2Long hx hown (mvT hZ (hw _ (List.mem_of_getElem? (i := 19) rfl))) (g := (mkF m 26 #[.val (.ref o0), .val (.int v1), .val (.long v2), .second, .val (.int v4), .val (.int v5), .unset] [(.long ((v2.toUInt64 >>> (((7 : Int32) * v1) &&& 0x3f).toInt64.toUInt64).toInt64))])) rfl (hb hby d2_26) _ ?_
      show Steps p.tables e below (T0.setTop (mkF m 29 #[.val (.ref o0), .val (.int v1), .val (.long v2), .second, .val (.int v4), .val (.int v5), .unset] [(.long (127 : Int64)), (.long ((v2.toUInt64 >>> (((7 : Int32) * v1) &&& 0x3f).toInt64.toUInt64).toInt64))])) _
      refine XS.land X0.here hx rfl (hb hby d2_29) rfl ?_
      show Steps p.tables e below (T0.setTop (mkF m 30 #[.val (.ref o0), .val (.int v1), .val (.long v2), .second, .val (.int v4), .val (.int v5), .unset] [(.long (((v2.toUInt64 >>> (((7 : Int32) * v1) &&& 0x3f).toInt64.toUInt64).toInt64) &&& (127 : Int64)))])) _
      refine XS.l2i X0.here hx rfl (hb hby d2_30) rfl ?_
      show Steps p.tables e below (T0.setTop (mkF m 31 #[.val (.ref o0), .val (.int v1), .val (.long v2), .second, .val (.int v4), .val (.int v5), .unset] [(.int ((((v2.toUInt64 >>> (((7 : Int32) * v1) &&& 0x3f).toInt64.toUInt64).toInt64) &&& (127 : Int64)).toInt32))])) _
      refine XS.istore X0.here hx rfl (hb hby d2_31) rfl (l' := #[.val (.ref o0), .val (.int v1), .val (.long v2), .second, .val (.int v4), .val (.int v5), .val (.int ((((v2.toUInt64 >>> (((7 : Int32) * v1) &&& 0x3f).toInt64.toUInt64).toInt64) &&& (127 : Int64)).toInt32))]) rfl ?_
      show Steps p.tables e below (T0.setTop (mkF m 33 #[.val (.ref o0), .val (.int v1), .val (.long v2), .second, .val (.int v4), .val (.int v5), .val (.int ((((v2.toUInt64 >>> (((7 : Int32) * v1) &&& 0x3f).toInt64.toUInt64).toInt64) &&& (127 : Int64)).toInt32))] [])) _
      refine XS.iloadN X0.here hx rfl (hb hby d2_33) rfl  ?_
      show Steps p.tables e below (T0.setTop (mkF m 34 #[.val (.ref o0), .val (.int v1), .val (.long v2), .second, .val (.int v4), .val (.int v5), .val (.int ((((v2.toUInt64 >>> (((7 : Int32) * v1) &&& 0x3f).toInt64.toUInt64).toInt64) &&& (127 : Int64)).toInt32))] [(.int v1)])) _
      refine XS.iload X0.here hx rfl (hb hby d2_34) rfl  ?_
      show Steps p.tables e below (T0.setTop (mkF m 36 #[.val (.ref o0), .val (.int v1), .val (.long v2), .second, .val (.int v4), .val (.int v5), .val (.int ((((v2.toUInt64 >>> (((7 : Int32) * v1) &&& 0x3f).toInt64.toUInt64).toInt64) &&& (127 : Int64)).toInt32))] [(.int v4), (.int v1)])) _
      refine XS.iconst X0.here hx rfl (hb hby d2_36) ?_
      show Steps p.tables e below (T0.setTop (mkF m 37 #[.val (.ref o0), .val (.int v1), .val (.long v2), .second, .val (.int v4), .val (.int v5), .val (.int ((((v2.toUInt64 >>> (((7 : Int32) * v1) &&& 0x3f).toInt64.toUInt64).toInt64) &&& (127 : Int64)).toInt32))] [(.int (1 : Int32)), (.int v4), (.int v1)])) _
      refine XS.isub X0.here hx rfl (hb hby d2_37) rfl ?_
      exact k
    by_cases hc38 : v1 < (v4 - (1 : Int32))
    · rw [if_pos hc38] at hr
      refine Fin.by (B := T0.setTop (mkF m 41 #[.val (.ref o0), .val (.int v1), .val (.long v2), .second, .val (.int v4), .val (.int v5), .val (.int ((((v2.toUInt64 >>> (((7 : Int32) * v1) &&& 0x3f).toInt64.toUInt64).toInt64) &&& (127 : Int64)).toInt32))] [])) (fun t k => ?_) ?_
      · show Steps p.tables e below (T0.setTop (mkF m 38 #[.val (.ref o0), .val (.int v1), .val (.long v2), .second, .val (.int v4), .val (.int v5), .val (.int ((((v2.toUInt64 >>> (((7 : Int32) * v1) &&& 0x3f).toInt64.toUInt64).toInt64) &&& (127 : Int64)).toInt32))] [(.int (v4 - (1 : Int32))), (.int v1)])) _
        exact XS.icmpNo X0.here hx rfl (hb hby d2_38) rfl (tlt hc38).2.1 k
      refine Fin.by (B := T0.setTop (mkF m 49 #[.val (.ref o0), .val (.int v1), .val (.long v2), .second, .val (.int v4), .val (.int v5), .val (.int (((((v2.toUInt64 >>> (((7 : Int32) * v1) &&& 0x3f).toInt64.toUInt64).toInt64) &&& (127 : Int64)).toInt32) ||| (128 : Int32)))] [])) (fun t k => ?_) ?_
      · show Steps p.tables e below (T0.setTop (mkF m 41 #[.val (.ref o0), .val (.int v1), .val (.long v2), .second, .val (.int v4), .val (.int v5), .val (.int ((((v2.toUInt64 >>> (((7 : Int32) * v1) &&& 0x3f).toInt64.toUInt64).toInt64) &&& (127 : Int64)).toInt32))] [])) _
        refine XS.iload X0.here hx rfl (hb hby d2_41) rfl  ?_
        show Steps p.tables e below (T0.setTop (mkF m 43 #[.val (.ref o0), .val (.int v1), .val (.long v2), .second, .val (.int v4), .val (.int v5), .val (.int ((((v2.toUInt64 >>> (((7 : Int32) * v1) &&& 0x3f).toInt64.toUInt64).toInt64) &&& (127 : Int64)).toInt32))] [(.int ((((v2.toUInt64 >>> (((7 : Int32) * v1) &&& 0x3f).toInt64.toUInt64).toInt64) &&& (127 : Int64)).toInt32))])) _
        refine XS.sipush X0.here hx rfl (hb hby d2_43) ?_
        show Steps p.tables e below (T0.setTop (mkF m 46 #[.val (.ref o0), .val (.int v1), .val (.long v2), .second, .val (.int v4), .val (.int v5), .val (.int ((((v2.toUInt64 >>> (((7 : Int32) * v1) &&& 0x3f).toInt64.toUInt64).toInt64) &&& (127 : Int64)).toInt32))] [(.int (128 : Int32)), (.int ((((v2.toUInt64 >>> (((7 : Int32) * v1) &&& 0x3f).toInt64.toUInt64).toInt64) &&& (127 : Int64)).toInt32))])) _
        refine XS.ior X0.here hx rfl (hb hby d2_46) rfl ?_
        show Steps p.tables e below (T0.setTop (mkF m 47 #[.val (.ref o0), .val (.int v1), .val (.long v2), .second, .val (.int v4), .val (.int v5), .val (.int ((((v2.toUInt64 >>> (((7 : Int32) * v1) &&& 0x3f).toInt64.toUInt64).toInt64) &&& (127 : Int64)).toInt32))] [(.int (((((v2.toUInt64 >>> (((7 : Int32) * v1) &&& 0x3f).toInt64.toUInt64).toInt64) &&& (127 : Int64)).toInt32) ||| (128 : Int32)))])) _
        refine XS.istore X0.here hx rfl (hb hby d2_47) rfl (l' := #[.val (.ref o0), .val (.int v1), .val (.long v2), .second, .val (.int v4), .val (.int v5), .val (.int (((((v2.toUInt64 >>> (((7 : Int32) * v1) &&& 0x3f).toInt64.toUInt64).toInt64) &&& (127 : Int64)).toInt32) ||| (128 : Int32)))]) rfl ?_
        exact k
      have hi_j : ¬ (v1 < (0 : Int32)) ∧ v1 < (10 : Int32) := hi
      exact b2_49 ⟨hx, hZ, hw, hby, hml, hret, hown, hnm, hlk⟩ h0 n0 o0 v1 v2 v4 v5 (((((v2.toUInt64 >>> (((7 : Int32) * v1) &&& 0x3f).toInt64.toUInt64).toInt64) &&& (127 : Int64)).toInt32) ||| (128 : Int32)) o0_k o0_xs X0 e0 N0 Z0 hh0 V_o0 ln_o0 hi_j _ hr
    · rw [if_neg hc38] at hr
      refine Fin.by (B := T0.setTop (mkF m 49 #[.val (.ref o0), .val (.int v1), .val (.long v2), .second, .val (.int v4), .val (.int v5), .val (.int ((((v2.toUInt64 >>> (((7 : Int32) * v1) &&& 0x3f).toInt64.toUInt64).toInt64) &&& (127 : Int64)).toInt32))] [])) (fun t k => ?_) ?_
      · show Steps p.tables e below (T0.setTop (mkF m 38 #[.val (.ref o0), .val (.int v1), .val (.long v2), .second, .val (.int v4), .val (.int v5), .val (.int ((((v2.toUInt64 >>> (((7 : Int32) * v1) &&& 0x3f).toInt64.toUInt64).toInt64) &&& (127 : Int64)).toInt32))] [(.int (v4 - (1 : Int32))), (.int v1)])) _
        exact XS.icmpYes X0.here hx rfl (pc0 := 38) (pc' := 49) rfl (hb hby d2_38) rfl (flt hc38).2.1 (by decide) (by decide) k
      have hi_j : ¬ (v1 < (0 : Int32)) ∧ v1 < (10 : Int32) := hi
      exact b2_49 ⟨hx, hZ, hw, hby, hml, hret, hown, hnm, hlk⟩ h0 n0 o0 v1 v2 v4 v5 ((((v2.toUInt64 >>> (((7 : Int32) * v1) &&& 0x3f).toInt64.toUInt64).toInt64) &&& (127 : Int64)).toInt32) o0_k o0_xs X0 e0 N0 Z0 hh0 V_o0 ln_o0 hi_j _ hr
  · rw [if_neg hc3] at hr
    refine Fin.by (B := T0.setTop (mkF m 6 #[.val (.ref o0), .val (.int v1), .val (.long v2), .second, .val (.int v4), .val (.int v5), .unset] [])) (fun t k => ?_) ?_
    · show Steps p.tables e below (T0.setTop (mkF m 3 #[.val (.ref o0), .val (.int v1), .val (.long v2), .second, .val (.int v4), .val (.int v5), .unset] [(.int v4), (.int v1)])) _
      exact XS.icmpNo X0.here hx rfl (hb hby d2_3) rfl (flt hc3).1 k
    refine Fin.by (B := T0.setTop (mkF m 8 #[.val (.ref o0), .val (.int v1), .val (.long v2), .second, .val (.int v4), .val (.int v5), .unset] [(.int v1), (.ref o0)])) (fun t k => ?_) ?_
    · show Steps p.tables e below (T0.setTop (mkF m 6 #[.val (.ref o0), .val (.int v1), .val (.long v2), .second, .val (.int v4), .val (.int v5), .unset] [])) _
      refine XS.aloadN X0.here hx rfl (hb hby d2_6) rfl rfl ?_
      show Steps p.tables e below (T0.setTop (mkF m 7 #[.val (.ref o0), .val (.int v1), .val (.long v2), .second, .val (.int v4), .val (.int v5), .unset] [(.ref o0)])) _
      refine XS.iloadN X0.here hx rfl (hb hby d2_7) rfl  ?_
      exact k
    have hin2 : ¬ (v1 < 0) ∧ v1 < (10 : Int32) := hi
    obtain ⟨cl2, Ar2, hi2, q2⟩ := own_readI V_o0 hin2 _ rfl
    refine Fin.by (B := T0.setTop (mkF m 9 #[.val (.ref o0), .val (.int v1), .val (.long v2), .second, .val (.int v4), .val (.int v5), .unset] [(.int (own_at o0_xs v1))])) (fun t k => ?_) ?_
    · show Steps p.tables e below (T0.setTop (mkF m 8 #[.val (.ref o0), .val (.int v1), .val (.long v2), .second, .val (.int v4), .val (.int v5), .unset] [(.int v1), (.ref o0)])) _
      exact X0.baloadBytes hx (j := v1) (v := (.int (own_at o0_xs v1))) (by rw [e0]; exact Ar2.1) (State.isArrayOf_alike hZ.alike Ar2.2.1) Ar2.2.2 hi2 q2 (g := (mkF m 8 #[.val (.ref o0), .val (.int v1), .val (.long v2), .second, .val (.int v4), .val (.int v5), .unset] [(.int v1), (.ref o0)])) rfl rfl (hb hby d2_8) _ k
    refine Fin.by (B := T0.setTop (mkF m 11 #[.val (.ref o0), .val (.int v1), .val (.long v2), .second, .val (.int v4), .val (.int v5), .unset] [(.int v5), (.int (own_at o0_xs v1))])) (fun t k => ?_) ?_
    · show Steps p.tables e below (T0.setTop (mkF m 9 #[.val (.ref o0), .val (.int v1), .val (.long v2), .second, .val (.int v4), .val (.int v5), .unset] [(.int (own_at o0_xs v1))])) _
      refine XS.iload X0.here hx rfl (hb hby d2_9) rfl  ?_
      exact k
    by_cases hc11 : (own_at o0_xs v1) = v5
    · rw [if_pos hc11] at hr
      refine Fin.by (B := T0.setTop (mkF m 14 #[.val (.ref o0), .val (.int v1), .val (.long v2), .second, .val (.int v4), .val (.int v5), .unset] [])) (fun t k => ?_) ?_
      · show Steps p.tables e below (T0.setTop (mkF m 11 #[.val (.ref o0), .val (.int v1), .val (.long v2), .second, .val (.int v4), .val (.int v5), .unset] [(.int v5), (.int (own_at o0_xs v1))])) _
        exact XS.icmpNo X0.here hx rfl (hb hby d2_11) rfl (teq hc11).2 k
      refine Fin.by (B := T0.setTop (mkF m 19 #[.val (.ref o0), .val (.int v1), .val (.long v2), .second, .val (.int v4), .val (.int v5), .unset] [(.int (1 : Int32))])) (fun t k => ?_) ?_
      · show Steps p.tables e below (T0.setTop (mkF m 14 #[.val (.ref o0), .val (.int v1), .val (.long v2), .second, .val (.int v4), .val (.int v5), .unset] [])) _
        refine XS.iconst X0.here hx rfl (hb hby d2_14) ?_
        show Steps p.tables e below (T0.setTop (mkF m 15 #[.val (.ref o0), .val (.int v1), .val (.long v2), .second, .val (.int v4), .val (.int v5), .unset] [(.int (1 : Int32))])) _
        refine XS.goto X0.here hx rfl (pc0 := 15) (pc' := 19) rfl (hb hby d2_15) (by decide) (by decide) ?_
        exact k
      subst hr
      exact own_retN X0 hx hlk (t := .boolean) hret (by simp) (hb hby d2_19) (by decide) (by decide) ⟨rfl, N0, (e0.trans hh0)⟩
    · rw [if_neg hc11] at hr
      refine Fin.by (B := T0.setTop (mkF m 18 #[.val (.ref o0), .val (.int v1), .val (.long v2), .second, .val (.int v4), .val (.int v5), .unset] [])) (fun t k => ?_) ?_
      · show Steps p.tables e below (T0.setTop (mkF m 11 #[.val (.ref o0), .val (.int v1), .val (.long v2), .second, .val (.int v4), .val (.int v5), .unset] [(.int v5), (.int (own_at o0_xs v1))])) _
        exact XS.icmpYes X0.here hx rfl (pc0 := 11) (pc' := 18) rfl (hb hby d2_11) rfl (feq hc11).2 (by decide) (by decide) k
      refine Fin.by (B := T0.setTop (mkF m 19 #[.val (.ref o0), .val (.int v1), .val (.long v2), .second, .val (.int v4), .val (.int v5), .unset] [(.int (0 : Int32))])) (fun t k => ?_) ?_
      · show Steps p.tables e below (T0.setTop (mkF m 18 #[.val (.ref o0), .val (.int v1), .val (.long v2), .second, .val (.int v4), .val (.int v5), .unset] [])) _
        refine XS.iconst X0.here hx rfl (hb hby d2_18) ?_
        exact k
      subst hr
      exact own_retN X0 hx hlk (t := .boolean) hret (by simp) (hb hby d2_19) (by decide) (by decide) ⟨rfl, N0, (e0.trans hh0)⟩
theorem ef_2 (m : MethodId) (o0 : Addr) (v1 : Int32) (v2 : Int64) (v4 : Int32) (v5 : Int32) : entryFrame m #[(.ref o0), (.int v1), (.long v2), (.int v4), (.int v5)] 7 = (mkF m 0 #[.val (.ref o0), .val (.int v1), .val (.long v2), .second, .val (.int v4), .val (.int v5), .unset] []) := by first | (simp [entryFrame, mkF, argsToLocals, Value.category]; done) | rfl
set_option maxRecDepth 65536 in
set_option maxHeartbeats 40000000 in
theorem rm2 (l : Launch) (Z : State) (a0 : Array Value) (hw : ∀ d ∈ tables_1, d.before a0 Z = true) (ws : List Jvm.Cond) (o0 : Addr) (v1 : Int32) (v2 : Int64) (v4 : Int32) (v5 : Int32) (o0_k : ClassId) (o0_xs : List Int32) (h0 : Heap) (n0 : Nat) (Z0 : n0 ≤ h0.size) (V_o0 : Arv Z h0 o0 o0_k .byte (10 : Int32) (o0_xs.map Value.int) (.int 0)) (ln_o0 : o0_xs.length = (10 : Int32).toNatClampNeg) (hi : ¬ (v1 < (0 : Int32)) ∧ v1 < (10 : Int32)) :
    MetFree l (⟨"com/example/search_suggest/searchsuggest/engine/VarintEncodePinLaw", "byteOk", "([BIJIB)Z"⟩ : MethodName) (head1 (Jvm.Cond.code (⟨"com/example/search_suggest/searchsuggest/engine/VarintEncodePinLaw", "byteOk", "([BIJIB)Z"⟩ : MethodName) method_3_code 7 (some .boolean) :: ws) R2) (fun a U => a = #[(.ref o0), (.int v1), (.long v2), (.int v4), (.int v5)] ∧ Z.Warmed39 U.vm ∧ U.heap = h0) (fun _ _ _ _ _ => True) (fun _ U o U' => ∃ v L, o = .returned v ∧ (Q2 Z  h0 n0 (f2_0 v1 v2 v4 v5 o0_xs)) v U'.heap L ∧ FrameEnd U o U' L R2.cells R2.slots) := by
  refine MetFree.of_bodySF (plainFor_of_name pn_2) hisR ?_
  intro p e s m args below meth c s₁ Bd hml0 hP hK
  obtain ⟨rfl, hZ, hh⟩ := hP
  have B : Ctx p Z s a0 m meth c "com/example/search_suggest/searchsuggest/engine/VarintEncodePinLaw" "byteOk" method_3_code 7 (some .boolean) := ⟨Bd.exec, hZ, hw, Bd.bytes, hml0, Bd.returns, findClass_of_methodNamed Bd.named, (name_of_methodNamed Bd.named Bd.method).1, Bd.notSynchronized⟩
  have X0 : Stand p l e R2 s m #[(.ref o0), (.int v1), (.long v2), (.int v4), (.int v5)] below meth c s₁ [] 0 0 := Stand.of_body Bd
  have e0 : s₁.heap = h0 := by rw [← hh, Bd.state]; rfl
  have K := Keep.refl h0 []
  show Fin p e below s R2.cells R2.slots (Q2 Z  h0 n0 (f2_0 v1 v2 v4 v5 o0_xs)) (s₁.setTop (entryFrame m #[(.ref o0), (.int v1), (.long v2), (.int v4), (.int v5)] 7))
  refine Fin.by (fun t k => castTop (ef_2 m o0 v1 v2 v4 v5) k) ?_
  exact b2_0 B h0 n0 o0 v1 v2 v4 v5 o0_k o0_xs X0 e0 (Fr.nil n0) Z0 rfl V_o0 ln_o0 hi _ rfl
theorem pd_1 : parseMethodDescriptor "([BIJIB)Z" = some ⟨[(.array .byte), .int, .long, .int, .byte], some .boolean⟩ := by decide +kernel
theorem pn_0 : plainName "com/example/search_suggest/searchsuggest/engine/VarintEncodePinLaw" = true := by first | (simp [plainName, overriddenIn]; done) | decide +kernel
def Q0 (n0 : Nat) (r : Int32) (v : Option Value) (h : Heap) (L : List Loc) : Prop := v = some (.int r) ∧ Fr n0 L
def f0_182 (v0 : Int64) (v2 : Int32) (v3 : Int32) (v4 : Int64) (v6 : Int32) (v8 : Int32) (t0 : Int32) (b18_xs : List Int32) : Int32 := (if t0 = v8 then (if (f2_0 (0 : Int32) v4 v8 v6 b18_xs) = (0 : Int32) then (0 : Int32) else (if (f2_0 (1 : Int32) v4 v8 v6 b18_xs) = (0 : Int32) then (0 : Int32) else (if (f2_0 (2 : Int32) v4 v8 v6 b18_xs) = (0 : Int32) then (0 : Int32) else (if (f2_0 (3 : Int32) v4 v8 v6 b18_xs) = (0 : Int32) then (0 : Int32) else (if (f2_0 (4 : Int32) v4 v8 v6 b18_xs) = (0 : Int32) then (0 : Int32) else (if (f2_0 (5 : Int32) v4 v8 v6 b18_xs) = (0 : Int32) then (0 : Int32) else (if (f2_0 (6 : Int32) v4 v8 v6 b18_xs) = (0 : Int32) then (0 : Int32) else (if (f2_0 (7 : Int32) v4 v8 v6 b18_xs) = (0 : Int32) then (0 : Int32) else (if (f2_0 (8 : Int32) v4 v8 v6 b18_xs) = (0 : Int32) then (0 : Int32) else (if (f2_0 (9 : Int32) v4 v8 v6 b18_xs) = (0 : Int32) then (0 : Int32) else (1 : Int32))))))))))) else (0 : Int32))
set_option maxRecDepth 65536 in
set_option maxHeartbeats 40000000 in
theorem b0_182 {p : Program} {l : Launch} {e : Env} {s : State} {m : MethodId} {args : Array Value} {below : List Frame} {meth : Method} {c : Code} {Z : State} {a0 : Array Value} (B : Ctx p Z s a0 m meth c "com/example/search_suggest/searchsuggest/engine/VarintEncodePinLaw" "law" code 10 (some .boolean)) {T0 : State} {locs : List Loc} {h : Heap} (h0 : Heap) (n0 : Nat) (v0 : Int64) (v2 : Int32) (v3 : Int32) (v4 : Int64) (v6 : Int32) (b18 : Addr) (v8 : Int32) (t0 : Int32) (b18_k : ClassId) (b18_xs : List Int32) (X0 : Stand p l e room_1 s m args below meth c T0 locs 1 10) (e0 : T0.heap = h) (N0 : Fr n0 locs) (Z0 : n0 ≤ h.size) (V_b18 : Arv Z h b18 b18_k .byte (10 : Int32) (b18_xs.map Value.int) (.int 0)) (ln_b18 : b18_xs.length = (10 : Int32).toNatClampNeg) (g_b18 : n0 ≤ b18) (r : Int32) (hr : f0_182 v0 v2 v3 v4 v6 v8 t0 b18_xs = r) :
    Fin p e below s 1 10 (Q0 n0 r) (T0.setTop (mkF m 182 #[.val (.long v0), .second, .val (.int v2), .val (.int v3), .val (.long v4), .second, .val (.int v6), .val (.ref b18), .val (.int v8), .unset] [(.int t0)])) := by
  obtain ⟨hx, hZ, hw, hby, hml, hret, hown, hnm, hlk⟩ := B
  unfold f0_182 at hr
  refine Fin.by (B := T0.setTop (mkF m 188 #[.val (.long v0), .second, .val (.int v2), .val (.int v3), .val (.long v4), .second, .val (.int v6), .val (.ref b18), .val (.int v8), .val (.int t0)] [(.int v8), (.int t0)])) (fun t k => ?_) ?_
  · show Steps p.tables e below (T0.setTop (mkF m 182 #[.val (.long v0), .second, .val (.int v2), .val (.int v3), .val (.long v4), .second, .val (.int v6), .val (.ref b18), .val (.int v8), .unset] [(.int t0)])) _
    refine XS.istore X0.here hx rfl (hb hby at_182) rfl (l' := #[.val (.long v0), .second, .val (.int v2), .val (.int v3), .val (.long v4), .second, .val (.int v6), .val (.ref b18), .val (.int v8), .val (.int t0)]) rfl ?_
    show Steps p.tables e below (T0.setTop (mkF m 184 #[.val (.long v0), .second, .val (.int v2), .val (.int v3), .val (.long v4), .second, .val (.int v6), .val (.ref b18), .val (.int v8), .val (.int t0)] [])) _
    refine XS.iload X0.here hx rfl (hb hby at_184) rfl  ?_
    show Steps p.tables e below (T0.setTop (mkF m 186 #[.val (.long v0), .second, .val (.int v2), .val (.int v3), .val (.long v4), .second, .val (.int v6), .val (.ref b18), .val (.int v8), .val (.int t0)] [(.int t0)])) _
    refine XS.iload X0.here hx rfl (hb hby at_186) rfl  ?_
    exact k
  by_cases hc188 : t0 = v8
  · rw [if_pos hc188] at hr
    refine Fin.by (B := T0.setTop (mkF m 193 #[.val (.long v0), .second, .val (.int v2), .val (.int v3), .val (.long v4), .second, .val (.int v6), .val (.ref b18), .val (.int v8), .val (.int t0)] [])) (fun t k => ?_) ?_
    · show Steps p.tables e below (T0.setTop (mkF m 188 #[.val (.long v0), .second, .val (.int v2), .val (.int v3), .val (.long v4), .second, .val (.int v6), .val (.ref b18), .val (.int v8), .val (.int t0)] [(.int v8), (.int t0)])) _
      exact XS.icmpYes X0.here hx rfl (pc0 := 188) (pc' := 193) rfl (hb hby at_188) rfl (teq hc188).1 (by decide) (by decide) k
    refine Fin.by (B := T0.setTop (mkF m 202 #[.val (.long v0), .second, .val (.int v2), .val (.int v3), .val (.long v4), .second, .val (.int v6), .val (.ref b18), .val (.int v8), .val (.int t0)] [(.int v6), (.int v8), (.long v4), (.int (0 : Int32)), (.ref b18)])) (fun t k => ?_) ?_
    · show Steps p.tables e below (T0.setTop (mkF m 193 #[.val (.long v0), .second, .val (.int v2), .val (.int v3), .val (.long v4), .second, .val (.int v6), .val (.ref b18), .val (.int v8), .val (.int t0)] [])) _
      refine XS.aload X0.here hx rfl (hb hby at_193) rfl rfl ?_
      show Steps p.tables e below (T0.setTop (mkF m 195 #[.val (.long v0), .second, .val (.int v2), .val (.int v3), .val (.long v4), .second, .val (.int v6), .val (.ref b18), .val (.int v8), .val (.int t0)] [(.ref b18)])) _
      refine XS.iconst X0.here hx rfl (hb hby at_195) ?_
      show Steps p.tables e below (T0.setTop (mkF m 196 #[.val (.long v0), .second, .val (.int v2), .val (.int v3), .val (.long v4), .second, .val (.int v6), .val (.ref b18), .val (.int v8), .val (.int t0)] [(.int (0 : Int32)), (.ref b18)])) _
      refine XS.lload X0.here hx rfl (hb hby at_196) rfl  ?_
      show Steps p.tables e below (T0.setTop (mkF m 198 #[.val (.long v0), .second, .val (.int v2), .val (.int v3), .val (.long v4), .second, .val (.int v6), .val (.ref b18), .val (.int v8), .val (.int t0)] [(.long v4), (.int (0 : Int32)), (.ref b18)])) _
      refine XS.iload X0.here hx rfl (hb hby at_198) rfl  ?_
      show Steps p.tables e below (T0.setTop (mkF m 200 #[.val (.long v0), .second, .val (.int v2), .val (.int v3), .val (.long v4), .second, .val (.int v6), .val (.ref b18), .val (.int v8), .val (.int t0)] [(.int v8), (.long v4), (.int (0 : Int32)), (.ref b18)])) _
      refine XS.iload X0.here hx rfl (hb hby at_200) rfl  ?_
      exact k
    have hp13_hi : ¬ ((0 : Int32) < (0 : Int32)) ∧ (0 : Int32) < (10 : Int32) := by decide
    -- pc 202: com/example/search_suggest/searchsuggest/engine/VarintEncodePinLaw.byteOk
    obtain ⟨_, _, ⟨T13, L13, k13, n13⟩, -, X13, ⟨Lc13, hQ13, l13, y13, z13⟩, st13⟩ := Jvm.LawKit.callS X0 hx (y := (⟨"com/example/search_suggest/searchsuggest/engine/VarintEncodePinLaw", "byteOk", "([BIJIB)Z"⟩ : MethodName)) hown (mvT hZ (hw _ (List.mem_of_getElem? (i := 15) rfl))) (mvT hZ (hw _ (List.mem_of_getElem? (i := 16) rfl))) (mvT hZ (hw _ (List.mem_of_getElem? (i := 17) rfl))) (mvT hZ (hw _ (List.mem_of_getElem? (i := 18) rfl))) (by decide) (backOf (W := 0) (rm2 l Z a0 hw [] b18 (0 : Int32) v4 v8 v6 b18_k b18_xs h n0 Z0 V_b18 ln_b18 hp13_hi) hZ (hw _ (List.mem_of_getElem? (i := 18) rfl)) (hw _ (List.mem_of_getElem? (i := 17) rfl)) (by decide) (by decide)) (g := (mkF m 202 #[.val (.long v0), .second, .val (.int v2), .val (.int v3), .val (.long v4), .second, .val (.int v6), .val (.ref b18), .val (.int v8), .val (.int t0)] [(.int v6), (.int v8), (.long v4), (.int (0 : Int32)), (.ref b18)])) rfl (by rw [hml]; rfl) (argsL := [(.ref b18), (.int (0 : Int32)), (.long v4), (.int v8), (.int v6)]) (rest := []) (lenOf pd_1 rfl) rfl (by show 2 * 0 + _ ≤ _; exact Nat.le_of_eq rfl) (hb hby at_202) (fun _ _ => ⟨rfl, e0, (by decide : 1 + R2.cells ≤ _), (by decide : 10 + R2.slots ≤ _)⟩)
    dsimp only [Pt.U, Pt.locs, Pt.cells, Pt.slots] at X13 l13 y13 z13 st13 hQ13
    subst l13 y13 z13
    obtain ⟨rfl, Nq13, e13⟩ := hQ13
    have N13 := Fr.app N0 Nq13
    refine Fin.by (B := T13.setTop (mkF m 205 #[.val (.long v0), .second, .val (.int v2), .val (.int v3), .val (.long v4), .second, .val (.int v6), .val (.ref b18), .val (.int v8), .val (.int t0)] [(.int (f2_0 (0 : Int32) v4 v8 v6 b18_xs))])) (fun t k => st13 t k) ?_
    by_cases hc205 : (f2_0 (0 : Int32) v4 v8 v6 b18_xs) = (0 : Int32)
    · rw [if_pos hc205] at hr
      refine Fin.by (B := T13.setTop (mkF m 351 #[.val (.long v0), .second, .val (.int v2), .val (.int v3), .val (.long v4), .second, .val (.int v6), .val (.ref b18), .val (.int v8), .val (.int t0)] [])) (fun t k => ?_) ?_
      · show Steps p.tables e below (T13.setTop (mkF m 205 #[.val (.long v0), .second, .val (.int v2), .val (.int v3), .val (.long v4), .second, .val (.int v6), .val (.ref b18), .val (.int v8), .val (.int t0)] [(.int (f2_0 (0 : Int32) v4 v8 v6 b18_xs))])) _
        exact XS.ifYes X13.here hx rfl (pc0 := 205) (pc' := 351) rfl (hb hby at_205) rfl ((if0 _ _).trans (teq hc205).1) (by decide) (by decide) k
      refine Fin.by (B := T13.setTop (mkF m 352 #[.val (.long v0), .second, .val (.int v2), .val (.int v3), .val (.long v4), .second, .val (.int v6), .val (.ref b18), .val (.int v8), .val (.int t0)] [(.int (0 : Int32))])) (fun t k => ?_) ?_
      · show Steps p.tables e below (T13.setTop (mkF m 351 #[.val (.long v0), .second, .val (.int v2), .val (.int v3), .val (.long v4), .second, .val (.int v6), .val (.ref b18), .val (.int v8), .val (.int t0)] [])) _
        refine XS.iconst X13.here hx rfl (hb hby at_351) ?_
        exact k
      subst hr
      exact own_retN X13 hx hlk (t := .boolean) hret (by simp) (hb hby at_352) (by decide) (by decide) ⟨rfl, N13⟩
    · rw [if_neg hc205] at hr
      refine Fin.by (B := T13.setTop (mkF m 208 #[.val (.long v0), .second, .val (.int v2), .val (.int v3), .val (.long v4), .second, .val (.int v6), .val (.ref b18), .val (.int v8), .val (.int t0)] [])) (fun t k => ?_) ?_
      · show Steps p.tables e below (T13.setTop (mkF m 205 #[.val (.long v0), .second, .val (.int v2), .val (.int v3), .val (.long v4), .second, .val (.int v6), .val (.ref b18), .val (.int v8), .val (.int t0)] [(.int (f2_0 (0 : Int32) v4 v8 v6 b18_xs))])) _
        exact XS.ifNo X13.here hx rfl (hb hby at_205) rfl ((if0 _ _).trans (feq hc205).1) k
      refine Fin.by (B := T13.setTop (mkF m 217 #[.val (.long v0), .second, .val (.int v2), .val (.int v3), .val (.long v4), .second, .val (.int v6), .val (.ref b18), .val (.int v8), .val (.int t0)] [(.int v6), (.int v8), (.long v4), (.int (1 : Int32)), (.ref b18)])) (fun t k => ?_) ?_
      · show Steps p.tables e below (T13.setTop (mkF m 208 #[.val (.long v0), .second, .val (.int v2), .val (.int v3), .val (.long v4), .second, .val (.int v6), .val (.ref b18), .val (.int v8), .val (.int t0)] [])) _
        refine XS.aload X13.here hx rfl (hb hby at_208) rfl rfl ?_
        show Steps p.tables e below (T13.setTop (mkF m 210 #[.val (.long v0), .second, .val (.int v2), .val (.int v3), .val (.long v4), .second, .val (.int v6), .val (.ref b18), .val (.int v8), .val (.int t0)] [(.ref b18)])) _
        refine XS.iconst X13.here hx rfl (hb hby at_210) ?_
        show Steps p.tables e below (T13.setTop (mkF m 211 #[.val (.long v0), .second, .val (.int v2), .val (.int v3), .val (.long v4), .second, .val (.int v6), .val (.ref b18), .val (.int v8), .val (.int t0)] [(.int (1 : Int32)), (.ref b18)])) _
        refine XS.lload X13.here hx rfl (hb hby at_211) rfl  ?_
        show Steps p.tables e below (T13.setTop (mkF m 213 #[.val (.long v0), .second, .val (.int v2), .val (.int v3), .val (.long v4), .second, .val (.int v6), .val (.ref b18), .val (.int v8), .val (.int t0)] [(.long v4), (.int (1 : Int32)), (.ref b18)])) _
        refine XS.iload X13.here hx rfl (hb hby at_213) rfl  ?_
        show Steps p.tables e below (T13.setTop (mkF m 215 #[.val (.long v0), .second, .val (.int v2), .val (.int v3), .val (.long v4), .second, .val (.int v6), .val (.ref b18), .val (.int v8), .val (.int t0)] [(.int v8), (.long v4), (.int (1 : Int32)), (.ref b18)])) _
        refine XS.iload X13.here hx rfl (hb hby at_215) rfl  ?_
        exact k
      have hp14_hi : ¬ ((1 : Int32) < (0 : Int32)) ∧ (1 : Int32) < (10 : Int32) := by decide
      -- pc 217: com/example/search_suggest/searchsuggest/engine/VarintEncodePinLaw.byteOk
      obtain ⟨_, _, ⟨T14, L14, k14, n14⟩, -, X14, ⟨Lc14, hQ14, l14, y14, z14⟩, st14⟩ := Jvm.LawKit.callS X13 hx (y := (⟨"com/example/search_suggest/searchsuggest/engine/VarintEncodePinLaw", "byteOk", "([BIJIB)Z"⟩ : MethodName)) hown (mvT hZ (hw _ (List.mem_of_getElem? (i := 15) rfl))) (mvT hZ (hw _ (List.mem_of_getElem? (i := 16) rfl))) (mvT hZ (hw _ (List.mem_of_getElem? (i := 17) rfl))) (mvT hZ (hw _ (List.mem_of_getElem? (i := 18) rfl))) (by decide) (backOf (W := 0) (rm2 l Z a0 hw [] b18 (1 : Int32) v4 v8 v6 b18_k b18_xs h n0 Z0 V_b18 ln_b18 hp14_hi) hZ (hw _ (List.mem_of_getElem? (i := 18) rfl)) (hw _ (List.mem_of_getElem? (i := 17) rfl)) (by decide) (by decide)) (g := (mkF m 217 #[.val (.long v0), .second, .val (.int v2), .val (.int v3), .val (.long v4), .second, .val (.int v6), .val (.ref b18), .val (.int v8), .val (.int t0)] [(.int v6), (.int v8), (.long v4), (.int (1 : Int32)), (.ref b18)])) rfl (by rw [hml]; rfl) (argsL := [(.ref b18), (.int (1 : Int32)), (.long v4), (.int v8), (.int v6)]) (rest := []) (lenOf pd_1 rfl) rfl (by show 2 * 0 + _ ≤ _; exact Nat.le_of_eq rfl) (hb hby at_217) (fun _ _ => ⟨rfl, e13, (by decide : 1 + R2.cells ≤ _), (by decide : 10 + R2.slots ≤ _)⟩)
      dsimp only [Pt.U, Pt.locs, Pt.cells, Pt.slots] at X14 l14 y14 z14 st14 hQ14
      subst l14 y14 z14
      obtain ⟨rfl, Nq14, e14⟩ := hQ14
      have N14 := Fr.app N13 Nq14
      refine Fin.by (B := T14.setTop (mkF m 220 #[.val (.long v0), .second, .val (.int v2), .val (.int v3), .val (.long v4), .second, .val (.int v6), .val (.ref b18), .val (.int v8), .val (.int t0)] [(.int (f2_0 (1 : Int32) v4 v8 v6 b18_xs))])) (fun t k => st14 t k) ?_
      by_cases hc220 : (f2_0 (1 : Int32) v4 v8 v6 b18_xs) = (0 : Int32)
      · rw [if_pos hc220] at hr
        refine Fin.by (B := T14.setTop (mkF m 351 #[.val (.long v0), .second, .val (.int v2), .val (.int v3), .val (.long v4), .second, .val (.int v6), .val (.ref b18), .val (.int v8), .val (.int t0)] [])) (fun t k => ?_) ?_
        · show Steps p.tables e below (T14.setTop (mkF m 220 #[.val (.long v0), .second, .val (.int v2), .val (.int v3), .val (.long v4), .second, .val (.int v6), .val (.ref b18), .val (.int v8), .val (.int t0)] [(.int (f2_0 (1 : Int32) v4 v8 v6 b18_xs))])) _
          exact XS.ifYes X14.here hx rfl (pc0 := 220) (pc' := 351) rfl (hb hby at_220) rfl ((if0 _ _).trans (teq hc220).1) (by decide) (by decide) k
        refine Fin.by (B := T14.setTop (mkF m 352 #[.val (.long v0), .second, .val (.int v2), .val (.int v3), .val (.long v4), .second, .val (.int v6), .val (.ref b18), .val (.int v8), .val (.int t0)] [(.int (0 : Int32))])) (fun t k => ?_) ?_
        · show Steps p.tables e below (T14.setTop (mkF m 351 #[.val (.long v0), .second, .val (.int v2), .val (.int v3), .val (.long v4), .second, .val (.int v6), .val (.ref b18), .val (.int v8), .val (.int t0)] [])) _
          refine XS.iconst X14.here hx rfl (hb hby at_351) ?_
          exact k
        subst hr
        exact own_retN X14 hx hlk (t := .boolean) hret (by simp) (hb hby at_352) (by decide) (by decide) ⟨rfl, N14⟩
      · rw [if_neg hc220] at hr
        refine Fin.by (B := T14.setTop (mkF m 223 #[.val (.long v0), .second, .val (.int v2), .val (.int v3), .val (.long v4), .second, .val (.int v6), .val (.ref b18), .val (.int v8), .val (.int t0)] [])) (fun t k => ?_) ?_
        · show Steps p.tables e below (T14.setTop (mkF m 220 #[.val (.long v0), .second, .val (.int v2), .val (.int v3), .val (.long v4), .second, .val (.int v6), .val (.ref b18), .val (.int v8), .val (.int t0)] [(.int (f2_0 (1 : Int32) v4 v8 v6 b18_xs))])) _
          exact XS.ifNo X14.here hx rfl (hb hby at_220) rfl ((if0 _ _).trans (feq hc220).1) k
        refine Fin.by (B := T14.setTop (mkF m 232 #[.val (.long v0), .second, .val (.int v2), .val (.int v3), .val (.long v4), .second, .val (.int v6), .val (.ref b18), .val (.int v8), .val (.int t0)] [(.int v6), (.int v8), (.long v4), (.int (2 : Int32)), (.ref b18)])) (fun t k => ?_) ?_
        · show Steps p.tables e below (T14.setTop (mkF m 223 #[.val (.long v0), .second, .val (.int v2), .val (.int v3), .val (.long v4), .second, .val (.int v6), .val (.ref b18), .val (.int v8), .val (.int t0)] [])) _
          refine XS.aload X14.here hx rfl (hb hby at_223) rfl rfl ?_
          show Steps p.tables e below (T14.setTop (mkF m 225 #[.val (.long v0), .second, .val (.int v2), .val (.int v3), .val (.long v4), .second, .val (.int v6), .val (.ref b18), .val (.int v8), .val (.int t0)] [(.ref b18)])) _
          refine XS.iconst X14.here hx rfl (hb hby at_225) ?_
          show Steps p.tables e below (T14.setTop (mkF m 226 #[.val (.long v0), .second, .val (.int v2), .val (.int v3), .val (.long v4), .second, .val (.int v6), .val (.ref b18), .val (.int v8), .val (.int t0)] [(.int (2 : Int32)), (.ref b18)])) _
          refine XS.lload X14.here hx rfl (hb hby at_226) rfl  ?_
          show Steps p.tables e below (T14.setTop (mkF m 228 #[.val (.long v0), .second, .val (.int v2), .val (.int v3), .val (.long v4), .second, .val (.int v6), .val (.ref b18), .val (.int v8), .val (.int t0)] [(.long v4), (.int (2 : Int32)), (.ref b18)])) _
          refine XS.iload X14.here hx rfl (hb hby at_228) rfl  ?_
          show Steps p.tables e below (T14.setTop (mkF m 230 #[.val (.long v0), .second, .val (.int v2), .val (.int v3), .val (.long v4), .second, .val (.int v6), .val (.ref b18), .val (.int v8), .val (.int t0)] [(.int v8), (.long v4), (.int (2 : Int32)), (.ref b18)])) _
          refine XS.iload X14.here hx rfl (hb hby at_230) rfl  ?_
          exact k
        have hp15_hi : ¬ ((2 : Int32) < (0 : Int32)) ∧ (2 : Int32) < (10 : Int32) := by decide
        -- pc 232: com/example/search_suggest/searchsuggest/engine/VarintEncodePinLaw.byteOk
        obtain ⟨_, _, ⟨T15, L15, k15, n15⟩, -, X15, ⟨Lc15, hQ15, l15, y15, z15⟩, st15⟩ := Jvm.LawKit.callS X14 hx (y := (⟨"com/example/search_suggest/searchsuggest/engine/VarintEncodePinLaw", "byteOk", "([BIJIB)Z"⟩ : MethodName)) hown (mvT hZ (hw _ (List.mem_of_getElem? (i := 15) rfl))) (mvT hZ (hw _ (List.mem_of_getElem? (i := 16) rfl))) (mvT hZ (hw _ (List.mem_of_getElem? (i := 17) rfl))) (mvT hZ (hw _ (List.mem_of_getElem? (i := 18) rfl))) (by decide) (backOf (W := 0) (rm2 l Z a0 hw [] b18 (2 : Int32) v4 v8 v6 b18_k b18_xs h n0 Z0 V_b18 ln_b18 hp15_hi) hZ (hw _ (List.mem_of_getElem? (i := 18) rfl)) (hw _ (List.mem_of_getElem? (i := 17) rfl)) (by decide) (by decide)) (g := (mkF m 232 #[.val (.long v0), .second, .val (.int v2), .val (.int v3), .val (.long v4), .second, .val (.int v6), .val (.ref b18), .val (.int v8), .val (.int t0)] [(.int v6), (.int v8), (.long v4), (.int (2 : Int32)), (.ref b18)])) rfl (by rw [hml]; rfl) (argsL := [(.ref b18), (.int (2 : Int32)), (.long v4), (.int v8), (.int v6)]) (rest := []) (lenOf pd_1 rfl) rfl (by show 2 * 0 + _ ≤ _; exact Nat.le_of_eq rfl) (hb hby at_232) (fun _ _ => ⟨rfl, e14, (by decide : 1 + R2.cells ≤ _), (by decide : 10 + R2.slots ≤ _)⟩)
        dsimp only [Pt.U, Pt.locs, Pt.cells, Pt.slots] at X15 l15 y15 z15 st15 hQ15
        subst l15 y15 z15
        obtain ⟨rfl, Nq15, e15⟩ := hQ15
        have N15 := Fr.app N14 Nq15
        refine Fin.by (B := T15.setTop (mkF m 235 #[.val (.long v0), .second, .val (.int v2), .val (.int v3), .val (.long v4), .second, .val (.int v6), .val (.ref b18), .val (.int v8), .val (.int t0)] [(.int (f2_0 (2 : Int32) v4 v8 v6 b18_xs))])) (fun t k => st15 t k) ?_
        by_cases hc235 : (f2_0 (2 : Int32) v4 v8 v6 b18_xs) = (0 : Int32)
        · rw [if_pos hc235] at hr
          refine Fin.by (B := T15.setTop (mkF m 351 #[.val (.long v0), .second, .val (.int v2), .val (.int v3), .val (.long v4), .second, .val (.int v6), .val (.ref b18), .val (.int v8), .val (.int t0)] [])) (fun t k => ?_) ?_
          · show Steps p.tables e below (T15.setTop (mkF m 235 #[.val (.long v0), .second, .val (.int v2), .val (.int v3), .val (.long v4), .second, .val (.int v6), .val (.ref b18), .val (.int v8), .val (.int t0)] [(.int (f2_0 (2 : Int32) v4 v8 v6 b18_xs))])) _
            exact XS.ifYes X15.here hx rfl (pc0 := 235) (pc' := 351) rfl (hb hby at_235) rfl ((if0 _ _).trans (teq hc235).1) (by decide) (by decide) k
          refine Fin.by (B := T15.setTop (mkF m 352 #[.val (.long v0), .second, .val (.int v2), .val (.int v3), .val (.long v4), .second, .val (.int v6), .val (.ref b18), .val (.int v8), .val (.int t0)] [(.int (0 : Int32))])) (fun t k => ?_) ?_
          · show Steps p.tables e below (T15.setTop (mkF m 351 #[.val (.long v0), .second, .val (.int v2), .val (.int v3), .val (.long v4), .second, .val (.int v6), .val (.ref b18), .val (.int v8), .val (.int t0)] [])) _
            refine XS.iconst X15.here hx rfl (hb hby at_351) ?_
            exact k
          subst hr
          exact own_retN X15 hx hlk (t := .boolean) hret (by simp) (hb hby at_352) (by decide) (by decide) ⟨rfl, N15⟩
        · rw [if_neg hc235] at hr
          refine Fin.by (B := T15.setTop (mkF m 238 #[.val (.long v0), .second, .val (.int v2), .val (.int v3), .val (.long v4), .second, .val (.int v6), .val (.ref b18), .val (.int v8), .val (.int t0)] [])) (fun t k => ?_) ?_
          · show Steps p.tables e below (T15.setTop (mkF m 235 #[.val (.long v0), .second, .val (.int v2), .val (.int v3), .val (.long v4), .second, .val (.int v6), .val (.ref b18), .val (.int v8), .val (.int t0)] [(.int (f2_0 (2 : Int32) v4 v8 v6 b18_xs))])) _
            exact XS.ifNo X15.here hx rfl (hb hby at_235) rfl ((if0 _ _).trans (feq hc235).1) k
          refine Fin.by (B := T15.setTop (mkF m 247 #[.val (.long v0), .second, .val (.int v2), .val (.int v3), .val (.long v4), .second, .val (.int v6), .val (.ref b18), .val (.int v8), .val (.int t0)] [(.int v6), (.int v8), (.long v4), (.int (3 : Int32)), (.ref b18)])) (fun t k => ?_) ?_
          · show Steps p.tables e below (T15.setTop (mkF m 238 #[.val (.long v0), .second, .val (.int v2), .val (.int v3), .val (.long v4), .second, .val (.int v6), .val (.ref b18), .val (.int v8), .val (.int t0)] [])) _
            refine XS.aload X15.here hx rfl (hb hby at_238) rfl rfl ?_
            show Steps p.tables e below (T15.setTop (mkF m 240 #[.val (.long v0), .second, .val (.int v2), .val (.int v3), .val (.long v4), .second, .val (.int v6), .val (.ref b18), .val (.int v8), .val (.int t0)] [(.ref b18)])) _
            refine XS.iconst X15.here hx rfl (hb hby at_240) ?_
            show Steps p.tables e below (T15.setTop (mkF m 241 #[.val (.long v0), .second, .val (.int v2), .val (.int v3), .val (.long v4), .second, .val (.int v6), .val (.ref b18), .val (.int v8), .val (.int t0)] [(.int (3 : Int32)), (.ref b18)])) _
            refine XS.lload X15.here hx rfl (hb hby at_241) rfl  ?_
            show Steps p.tables e below (T15.setTop (mkF m 243 #[.val (.long v0), .second, .val (.int v2), .val (.int v3), .val (.long v4), .second, .val (.int v6), .val (.ref b18), .val (.int v8), .val (.int t0)] [(.long v4), (.int (3 : Int32)), (.ref b18)])) _
            refine XS.iload X15.here hx rfl (hb hby at_243) rfl  ?_
            show Steps p.tables e below (T15.setTop (mkF m 245 #[.val (.long v0), .second, .val (.int v2), .val (.int v3), .val (.long v4), .second, .val (.int v6), .val (.ref b18), .val (.int v8), .val (.int t0)] [(.int v8), (.long v4), (.int (3 : Int32)), (.ref b18)])) _
            refine XS.iload X15.here hx rfl (hb hby at_245) rfl  ?_
            exact k
          have hp16_hi : ¬ ((3 : Int32) < (0 : Int32)) ∧ (3 : Int32) < (10 : Int32) := by decide
          -- pc 247: com/example/search_suggest/searchsuggest/engine/VarintEncodePinLaw.byteOk
          obtain ⟨_, _, ⟨T16, L16, k16, n16⟩, -, X16, ⟨Lc16, hQ16, l16, y16, z16⟩, st16⟩ := Jvm.LawKit.callS X15 hx (y := (⟨"com/example/search_suggest/searchsuggest/engine/VarintEncodePinLaw", "byteOk", "([BIJIB)Z"⟩ : MethodName)) hown (mvT hZ (hw _ (List.mem_of_getElem? (i := 15) rfl))) (mvT hZ (hw _ (List.mem_of_getElem? (i := 16) rfl))) (mvT hZ (hw _ (List.mem_of_getElem? (i := 17) rfl))) (mvT hZ (hw _ (List.mem_of_getElem? (i := 18) rfl))) (by decide) (backOf (W := 0) (rm2 l Z a0 hw [] b18 (3 : Int32) v4 v8 v6 b18_k b18_xs h n0 Z0 V_b18 ln_b18 hp16_hi) hZ (hw _ (List.mem_of_getElem? (i := 18) rfl)) (hw _ (List.mem_of_getElem? (i := 17) rfl)) (by decide) (by decide)) (g := (mkF m 247 #[.val (.long v0), .second, .val (.int v2), .val (.int v3), .val (.long v4), .second, .val (.int v6), .val (.ref b18), .val (.int v8), .val (.int t0)] [(.int v6), (.int v8), (.long v4), (.int (3 : Int32)), (.ref b18)])) rfl (by rw [hml]; rfl) (argsL := [(.ref b18), (.int (3 : Int32)), (.long v4), (.int v8), (.int v6)]) (rest := []) (lenOf pd_1 rfl) rfl (by show 2 * 0 + _ ≤ _; exact Nat.le_of_eq rfl) (hb hby at_247) (fun _ _ => ⟨rfl, e15, (by decide : 1 + R2.cells ≤ _), (by decide : 10 + R2.slots ≤ _)⟩)
          dsimp only [Pt.U, Pt.locs, Pt.cells, Pt.slots] at X16 l16 y16 z16 st16 hQ16
          subst l16 y16 z16
          obtain ⟨rfl, Nq16, e16⟩ := hQ16
          have N16 := Fr.app N15 Nq16
          refine Fin.by (B := T16.setTop (mkF m 250 #[.val (.long v0), .second, .val (.int v2), .val (.int v3), .val (.long v4), .second, .val (.int v6), .val (.ref b18), .val (.int v8), .val (.int t0)] [(.int (f2_0 (3 : Int32) v4 v8 v6 b18_xs))])) (fun t k => st16 t k) ?_
          by_cases hc250 : (f2_0 (3 : Int32) v4 v8 v6 b18_xs) = (0 : Int32)
          · rw [if_pos hc250] at hr
            refine Fin.by (B := T16.setTop (mkF m 351 #[.val (.long v0), .second, .val (.int v2), .val (.int v3), .val (.long v4), .second, .val (.int v6), .val (.ref b18), .val (.int v8), .val (.int t0)] [])) (fun t k => ?_) ?_
            · show Steps p.tables e below (T16.setTop (mkF m 250 #[.val (.long v0), .second, .val (.int v2), .val (.int v3), .val (.long v4), .second, .val (.int v6), .val (.ref b18), .val (.int v8), .val (.int t0)] [(.int (f2_0 (3 : Int32) v4 v8 v6 b18_xs))])) _
              exact XS.ifYes X16.here hx rfl (pc0 := 250) (pc' := 351) rfl (hb hby at_250) rfl ((if0 _ _).trans (teq hc250).1) (by decide) (by decide) k
            refine Fin.by (B := T16.setTop (mkF m 352 #[.val (.long v0), .second, .val (.int v2), .val (.int v3), .val (.long v4), .second, .val (.int v6), .val (.ref b18), .val (.int v8), .val (.int t0)] [(.int (0 : Int32))])) (fun t k => ?_) ?_
            · show Steps p.tables e below (T16.setTop (mkF m 351 #[.val (.long v0), .second, .val (.int v2), .val (.int v3), .val (.long v4), .second, .val (.int v6), .val (.ref b18), .val (.int v8), .val (.int t0)] [])) _
              refine XS.iconst X16.here hx rfl (hb hby at_351) ?_
              exact k
            subst hr
            exact own_retN X16 hx hlk (t := .boolean) hret (by simp) (hb hby at_352) (by decide) (by decide) ⟨rfl, N16⟩
          · rw [if_neg hc250] at hr
            refine Fin.by (B := T16.setTop (mkF m 253 #[.val (.long v0), .second, .val (.int v2), .val (.int v3), .val (.long v4), .second, .val (.int v6), .val (.ref b18), .val (.int v8), .val (.int t0)] [])) (fun t k => ?_) ?_
            · show Steps p.tables e below (T16.setTop (mkF m 250 #[.val (.long v0), .second, .val (.int v2), .val (.int v3), .val (.long v4), .second, .val (.int v6), .val (.ref b18), .val (.int v8), .val (.int t0)] [(.int (f2_0 (3 : Int32) v4 v8 v6 b18_xs))])) _
              exact XS.ifNo X16.here hx rfl (hb hby at_250) rfl ((if0 _ _).trans (feq hc250).1) k
            refine Fin.by (B := T16.setTop (mkF m 262 #[.val (.long v0), .second, .val (.int v2), .val (.int v3), .val (.long v4), .second, .val (.int v6), .val (.ref b18), .val (.int v8), .val (.int t0)] [(.int v6), (.int v8), (.long v4), (.int (4 : Int32)), (.ref b18)])) (fun t k => ?_) ?_
            · show Steps p.tables e below (T16.setTop (mkF m 253 #[.val (.long v0), .second, .val (.int v2), .val (.int v3), .val (.long v4), .second, .val (.int v6), .val (.ref b18), .val (.int v8), .val (.int t0)] [])) _
              refine XS.aload X16.here hx rfl (hb hby at_253) rfl rfl ?_
              show Steps p.tables e below (T16.setTop (mkF m 255 #[.val (.long v0), .second, .val (.int v2), .val (.int v3), .val (.long v4), .second, .val (.int v6), .val (.ref b18), .val (.int v8), .val (.int t0)] [(.ref b18)])) _
              refine XS.iconst X16.here hx rfl (hb hby at_255) ?_
              show Steps p.tables e below (T16.setTop (mkF m 256 #[.val (.long v0), .second, .val (.int v2), .val (.int v3), .val (.long v4), .second, .val (.int v6), .val (.ref b18), .val (.int v8), .val (.int t0)] [(.int (4 : Int32)), (.ref b18)])) _
              refine XS.lload X16.here hx rfl (hb hby at_256) rfl  ?_
              show Steps p.tables e below (T16.setTop (mkF m 258 #[.val (.long v0), .second, .val (.int v2), .val (.int v3), .val (.long v4), .second, .val (.int v6), .val (.ref b18), .val (.int v8), .val (.int t0)] [(.long v4), (.int (4 : Int32)), (.ref b18)])) _
              refine XS.iload X16.here hx rfl (hb hby at_258) rfl  ?_
              show Steps p.tables e below (T16.setTop (mkF m 260 #[.val (.long v0), .second, .val (.int v2), .val (.int v3), .val (.long v4), .second, .val (.int v6), .val (.ref b18), .val (.int v8), .val (.int t0)] [(.int v8), (.long v4), (.int (4 : Int32)), (.ref b18)])) _
              refine XS.iload X16.here hx rfl (hb hby at_260) rfl  ?_
              exact k
            have hp17_hi : ¬ ((4 : Int32) < (0 : Int32)) ∧ (4 : Int32) < (10 : Int32) := by decide
            -- pc 262: com/example/search_suggest/searchsuggest/engine/VarintEncodePinLaw.byteOk
            obtain ⟨_, _, ⟨T17, L17, k17, n17⟩, -, X17, ⟨Lc17, hQ17, l17, y17, z17⟩, st17⟩ := Jvm.LawKit.callS X16 hx (y := (⟨"com/example/search_suggest/searchsuggest/engine/VarintEncodePinLaw", "byteOk", "([BIJIB)Z"⟩ : MethodName)) hown (mvT hZ (hw _ (List.mem_of_getElem? (i := 15) rfl))) (mvT hZ (hw _ (List.mem_of_getElem? (i := 16) rfl))) (mvT hZ (hw _ (List.mem_of_getElem? (i := 17) rfl))) (mvT hZ (hw _ (List.mem_of_getElem? (i := 18) rfl))) (by decide) (backOf (W := 0) (rm2 l Z a0 hw [] b18 (4 : Int32) v4 v8 v6 b18_k b18_xs h n0 Z0 V_b18 ln_b18 hp17_hi) hZ (hw _ (List.mem_of_getElem? (i := 18) rfl)) (hw _ (List.mem_of_getElem? (i := 17) rfl)) (by decide) (by decide)) (g := (mkF m 262 #[.val (.long v0), .second, .val (.int v2), .val (.int v3), .val (.long v4), .second, .val (.int v6), .val (.ref b18), .val (.int v8), .val (.int t0)] [(.int v6), (.int v8), (.long v4), (.int (4 : Int32)), (.ref b18)])) rfl (by rw [hml]; rfl) (argsL := [(.ref b18), (.int (4 : Int32)), (.long v4), (.int v8), (.int v6)]) (rest := []) (lenOf pd_1 rfl) rfl (by show 2 * 0 + _ ≤ _; exact Nat.le_of_eq rfl) (hb hby at_262) (fun _ _ => ⟨rfl, e16, (by decide : 1 + R2.cells ≤ _), (by decide : 10 + R2.slots ≤ _)⟩)
            dsimp only [Pt.U, Pt.locs, Pt.cells, Pt.slots] at X17 l17 y17 z17 st17 hQ17
            subst l17 y17 z17
            obtain ⟨rfl, Nq17, e17⟩ := hQ17
            have N17 := Fr.app N16 Nq17
            refine Fin.by (B := T17.setTop (mkF m 265 #[.val (.long v0), .second, .val (.int v2), .val (.int v3), .val (.long v4), .second, .val (.int v6), .val (.ref b18), .val (.int v8), .val (.int t0)] [(.int (f2_0 (4 : Int32) v4 v8 v6 b18_xs))])) (fun t k => st17 t k) ?_
            by_cases hc265 : (f2_0 (4 : Int32) v4 v8 v6 b18_xs) = (0 : Int32)
            · rw [if_pos hc265] at hr
              refine Fin.by (B := T17.setTop (mkF m 351 #[.val (.long v0), .second, .val (.int v2), .val (.int v3), .val (.long v4), .second, .val (.int v6), .val (.ref b18), .val (.int v8), .val (.int t0)] [])) (fun t k => ?_) ?_
              · show Steps p.tables e below (T17.setTop (mkF m 265 #[.val (.long v0), .second, .val (.int v2), .val (.int v3), .val (.long v4), .second, .val (.int v6), .val (.ref b18), .val (.int v8), .val (.int t0)] [(.int (f2_0 (4 : Int32) v4 v8 v6 b18_xs))])) _
                exact XS.ifYes X17.here hx rfl (pc0 := 265) (pc' := 351) rfl (hb hby at_265) rfl ((if0 _ _).trans (teq hc265).1) (by decide) (by decide) k
              refine Fin.by (B := T17.setTop (mkF m 352 #[.val (.long v0), .second, .val (.int v2), .val (.int v3), .val (.long v4), .second, .val (.int v6), .val (.ref b18), .val (.int v8), .val (.int t0)] [(.int (0 : Int32))])) (fun t k => ?_) ?_
              · show Steps p.tables e below (T17.setTop (mkF m 351 #[.val (.long v0), .second, .val (.int v2), .val (.int v3), .val (.long v4), .second, .val (.int v6), .val (.ref b18), .val (.int v8), .val (.int t0)] [])) _
                refine XS.iconst X17.here hx rfl (hb hby at_351) ?_
                exact k
              subst hr
              exact own_retN X17 hx hlk (t := .boolean) hret (by simp) (hb hby at_352) (by decide) (by decide) ⟨rfl, N17⟩
            · rw [if_neg hc265] at hr
              refine Fin.by (B := T17.setTop (mkF m 268 #[.val (.long v0), .second, .val (.int v2), .val (.int v3), .val (.long v4), .second, .val (.int v6), .val (.ref b18), .val (.int v8), .val (.int t0)] [])) (fun t k => ?_) ?_
              · show Steps p.tables e below (T17.setTop (mkF m 265 #[.val (.long v0), .second, .val (.int v2), .val (.int v3), .val (.long v4), .second, .val (.int v6), .val (.ref b18), .val (.int v8), .val (.int t0)] [(.int (f2_0 (4 : Int32) v4 v8 v6 b18_xs))])) _
                exact XS.ifNo X17.here hx rfl (hb hby at_265) rfl ((if0 _ _).trans (feq hc265).1) k
              refine Fin.by (B := T17.setTop (mkF m 277 #[.val (.long v0), .second, .val (.int v2), .val (.int v3), .val (.long v4), .second, .val (.int v6), .val (.ref b18), .val (.int v8), .val (.int t0)] [(.int v6), (.int v8), (.long v4), (.int (5 : Int32)), (.ref b18)])) (fun t k => ?_) ?_
              · show Steps p.tables e below (T17.setTop (mkF m 268 #[.val (.long v0), .second, .val (.int v2), .val (.int v3), .val (.long v4), .second, .val (.int v6), .val (.ref b18), .val (.int v8), .val (.int t0)] [])) _
                refine XS.aload X17.here hx rfl (hb hby at_268) rfl rfl ?_
                show Steps p.tables e below (T17.setTop (mkF m 270 #[.val (.long v0), .second, .val (.int v2), .val (.int v3), .val (.long v4), .second, .val (.int v6), .val (.ref b18), .val (.int v8), .val (.int t0)] [(.ref b18)])) _
                refine XS.iconst X17.here hx rfl (hb hby at_270) ?_
                show Steps p.tables e below (T17.setTop (mkF m 271 #[.val (.long v0), .second, .val (.int v2), .val (.int v3), .val (.long v4), .second, .val (.int v6), .val (.ref b18), .val (.int v8), .val (.int t0)] [(.int (5 : Int32)), (.ref b18)])) _
                refine XS.lload X17.here hx rfl (hb hby at_271) rfl  ?_
                show Steps p.tables e below (T17.setTop (mkF m 273 #[.val (.long v0), .second, .val (.int v2), .val (.int v3), .val (.long v4), .second, .val (.int v6), .val (.ref b18), .val (.int v8), .val (.int t0)] [(.long v4), (.int (5 : Int32)), (.ref b18)])) _
                refine XS.iload X17.here hx rfl (hb hby at_273) rfl  ?_
                show Steps p.tables e below (T17.setTop (mkF m 275 #[.val (.long v0), .second, .val (.int v2), .val (.int v3), .val (.long v4), .second, .val (.int v6), .val (.ref b18), .val (.int v8), .val (.int t0)] [(.int v8), (.long v4), (.int (5 : Int32)), (.ref b18)])) _
                refine XS.iload X17.here hx rfl (hb hby at_275) rfl  ?_
                exact k
              have hp18_hi : ¬ ((5 : Int32) < (0 : Int32)) ∧ (5 : Int32) < (10 : Int32) := by decide
              -- pc 277: com/example/search_suggest/searchsuggest/engine/VarintEncodePinLaw.byteOk
              obtain ⟨_, _, ⟨T18, L18, k18, n18⟩, -, X18, ⟨Lc18, hQ18, l18, y18, z18⟩, st18⟩ := Jvm.LawKit.callS X17 hx (y := (⟨"com/example/search_suggest/searchsuggest/engine/VarintEncodePinLaw", "byteOk", "([BIJIB)Z"⟩ : MethodName)) hown (mvT hZ (hw _ (List.mem_of_getElem? (i := 15) rfl))) (mvT hZ (hw _ (List.mem_of_getElem? (i := 16) rfl))) (mvT hZ (hw _ (List.mem_of_getElem? (i := 17) rfl))) (mvT hZ (hw _ (List.mem_of_getElem? (i := 18) rfl))) (by decide) (backOf (W := 0) (rm2 l Z a0 hw [] b18 (5 : Int32) v4 v8 v6 b18_k b18_xs h n0 Z0 V_b18 ln_b18 hp18_hi) hZ (hw _ (List.mem_of_getElem? (i := 18) rfl)) (hw _ (List.mem_of_getElem? (i := 17) rfl)) (by decide) (by decide)) (g := (mkF m 277 #[.val (.long v0), .second, .val (.int v2), .val (.int v3), .val (.long v4), .second, .val (.int v6), .val (.ref b18), .val (.int v8), .val (.int t0)] [(.int v6), (.int v8), (.long v4), (.int (5 : Int32)), (.ref b18)])) rfl (by rw [hml]; rfl) (argsL := [(.ref b18), (.int (5 : Int32)), (.long v4), (.int v8), (.int v6)]) (rest := []) (lenOf pd_1 rfl) rfl (by show 2 * 0 + _ ≤ _; exact Nat.le_of_eq rfl) (hb hby at_277) (fun _ _ => ⟨rfl, e17, (by decide : 1 + R2.cells ≤ _), (by decide : 10 + R2.slots ≤ _)⟩)
              dsimp only [Pt.U, Pt.locs, Pt.cells, Pt.slots] at X18 l18 y18 z18 st18 hQ18
              subst l18 y18 z18
              obtain ⟨rfl, Nq18, e18⟩ := hQ18
              have N18 := Fr.app N17 Nq18
              refine Fin.by (B := T18.setTop (mkF m 280 #[.val (.long v0), .second, .val (.int v2), .val (.int v3), .val (.long v4), .second, .val (.int v6), .val (.ref b18), .val (.int v8), .val (.int t0)] [(.int (f2_0 (5 : Int32) v4 v8 v6 b18_xs))])) (fun t k => st18 t k) ?_
              by_cases hc280 : (f2_0 (5 : Int32) v4 v8 v6 b18_xs) = (0 : Int32)
              · rw [if_pos hc280] at hr
                refine Fin.by (B := T18.setTop (mkF m 351 #[.val (.long v0), .second, .val (.int v2), .val (.int v3), .val (.long v4), .second, .val (.int v6), .val (.ref b18), .val (.int v8), .val (.int t0)] [])) (fun t k => ?_) ?_
                · show Steps p.tables e below (T18.setTop (mkF m 280 #[.val (.long v0), .second, .val (.int v2), .val (.int v3), .val (.long v4), .second, .val (.int v6), .val (.ref b18), .val (.int v8), .val (.int t0)] [(.int (f2_0 (5 : Int32) v4 v8 v6 b18_xs))])) _
                  exact XS.ifYes X18.here hx rfl (pc0 := 280) (pc' := 351) rfl (hb hby at_280) rfl ((if0 _ _).trans (teq hc280).1) (by decide) (by decide) k
                refine Fin.by (B := T18.setTop (mkF m 352 #[.val (.long v0), .second, .val (.int v2), .val (.int v3), .val (.long v4), .second, .val (.int v6), .val (.ref b18), .val (.int v8), .val (.int t0)] [(.int (0 : Int32))])) (fun t k => ?_) ?_
                · show Steps p.tables e below (T18.setTop (mkF m 351 #[.val (.long v0), .second, .val (.int v2), .val (.int v3), .val (.long v4), .second, .val (.int v6), .val (.ref b18), .val (.int v8), .val (.int t0)] [])) _
                  refine XS.iconst X18.here hx rfl (hb hby at_351) ?_
                  exact k
                subst hr
                exact own_retN X18 hx hlk (t := .boolean) hret (by simp) (hb hby at_352) (by decide) (by decide) ⟨rfl, N18⟩
              · rw [if_neg hc280] at hr
                refine Fin.by (B := T18.setTop (mkF m 283 #[.val (.long v0), .second, .val (.int v2), .val (.int v3), .val (.long v4), .second, .val (.int v6), .val (.ref b18), .val (.int v8), .val (.int t0)] [])) (fun t k => ?_) ?_
                · show Steps p.tables e below (T18.setTop (mkF m 280 #[.val (.long v0), .second, .val (.int v2), .val (.int v3), .val (.long v4), .second, .val (.int v6), .val (.ref b18), .val (.int v8), .val (.int t0)] [(.int (f2_0 (5 : Int32) v4 v8 v6 b18_xs))])) _
                  exact XS.ifNo X18.here hx rfl (hb hby at_280) rfl ((if0 _ _).trans (feq hc280).1) k
                refine Fin.by (B := T18.setTop (mkF m 293 #[.val (.long v0), .second, .val (.int v2), .val (.int v3), .val (.long v4), .second, .val (.int v6), .val (.ref b18), .val (.int v8), .val (.int t0)] [(.int v6), (.int v8), (.long v4), (.int (6 : Int32)), (.ref b18)])) (fun t k => ?_) ?_
                · show Steps p.tables e below (T18.setTop (mkF m 283 #[.val (.long v0), .second, .val (.int v2), .val (.int v3), .val (.long v4), .second, .val (.int v6), .val (.ref b18), .val (.int v8), .val (.int t0)] [])) _
                  refine XS.aload X18.here hx rfl (hb hby at_283) rfl rfl ?_
                  show Steps p.tables e below (T18.setTop (mkF m 285 #[.val (.long v0), .second, .val (.int v2), .val (.int v3), .val (.long v4), .second, .val (.int v6), .val (.ref b18), .val (.int v8), .val (.int t0)] [(.ref b18)])) _
                  refine XS.bipush X18.here hx rfl (hb hby at_285) ?_
                  show Steps p.tables e below (T18.setTop (mkF m 287 #[.val (.long v0), .second, .val (.int v2), .val (.int v3), .val (.long v4), .second, .val (.int v6), .val (.ref b18), .val (.int v8), .val (.int t0)] [(.int (6 : Int32)), (.ref b18)])) _
                  refine XS.lload X18.here hx rfl (hb hby at_287) rfl  ?_
                  show Steps p.tables e below (T18.setTop (mkF m 289 #[.val (.long v0), .second, .val (.int v2), .val (.int v3), .val (.long v4), .second, .val (.int v6), .val (.ref b18), .val (.int v8), .val (.int t0)] [(.long v4), (.int (6 : Int32)), (.ref b18)])) _
                  refine XS.iload X18.here hx rfl (hb hby at_289) rfl  ?_
                  show Steps p.tables e below (T18.setTop (mkF m 291 #[.val (.long v0), .second, .val (.int v2), .val (.int v3), .val (.long v4), .second, .val (.int v6), .val (.ref b18), .val (.int v8), .val (.int t0)] [(.int v8), (.long v4), (.int (6 : Int32)), (.ref b18)])) _
                  refine XS.iload X18.here hx rfl (hb hby at_291) rfl  ?_
                  exact k
                have hp19_hi : ¬ ((6 : Int32) < (0 : Int32)) ∧ (6 : Int32) < (10 : Int32) := by decide
                -- pc 293: com/example/search_suggest/searchsuggest/engine/VarintEncodePinLaw.byteOk
                obtain ⟨_, _, ⟨T19, L19, k19, n19⟩, -, X19, ⟨Lc19, hQ19, l19, y19, z19⟩, st19⟩ := Jvm.LawKit.callS X18 hx (y := (⟨"com/example/search_suggest/searchsuggest/engine/VarintEncodePinLaw", "byteOk", "([BIJIB)Z"⟩ : MethodName)) hown (mvT hZ (hw _ (List.mem_of_getElem? (i := 15) rfl))) (mvT hZ (hw _ (List.mem_of_getElem? (i := 16) rfl))) (mvT hZ (hw _ (List.mem_of_getElem? (i := 17) rfl))) (mvT hZ (hw _ (List.mem_of_getElem? (i := 18) rfl))) (by decide) (backOf (W := 0) (rm2 l Z a0 hw [] b18 (6 : Int32) v4 v8 v6 b18_k b18_xs h n0 Z0 V_b18 ln_b18 hp19_hi) hZ (hw _ (List.mem_of_getElem? (i := 18) rfl)) (hw _ (List.mem_of_getElem? (i := 17) rfl)) (by decide) (by decide)) (g := (mkF m 293 #[.val (.long v0), .second, .val (.int v2), .val (.int v3), .val (.long v4), .second, .val (.int v6), .val (.ref b18), .val (.int v8), .val (.int t0)] [(.int v6), (.int v8), (.long v4), (.int (6 : Int32)), (.ref b18)])) rfl (by rw [hml]; rfl) (argsL := [(.ref b18), (.int (6 : Int32)), (.long v4), (.int v8), (.int v6)]) (rest := []) (lenOf pd_1 rfl) rfl (by show 2 * 0 + _ ≤ _; exact Nat.le_of_eq rfl) (hb hby at_293) (fun _ _ => ⟨rfl, e18, (by decide : 1 + R2.cells ≤ _), (by decide : 10 + R2.slots ≤ _)⟩)
                dsimp only [Pt.U, Pt.locs, Pt.cells, Pt.slots] at X19 l19 y19 z19 st19 hQ19
                subst l19 y19 z19
                obtain ⟨rfl, Nq19, e19⟩ := hQ19
                have N19 := Fr.app N18 Nq19
                refine Fin.by (B := T19.setTop (mkF m 296 #[.val (.long v0), .second, .val (.int v2), .val (.int v3), .val (.long v4), .second, .val (.int v6), .val (.ref b18), .val (.int v8), .val (.int t0)] [(.int (f2_0 (6 : Int32) v4 v8 v6 b18_xs))])) (fun t k => st19 t k) ?_
                by_cases hc296 : (f2_0 (6 : Int32) v4 v8 v6 b18_xs) = (0 : Int32)
                · rw [if_pos hc296] at hr
                  refine Fin.by (B := T19.setTop (mkF m 351 #[.val (.long v0), .second, .val (.int v2), .val (.int v3), .val (.long v4), .second, .val (.int v6), .val (.ref b18), .val (.int v8), .val (.int t0)] [])) (fun t k => ?_) ?_
                  · show Steps p.tables e below (T19.setTop (mkF m 296 #[.val (.long v0), .second, .val (.int v2), .val (.int v3), .val (.long v4), .second, .val (.int v6), .val (.ref b18), .val (.int v8), .val (.int t0)] [(.int (f2_0 (6 : Int32) v4 v8 v6 b18_xs))])) _
                    exact XS.ifYes X19.here hx rfl (pc0 := 296) (pc' := 351) rfl (hb hby at_296) rfl ((if0 _ _).trans (teq hc296).1) (by decide) (by decide) k
                  refine Fin.by (B := T19.setTop (mkF m 352 #[.val (.long v0), .second, .val (.int v2), .val (.int v3), .val (.long v4), .second, .val (.int v6), .val (.ref b18), .val (.int v8), .val (.int t0)] [(.int (0 : Int32))])) (fun t k => ?_) ?_
                  · show Steps p.tables e below (T19.setTop (mkF m 351 #[.val (.long v0), .second, .val (.int v2), .val (.int v3), .val (.long v4), .second, .val (.int v6), .val (.ref b18), .val (.int v8), .val (.int t0)] [])) _
                    refine XS.iconst X19.here hx rfl (hb hby at_351) ?_
                    exact k
                  subst hr
                  exact own_retN X19 hx hlk (t := .boolean) hret (by simp) (hb hby at_352) (by decide) (by decide) ⟨rfl, N19⟩
                · rw [if_neg hc296] at hr
                  refine Fin.by (B := T19.setTop (mkF m 299 #[.val (.long v0), .second, .val (.int v2), .val (.int v3), .val (.long v4), .second, .val (.int v6), .val (.ref b18), .val (.int v8), .val (.int t0)] [])) (fun t k => ?_) ?_
                  · show Steps p.tables e below (T19.setTop (mkF m 296 #[.val (.long v0), .second, .val (.int v2), .val (.int v3), .val (.long v4), .second, .val (.int v6), .val (.ref b18), .val (.int v8), .val (.int t0)] [(.int (f2_0 (6 : Int32) v4 v8 v6 b18_xs))])) _
                    exact XS.ifNo X19.here hx rfl (hb hby at_296) rfl ((if0 _ _).trans (feq hc296).1) k
                  refine Fin.by (B := T19.setTop (mkF m 309 #[.val (.long v0), .second, .val (.int v2), .val (.int v3), .val (.long v4), .second, .val (.int v6), .val (.ref b18), .val (.int v8), .val (.int t0)] [(.int v6), (.int v8), (.long v4), (.int (7 : Int32)), (.ref b18)])) (fun t k => ?_) ?_
                  · show Steps p.tables e below (T19.setTop (mkF m 299 #[.val (.long v0), .second, .val (.int v2), .val (.int v3), .val (.long v4), .second, .val (.int v6), .val (.ref b18), .val (.int v8), .val (.int t0)] [])) _
                    refine XS.aload X19.here hx rfl (hb hby at_299) rfl rfl ?_
                    show Steps p.tables e below (T19.setTop (mkF m 301 #[.val (.long v0), .second, .val (.int v2), .val (.int v3), .val (.long v4), .second, .val (.int v6), .val (.ref b18), .val (.int v8), .val (.int t0)] [(.ref b18)])) _
                    refine XS.bipush X19.here hx rfl (hb hby at_301) ?_
                    show Steps p.tables e below (T19.setTop (mkF m 303 #[.val (.long v0), .second, .val (.int v2), .val (.int v3), .val (.long v4), .second, .val (.int v6), .val (.ref b18), .val (.int v8), .val (.int t0)] [(.int (7 : Int32)), (.ref b18)])) _
                    refine XS.lload X19.here hx rfl (hb hby at_303) rfl  ?_
                    show Steps p.tables e below (T19.setTop (mkF m 305 #[.val (.long v0), .second, .val (.int v2), .val (.int v3), .val (.long v4), .second, .val (.int v6), .val (.ref b18), .val (.int v8), .val (.int t0)] [(.long v4), (.int (7 : Int32)), (.ref b18)])) _
                    refine XS.iload X19.here hx rfl (hb hby at_305) rfl  ?_
                    show Steps p.tables e below (T19.setTop (mkF m 307 #[.val (.long v0), .second, .val (.int v2), .val (.int v3), .val (.long v4), .second, .val (.int v6), .val (.ref b18), .val (.int v8), .val (.int t0)] [(.int v8), (.long v4), (.int (7 : Int32)), (.ref b18)])) _
                    refine XS.iload X19.here hx rfl (hb hby at_307) rfl  ?_
                    exact k
                  have hp20_hi : ¬ ((7 : Int32) < (0 : Int32)) ∧ (7 : Int32) < (10 : Int32) := by decide
                  -- pc 309: com/example/search_suggest/searchsuggest/engine/VarintEncodePinLaw.byteOk
                  obtain ⟨_, _, ⟨T20, L20, k20, n20⟩, -, X20, ⟨Lc20, hQ20, l20, y20, z20⟩, st20⟩ := Jvm.LawKit.callS X19 hx (y := (⟨"com/example/search_suggest/searchsuggest/engine/VarintEncodePinLaw", "byteOk", "([BIJIB)Z"⟩ : MethodName)) hown (mvT hZ (hw _ (List.mem_of_getElem? (i := 15) rfl))) (mvT hZ (hw _ (List.mem_of_getElem? (i := 16) rfl))) (mvT hZ (hw _ (List.mem_of_getElem? (i := 17) rfl))) (mvT hZ (hw _ (List.mem_of_getElem? (i := 18) rfl))) (by decide) (backOf (W := 0) (rm2 l Z a0 hw [] b18 (7 : Int32) v4 v8 v6 b18_k b18_xs h n0 Z0 V_b18 ln_b18 hp20_hi) hZ (hw _ (List.mem_of_getElem? (i := 18) rfl)) (hw _ (List.mem_of_getElem? (i := 17) rfl)) (by decide) (by decide)) (g := (mkF m 309 #[.val (.long v0), .second, .val (.int v2), .val (.int v3), .val (.long v4), .second, .val (.int v6), .val (.ref b18), .val (.int v8), .val (.int t0)] [(.int v6), (.int v8), (.long v4), (.int (7 : Int32)), (.ref b18)])) rfl (by rw [hml]; rfl) (argsL := [(.ref b18), (.int (7 : Int32)), (.long v4), (.int v8), (.int v6)]) (rest := []) (lenOf pd_1 rfl) rfl (by show 2 * 0 + _ ≤ _; exact Nat.le_of_eq rfl) (hb hby at_309) (fun _ _ => ⟨rfl, e19, (by decide : 1 + R2.cells ≤ _), (by decide : 10 + R2.slots ≤ _)⟩)
                  dsimp only [Pt.U, Pt.locs, Pt.cells, Pt.slots] at X20 l20 y20 z20 st20 hQ20
                  subst l20 y20 z20
                  obtain ⟨rfl, Nq20, e20⟩ := hQ20
                  have N20 := Fr.app N19 Nq20
                  refine Fin.by (B := T20.setTop (mkF m 312 #[.val (.long v0), .second, .val (.int v2), .val (.int v3), .val (.long v4), .second, .val (.int v6), .val (.ref b18), .val (.int v8), .val (.int t0)] [(.int (f2_0 (7 : Int32) v4 v8 v6 b18_xs))])) (fun t k => st20 t k) ?_
                  by_cases hc312 : (f2_0 (7 : Int32) v4 v8 v6 b18_xs) = (0 : Int32)
                  · rw [if_pos hc312] at hr
                    refine Fin.by (B := T20.setTop (mkF m 351 #[.val (.long v0), .second, .val (.int v2), .val (.int v3), .val (.long v4), .second, .val (.int v6), .val (.ref b18), .val (.int v8), .val (.int t0)] [])) (fun t k => ?_) ?_
                    · show Steps p.tables e below (T20.setTop (mkF m 312 #[.val (.long v0), .second, .val (.int v2), .val (.int v3), .val (.long v4), .second, .val (.int v6), .val (.ref b18), .val (.int v8), .val (.int t0)] [(.int (f2_0 (7 : Int32) v4 v8 v6 b18_xs))])) _
                      exact XS.ifYes X20.here hx rfl (pc0 := 312) (pc' := 351) rfl (hb hby at_312) rfl ((if0 _ _).trans (teq hc312).1) (by decide) (by decide) k
                    refine Fin.by (B := T20.setTop (mkF m 352 #[.val (.long v0), .second, .val (.int v2), .val (.int v3), .val (.long v4), .second, .val (.int v6), .val (.ref b18), .val (.int v8), .val (.int t0)] [(.int (0 : Int32))])) (fun t k => ?_) ?_
                    · show Steps p.tables e below (T20.setTop (mkF m 351 #[.val (.long v0), .second, .val (.int v2), .val (.int v3), .val (.long v4), .second, .val (.int v6), .val (.ref b18), .val (.int v8), .val (.int t0)] [])) _
                      refine XS.iconst X20.here hx rfl (hb hby at_351) ?_
                      exact k
                    subst hr
                    exact own_retN X20 hx hlk (t := .boolean) hret (by simp) (hb hby at_352) (by decide) (by decide) ⟨rfl, N20⟩
                  · rw [if_neg hc312] at hr
                    refine Fin.by (B := T20.setTop (mkF m 315 #[.val (.long v0), .second, .val (.int v2), .val (.int v3), .val (.long v4), .second, .val (.int v6), .val (.ref b18), .val (.int v8), .val (.int t0)] [])) (fun t k => ?_) ?_
                    · show Steps p.tables e below (T20.setTop (mkF m 312 #[.val (.long v0), .second, .val (.int v2), .val (.int v3), .val (.long v4), .second, .val (.int v6), .val (.ref b18), .val (.int v8), .val (.int t0)] [(.int (f2_0 (7 : Int32) v4 v8 v6 b18_xs))])) _
                      exact XS.ifNo X20.here hx rfl (hb hby at_312) rfl ((if0 _ _).trans (feq hc312).1) k
                    refine Fin.by (B := T20.setTop (mkF m 325 #[.val (.long v0), .second, .val (.int v2), .val (.int v3), .val (.long v4), .second, .val (.int v6), .val (.ref b18), .val (.int v8), .val (.int t0)] [(.int v6), (.int v8), (.long v4), (.int (8 : Int32)), (.ref b18)])) (fun t k => ?_) ?_
                    · show Steps p.tables e below (T20.setTop (mkF m 315 #[.val (.long v0), .second, .val (.int v2), .val (.int v3), .val (.long v4), .second, .val (.int v6), .val (.ref b18), .val (.int v8), .val (.int t0)] [])) _
                      refine XS.aload X20.here hx rfl (hb hby at_315) rfl rfl ?_
                      show Steps p.tables e below (T20.setTop (mkF m 317 #[.val (.long v0), .second, .val (.int v2), .val (.int v3), .val (.long v4), .second, .val (.int v6), .val (.ref b18), .val (.int v8), .val (.int t0)] [(.ref b18)])) _
                      refine XS.bipush X20.here hx rfl (hb hby at_317) ?_
                      show Steps p.tables e below (T20.setTop (mkF m 319 #[.val (.long v0), .second, .val (.int v2), .val (.int v3), .val (.long v4), .second, .val (.int v6), .val (.ref b18), .val (.int v8), .val (.int t0)] [(.int (8 : Int32)), (.ref b18)])) _
                      refine XS.lload X20.here hx rfl (hb hby at_319) rfl  ?_
                      show Steps p.tables e below (T20.setTop (mkF m 321 #[.val (.long v0), .second, .val (.int v2), .val (.int v3), .val (.long v4), .second, .val (.int v6), .val (.ref b18), .val (.int v8), .val (.int t0)] [(.long v4), (.int (8 : Int32)), (.ref b18)])) _
                      refine XS.iload X20.here hx rfl (hb hby at_321) rfl  ?_
                      show Steps p.tables e below (T20.setTop (mkF m 323 #[.val (.long v0), .second, .val (.int v2), .val (.int v3), .val (.long v4), .second, .val (.int v6), .val (.ref b18), .val (.int v8), .val (.int t0)] [(.int v8), (.long v4), (.int (8 : Int32)), (.ref b18)])) _
                      refine XS.iload X20.here hx rfl (hb hby at_323) rfl  ?_
                      exact k
                    have hp21_hi : ¬ ((8 : Int32) < (0 : Int32)) ∧ (8 : Int32) < (10 : Int32) := by decide
                    -- pc 325: com/example/search_suggest/searchsuggest/engine/VarintEncodePinLaw.byteOk
                    obtain ⟨_, _, ⟨T21, L21, k21, n21⟩, -, X21, ⟨Lc21, hQ21, l21, y21, z21⟩, st21⟩ := Jvm.LawKit.callS X20 hx (y := (⟨"com/example/search_suggest/searchsuggest/engine/VarintEncodePinLaw", "byteOk", "([BIJIB)Z"⟩ : MethodName)) hown (mvT hZ (hw _ (List.mem_of_getElem? (i := 15) rfl))) (mvT hZ (hw _ (List.mem_of_getElem? (i := 16) rfl))) (mvT hZ (hw _ (List.mem_of_getElem? (i := 17) rfl))) (mvT hZ (hw _ (List.mem_of_getElem? (i := 18) rfl))) (by decide) (backOf (W := 0) (rm2 l Z a0 hw [] b18 (8 : Int32) v4 v8 v6 b18_k b18_xs h n0 Z0 V_b18 ln_b18 hp21_hi) hZ (hw _ (List.mem_of_getElem? (i := 18) rfl)) (hw _ (List.mem_of_getElem? (i := 17) rfl)) (by decide) (by decide)) (g := (mkF m 325 #[.val (.long v0), .second, .val (.int v2), .val (.int v3), .val (.long v4), .second, .val (.int v6), .val (.ref b18), .val (.int v8), .val (.int t0)] [(.int v6), (.int v8), (.long v4), (.int (8 : Int32)), (.ref b18)])) rfl (by rw [hml]; rfl) (argsL := [(.ref b18), (.int (8 : Int32)), (.long v4), (.int v8), (.int v6)]) (rest := []) (lenOf pd_1 rfl) rfl (by show 2 * 0 + _ ≤ _; exact Nat.le_of_eq rfl) (hb hby at_325) (fun _ _ => ⟨rfl, e20, (by decide : 1 + R2.cells ≤ _), (by decide : 10 + R2.slots ≤ _)⟩)
                    dsimp only [Pt.U, Pt.locs, Pt.cells, Pt.slots] at X21 l21 y21 z21 st21 hQ21
                    subst l21 y21 z21
                    obtain ⟨rfl, Nq21, e21⟩ := hQ21
                    have N21 := Fr.app N20 Nq21
                    refine Fin.by (B := T21.setTop (mkF m 328 #[.val (.long v0), .second, .val (.int v2), .val (.int v3), .val (.long v4), .second, .val (.int v6), .val (.ref b18), .val (.int v8), .val (.int t0)] [(.int (f2_0 (8 : Int32) v4 v8 v6 b18_xs))])) (fun t k => st21 t k) ?_
                    by_cases hc328 : (f2_0 (8 : Int32) v4 v8 v6 b18_xs) = (0 : Int32)
                    · rw [if_pos hc328] at hr
                      refine Fin.by (B := T21.setTop (mkF m 351 #[.val (.long v0), .second, .val (.int v2), .val (.int v3), .val (.long v4), .second, .val (.int v6), .val (.ref b18), .val (.int v8), .val (.int t0)] [])) (fun t k => ?_) ?_
                      · show Steps p.tables e below (T21.setTop (mkF m 328 #[.val (.long v0), .second, .val (.int v2), .val (.int v3), .val (.long v4), .second, .val (.int v6), .val (.ref b18), .val (.int v8), .val (.int t0)] [(.int (f2_0 (8 : Int32) v4 v8 v6 b18_xs))])) _
                        exact XS.ifYes X21.here hx rfl (pc0 := 328) (pc' := 351) rfl (hb hby at_328) rfl ((if0 _ _).trans (teq hc328).1) (by decide) (by decide) k
                      refine Fin.by (B := T21.setTop (mkF m 352 #[.val (.long v0), .second, .val (.int v2), .val (.int v3), .val (.long v4), .second, .val (.int v6), .val (.ref b18), .val (.int v8), .val (.int t0)] [(.int (0 : Int32))])) (fun t k => ?_) ?_
                      · show Steps p.tables e below (T21.setTop (mkF m 351 #[.val (.long v0), .second, .val (.int v2), .val (.int v3), .val (.long v4), .second, .val (.int v6), .val (.ref b18), .val (.int v8), .val (.int t0)] [])) _
                        refine XS.iconst X21.here hx rfl (hb hby at_351) ?_
                        exact k
                      subst hr
                      exact own_retN X21 hx hlk (t := .boolean) hret (by simp) (hb hby at_352) (by decide) (by decide) ⟨rfl, N21⟩
                    · rw [if_neg hc328] at hr
                      refine Fin.by (B := T21.setTop (mkF m 331 #[.val (.long v0), .second, .val (.int v2), .val (.int v3), .val (.long v4), .second, .val (.int v6), .val (.ref b18), .val (.int v8), .val (.int t0)] [])) (fun t k => ?_) ?_
                      · show Steps p.tables e below (T21.setTop (mkF m 328 #[.val (.long v0), .second, .val (.int v2), .val (.int v3), .val (.long v4), .second, .val (.int v6), .val (.ref b18), .val (.int v8), .val (.int t0)] [(.int (f2_0 (8 : Int32) v4 v8 v6 b18_xs))])) _
                        exact XS.ifNo X21.here hx rfl (hb hby at_328) rfl ((if0 _ _).trans (feq hc328).1) k
                      refine Fin.by (B := T21.setTop (mkF m 341 #[.val (.long v0), .second, .val (.int v2), .val (.int v3), .val (.long v4), .second, .val (.int v6), .val (.ref b18), .val (.int v8), .val (.int t0)] [(.int v6), (.int v8), (.long v4), (.int (9 : Int32)), (.ref b18)])) (fun t k => ?_) ?_
                      · show Steps p.tables e below (T21.setTop (mkF m 331 #[.val (.long v0), .second, .val (.int v2), .val (.int v3), .val (.long v4), .second, .val (.int v6), .val (.ref b18), .val (.int v8), .val (.int t0)] [])) _
                        refine XS.aload X21.here hx rfl (hb hby at_331) rfl rfl ?_
                        show Steps p.tables e below (T21.setTop (mkF m 333 #[.val (.long v0), .second, .val (.int v2), .val (.int v3), .val (.long v4), .second, .val (.int v6), .val (.ref b18), .val (.int v8), .val (.int t0)] [(.ref b18)])) _
                        refine XS.bipush X21.here hx rfl (hb hby at_333) ?_
                        show Steps p.tables e below (T21.setTop (mkF m 335 #[.val (.long v0), .second, .val (.int v2), .val (.int v3), .val (.long v4), .second, .val (.int v6), .val (.ref b18), .val (.int v8), .val (.int t0)] [(.int (9 : Int32)), (.ref b18)])) _
                        refine XS.lload X21.here hx rfl (hb hby at_335) rfl  ?_
                        show Steps p.tables e below (T21.setTop (mkF m 337 #[.val (.long v0), .second, .val (.int v2), .val (.int v3), .val (.long v4), .second, .val (.int v6), .val (.ref b18), .val (.int v8), .val (.int t0)] [(.long v4), (.int (9 : Int32)), (.ref b18)])) _
                        refine XS.iload X21.here hx rfl (hb hby at_337) rfl  ?_
                        show Steps p.tables e below (T21.setTop (mkF m 339 #[.val (.long v0), .second, .val (.int v2), .val (.int v3), .val (.long v4), .second, .val (.int v6), .val (.ref b18), .val (.int v8), .val (.int t0)] [(.int v8), (.long v4), (.int (9 : Int32)), (.ref b18)])) _
                        refine XS.iload X21.here hx rfl (hb hby at_339) rfl  ?_
                        exact k
                      have hp22_hi : ¬ ((9 : Int32) < (0 : Int32)) ∧ (9 : Int32) < (10 : Int32) := by decide
                      -- pc 341: com/example/search_suggest/searchsuggest/engine/VarintEncodePinLaw.byteOk
                      obtain ⟨_, _, ⟨T22, L22, k22, n22⟩, -, X22, ⟨Lc22, hQ22, l22, y22, z22⟩, st22⟩ := Jvm.LawKit.callS X21 hx (y := (⟨"com/example/search_suggest/searchsuggest/engine/VarintEncodePinLaw", "byteOk", "([BIJIB)Z"⟩ : MethodName)) hown (mvT hZ (hw _ (List.mem_of_getElem? (i := 15) rfl))) (mvT hZ (hw _ (List.mem_of_getElem? (i := 16) rfl))) (mvT hZ (hw _ (List.mem_of_getElem? (i := 17) rfl))) (mvT hZ (hw _ (List.mem_of_getElem? (i := 18) rfl))) (by decide) (backOf (W := 0) (rm2 l Z a0 hw [] b18 (9 : Int32) v4 v8 v6 b18_k b18_xs h n0 Z0 V_b18 ln_b18 hp22_hi) hZ (hw _ (List.mem_of_getElem? (i := 18) rfl)) (hw _ (List.mem_of_getElem? (i := 17) rfl)) (by decide) (by decide)) (g := (mkF m 341 #[.val (.long v0), .second, .val (.int v2), .val (.int v3), .val (.long v4), .second, .val (.int v6), .val (.ref b18), .val (.int v8), .val (.int t0)] [(.int v6), (.int v8), (.long v4), (.int (9 : Int32)), (.ref b18)])) rfl (by rw [hml]; rfl) (argsL := [(.ref b18), (.int (9 : Int32)), (.long v4), (.int v8), (.int v6)]) (rest := []) (lenOf pd_1 rfl) rfl (by show 2 * 0 + _ ≤ _; exact Nat.le_of_eq rfl) (hb hby at_341) (fun _ _ => ⟨rfl, e21, (by decide : 1 + R2.cells ≤ _), (by decide : 10 + R2.slots ≤ _)⟩)
                      dsimp only [Pt.U, Pt.locs, Pt.cells, Pt.slots] at X22 l22 y22 z22 st22 hQ22
                      subst l22 y22 z22
                      obtain ⟨rfl, Nq22, e22⟩ := hQ22
                      have N22 := Fr.app N21 Nq22
                      refine Fin.by (B := T22.setTop (mkF m 344 #[.val (.long v0), .second, .val (.int v2), .val (.int v3), .val (.long v4), .second, .val (.int v6), .val (.ref b18), .val (.int v8), .val (.int t0)] [(.int (f2_0 (9 : Int32) v4 v8 v6 b18_xs))])) (fun t k => st22 t k) ?_
                      by_cases hc344 : (f2_0 (9 : Int32) v4 v8 v6 b18_xs) = (0 : Int32)
                      · rw [if_pos hc344] at hr
                        refine Fin.by (B := T22.setTop (mkF m 351 #[.val (.long v0), .second, .val (.int v2), .val (.int v3), .val (.long v4), .second, .val (.int v6), .val (.ref b18), .val (.int v8), .val (.int t0)] [])) (fun t k => ?_) ?_
                        · show Steps p.tables e below (T22.setTop (mkF m 344 #[.val (.long v0), .second, .val (.int v2), .val (.int v3), .val (.long v4), .second, .val (.int v6), .val (.ref b18), .val (.int v8), .val (.int t0)] [(.int (f2_0 (9 : Int32) v4 v8 v6 b18_xs))])) _
                          exact XS.ifYes X22.here hx rfl (pc0 := 344) (pc' := 351) rfl (hb hby at_344) rfl ((if0 _ _).trans (teq hc344).1) (by decide) (by decide) k
                        refine Fin.by (B := T22.setTop (mkF m 352 #[.val (.long v0), .second, .val (.int v2), .val (.int v3), .val (.long v4), .second, .val (.int v6), .val (.ref b18), .val (.int v8), .val (.int t0)] [(.int (0 : Int32))])) (fun t k => ?_) ?_
                        · show Steps p.tables e below (T22.setTop (mkF m 351 #[.val (.long v0), .second, .val (.int v2), .val (.int v3), .val (.long v4), .second, .val (.int v6), .val (.ref b18), .val (.int v8), .val (.int t0)] [])) _
                          refine XS.iconst X22.here hx rfl (hb hby at_351) ?_
                          exact k
                        subst hr
                        exact own_retN X22 hx hlk (t := .boolean) hret (by simp) (hb hby at_352) (by decide) (by decide) ⟨rfl, N22⟩
                      · rw [if_neg hc344] at hr
                        refine Fin.by (B := T22.setTop (mkF m 347 #[.val (.long v0), .second, .val (.int v2), .val (.int v3), .val (.long v4), .second, .val (.int v6), .val (.ref b18), .val (.int v8), .val (.int t0)] [])) (fun t k => ?_) ?_
                        · show Steps p.tables e below (T22.setTop (mkF m 344 #[.val (.long v0), .second, .val (.int v2), .val (.int v3), .val (.long v4), .second, .val (.int v6), .val (.ref b18), .val (.int v8), .val (.int t0)] [(.int (f2_0 (9 : Int32) v4 v8 v6 b18_xs))])) _
                          exact XS.ifNo X22.here hx rfl (hb hby at_344) rfl ((if0 _ _).trans (feq hc344).1) k
                        refine Fin.by (B := T22.setTop (mkF m 352 #[.val (.long v0), .second, .val (.int v2), .val (.int v3), .val (.long v4), .second, .val (.int v6), .val (.ref b18), .val (.int v8), .val (.int t0)] [(.int (1 : Int32))])) (fun t k => ?_) ?_
                        · show Steps p.tables e below (T22.setTop (mkF m 347 #[.val (.long v0), .second, .val (.int v2), .val (.int v3), .val (.long v4), .second, .val (.int v6), .val (.ref b18), .val (.int v8), .val (.int t0)] [])) _
                          refine XS.iconst X22.here hx rfl (hb hby at_347) ?_
                          show Steps p.tables e below (T22.setTop (mkF m 348 #[.val (.long v0), .second, .val (.int v2), .val (.int v3), .val (.long v4), .second, .val (.int v6), .val (.ref b18), .val (.int v8), .val (.int t0)] [(.int (1 : Int32))])) _
                          refine XS.goto X22.here hx rfl (pc0 := 348) (pc' := 352) rfl (hb hby at_348) (by decide) (by decide) ?_
                          exact k
                        subst hr
                        exact own_retN X22 hx hlk (t := .boolean) hret (by simp) (hb hby at_352) (by decide) (by decide) ⟨rfl, N22⟩
  · rw [if_neg hc188] at hr
    refine Fin.by (B := T0.setTop (mkF m 191 #[.val (.long v0), .second, .val (.int v2), .val (.int v3), .val (.long v4), .second, .val (.int v6), .val (.ref b18), .val (.int v8), .val (.int t0)] [])) (fun t k => ?_) ?_
    · show Steps p.tables e below (T0.setTop (mkF m 188 #[.val (.long v0), .second, .val (.int v2), .val (.int v3), .val (.long v4), .second, .val (.int v6), .val (.ref b18), .val (.int v8), .val (.int t0)] [(.int v8), (.int t0)])) _
      exact XS.icmpNo X0.here hx rfl (hb hby at_188) rfl (feq hc188).1 k
    refine Fin.by (B := T0.setTop (mkF m 192 #[.val (.long v0), .second, .val (.int v2), .val (.int v3), .val (.long v4), .second, .val (.int v6), .val (.ref b18), .val (.int v8), .val (.int t0)] [(.int (0 : Int32))])) (fun t k => ?_) ?_
    · show Steps p.tables e below (T0.setTop (mkF m 191 #[.val (.long v0), .second, .val (.int v2), .val (.int v3), .val (.long v4), .second, .val (.int v6), .val (.ref b18), .val (.int v8), .val (.int t0)] [])) _
      refine XS.iconst X0.here hx rfl (hb hby at_191) ?_
      exact k
    subst hr
    exact own_retN X0 hx hlk (t := .boolean) hret (by simp) (hb hby at_192) (by decide) (by decide) ⟨rfl, N0⟩
def f0_175 (v0 : Int64) (v2 : Int32) (v3 : Int32) (v4 : Int64) (v6 : Int32) (v8 : Int32) (b18_xs : List Int32) : Int32 := (f0_182 v0 v2 v3 v4 v6 v8 ((f1_0 v4 b18_xs).1) ((f1_0 v4 b18_xs).2))
set_option maxRecDepth 65536 in
set_option maxHeartbeats 40000000 in
theorem b0_175 {p : Program} {l : Launch} {e : Env} {s : State} {m : MethodId} {args : Array Value} {below : List Frame} {meth : Method} {c : Code} {Z : State} {a0 : Array Value} (B : Ctx p Z s a0 m meth c "com/example/search_suggest/searchsuggest/engine/VarintEncodePinLaw" "law" code 10 (some .boolean)) {T0 : State} {locs : List Loc} {h : Heap} (h0 : Heap) (n0 : Nat) (v0 : Int64) (v2 : Int32) (v3 : Int32) (v4 : Int64) (v6 : Int32) (b18 : Addr) (v8 : Int32) (b18_k : ClassId) (b18_xs : List Int32) (X0 : Stand p l e room_1 s m args below meth c T0 locs 1 10) (e0 : T0.heap = h) (N0 : Fr n0 locs) (Z0 : n0 ≤ h.size) (V_b18 : Arv Z h b18 b18_k .byte (10 : Int32) (b18_xs.map Value.int) (.int 0)) (ln_b18 : b18_xs.length = (10 : Int32).toNatClampNeg) (g_b18 : n0 ≤ b18) (iv : 0 ≤ v4.toInt) (r : Int32) (hr : f0_175 v0 v2 v3 v4 v6 v8 b18_xs = r) :
    Fin p e below s 1 10 (Q0 n0 r) (T0.setTop (mkF m 175 #[.val (.long v0), .second, .val (.int v2), .val (.int v3), .val (.long v4), .second, .val (.int v6), .val (.ref b18), .val (.int v8), .unset] [])) := by
  obtain ⟨hx, hZ, hw, hby, hml, hret, hown, hnm, hlk⟩ := B
  unfold f0_175 at hr
  refine Fin.by (B := T0.setTop (mkF m 179 #[.val (.long v0), .second, .val (.int v2), .val (.int v3), .val (.long v4), .second, .val (.int v6), .val (.ref b18), .val (.int v8), .unset] [(.ref b18), (.long v4)])) (fun t k => ?_) ?_
  · show Steps p.tables e below (T0.setTop (mkF m 175 #[.val (.long v0), .second, .val (.int v2), .val (.int v3), .val (.long v4), .second, .val (.int v6), .val (.ref b18), .val (.int v8), .unset] [])) _
    refine XS.lload X0.here hx rfl (hb hby at_175) rfl  ?_
    show Steps p.tables e below (T0.setTop (mkF m 177 #[.val (.long v0), .second, .val (.int v2), .val (.int v3), .val (.long v4), .second, .val (.int v6), .val (.ref b18), .val (.int v8), .unset] [(.long v4)])) _
    refine XS.aload X0.here hx rfl (hb hby at_177) rfl rfl ?_
    exact k
  have hp12_hv : 0 ≤ v4.toInt := iv
  -- pc 179: com/example/search_suggest/searchsuggest/engine/Varint.encode
  obtain ⟨_, _, ⟨T12, L12, k12, n12⟩, -, X12, ⟨Lc12, hQ12, l12, y12, z12⟩, st12⟩ := Jvm.LawKit.callS X0 hx (y := (⟨"com/example/search_suggest/searchsuggest/engine/Varint", "encode", "(J[B)I"⟩ : MethodName)) hown (mvT hZ (hw _ (List.mem_of_getElem? (i := 10) rfl))) (mvT hZ (hw _ (List.mem_of_getElem? (i := 11) rfl))) (mvT hZ (hw _ (List.mem_of_getElem? (i := 12) rfl))) (mvT hZ (hw _ (List.mem_of_getElem? (i := 13) rfl))) (by decide) (backOf (W := 0) (rm1 l Z a0 hw [] v4 b18 b18_k b18_xs h n0 Z0 V_b18 ln_b18 g_b18 hp12_hv) hZ (hw _ (List.mem_of_getElem? (i := 13) rfl)) (hw _ (List.mem_of_getElem? (i := 12) rfl)) (by decide) (by decide)) (g := (mkF m 179 #[.val (.long v0), .second, .val (.int v2), .val (.int v3), .val (.long v4), .second, .val (.int v6), .val (.ref b18), .val (.int v8), .unset] [(.ref b18), (.long v4)])) rfl (by rw [hml]; rfl) (argsL := [(.long v4), (.ref b18)]) (rest := []) (lenOf pd_0 rfl) rfl (by show 2 * 0 + _ ≤ _; exact Nat.le_of_eq rfl) (hb hby at_179) (fun _ _ => ⟨rfl, e0, (by decide : 1 + R1.cells ≤ _), (by decide : 10 + R1.slots ≤ _)⟩)
  dsimp only [Pt.U, Pt.locs, Pt.cells, Pt.slots] at X12 l12 y12 z12 st12 hQ12
  subst l12 y12 z12
  obtain ⟨rfl, Nq12, Kq12, V_b18_12, ln_b18_12⟩ := hQ12
  obtain ⟨h12, e12⟩ : ∃ z, T12.heap = z := ⟨_, rfl⟩
  rw [e12] at Kq12 V_b18_12
  have N12 := Fr.app N0 Nq12
  have Z12 : n0 ≤ h12.size := Nat.le_trans Z0 Kq12.1
  refine Fin.by (B := T12.setTop (mkF m 182 #[.val (.long v0), .second, .val (.int v2), .val (.int v3), .val (.long v4), .second, .val (.int v6), .val (.ref b18), .val (.int v8), .unset] [(.int (f1_0 v4 b18_xs).1)])) (fun t k => st12 t k) ?_
  exact b0_182 ⟨hx, hZ, hw, hby, hml, hret, hown, hnm, hlk⟩ h0 n0 v0 v2 v3 v4 v6 b18 v8 ((f1_0 v4 b18_xs).1) b18_k ((f1_0 v4 b18_xs).2) X12 e12 N12 Z12 V_b18_12 ln_b18_12 g_b18 _ hr
def f0_163 (v0 : Int64) (v2 : Int32) (v3 : Int32) (v4 : Int64) (v6 : Int32) (v8 : Int32) (b18_xs : List Int32) : Int32 := (if v4 < (72057594037927936 : Int64) then (f0_175 v0 v2 v3 v4 v6 v8 b18_xs) else (f0_175 v0 v2 v3 v4 v6 (v8 + (1 : Int32)) b18_xs))
set_option maxRecDepth 65536 in
set_option maxHeartbeats 40000000 in
theorem b0_163 {p : Program} {l : Launch} {e : Env} {s : State} {m : MethodId} {args : Array Value} {below : List Frame} {meth : Method} {c : Code} {Z : State} {a0 : Array Value} (B : Ctx p Z s a0 m meth c "com/example/search_suggest/searchsuggest/engine/VarintEncodePinLaw" "law" code 10 (some .boolean)) {T0 : State} {locs : List Loc} {h : Heap} (h0 : Heap) (n0 : Nat) (v0 : Int64) (v2 : Int32) (v3 : Int32) (v4 : Int64) (v6 : Int32) (b18 : Addr) (v8 : Int32) (b18_k : ClassId) (b18_xs : List Int32) (X0 : Stand p l e room_1 s m args below meth c T0 locs 1 10) (e0 : T0.heap = h) (N0 : Fr n0 locs) (Z0 : n0 ≤ h.size) (V_b18 : Arv Z h b18 b18_k .byte (10 : Int32) (b18_xs.map Value.int) (.int 0)) (ln_b18 : b18_xs.length = (10 : Int32).toNatClampNeg) (g_b18 : n0 ≤ b18) (iv : 0 ≤ v4.toInt) (r : Int32) (hr : f0_163 v0 v2 v3 v4 v6 v8 b18_xs = r) :
    Fin p e below s 1 10 (Q0 n0 r) (T0.setTop (mkF m 163 #[.val (.long v0), .second, .val (.int v2), .val (.int v3), .val (.long v4), .second, .val (.int v6), .val (.ref b18), .val (.int v8), .unset] [])) := by
  obtain ⟨hx, hZ, hw, hby, hml, hret, hown, hnm, hlk⟩ := B
  unfold f0_163 at hr
  refine Fin.by (B := T0.setTop (mkF m 169 #[.val (.long v0), .second, .val (.int v2), .val (.int v3), .val (.long v4), .second, .val (.int v6), .val (.ref b18), .val (.int v8), .unset] [(.int (lcmpW v4 (72057594037927936 : Int64)))])) (fun t k => ?_) ?_
  · show Steps p.tables e below (T0.setTop (mkF m 163 #[.val (.long v0), .second, .val (.int v2), .val (.int v3), .val (.long v4), .second, .val (.int v6), .val (.ref b18), .val (.int v8), .unset] [])) _
    refine XS.lload X0.here hx rfl (hb hby at_163) rfl  ?_
    show Steps p.tables e below (T0.setTop (mkF m 165 #[.val (.long v0), .second, .val (.int v2), .val (.int v3), .val (.long v4), .second, .val (.int v6), .val (.ref b18), .val (.int v8), .unset] [(.long v4)])) _
    refine X0.ldc2Long hx hown (mvT hZ (hw _ (List.mem_of_getElem? (i := 9) rfl))) (g := (mkF m 165 #[.val (.long v0), .second, .val (.int v2), .val (.int v3), .val (.long v4), .second, .val (.int v6), .val (.ref b18), .val (.int v8), .unset] [(.long v4)])) rfl (hb hby at_165) _ ?_
    show Steps p.tables e below (T0.setTop (mkF m 168 #[.val (.long v0), .second, .val (.int v2), .val (.int v3), .val (.long v4), .second, .val (.int v6), .val (.ref b18), .val (.int v8), .unset] [(.long (72057594037927936 : Int64)), (.long v4)])) _
    refine XS.lcmp X0.here hx rfl (hb hby at_168) rfl ?_
    exact k
  by_cases hc169 : v4 < (72057594037927936 : Int64)
  · rw [if_pos hc169] at hr
    refine Fin.by (B := T0.setTop (mkF m 175 #[.val (.long v0), .second, .val (.int v2), .val (.int v3), .val (.long v4), .second, .val (.int v6), .val (.ref b18), .val (.int v8), .unset] [])) (fun t k => ?_) ?_
    · show Steps p.tables e below (T0.setTop (mkF m 169 #[.val (.long v0), .second, .val (.int v2), .val (.int v3), .val (.long v4), .second, .val (.int v6), .val (.ref b18), .val (.int v8), .unset] [(.int (lcmpW v4 (72057594037927936 : Int64)))])) _
      exact XS.ifYes X0.here hx rfl (pc0 := 169) (pc' := 175) rfl (hb hby at_169) rfl ((if0 _ _).trans (tlt ((lw_lt _ _).mpr hc169)).1) (by decide) (by decide) k
    have iv_j : 0 ≤ v4.toInt := by first | assumption | exact own_val _ _
    exact b0_175 ⟨hx, hZ, hw, hby, hml, hret, hown, hnm, hlk⟩ h0 n0 v0 v2 v3 v4 v6 b18 v8 b18_k b18_xs X0 e0 N0 Z0 V_b18 ln_b18 g_b18 iv_j _ hr
  · rw [if_neg hc169] at hr
    refine Fin.by (B := T0.setTop (mkF m 172 #[.val (.long v0), .second, .val (.int v2), .val (.int v3), .val (.long v4), .second, .val (.int v6), .val (.ref b18), .val (.int v8), .unset] [])) (fun t k => ?_) ?_
    · show Steps p.tables e below (T0.setTop (mkF m 169 #[.val (.long v0), .second, .val (.int v2), .val (.int v3), .val (.long v4), .second, .val (.int v6), .val (.ref b18), .val (.int v8), .unset] [(.int (lcmpW v4 (72057594037927936 : Int64)))])) _
      exact XS.ifNo X0.here hx rfl (hb hby at_169) rfl ((if0 _ _).trans (flt (fun q => hc169 ((lw_lt _ _).mp q))).1) k
    refine Fin.by (B := T0.setTop (mkF m 175 #[.val (.long v0), .second, .val (.int v2), .val (.int v3), .val (.long v4), .second, .val (.int v6), .val (.ref b18), .val (.int (v8 + (1 : Int32))), .unset] [])) (fun t k => ?_) ?_
    · show Steps p.tables e below (T0.setTop (mkF m 172 #[.val (.long v0), .second, .val (.int v2), .val (.int v3), .val (.long v4), .second, .val (.int v6), .val (.ref b18), .val (.int v8), .unset] [])) _
      refine XS.iinc X0.here hx rfl (hb hby at_172) rfl (l' := #[.val (.long v0), .second, .val (.int v2), .val (.int v3), .val (.long v4), .second, .val (.int v6), .val (.ref b18), .val (.int (v8 + (1 : Int32))), .unset]) rfl ?_
      exact k
    have iv_j : 0 ≤ v4.toInt := by first | assumption | exact own_val _ _
    exact b0_175 ⟨hx, hZ, hw, hby, hml, hret, hown, hnm, hlk⟩ h0 n0 v0 v2 v3 v4 v6 b18 (v8 + (1 : Int32)) b18_k b18_xs X0 e0 N0 Z0 V_b18 ln_b18 g_b18 iv_j _ hr
def f0_151 (v0 : Int64) (v2 : Int32) (v3 : Int32) (v4 : Int64) (v6 : Int32) (v8 : Int32) (b18_xs : List Int32) : Int32 := (if v4 < (562949953421312 : Int64) then (f0_163 v0 v2 v3 v4 v6 v8 b18_xs) else (f0_163 v0 v2 v3 v4 v6 (v8 + (1 : Int32)) b18_xs))
set_option maxRecDepth 65536 in
set_option maxHeartbeats 40000000 in
theorem b0_151 {p : Program} {l : Launch} {e : Env} {s : State} {m : MethodId} {args : Array Value} {below : List Frame} {meth : Method} {c : Code} {Z : State} {a0 : Array Value} (B : Ctx p Z s a0 m meth c "com/example/search_suggest/searchsuggest/engine/VarintEncodePinLaw" "law" code 10 (some .boolean)) {T0 : State} {locs : List Loc} {h : Heap} (h0 : Heap) (n0 : Nat) (v0 : Int64) (v2 : Int32) (v3 : Int32) (v4 : Int64) (v6 : Int32) (b18 : Addr) (v8 : Int32) (b18_k : ClassId) (b18_xs : List Int32) (X0 : Stand p l e room_1 s m args below meth c T0 locs 1 10) (e0 : T0.heap = h) (N0 : Fr n0 locs) (Z0 : n0 ≤ h.size) (V_b18 : Arv Z h b18 b18_k .byte (10 : Int32) (b18_xs.map Value.int) (.int 0)) (ln_b18 : b18_xs.length = (10 : Int32).toNatClampNeg) (g_b18 : n0 ≤ b18) (iv : 0 ≤ v4.toInt) (r : Int32) (hr : f0_151 v0 v2 v3 v4 v6 v8 b18_xs = r) :
    Fin p e below s 1 10 (Q0 n0 r) (T0.setTop (mkF m 151 #[.val (.long v0), .second, .val (.int v2), .val (.int v3), .val (.long v4), .second, .val (.int v6), .val (.ref b18), .val (.int v8), .unset] [])) := by
  obtain ⟨hx, hZ, hw, hby, hml, hret, hown, hnm, hlk⟩ := B
  unfold f0_151 at hr
  refine Fin.by (B := T0.setTop (mkF m 157 #[.val (.long v0), .second, .val (.int v2), .val (.int v3), .val (.long v4), .second, .val (.int v6), .val (.ref b18), .val (.int v8), .unset] [(.int (lcmpW v4 (562949953421312 : Int64)))])) (fun t k => ?_) ?_
  · show Steps p.tables e below (T0.setTop (mkF m 151 #[.val (.long v0), .second, .val (.int v2), .val (.int v3), .val (.long v4), .second, .val (.int v6), .val (.ref b18), .val (.int v8), .unset] [])) _
    refine XS.lload X0.here hx rfl (hb hby at_151) rfl  ?_
    show Steps p.tables e below (T0.setTop (mkF m 153 #[.val (.long v0), .second, .val (.int v2), .val (.int v3), .val (.long v4), .second, .val (.int v6), .val (.ref b18), .val (.int v8), .unset] [(.long v4)])) _
    refine X0.ldc2Long hx hown (mvT hZ (hw _ (List.mem_of_getElem? (i := 8) rfl))) (g := (mkF m 153 #[.val (.long v0), .second, .val (.int v2), .val (.int v3), .val (.long v4), .second, .val (.int v6), .val (.ref b18), .val (.int v8), .unset] [(.long v4)])) rfl (hb hby at_153) _ ?_
    show Steps p.tables e below (T0.setTop (mkF m 156 #[.val (.long v0), .second, .val (.int v2), .val (.int v3), .val (.long v4), .second, .val (.int v6), .val (.ref b18), .val (.int v8), .unset] [(.long (562949953421312 : Int64)), (.long v4)])) _
    refine XS.lcmp X0.here hx rfl (hb hby at_156) rfl ?_
    exact k
  by_cases hc157 : v4 < (562949953421312 : Int64)
  · rw [if_pos hc157] at hr
    refine Fin.by (B := T0.setTop (mkF m 163 #[.val (.long v0), .second, .val (.int v2), .val (.int v3), .val (.long v4), .second, .val (.int v6), .val (.ref b18), .val (.int v8), .unset] [])) (fun t k => ?_) ?_
    · show Steps p.tables e below (T0.setTop (mkF m 157 #[.val (.long v0), .second, .val (.int v2), .val (.int v3), .val (.long v4), .second, .val (.int v6), .val (.ref b18), .val (.int v8), .unset] [(.int (lcmpW v4 (562949953421312 : Int64)))])) _
      exact XS.ifYes X0.here hx rfl (pc0 := 157) (pc' := 163) rfl (hb hby at_157) rfl ((if0 _ _).trans (tlt ((lw_lt _ _).mpr hc157)).1) (by decide) (by decide) k
    have iv_j : 0 ≤ v4.toInt := by first | assumption | exact own_val _ _
    exact b0_163 ⟨hx, hZ, hw, hby, hml, hret, hown, hnm, hlk⟩ h0 n0 v0 v2 v3 v4 v6 b18 v8 b18_k b18_xs X0 e0 N0 Z0 V_b18 ln_b18 g_b18 iv_j _ hr
  · rw [if_neg hc157] at hr
    refine Fin.by (B := T0.setTop (mkF m 160 #[.val (.long v0), .second, .val (.int v2), .val (.int v3), .val (.long v4), .second, .val (.int v6), .val (.ref b18), .val (.int v8), .unset] [])) (fun t k => ?_) ?_
    · show Steps p.tables e below (T0.setTop (mkF m 157 #[.val (.long v0), .second, .val (.int v2), .val (.int v3), .val (.long v4), .second, .val (.int v6), .val (.ref b18), .val (.int v8), .unset] [(.int (lcmpW v4 (562949953421312 : Int64)))])) _
      exact XS.ifNo X0.here hx rfl (hb hby at_157) rfl ((if0 _ _).trans (flt (fun q => hc157 ((lw_lt _ _).mp q))).1) k
    refine Fin.by (B := T0.setTop (mkF m 163 #[.val (.long v0), .second, .val (.int v2), .val (.int v3), .val (.long v4), .second, .val (.int v6), .val (.ref b18), .val (.int (v8 + (1 : Int32))), .unset] [])) (fun t k => ?_) ?_
    · show Steps p.tables e below (T0.setTop (mkF m 160 #[.val (.long v0), .second, .val (.int v2), .val (.int v3), .val (.long v4), .second, .val (.int v6), .val (.ref b18), .val (.int v8), .unset] [])) _
      refine XS.iinc X0.here hx rfl (hb hby at_160) rfl (l' := #[.val (.long v0), .second, .val (.int v2), .val (.int v3), .val (.long v4), .second, .val (.int v6), .val (.ref b18), .val (.int (v8 + (1 : Int32))), .unset]) rfl ?_
      exact k
    have iv_j : 0 ≤ v4.toInt := by first | assumption | exact own_val _ _
    exact b0_163 ⟨hx, hZ, hw, hby, hml, hret, hown, hnm, hlk⟩ h0 n0 v0 v2 v3 v4 v6 b18 (v8 + (1 : Int32)) b18_k b18_xs X0 e0 N0 Z0 V_b18 ln_b18 g_b18 iv_j _ hr
def f0_139 (v0 : Int64) (v2 : Int32) (v3 : Int32) (v4 : Int64) (v6 : Int32) (v8 : Int32) (b18_xs : List Int32) : Int32 := (if v4 < (4398046511104 : Int64) then (f0_151 v0 v2 v3 v4 v6 v8 b18_xs) else (f0_151 v0 v2 v3 v4 v6 (v8 + (1 : Int32)) b18_xs))
set_option maxRecDepth 65536 in
set_option maxHeartbeats 40000000 in
theorem b0_139 {p : Program} {l : Launch} {e : Env} {s : State} {m : MethodId} {args : Array Value} {below : List Frame} {meth : Method} {c : Code} {Z : State} {a0 : Array Value} (B : Ctx p Z s a0 m meth c "com/example/search_suggest/searchsuggest/engine/VarintEncodePinLaw" "law" code 10 (some .boolean)) {T0 : State} {locs : List Loc} {h : Heap} (h0 : Heap) (n0 : Nat) (v0 : Int64) (v2 : Int32) (v3 : Int32) (v4 : Int64) (v6 : Int32) (b18 : Addr) (v8 : Int32) (b18_k : ClassId) (b18_xs : List Int32) (X0 : Stand p l e room_1 s m args below meth c T0 locs 1 10) (e0 : T0.heap = h) (N0 : Fr n0 locs) (Z0 : n0 ≤ h.size) (V_b18 : Arv Z h b18 b18_k .byte (10 : Int32) (b18_xs.map Value.int) (.int 0)) (ln_b18 : b18_xs.length = (10 : Int32).toNatClampNeg) (g_b18 : n0 ≤ b18) (iv : 0 ≤ v4.toInt) (r : Int32) (hr : f0_139 v0 v2 v3 v4 v6 v8 b18_xs = r) :
    Fin p e below s 1 10 (Q0 n0 r) (T0.setTop (mkF m 139 #[.val (.long v0), .second, .val (.int v2), .val (.int v3), .val (.long v4), .second, .val (.int v6), .val (.ref b18), .val (.int v8), .unset] [])) := by
  obtain ⟨hx, hZ, hw, hby, hml, hret, hown, hnm, hlk⟩ := B
  unfold f0_139 at hr
  refine Fin.by (B := T0.setTop (mkF m 145 #[.val (.long v0), .second, .val (.int v2), .val (.int v3), .val (.long v4), .second, .val (.int v6), .val (.ref b18), .val (.int v8), .unset] [(.int (lcmpW v4 (4398046511104 : Int64)))])) (fun t k => ?_) ?_
  · show Steps p.tables e below (T0.setTop (mkF m 139 #[.val (.long v0), .second, .val (.int v2), .val (.int v3), .val (.long v4), .second, .val (.int v6), .val (.ref b18), .val (.int v8), .unset] [])) _
    refine XS.lload X0.here hx rfl (hb hby at_139) rfl  ?_
    show Steps p.tables e below (T0.setTop (mkF m 141 #[.val (.long v0), .second, .val (.int v2), .val (.int v3), .val (.long v4), .second, .val (.int v6), .val (.ref b18), .val (.int v8), .unset] [(.long v4)])) _
    refine X0.ldc2Long hx hown (mvT hZ (hw _ (List.mem_of_getElem? (i := 7) rfl))) (g := (mkF m 141 #[.val (.long v0), .second, .val (.int v2), .val (.int v3), .val (.long v4), .second, .val (.int v6), .val (.ref b18), .val (.int v8), .unset] [(.long v4)])) rfl (hb hby at_141) _ ?_
    show Steps p.tables e below (T0.setTop (mkF m 144 #[.val (.long v0), .second, .val (.int v2), .val (.int v3), .val (.long v4), .second, .val (.int v6), .val (.ref b18), .val (.int v8), .unset] [(.long (4398046511104 : Int64)), (.long v4)])) _
    refine XS.lcmp X0.here hx rfl (hb hby at_144) rfl ?_
    exact k
  by_cases hc145 : v4 < (4398046511104 : Int64)
  · rw [if_pos hc145] at hr
    refine Fin.by (B := T0.setTop (mkF m 151 #[.val (.long v0), .second, .val (.int v2), .val (.int v3), .val (.long v4), .second, .val (.int v6), .val (.ref b18), .val (.int v8), .unset] [])) (fun t k => ?_) ?_
    · show Steps p.tables e below (T0.setTop (mkF m 145 #[.val (.long v0), .second, .val (.int v2), .val (.int v3), .val (.long v4), .second, .val (.int v6), .val (.ref b18), .val (.int v8), .unset] [(.int (lcmpW v4 (4398046511104 : Int64)))])) _
      exact XS.ifYes X0.here hx rfl (pc0 := 145) (pc' := 151) rfl (hb hby at_145) rfl ((if0 _ _).trans (tlt ((lw_lt _ _).mpr hc145)).1) (by decide) (by decide) k
    have iv_j : 0 ≤ v4.toInt := by first | assumption | exact own_val _ _
    exact b0_151 ⟨hx, hZ, hw, hby, hml, hret, hown, hnm, hlk⟩ h0 n0 v0 v2 v3 v4 v6 b18 v8 b18_k b18_xs X0 e0 N0 Z0 V_b18 ln_b18 g_b18 iv_j _ hr
  · rw [if_neg hc145] at hr
    refine Fin.by (B := T0.setTop (mkF m 148 #[.val (.long v0), .second, .val (.int v2), .val (.int v3), .val (.long v4), .second, .val (.int v6), .val (.ref b18), .val (.int v8), .unset] [])) (fun t k => ?_) ?_
    · show Steps p.tables e below (T0.setTop (mkF m 145 #[.val (.long v0), .second, .val (.int v2), .val (.int v3), .val (.long v4), .second, .val (.int v6), .val (.ref b18), .val (.int v8), .unset] [(.int (lcmpW v4 (4398046511104 : Int64)))])) _
      exact XS.ifNo X0.here hx rfl (hb hby at_145) rfl ((if0 _ _).trans (flt (fun q => hc145 ((lw_lt _ _).mp q))).1) k
    refine Fin.by (B := T0.setTop (mkF m 151 #[.val (.long v0), .second, .val (.int v2), .val (.int v3), .val (.long v4), .second, .val (.int v6), .val (.ref b18), .val (.int (v8 + (1 : Int32))), .unset] [])) (fun t k => ?_) ?_
    · show Steps p.tables e below (T0.setTop (mkF m 148 #[.val (.long v0), .second, .val (.int v2), .val (.int v3), .val (.long v4), .second, .val (.int v6), .val (.ref b18), .val (.int v8), .unset] [])) _
      refine XS.iinc X0.here hx rfl (hb hby at_148) rfl (l' := #[.val (.long v0), .second, .val (.int v2), .val (.int v3), .val (.long v4), .second, .val (.int v6), .val (.ref b18), .val (.int (v8 + (1 : Int32))), .unset]) rfl ?_
      exact k
    have iv_j : 0 ≤ v4.toInt := by first | assumption | exact own_val _ _
    exact b0_151 ⟨hx, hZ, hw, hby, hml, hret, hown, hnm, hlk⟩ h0 n0 v0 v2 v3 v4 v6 b18 (v8 + (1 : Int32)) b18_k b18_xs X0 e0 N0 Z0 V_b18 ln_b18 g_b18 iv_j _ hr
def f0_127 (v0 : Int64) (v2 : Int32) (v3 : Int32) (v4 : Int64) (v6 : Int32) (v8 : Int32) (b18_xs : List Int32) : Int32 := (if v4 < (34359738368 : Int64) then (f0_139 v0 v2 v3 v4 v6 v8 b18_xs) else (f0_139 v0 v2 v3 v4 v6 (v8 + (1 : Int32)) b18_xs))
set_option maxRecDepth 65536 in
set_option maxHeartbeats 40000000 in
theorem b0_127 {p : Program} {l : Launch} {e : Env} {s : State} {m : MethodId} {args : Array Value} {below : List Frame} {meth : Method} {c : Code} {Z : State} {a0 : Array Value} (B : Ctx p Z s a0 m meth c "com/example/search_suggest/searchsuggest/engine/VarintEncodePinLaw" "law" code 10 (some .boolean)) {T0 : State} {locs : List Loc} {h : Heap} (h0 : Heap) (n0 : Nat) (v0 : Int64) (v2 : Int32) (v3 : Int32) (v4 : Int64) (v6 : Int32) (b18 : Addr) (v8 : Int32) (b18_k : ClassId) (b18_xs : List Int32) (X0 : Stand p l e room_1 s m args below meth c T0 locs 1 10) (e0 : T0.heap = h) (N0 : Fr n0 locs) (Z0 : n0 ≤ h.size) (V_b18 : Arv Z h b18 b18_k .byte (10 : Int32) (b18_xs.map Value.int) (.int 0)) (ln_b18 : b18_xs.length = (10 : Int32).toNatClampNeg) (g_b18 : n0 ≤ b18) (iv : 0 ≤ v4.toInt) (r : Int32) (hr : f0_127 v0 v2 v3 v4 v6 v8 b18_xs = r) :
    Fin p e below s 1 10 (Q0 n0 r) (T0.setTop (mkF m 127 #[.val (.long v0), .second, .val (.int v2), .val (.int v3), .val (.long v4), .second, .val (.int v6), .val (.ref b18), .val (.int v8), .unset] [])) := by
  obtain ⟨hx, hZ, hw, hby, hml, hret, hown, hnm, hlk⟩ := B
  unfold f0_127 at hr
  refine Fin.by (B := T0.setTop (mkF m 133 #[.val (.long v0), .second, .val (.int v2), .val (.int v3), .val (.long v4), .second, .val (.int v6), .val (.ref b18), .val (.int v8), .unset] [(.int (lcmpW v4 (34359738368 : Int64)))])) (fun t k => ?_) ?_
  · show Steps p.tables e below (T0.setTop (mkF m 127 #[.val (.long v0), .second, .val (.int v2), .val (.int v3), .val (.long v4), .second, .val (.int v6), .val (.ref b18), .val (.int v8), .unset] [])) _
    refine XS.lload X0.here hx rfl (hb hby at_127) rfl  ?_
    show Steps p.tables e below (T0.setTop (mkF m 129 #[.val (.long v0), .second, .val (.int v2), .val (.int v3), .val (.long v4), .second, .val (.int v6), .val (.ref b18), .val (.int v8), .unset] [(.long v4)])) _
    refine X0.ldc2Long hx hown (mvT hZ (hw _ (List.mem_of_getElem? (i := 6) rfl))) (g := (mkF m 129 #[.val (.long v0), .second, .val (.int v2), .val (.int v3), .val (.long v4), .second, .val (.int v6), .val (.ref b18), .val (.int v8), .unset] [(.long v4)])) rfl (hb hby at_129) _ ?_
    show Steps p.tables e below (T0.setTop (mkF m 132 #[.val (.long v0), .second, .val (.int v2), .val (.int v3), .val (.long v4), .second, .val (.int v6), .val (.ref b18), .val (.int v8), .unset] [(.long (34359738368 : Int64)), (.long v4)])) _
    refine XS.lcmp X0.here hx rfl (hb hby at_132) rfl ?_
    exact k
  by_cases hc133 : v4 < (34359738368 : Int64)
  · rw [if_pos hc133] at hr
    refine Fin.by (B := T0.setTop (mkF m 139 #[.val (.long v0), .second, .val (.int v2), .val (.int v3), .val (.long v4), .second, .val (.int v6), .val (.ref b18), .val (.int v8), .unset] [])) (fun t k => ?_) ?_
    · show Steps p.tables e below (T0.setTop (mkF m 133 #[.val (.long v0), .second, .val (.int v2), .val (.int v3), .val (.long v4), .second, .val (.int v6), .val (.ref b18), .val (.int v8), .unset] [(.int (lcmpW v4 (34359738368 : Int64)))])) _
      exact XS.ifYes X0.here hx rfl (pc0 := 133) (pc' := 139) rfl (hb hby at_133) rfl ((if0 _ _).trans (tlt ((lw_lt _ _).mpr hc133)).1) (by decide) (by decide) k
    have iv_j : 0 ≤ v4.toInt := by first | assumption | exact own_val _ _
    exact b0_139 ⟨hx, hZ, hw, hby, hml, hret, hown, hnm, hlk⟩ h0 n0 v0 v2 v3 v4 v6 b18 v8 b18_k b18_xs X0 e0 N0 Z0 V_b18 ln_b18 g_b18 iv_j _ hr
  · rw [if_neg hc133] at hr
    refine Fin.by (B := T0.setTop (mkF m 136 #[.val (.long v0), .second, .val (.int v2), .val (.int v3), .val (.long v4), .second, .val (.int v6), .val (.ref b18), .val (.int v8), .unset] [])) (fun t k => ?_) ?_
    · show Steps p.tables e below (T0.setTop (mkF m 133 #[.val (.long v0), .second, .val (.int v2), .val (.int v3), .val (.long v4), .second, .val (.int v6), .val (.ref b18), .val (.int v8), .unset] [(.int (lcmpW v4 (34359738368 : Int64)))])) _
      exact XS.ifNo X0.here hx rfl (hb hby at_133) rfl ((if0 _ _).trans (flt (fun q => hc133 ((lw_lt _ _).mp q))).1) k
    refine Fin.by (B := T0.setTop (mkF m 139 #[.val (.long v0), .second, .val (.int v2), .val (.int v3), .val (.long v4), .second, .val (.int v6), .val (.ref b18), .val (.int (v8 + (1 : Int32))), .unset] [])) (fun t k => ?_) ?_
    · show Steps p.tables e below (T0.setTop (mkF m 136 #[.val (.long v0), .second, .val (.int v2), .val (.int v3), .val (.long v4), .second, .val (.int v6), .val (.ref b18), .val (.int v8), .unset] [])) _
      refine XS.iinc X0.here hx rfl (hb hby at_136) rfl (l' := #[.val (.long v0), .second, .val (.int v2), .val (.int v3), .val (.long v4), .second, .val (.int v6), .val (.ref b18), .val (.int (v8 + (1 : Int32))), .unset]) rfl ?_
      exact k
    have iv_j : 0 ≤ v4.toInt := by first | assumption | exact own_val _ _
    exact b0_139 ⟨hx, hZ, hw, hby, hml, hret, hown, hnm, hlk⟩ h0 n0 v0 v2 v3 v4 v6 b18 (v8 + (1 : Int32)) b18_k b18_xs X0 e0 N0 Z0 V_b18 ln_b18 g_b18 iv_j _ hr
def f0_115 (v0 : Int64) (v2 : Int32) (v3 : Int32) (v4 : Int64) (v6 : Int32) (v8 : Int32) (b18_xs : List Int32) : Int32 := (if v4 < (268435456 : Int64) then (f0_127 v0 v2 v3 v4 v6 v8 b18_xs) else (f0_127 v0 v2 v3 v4 v6 (v8 + (1 : Int32)) b18_xs))
set_option maxRecDepth 65536 in
set_option maxHeartbeats 40000000 in
theorem b0_115 {p : Program} {l : Launch} {e : Env} {s : State} {m : MethodId} {args : Array Value} {below : List Frame} {meth : Method} {c : Code} {Z : State} {a0 : Array Value} (B : Ctx p Z s a0 m meth c "com/example/search_suggest/searchsuggest/engine/VarintEncodePinLaw" "law" code 10 (some .boolean)) {T0 : State} {locs : List Loc} {h : Heap} (h0 : Heap) (n0 : Nat) (v0 : Int64) (v2 : Int32) (v3 : Int32) (v4 : Int64) (v6 : Int32) (b18 : Addr) (v8 : Int32) (b18_k : ClassId) (b18_xs : List Int32) (X0 : Stand p l e room_1 s m args below meth c T0 locs 1 10) (e0 : T0.heap = h) (N0 : Fr n0 locs) (Z0 : n0 ≤ h.size) (V_b18 : Arv Z h b18 b18_k .byte (10 : Int32) (b18_xs.map Value.int) (.int 0)) (ln_b18 : b18_xs.length = (10 : Int32).toNatClampNeg) (g_b18 : n0 ≤ b18) (iv : 0 ≤ v4.toInt) (r : Int32) (hr : f0_115 v0 v2 v3 v4 v6 v8 b18_xs = r) :
    Fin p e below s 1 10 (Q0 n0 r) (T0.setTop (mkF m 115 #[.val (.long v0), .second, .val (.int v2), .val (.int v3), .val (.long v4), .second, .val (.int v6), .val (.ref b18), .val (.int v8), .unset] [])) := by
  obtain ⟨hx, hZ, hw, hby, hml, hret, hown, hnm, hlk⟩ := B
  unfold f0_115 at hr
  refine Fin.by (B := T0.setTop (mkF m 121 #[.val (.long v0), .second, .val (.int v2), .val (.int v3), .val (.long v4), .second, .val (.int v6), .val (.ref b18), .val (.int v8), .unset] [(.int (lcmpW v4 (268435456 : Int64)))])) (fun t k => ?_) ?_
  · show Steps p.tables e below (T0.setTop (mkF m 115 #[.val (.long v0), .second, .val (.int v2), .val (.int v3), .val (.long v4), .second, .val (.int v6), .val (.ref b18), .val (.int v8), .unset] [])) _
    refine XS.lload X0.here hx rfl (hb hby at_115) rfl  ?_
    show Steps p.tables e below (T0.setTop (mkF m 117 #[.val (.long v0), .second, .val (.int v2), .val (.int v3), .val (.long v4), .second, .val (.int v6), .val (.ref b18), .val (.int v8), .unset] [(.long v4)])) _
    refine X0.ldc2Long hx hown (mvT hZ (hw _ (List.mem_of_getElem? (i := 5) rfl))) (g := (mkF m 117 #[.val (.long v0), .second, .val (.int v2), .val (.int v3), .val (.long v4), .second, .val (.int v6), .val (.ref b18), .val (.int v8), .unset] [(.long v4)])) rfl (hb hby at_117) _ ?_
    show Steps p.tables e below (T0.setTop (mkF m 120 #[.val (.long v0), .second, .val (.int v2), .val (.int v3), .val (.long v4), .second, .val (.int v6), .val (.ref b18), .val (.int v8), .unset] [(.long (268435456 : Int64)), (.long v4)])) _
    refine XS.lcmp X0.here hx rfl (hb hby at_120) rfl ?_
    exact k
  by_cases hc121 : v4 < (268435456 : Int64)
  · rw [if_pos hc121] at hr
    refine Fin.by (B := T0.setTop (mkF m 127 #[.val (.long v0), .second, .val (.int v2), .val (.int v3), .val (.long v4), .second, .val (.int v6), .val (.ref b18), .val (.int v8), .unset] [])) (fun t k => ?_) ?_
    · show Steps p.tables e below (T0.setTop (mkF m 121 #[.val (.long v0), .second, .val (.int v2), .val (.int v3), .val (.long v4), .second, .val (.int v6), .val (.ref b18), .val (.int v8), .unset] [(.int (lcmpW v4 (268435456 : Int64)))])) _
      exact XS.ifYes X0.here hx rfl (pc0 := 121) (pc' := 127) rfl (hb hby at_121) rfl ((if0 _ _).trans (tlt ((lw_lt _ _).mpr hc121)).1) (by decide) (by decide) k
    have iv_j : 0 ≤ v4.toInt := by first | assumption | exact own_val _ _
    exact b0_127 ⟨hx, hZ, hw, hby, hml, hret, hown, hnm, hlk⟩ h0 n0 v0 v2 v3 v4 v6 b18 v8 b18_k b18_xs X0 e0 N0 Z0 V_b18 ln_b18 g_b18 iv_j _ hr
  · rw [if_neg hc121] at hr
    refine Fin.by (B := T0.setTop (mkF m 124 #[.val (.long v0), .second, .val (.int v2), .val (.int v3), .val (.long v4), .second, .val (.int v6), .val (.ref b18), .val (.int v8), .unset] [])) (fun t k => ?_) ?_
    · show Steps p.tables e below (T0.setTop (mkF m 121 #[.val (.long v0), .second, .val (.int v2), .val (.int v3), .val (.long v4), .second, .val (.int v6), .val (.ref b18), .val (.int v8), .unset] [(.int (lcmpW v4 (268435456 : Int64)))])) _
      exact XS.ifNo X0.here hx rfl (hb hby at_121) rfl ((if0 _ _).trans (flt (fun q => hc121 ((lw_lt _ _).mp q))).1) k
    refine Fin.by (B := T0.setTop (mkF m 127 #[.val (.long v0), .second, .val (.int v2), .val (.int v3), .val (.long v4), .second, .val (.int v6), .val (.ref b18), .val (.int (v8 + (1 : Int32))), .unset] [])) (fun t k => ?_) ?_
    · show Steps p.tables e below (T0.setTop (mkF m 124 #[.val (.long v0), .second, .val (.int v2), .val (.int v3), .val (.long v4), .second, .val (.int v6), .val (.ref b18), .val (.int v8), .unset] [])) _
      refine XS.iinc X0.here hx rfl (hb hby at_124) rfl (l' := #[.val (.long v0), .second, .val (.int v2), .val (.int v3), .val (.long v4), .second, .val (.int v6), .val (.ref b18), .val (.int (v8 + (1 : Int32))), .unset]) rfl ?_
      exact k
    have iv_j : 0 ≤ v4.toInt := by first | assumption | exact own_val _ _
    exact b0_127 ⟨hx, hZ, hw, hby, hml, hret, hown, hnm, hlk⟩ h0 n0 v0 v2 v3 v4 v6 b18 (v8 + (1 : Int32)) b18_k b18_xs X0 e0 N0 Z0 V_b18 ln_b18 g_b18 iv_j _ hr
def f0_103 (v0 : Int64) (v2 : Int32) (v3 : Int32) (v4 : Int64) (v6 : Int32) (v8 : Int32) (b18_xs : List Int32) : Int32 := (if v4 < (2097152 : Int64) then (f0_115 v0 v2 v3 v4 v6 v8 b18_xs) else (f0_115 v0 v2 v3 v4 v6 (v8 + (1 : Int32)) b18_xs))
set_option maxRecDepth 65536 in
set_option maxHeartbeats 40000000 in
theorem b0_103 {p : Program} {l : Launch} {e : Env} {s : State} {m : MethodId} {args : Array Value} {below : List Frame} {meth : Method} {c : Code} {Z : State} {a0 : Array Value} (B : Ctx p Z s a0 m meth c "com/example/search_suggest/searchsuggest/engine/VarintEncodePinLaw" "law" code 10 (some .boolean)) {T0 : State} {locs : List Loc} {h : Heap} (h0 : Heap) (n0 : Nat) (v0 : Int64) (v2 : Int32) (v3 : Int32) (v4 : Int64) (v6 : Int32) (b18 : Addr) (v8 : Int32) (b18_k : ClassId) (b18_xs : List Int32) (X0 : Stand p l e room_1 s m args below meth c T0 locs 1 10) (e0 : T0.heap = h) (N0 : Fr n0 locs) (Z0 : n0 ≤ h.size) (V_b18 : Arv Z h b18 b18_k .byte (10 : Int32) (b18_xs.map Value.int) (.int 0)) (ln_b18 : b18_xs.length = (10 : Int32).toNatClampNeg) (g_b18 : n0 ≤ b18) (iv : 0 ≤ v4.toInt) (r : Int32) (hr : f0_103 v0 v2 v3 v4 v6 v8 b18_xs = r) :
    Fin p e below s 1 10 (Q0 n0 r) (T0.setTop (mkF m 103 #[.val (.long v0), .second, .val (.int v2), .val (.int v3), .val (.long v4), .second, .val (.int v6), .val (.ref b18), .val (.int v8), .unset] [])) := by
  obtain ⟨hx, hZ, hw, hby, hml, hret, hown, hnm, hlk⟩ := B
  unfold f0_103 at hr
  refine Fin.by (B := T0.setTop (mkF m 109 #[.val (.long v0), .second, .val (.int v2), .val (.int v3), .val (.long v4), .second, .val (.int v6), .val (.ref b18), .val (.int v8), .unset] [(.int (lcmpW v4 (2097152 : Int64)))])) (fun t k => ?_) ?_
  · show Steps p.tables e below (T0.setTop (mkF m 103 #[.val (.long v0), .second, .val (.int v2), .val (.int v3), .val (.long v4), .second, .val (.int v6), .val (.ref b18), .val (.int v8), .unset] [])) _
    refine XS.lload X0.here hx rfl (hb hby at_103) rfl  ?_
    show Steps p.tables e below (T0.setTop (mkF m 105 #[.val (.long v0), .second, .val (.int v2), .val (.int v3), .val (.long v4), .second, .val (.int v6), .val (.ref b18), .val (.int v8), .unset] [(.long v4)])) _
    refine X0.ldc2Long hx hown (mvT hZ (hw _ (List.mem_of_getElem? (i := 4) rfl))) (g := (mkF m 105 #[.val (.long v0), .second, .val (.int v2), .val (.int v3), .val (.long v4), .second, .val (.int v6), .val (.ref b18), .val (.int v8), .unset] [(.long v4)])) rfl (hb hby at_105) _ ?_
    show Steps p.tables e below (T0.setTop (mkF m 108 #[.val (.long v0), .second, .val (.int v2), .val (.int v3), .val (.long v4), .second, .val (.int v6), .val (.ref b18), .val (.int v8), .unset] [(.long (2097152 : Int64)), (.long v4)])) _
    refine XS.lcmp X0.here hx rfl (hb hby at_108) rfl ?_
    exact k
  by_cases hc109 : v4 < (2097152 : Int64)
  · rw [if_pos hc109] at hr
    refine Fin.by (B := T0.setTop (mkF m 115 #[.val (.long v0), .second, .val (.int v2), .val (.int v3), .val (.long v4), .second, .val (.int v6), .val (.ref b18), .val (.int v8), .unset] [])) (fun t k => ?_) ?_
    · show Steps p.tables e below (T0.setTop (mkF m 109 #[.val (.long v0), .second, .val (.int v2), .val (.int v3), .val (.long v4), .second, .val (.int v6), .val (.ref b18), .val (.int v8), .unset] [(.int (lcmpW v4 (2097152 : Int64)))])) _
      exact XS.ifYes X0.here hx rfl (pc0 := 109) (pc' := 115) rfl (hb hby at_109) rfl ((if0 _ _).trans (tlt ((lw_lt _ _).mpr hc109)).1) (by decide) (by decide) k
    have iv_j : 0 ≤ v4.toInt := by first | assumption | exact own_val _ _
    exact b0_115 ⟨hx, hZ, hw, hby, hml, hret, hown, hnm, hlk⟩ h0 n0 v0 v2 v3 v4 v6 b18 v8 b18_k b18_xs X0 e0 N0 Z0 V_b18 ln_b18 g_b18 iv_j _ hr
  · rw [if_neg hc109] at hr
    refine Fin.by (B := T0.setTop (mkF m 112 #[.val (.long v0), .second, .val (.int v2), .val (.int v3), .val (.long v4), .second, .val (.int v6), .val (.ref b18), .val (.int v8), .unset] [])) (fun t k => ?_) ?_
    · show Steps p.tables e below (T0.setTop (mkF m 109 #[.val (.long v0), .second, .val (.int v2), .val (.int v3), .val (.long v4), .second, .val (.int v6), .val (.ref b18), .val (.int v8), .unset] [(.int (lcmpW v4 (2097152 : Int64)))])) _
      exact XS.ifNo X0.here hx rfl (hb hby at_109) rfl ((if0 _ _).trans (flt (fun q => hc109 ((lw_lt _ _).mp q))).1) k
    refine Fin.by (B := T0.setTop (mkF m 115 #[.val (.long v0), .second, .val (.int v2), .val (.int v3), .val (.long v4), .second, .val (.int v6), .val (.ref b18), .val (.int (v8 + (1 : Int32))), .unset] [])) (fun t k => ?_) ?_
    · show Steps p.tables e below (T0.setTop (mkF m 112 #[.val (.long v0), .second, .val (.int v2), .val (.int v3), .val (.long v4), .second, .val (.int v6), .val (.ref b18), .val (.int v8), .unset] [])) _
      refine XS.iinc X0.here hx rfl (hb hby at_112) rfl (l' := #[.val (.long v0), .second, .val (.int v2), .val (.int v3), .val (.long v4), .second, .val (.int v6), .val (.ref b18), .val (.int (v8 + (1 : Int32))), .unset]) rfl ?_
      exact k
    have iv_j : 0 ≤ v4.toInt := by first | assumption | exact own_val _ _
    exact b0_115 ⟨hx, hZ, hw, hby, hml, hret, hown, hnm, hlk⟩ h0 n0 v0 v2 v3 v4 v6 b18 (v8 + (1 : Int32)) b18_k b18_xs X0 e0 N0 Z0 V_b18 ln_b18 g_b18 iv_j _ hr
def f0_91 (v0 : Int64) (v2 : Int32) (v3 : Int32) (v4 : Int64) (v6 : Int32) (v8 : Int32) (b18_xs : List Int32) : Int32 := (if v4 < (16384 : Int64) then (f0_103 v0 v2 v3 v4 v6 v8 b18_xs) else (f0_103 v0 v2 v3 v4 v6 (v8 + (1 : Int32)) b18_xs))
set_option maxRecDepth 65536 in
set_option maxHeartbeats 40000000 in
theorem b0_91 {p : Program} {l : Launch} {e : Env} {s : State} {m : MethodId} {args : Array Value} {below : List Frame} {meth : Method} {c : Code} {Z : State} {a0 : Array Value} (B : Ctx p Z s a0 m meth c "com/example/search_suggest/searchsuggest/engine/VarintEncodePinLaw" "law" code 10 (some .boolean)) {T0 : State} {locs : List Loc} {h : Heap} (h0 : Heap) (n0 : Nat) (v0 : Int64) (v2 : Int32) (v3 : Int32) (v4 : Int64) (v6 : Int32) (b18 : Addr) (v8 : Int32) (b18_k : ClassId) (b18_xs : List Int32) (X0 : Stand p l e room_1 s m args below meth c T0 locs 1 10) (e0 : T0.heap = h) (N0 : Fr n0 locs) (Z0 : n0 ≤ h.size) (V_b18 : Arv Z h b18 b18_k .byte (10 : Int32) (b18_xs.map Value.int) (.int 0)) (ln_b18 : b18_xs.length = (10 : Int32).toNatClampNeg) (g_b18 : n0 ≤ b18) (iv : 0 ≤ v4.toInt) (r : Int32) (hr : f0_91 v0 v2 v3 v4 v6 v8 b18_xs = r) :
    Fin p e below s 1 10 (Q0 n0 r) (T0.setTop (mkF m 91 #[.val (.long v0), .second, .val (.int v2), .val (.int v3), .val (.long v4), .second, .val (.int v6), .val (.ref b18), .val (.int v8), .unset] [])) := by
  obtain ⟨hx, hZ, hw, hby, hml, hret, hown, hnm, hlk⟩ := B
  unfold f0_91 at hr
  refine Fin.by (B := T0.setTop (mkF m 97 #[.val (.long v0), .second, .val (.int v2), .val (.int v3), .val (.long v4), .second, .val (.int v6), .val (.ref b18), .val (.int v8), .unset] [(.int (lcmpW v4 (16384 : Int64)))])) (fun t k => ?_) ?_
  · show Steps p.tables e below (T0.setTop (mkF m 91 #[.val (.long v0), .second, .val (.int v2), .val (.int v3), .val (.long v4), .second, .val (.int v6), .val (.ref b18), .val (.int v8), .unset] [])) _
    refine XS.lload X0.here hx rfl (hb hby at_91) rfl  ?_
    show Steps p.tables e below (T0.setTop (mkF m 93 #[.val (.long v0), .second, .val (.int v2), .val (.int v3), .val (.long v4), .second, .val (.int v6), .val (.ref b18), .val (.int v8), .unset] [(.long v4)])) _
    refine X0.ldc2Long hx hown (mvT hZ (hw _ (List.mem_of_getElem? (i := 3) rfl))) (g := (mkF m 93 #[.val (.long v0), .second, .val (.int v2), .val (.int v3), .val (.long v4), .second, .val (.int v6), .val (.ref b18), .val (.int v8), .unset] [(.long v4)])) rfl (hb hby at_93) _ ?_
    show Steps p.tables e below (T0.setTop (mkF m 96 #[.val (.long v0), .second, .val (.int v2), .val (.int v3), .val (.long v4), .second, .val (.int v6), .val (.ref b18), .val (.int v8), .unset] [(.long (16384 : Int64)), (.long v4)])) _
    refine XS.lcmp X0.here hx rfl (hb hby at_96) rfl ?_
    exact k
  by_cases hc97 : v4 < (16384 : Int64)
  · rw [if_pos hc97] at hr
    refine Fin.by (B := T0.setTop (mkF m 103 #[.val (.long v0), .second, .val (.int v2), .val (.int v3), .val (.long v4), .second, .val (.int v6), .val (.ref b18), .val (.int v8), .unset] [])) (fun t k => ?_) ?_
    · show Steps p.tables e below (T0.setTop (mkF m 97 #[.val (.long v0), .second, .val (.int v2), .val (.int v3), .val (.long v4), .second, .val (.int v6), .val (.ref b18), .val (.int v8), .unset] [(.int (lcmpW v4 (16384 : Int64)))])) _
      exact XS.ifYes X0.here hx rfl (pc0 := 97) (pc' := 103) rfl (hb hby at_97) rfl ((if0 _ _).trans (tlt ((lw_lt _ _).mpr hc97)).1) (by decide) (by decide) k
    have iv_j : 0 ≤ v4.toInt := by first | assumption | exact own_val _ _
    exact b0_103 ⟨hx, hZ, hw, hby, hml, hret, hown, hnm, hlk⟩ h0 n0 v0 v2 v3 v4 v6 b18 v8 b18_k b18_xs X0 e0 N0 Z0 V_b18 ln_b18 g_b18 iv_j _ hr
  · rw [if_neg hc97] at hr
    refine Fin.by (B := T0.setTop (mkF m 100 #[.val (.long v0), .second, .val (.int v2), .val (.int v3), .val (.long v4), .second, .val (.int v6), .val (.ref b18), .val (.int v8), .unset] [])) (fun t k => ?_) ?_
    · show Steps p.tables e below (T0.setTop (mkF m 97 #[.val (.long v0), .second, .val (.int v2), .val (.int v3), .val (.long v4), .second, .val (.int v6), .val (.ref b18), .val (.int v8), .unset] [(.int (lcmpW v4 (16384 : Int64)))])) _
      exact XS.ifNo X0.here hx rfl (hb hby at_97) rfl ((if0 _ _).trans (flt (fun q => hc97 ((lw_lt _ _).mp q))).1) k
    refine Fin.by (B := T0.setTop (mkF m 103 #[.val (.long v0), .second, .val (.int v2), .val (.int v3), .val (.long v4), .second, .val (.int v6), .val (.ref b18), .val (.int (v8 + (1 : Int32))), .unset] [])) (fun t k => ?_) ?_
    · show Steps p.tables e below (T0.setTop (mkF m 100 #[.val (.long v0), .second, .val (.int v2), .val (.int v3), .val (.long v4), .second, .val (.int v6), .val (.ref b18), .val (.int v8), .unset] [])) _
      refine XS.iinc X0.here hx rfl (hb hby at_100) rfl (l' := #[.val (.long v0), .second, .val (.int v2), .val (.int v3), .val (.long v4), .second, .val (.int v6), .val (.ref b18), .val (.int (v8 + (1 : Int32))), .unset]) rfl ?_
      exact k
    have iv_j : 0 ≤ v4.toInt := by first | assumption | exact own_val _ _
    exact b0_103 ⟨hx, hZ, hw, hby, hml, hret, hown, hnm, hlk⟩ h0 n0 v0 v2 v3 v4 v6 b18 (v8 + (1 : Int32)) b18_k b18_xs X0 e0 N0 Z0 V_b18 ln_b18 g_b18 iv_j _ hr
def f0_76 (v0 : Int64) (v2 : Int32) (v3 : Int32) (v4 : Int64) (v6 : Int32) (b18_xs : List Int32) : Int32 := (if v4 < (128 : Int64) then (f0_91 v0 v2 v3 v4 v6 (1 : Int32) b18_xs) else (f0_91 v0 v2 v3 v4 v6 ((1 : Int32) + (1 : Int32)) b18_xs))
set_option maxRecDepth 65536 in
set_option maxHeartbeats 40000000 in
theorem b0_76 {p : Program} {l : Launch} {e : Env} {s : State} {m : MethodId} {args : Array Value} {below : List Frame} {meth : Method} {c : Code} {Z : State} {a0 : Array Value} (B : Ctx p Z s a0 m meth c "com/example/search_suggest/searchsuggest/engine/VarintEncodePinLaw" "law" code 10 (some .boolean)) {T0 : State} {locs : List Loc} {h : Heap} (h0 : Heap) (n0 : Nat) (v0 : Int64) (v2 : Int32) (v3 : Int32) (v4 : Int64) (v6 : Int32) (b18 : Addr) (b18_k : ClassId) (b18_xs : List Int32) (X0 : Stand p l e room_1 s m args below meth c T0 locs 1 10) (e0 : T0.heap = h) (N0 : Fr n0 locs) (Z0 : n0 ≤ h.size) (V_b18 : Arv Z h b18 b18_k .byte (10 : Int32) (b18_xs.map Value.int) (.int 0)) (ln_b18 : b18_xs.length = (10 : Int32).toNatClampNeg) (g_b18 : n0 ≤ b18) (iv : 0 ≤ v4.toInt) (r : Int32) (hr : f0_76 v0 v2 v3 v4 v6 b18_xs = r) :
    Fin p e below s 1 10 (Q0 n0 r) (T0.setTop (mkF m 76 #[.val (.long v0), .second, .val (.int v2), .val (.int v3), .val (.long v4), .second, .val (.int v6), .val (.ref b18), .unset, .unset] [])) := by
  obtain ⟨hx, hZ, hw, hby, hml, hret, hown, hnm, hlk⟩ := B
  unfold f0_76 at hr
  refine Fin.by (B := T0.setTop (mkF m 85 #[.val (.long v0), .second, .val (.int v2), .val (.int v3), .val (.long v4), .second, .val (.int v6), .val (.ref b18), .val (.int (1 : Int32)), .unset] [(.int (lcmpW v4 (128 : Int64)))])) (fun t k => ?_) ?_
  · show Steps p.tables e below (T0.setTop (mkF m 76 #[.val (.long v0), .second, .val (.int v2), .val (.int v3), .val (.long v4), .second, .val (.int v6), .val (.ref b18), .unset, .unset] [])) _
    refine XS.iconst X0.here hx rfl (hb hby at_76) ?_
    show Steps p.tables e below (T0.setTop (mkF m 77 #[.val (.long v0), .second, .val (.int v2), .val (.int v3), .val (.long v4), .second, .val (.int v6), .val (.ref b18), .unset, .unset] [(.int (1 : Int32))])) _
    refine XS.istore X0.here hx rfl (hb hby at_77) rfl (l' := #[.val (.long v0), .second, .val (.int v2), .val (.int v3), .val (.long v4), .second, .val (.int v6), .val (.ref b18), .val (.int (1 : Int32)), .unset]) rfl ?_
    show Steps p.tables e below (T0.setTop (mkF m 79 #[.val (.long v0), .second, .val (.int v2), .val (.int v3), .val (.long v4), .second, .val (.int v6), .val (.ref b18), .val (.int (1 : Int32)), .unset] [])) _
    refine XS.lload X0.here hx rfl (hb hby at_79) rfl  ?_
    show Steps p.tables e below (T0.setTop (mkF m 81 #[.val (.long v0), .second, .val (.int v2), .val (.int v3), .val (.long v4), .second, .val (.int v6), .val (.ref b18), .val (.int (1 : Int32)), .unset] [(.long v4)])) _
    refine X0.ldc2Long hx hown (mvT hZ (hw _ (List.mem_of_getElem? (i := 2) rfl))) (g := (mkF m 81 #[.val (.long v0), .second, .val (.int v2), .val (.int v3), .val (.long v4), .second, .val (.int v6), .val (.ref b18), .val (.int (1 : Int32)), .unset] [(.long v4)])) rfl (hb hby at_81) _ ?_
    show Steps p.tables e below (T0.setTop (mkF m 84 #[.val (.long v0), .second, .val (.int v2), .val (.int v3), .val (.long v4), .second, .val (.int v6), .val (.ref b18), .val (.int (1 : Int32)), .unset] [(.long (128 : Int64)), (.long v4)])) _
    refine XS.lcmp X0.here hx rfl (hb hby at_84) rfl ?_
    exact k
  by_cases hc85 : v4 < (128 : Int64)
  · rw [if_pos hc85] at hr
    refine Fin.by (B := T0.setTop (mkF m 91 #[.val (.long v0), .second, .val (.int v2), .val (.int v3), .val (.long v4), .second, .val (.int v6), .val (.ref b18), .val (.int (1 : Int32)), .unset] [])) (fun t k => ?_) ?_
    · show Steps p.tables e below (T0.setTop (mkF m 85 #[.val (.long v0), .second, .val (.int v2), .val (.int v3), .val (.long v4), .second, .val (.int v6), .val (.ref b18), .val (.int (1 : Int32)), .unset] [(.int (lcmpW v4 (128 : Int64)))])) _
      exact XS.ifYes X0.here hx rfl (pc0 := 85) (pc' := 91) rfl (hb hby at_85) rfl ((if0 _ _).trans (tlt ((lw_lt _ _).mpr hc85)).1) (by decide) (by decide) k
    have iv_j : 0 ≤ v4.toInt := by first | assumption | exact own_val _ _
    exact b0_91 ⟨hx, hZ, hw, hby, hml, hret, hown, hnm, hlk⟩ h0 n0 v0 v2 v3 v4 v6 b18 (1 : Int32) b18_k b18_xs X0 e0 N0 Z0 V_b18 ln_b18 g_b18 iv_j _ hr
  · rw [if_neg hc85] at hr
    refine Fin.by (B := T0.setTop (mkF m 88 #[.val (.long v0), .second, .val (.int v2), .val (.int v3), .val (.long v4), .second, .val (.int v6), .val (.ref b18), .val (.int (1 : Int32)), .unset] [])) (fun t k => ?_) ?_
    · show Steps p.tables e below (T0.setTop (mkF m 85 #[.val (.long v0), .second, .val (.int v2), .val (.int v3), .val (.long v4), .second, .val (.int v6), .val (.ref b18), .val (.int (1 : Int32)), .unset] [(.int (lcmpW v4 (128 : Int64)))])) _
      exact XS.ifNo X0.here hx rfl (hb hby at_85) rfl ((if0 _ _).trans (flt (fun q => hc85 ((lw_lt _ _).mp q))).1) k
    refine Fin.by (B := T0.setTop (mkF m 91 #[.val (.long v0), .second, .val (.int v2), .val (.int v3), .val (.long v4), .second, .val (.int v6), .val (.ref b18), .val (.int ((1 : Int32) + (1 : Int32))), .unset] [])) (fun t k => ?_) ?_
    · show Steps p.tables e below (T0.setTop (mkF m 88 #[.val (.long v0), .second, .val (.int v2), .val (.int v3), .val (.long v4), .second, .val (.int v6), .val (.ref b18), .val (.int (1 : Int32)), .unset] [])) _
      refine XS.iinc X0.here hx rfl (hb hby at_88) rfl (l' := #[.val (.long v0), .second, .val (.int v2), .val (.int v3), .val (.long v4), .second, .val (.int v6), .val (.ref b18), .val (.int ((1 : Int32) + (1 : Int32))), .unset]) rfl ?_
      exact k
    have iv_j : 0 ≤ v4.toInt := by first | assumption | exact own_val _ _
    exact b0_91 ⟨hx, hZ, hw, hby, hml, hret, hown, hnm, hlk⟩ h0 n0 v0 v2 v3 v4 v6 b18 ((1 : Int32) + (1 : Int32)) b18_k b18_xs X0 e0 N0 Z0 V_b18 ln_b18 g_b18 iv_j _ hr
def f0_12 (v0 : Int64) (v2 : Int32) (v3 : Int32) (v4 : Int64) : Int32 := (f0_76 v0 v2 v3 v4 (v3.toInt8.toInt32) ([((v3.toInt8.toInt32).toInt8.toInt32), ((v3.toInt8.toInt32).toInt8.toInt32), ((v3.toInt8.toInt32).toInt8.toInt32), ((v3.toInt8.toInt32).toInt8.toInt32), ((v3.toInt8.toInt32).toInt8.toInt32), ((v3.toInt8.toInt32).toInt8.toInt32), ((v3.toInt8.toInt32).toInt8.toInt32), ((v3.toInt8.toInt32).toInt8.toInt32), ((v3.toInt8.toInt32).toInt8.toInt32), ((v3.toInt8.toInt32).toInt8.toInt32)] : List Int32))
set_option maxRecDepth 65536 in
set_option maxHeartbeats 40000000 in
theorem b0_12 {p : Program} {l : Launch} {e : Env} {s : State} {m : MethodId} {args : Array Value} {below : List Frame} {meth : Method} {c : Code} {Z : State} {a0 : Array Value} (B : Ctx p Z s a0 m meth c "com/example/search_suggest/searchsuggest/engine/VarintEncodePinLaw" "law" code 10 (some .boolean)) {T0 : State} {locs : List Loc} {h : Heap} (h0 : Heap) (n0 : Nat) (v0 : Int64) (v2 : Int32) (v3 : Int32) (v4 : Int64) (X0 : Stand p l e room_1 s m args below meth c T0 locs 0 0) (e0 : T0.heap = h) (N0 : Fr n0 locs) (Z0 : n0 ≤ h.size) (iv : 0 ≤ v4.toInt) (r : Int32) (hr : f0_12 v0 v2 v3 v4 = r) :
    Fin p e below s 1 10 (Q0 n0 r) (T0.setTop (mkF m 12 #[.val (.long v0), .second, .val (.int v2), .val (.int v3), .val (.long v4), .second, .unset, .unset, .unset, .unset] [])) := by
  obtain ⟨hx, hZ, hw, hby, hml, hret, hown, hnm, hlk⟩ := B
  unfold f0_12 at hr
  refine Fin.by (B := T0.setTop (mkF m 18 #[.val (.long v0), .second, .val (.int v2), .val (.int v3), .val (.long v4), .second, .val (.int (v3.toInt8.toInt32)), .unset, .unset, .unset] [(.int (10 : Int32))])) (fun t k => ?_) ?_
  · show Steps p.tables e below (T0.setTop (mkF m 12 #[.val (.long v0), .second, .val (.int v2), .val (.int v3), .val (.long v4), .second, .unset, .unset, .unset, .unset] [])) _
    refine XS.iloadN X0.here hx rfl (hb hby at_12) rfl  ?_
    show Steps p.tables e below (T0.setTop (mkF m 13 #[.val (.long v0), .second, .val (.int v2), .val (.int v3), .val (.long v4), .second, .unset, .unset, .unset, .unset] [(.int v3)])) _
    refine XS.i2b X0.here hx rfl (hb hby at_13) rfl ?_
    show Steps p.tables e below (T0.setTop (mkF m 14 #[.val (.long v0), .second, .val (.int v2), .val (.int v3), .val (.long v4), .second, .unset, .unset, .unset, .unset] [(.int (v3.toInt8.toInt32))])) _
    refine XS.istore X0.here hx rfl (hb hby at_14) rfl (l' := #[.val (.long v0), .second, .val (.int v2), .val (.int v3), .val (.long v4), .second, .val (.int (v3.toInt8.toInt32)), .unset, .unset, .unset]) rfl ?_
    show Steps p.tables e below (T0.setTop (mkF m 16 #[.val (.long v0), .second, .val (.int v2), .val (.int v3), .val (.long v4), .second, .val (.int (v3.toInt8.toInt32)), .unset, .unset, .unset] [])) _
    refine XS.bipush X0.here hx rfl (hb hby at_16) ?_
    exact k
  obtain ⟨T1, h1, k1, X1, e1, X1e, A1, st1⟩ := newP X0 hx hZ (hw _ (List.mem_of_getElem? (i := 1) rfl)) e0 (g := (mkF m 18 #[.val (.long v0), .second, .val (.int v2), .val (.int v3), .val (.long v4), .second, .val (.int (v3.toInt8.toInt32)), .unset, .unset, .unset] [(.int (10 : Int32))])) rfl (hb hby at_18) rfl (by decide) (cap := 10) (by decide) (by decide) (by decide) (by decide)
  obtain ⟨b18, g1⟩ : ∃ z, z = h.size := ⟨_, rfl⟩
  rw [← g1] at A1 st1
  have g_b18 : n0 ≤ b18 := Nat.le_trans Z0 (Nat.le_of_eq g1.symm)
  have Z1 : n0 ≤ h1.size := Nat.le_trans Z0 X1e.1
  obtain ⟨V_b18_1, ln_b18_1⟩ : Arv Z h1 b18 k1 .byte (10 : Int32) (([0, 0, 0, 0, 0, 0, 0, 0, 0, 0] : List Int32).map Value.int) (.int 0) ∧ ([0, 0, 0, 0, 0, 0, 0, 0, 0, 0] : List Int32).length = (10 : Int32).toNatClampNeg := own_newI A1 rfl (by decide) (xs := ([0, 0, 0, 0, 0, 0, 0, 0, 0, 0] : List Int32)) (by decide)
  refine Fin.by (B := T1.setTop (mkF m 20 #[.val (.long v0), .second, .val (.int v2), .val (.int v3), .val (.long v4), .second, .val (.int (v3.toInt8.toInt32)), .unset, .unset, .unset] [(.ref b18)])) (fun t k => st1 t k) ?_
  refine Fin.by (B := T1.setTop (mkF m 24 #[.val (.long v0), .second, .val (.int v2), .val (.int v3), .val (.long v4), .second, .val (.int (v3.toInt8.toInt32)), .unset, .unset, .unset] [(.int (v3.toInt8.toInt32)), (.int (0 : Int32)), (.ref b18), (.ref b18)])) (fun t k => ?_) ?_
  · show Steps p.tables e below (T1.setTop (mkF m 20 #[.val (.long v0), .second, .val (.int v2), .val (.int v3), .val (.long v4), .second, .val (.int (v3.toInt8.toInt32)), .unset, .unset, .unset] [(.ref b18)])) _
    refine XS.dup X1.here hx rfl (hb hby at_20) rfl rfl ?_
    show Steps p.tables e below (T1.setTop (mkF m 21 #[.val (.long v0), .second, .val (.int v2), .val (.int v3), .val (.long v4), .second, .val (.int (v3.toInt8.toInt32)), .unset, .unset, .unset] [(.ref b18), (.ref b18)])) _
    refine XS.iconst X1.here hx rfl (hb hby at_21) ?_
    show Steps p.tables e below (T1.setTop (mkF m 22 #[.val (.long v0), .second, .val (.int v2), .val (.int v3), .val (.long v4), .second, .val (.int (v3.toInt8.toInt32)), .unset, .unset, .unset] [(.int (0 : Int32)), (.ref b18), (.ref b18)])) _
    refine XS.iload X1.here hx rfl (hb hby at_22) rfl  ?_
    exact k
  have hin2 : ¬ ((0 : Int32) < 0) ∧ (0 : Int32) < (10 : Int32) := by decide
  obtain ⟨cl2, Ar2, hi2, q2⟩ := own_open V_b18_1 hin2
  obtain ⟨T2, h2, X2, e2, W2, st2⟩ := stB X1 hx hZ e1 Ar2 (j := (0 : Int32)) hi2 (g := (mkF m 24 #[.val (.long v0), .second, .val (.int v2), .val (.int v3), .val (.long v4), .second, .val (.int (v3.toInt8.toInt32)), .unset, .unset, .unset] [(.int (v3.toInt8.toInt32)), (.int (0 : Int32)), (.ref b18), (.ref b18)])) rfl rfl (hb hby at_24)
  obtain ⟨V_b18_2, ln_b18_2⟩ : Arv Z h2 b18 k1 .byte (10 : Int32) (([((v3.toInt8.toInt32).toInt8.toInt32), 0, 0, 0, 0, 0, 0, 0, 0, 0] : List Int32).map Value.int) (.int 0) ∧ ([((v3.toInt8.toInt32).toInt8.toInt32), 0, 0, 0, 0, 0, 0, 0, 0, 0] : List Int32).length = (10 : Int32).toNatClampNeg := own_setI V_b18_1 ln_b18_1 hin2 W2 (fits_nar_byte _) 0 (by decide)
  have N2 := Fr.snoc X2 N0 g_b18
  have Z2 : n0 ≤ h2.size := Nat.le_trans Z1 (Nat.le_of_eq W2.size.symm)
  refine Fin.by (B := T2.setTop (mkF m 25 #[.val (.long v0), .second, .val (.int v2), .val (.int v3), .val (.long v4), .second, .val (.int (v3.toInt8.toInt32)), .unset, .unset, .unset] [(.ref b18)])) (fun t k => st2 t k) ?_
  refine Fin.by (B := T2.setTop (mkF m 29 #[.val (.long v0), .second, .val (.int v2), .val (.int v3), .val (.long v4), .second, .val (.int (v3.toInt8.toInt32)), .unset, .unset, .unset] [(.int (v3.toInt8.toInt32)), (.int (1 : Int32)), (.ref b18), (.ref b18)])) (fun t k => ?_) ?_
  · show Steps p.tables e below (T2.setTop (mkF m 25 #[.val (.long v0), .second, .val (.int v2), .val (.int v3), .val (.long v4), .second, .val (.int (v3.toInt8.toInt32)), .unset, .unset, .unset] [(.ref b18)])) _
    refine XS.dup X2.here hx rfl (hb hby at_25) rfl rfl ?_
    show Steps p.tables e below (T2.setTop (mkF m 26 #[.val (.long v0), .second, .val (.int v2), .val (.int v3), .val (.long v4), .second, .val (.int (v3.toInt8.toInt32)), .unset, .unset, .unset] [(.ref b18), (.ref b18)])) _
    refine XS.iconst X2.here hx rfl (hb hby at_26) ?_
    show Steps p.tables e below (T2.setTop (mkF m 27 #[.val (.long v0), .second, .val (.int v2), .val (.int v3), .val (.long v4), .second, .val (.int (v3.toInt8.toInt32)), .unset, .unset, .unset] [(.int (1 : Int32)), (.ref b18), (.ref b18)])) _
    refine XS.iload X2.here hx rfl (hb hby at_27) rfl  ?_
    exact k
  have hin3 : ¬ ((1 : Int32) < 0) ∧ (1 : Int32) < (10 : Int32) := by decide
  obtain ⟨cl3, Ar3, hi3, q3⟩ := own_open V_b18_2 hin3
  obtain ⟨T3, h3, X3, e3, W3, st3⟩ := stB X2 hx hZ e2 Ar3 (j := (1 : Int32)) hi3 (g := (mkF m 29 #[.val (.long v0), .second, .val (.int v2), .val (.int v3), .val (.long v4), .second, .val (.int (v3.toInt8.toInt32)), .unset, .unset, .unset] [(.int (v3.toInt8.toInt32)), (.int (1 : Int32)), (.ref b18), (.ref b18)])) rfl rfl (hb hby at_29)
  obtain ⟨V_b18_3, ln_b18_3⟩ : Arv Z h3 b18 k1 .byte (10 : Int32) (([((v3.toInt8.toInt32).toInt8.toInt32), ((v3.toInt8.toInt32).toInt8.toInt32), 0, 0, 0, 0, 0, 0, 0, 0] : List Int32).map Value.int) (.int 0) ∧ ([((v3.toInt8.toInt32).toInt8.toInt32), ((v3.toInt8.toInt32).toInt8.toInt32), 0, 0, 0, 0, 0, 0, 0, 0] : List Int32).length = (10 : Int32).toNatClampNeg := own_setI V_b18_2 ln_b18_2 hin3 W3 (fits_nar_byte _) 1 (by decide)
  have N3 := Fr.snoc X3 N2 g_b18
  have Z3 : n0 ≤ h3.size := Nat.le_trans Z2 (Nat.le_of_eq W3.size.symm)
  refine Fin.by (B := T3.setTop (mkF m 30 #[.val (.long v0), .second, .val (.int v2), .val (.int v3), .val (.long v4), .second, .val (.int (v3.toInt8.toInt32)), .unset, .unset, .unset] [(.ref b18)])) (fun t k => st3 t k) ?_
  refine Fin.by (B := T3.setTop (mkF m 34 #[.val (.long v0), .second, .val (.int v2), .val (.int v3), .val (.long v4), .second, .val (.int (v3.toInt8.toInt32)), .unset, .unset, .unset] [(.int (v3.toInt8.toInt32)), (.int (2 : Int32)), (.ref b18), (.ref b18)])) (fun t k => ?_) ?_
  · show Steps p.tables e below (T3.setTop (mkF m 30 #[.val (.long v0), .second, .val (.int v2), .val (.int v3), .val (.long v4), .second, .val (.int (v3.toInt8.toInt32)), .unset, .unset, .unset] [(.ref b18)])) _
    refine XS.dup X3.here hx rfl (hb hby at_30) rfl rfl ?_
    show Steps p.tables e below (T3.setTop (mkF m 31 #[.val (.long v0), .second, .val (.int v2), .val (.int v3), .val (.long v4), .second, .val (.int (v3.toInt8.toInt32)), .unset, .unset, .unset] [(.ref b18), (.ref b18)])) _
    refine XS.iconst X3.here hx rfl (hb hby at_31) ?_
    show Steps p.tables e below (T3.setTop (mkF m 32 #[.val (.long v0), .second, .val (.int v2), .val (.int v3), .val (.long v4), .second, .val (.int (v3.toInt8.toInt32)), .unset, .unset, .unset] [(.int (2 : Int32)), (.ref b18), (.ref b18)])) _
    refine XS.iload X3.here hx rfl (hb hby at_32) rfl  ?_
    exact k
  have hin4 : ¬ ((2 : Int32) < 0) ∧ (2 : Int32) < (10 : Int32) := by decide
  obtain ⟨cl4, Ar4, hi4, q4⟩ := own_open V_b18_3 hin4
  obtain ⟨T4, h4, X4, e4, W4, st4⟩ := stB X3 hx hZ e3 Ar4 (j := (2 : Int32)) hi4 (g := (mkF m 34 #[.val (.long v0), .second, .val (.int v2), .val (.int v3), .val (.long v4), .second, .val (.int (v3.toInt8.toInt32)), .unset, .unset, .unset] [(.int (v3.toInt8.toInt32)), (.int (2 : Int32)), (.ref b18), (.ref b18)])) rfl rfl (hb hby at_34)
  obtain ⟨V_b18_4, ln_b18_4⟩ : Arv Z h4 b18 k1 .byte (10 : Int32) (([((v3.toInt8.toInt32).toInt8.toInt32), ((v3.toInt8.toInt32).toInt8.toInt32), ((v3.toInt8.toInt32).toInt8.toInt32), 0, 0, 0, 0, 0, 0, 0] : List Int32).map Value.int) (.int 0) ∧ ([((v3.toInt8.toInt32).toInt8.toInt32), ((v3.toInt8.toInt32).toInt8.toInt32), ((v3.toInt8.toInt32).toInt8.toInt32), 0, 0, 0, 0, 0, 0, 0] : List Int32).length = (10 : Int32).toNatClampNeg := own_setI V_b18_3 ln_b18_3 hin4 W4 (fits_nar_byte _) 2 (by decide)
  have N4 := Fr.snoc X4 N3 g_b18
  have Z4 : n0 ≤ h4.size := Nat.le_trans Z3 (Nat.le_of_eq W4.size.symm)
  refine Fin.by (B := T4.setTop (mkF m 35 #[.val (.long v0), .second, .val (.int v2), .val (.int v3), .val (.long v4), .second, .val (.int (v3.toInt8.toInt32)), .unset, .unset, .unset] [(.ref b18)])) (fun t k => st4 t k) ?_
  refine Fin.by (B := T4.setTop (mkF m 39 #[.val (.long v0), .second, .val (.int v2), .val (.int v3), .val (.long v4), .second, .val (.int (v3.toInt8.toInt32)), .unset, .unset, .unset] [(.int (v3.toInt8.toInt32)), (.int (3 : Int32)), (.ref b18), (.ref b18)])) (fun t k => ?_) ?_
  · show Steps p.tables e below (T4.setTop (mkF m 35 #[.val (.long v0), .second, .val (.int v2), .val (.int v3), .val (.long v4), .second, .val (.int (v3.toInt8.toInt32)), .unset, .unset, .unset] [(.ref b18)])) _
    refine XS.dup X4.here hx rfl (hb hby at_35) rfl rfl ?_
    show Steps p.tables e below (T4.setTop (mkF m 36 #[.val (.long v0), .second, .val (.int v2), .val (.int v3), .val (.long v4), .second, .val (.int (v3.toInt8.toInt32)), .unset, .unset, .unset] [(.ref b18), (.ref b18)])) _
    refine XS.iconst X4.here hx rfl (hb hby at_36) ?_
    show Steps p.tables e below (T4.setTop (mkF m 37 #[.val (.long v0), .second, .val (.int v2), .val (.int v3), .val (.long v4), .second, .val (.int (v3.toInt8.toInt32)), .unset, .unset, .unset] [(.int (3 : Int32)), (.ref b18), (.ref b18)])) _
    refine XS.iload X4.here hx rfl (hb hby at_37) rfl  ?_
    exact k
  have hin5 : ¬ ((3 : Int32) < 0) ∧ (3 : Int32) < (10 : Int32) := by decide
  obtain ⟨cl5, Ar5, hi5, q5⟩ := own_open V_b18_4 hin5
  obtain ⟨T5, h5, X5, e5, W5, st5⟩ := stB X4 hx hZ e4 Ar5 (j := (3 : Int32)) hi5 (g := (mkF m 39 #[.val (.long v0), .second, .val (.int v2), .val (.int v3), .val (.long v4), .second, .val (.int (v3.toInt8.toInt32)), .unset, .unset, .unset] [(.int (v3.toInt8.toInt32)), (.int (3 : Int32)), (.ref b18), (.ref b18)])) rfl rfl (hb hby at_39)
  obtain ⟨V_b18_5, ln_b18_5⟩ : Arv Z h5 b18 k1 .byte (10 : Int32) (([((v3.toInt8.toInt32).toInt8.toInt32), ((v3.toInt8.toInt32).toInt8.toInt32), ((v3.toInt8.toInt32).toInt8.toInt32), ((v3.toInt8.toInt32).toInt8.toInt32), 0, 0, 0, 0, 0, 0] : List Int32).map Value.int) (.int 0) ∧ ([((v3.toInt8.toInt32).toInt8.toInt32), ((v3.toInt8.toInt32).toInt8.toInt32), ((v3.toInt8.toInt32).toInt8.toInt32), ((v3.toInt8.toInt32).toInt8.toInt32), 0, 0, 0, 0, 0, 0] : List Int32).length = (10 : Int32).toNatClampNeg := own_setI V_b18_4 ln_b18_4 hin5 W5 (fits_nar_byte _) 3 (by decide)
  have N5 := Fr.snoc X5 N4 g_b18
  have Z5 : n0 ≤ h5.size := Nat.le_trans Z4 (Nat.le_of_eq W5.size.symm)
  refine Fin.by (B := T5.setTop (mkF m 40 #[.val (.long v0), .second, .val (.int v2), .val (.int v3), .val (.long v4), .second, .val (.int (v3.toInt8.toInt32)), .unset, .unset, .unset] [(.ref b18)])) (fun t k => st5 t k) ?_
  refine Fin.by (B := T5.setTop (mkF m 44 #[.val (.long v0), .second, .val (.int v2), .val (.int v3), .val (.long v4), .second, .val (.int (v3.toInt8.toInt32)), .unset, .unset, .unset] [(.int (v3.toInt8.toInt32)), (.int (4 : Int32)), (.ref b18), (.ref b18)])) (fun t k => ?_) ?_
  · show Steps p.tables e below (T5.setTop (mkF m 40 #[.val (.long v0), .second, .val (.int v2), .val (.int v3), .val (.long v4), .second, .val (.int (v3.toInt8.toInt32)), .unset, .unset, .unset] [(.ref b18)])) _
    refine XS.dup X5.here hx rfl (hb hby at_40) rfl rfl ?_
    show Steps p.tables e below (T5.setTop (mkF m 41 #[.val (.long v0), .second, .val (.int v2), .val (.int v3), .val (.long v4), .second, .val (.int (v3.toInt8.toInt32)), .unset, .unset, .unset] [(.ref b18), (.ref b18)])) _
    refine XS.iconst X5.here hx rfl (hb hby at_41) ?_
    show Steps p.tables e below (T5.setTop (mkF m 42 #[.val (.long v0), .second, .val (.int v2), .val (.int v3), .val (.long v4), .second, .val (.int (v3.toInt8.toInt32)), .unset, .unset, .unset] [(.int (4 : Int32)), (.ref b18), (.ref b18)])) _
    refine XS.iload X5.here hx rfl (hb hby at_42) rfl  ?_
    exact k
  have hin6 : ¬ ((4 : Int32) < 0) ∧ (4 : Int32) < (10 : Int32) := by decide
  obtain ⟨cl6, Ar6, hi6, q6⟩ := own_open V_b18_5 hin6
  obtain ⟨T6, h6, X6, e6, W6, st6⟩ := stB X5 hx hZ e5 Ar6 (j := (4 : Int32)) hi6 (g := (mkF m 44 #[.val (.long v0), .second, .val (.int v2), .val (.int v3), .val (.long v4), .second, .val (.int (v3.toInt8.toInt32)), .unset, .unset, .unset] [(.int (v3.toInt8.toInt32)), (.int (4 : Int32)), (.ref b18), (.ref b18)])) rfl rfl (hb hby at_44)
  obtain ⟨V_b18_6, ln_b18_6⟩ : Arv Z h6 b18 k1 .byte (10 : Int32) (([((v3.toInt8.toInt32).toInt8.toInt32), ((v3.toInt8.toInt32).toInt8.toInt32), ((v3.toInt8.toInt32).toInt8.toInt32), ((v3.toInt8.toInt32).toInt8.toInt32), ((v3.toInt8.toInt32).toInt8.toInt32), 0, 0, 0, 0, 0] : List Int32).map Value.int) (.int 0) ∧ ([((v3.toInt8.toInt32).toInt8.toInt32), ((v3.toInt8.toInt32).toInt8.toInt32), ((v3.toInt8.toInt32).toInt8.toInt32), ((v3.toInt8.toInt32).toInt8.toInt32), ((v3.toInt8.toInt32).toInt8.toInt32), 0, 0, 0, 0, 0] : List Int32).length = (10 : Int32).toNatClampNeg := own_setI V_b18_5 ln_b18_5 hin6 W6 (fits_nar_byte _) 4 (by decide)
  have N6 := Fr.snoc X6 N5 g_b18
  have Z6 : n0 ≤ h6.size := Nat.le_trans Z5 (Nat.le_of_eq W6.size.symm)
  refine Fin.by (B := T6.setTop (mkF m 45 #[.val (.long v0), .second, .val (.int v2), .val (.int v3), .val (.long v4), .second, .val (.int (v3.toInt8.toInt32)), .unset, .unset, .unset] [(.ref b18)])) (fun t k => st6 t k) ?_
  refine Fin.by (B := T6.setTop (mkF m 49 #[.val (.long v0), .second, .val (.int v2), .val (.int v3), .val (.long v4), .second, .val (.int (v3.toInt8.toInt32)), .unset, .unset, .unset] [(.int (v3.toInt8.toInt32)), (.int (5 : Int32)), (.ref b18), (.ref b18)])) (fun t k => ?_) ?_
  · show Steps p.tables e below (T6.setTop (mkF m 45 #[.val (.long v0), .second, .val (.int v2), .val (.int v3), .val (.long v4), .second, .val (.int (v3.toInt8.toInt32)), .unset, .unset, .unset] [(.ref b18)])) _
    refine XS.dup X6.here hx rfl (hb hby at_45) rfl rfl ?_
    show Steps p.tables e below (T6.setTop (mkF m 46 #[.val (.long v0), .second, .val (.int v2), .val (.int v3), .val (.long v4), .second, .val (.int (v3.toInt8.toInt32)), .unset, .unset, .unset] [(.ref b18), (.ref b18)])) _
    refine XS.iconst X6.here hx rfl (hb hby at_46) ?_
    show Steps p.tables e below (T6.setTop (mkF m 47 #[.val (.long v0), .second, .val (.int v2), .val (.int v3), .val (.long v4), .second, .val (.int (v3.toInt8.toInt32)), .unset, .unset, .unset] [(.int (5 : Int32)), (.ref b18), (.ref b18)])) _
    refine XS.iload X6.here hx rfl (hb hby at_47) rfl  ?_
    exact k
  have hin7 : ¬ ((5 : Int32) < 0) ∧ (5 : Int32) < (10 : Int32) := by decide
  obtain ⟨cl7, Ar7, hi7, q7⟩ := own_open V_b18_6 hin7
  obtain ⟨T7, h7, X7, e7, W7, st7⟩ := stB X6 hx hZ e6 Ar7 (j := (5 : Int32)) hi7 (g := (mkF m 49 #[.val (.long v0), .second, .val (.int v2), .val (.int v3), .val (.long v4), .second, .val (.int (v3.toInt8.toInt32)), .unset, .unset, .unset] [(.int (v3.toInt8.toInt32)), (.int (5 : Int32)), (.ref b18), (.ref b18)])) rfl rfl (hb hby at_49)
  obtain ⟨V_b18_7, ln_b18_7⟩ : Arv Z h7 b18 k1 .byte (10 : Int32) (([((v3.toInt8.toInt32).toInt8.toInt32), ((v3.toInt8.toInt32).toInt8.toInt32), ((v3.toInt8.toInt32).toInt8.toInt32), ((v3.toInt8.toInt32).toInt8.toInt32), ((v3.toInt8.toInt32).toInt8.toInt32), ((v3.toInt8.toInt32).toInt8.toInt32), 0, 0, 0, 0] : List Int32).map Value.int) (.int 0) ∧ ([((v3.toInt8.toInt32).toInt8.toInt32), ((v3.toInt8.toInt32).toInt8.toInt32), ((v3.toInt8.toInt32).toInt8.toInt32), ((v3.toInt8.toInt32).toInt8.toInt32), ((v3.toInt8.toInt32).toInt8.toInt32), ((v3.toInt8.toInt32).toInt8.toInt32), 0, 0, 0, 0] : List Int32).length = (10 : Int32).toNatClampNeg := own_setI V_b18_6 ln_b18_6 hin7 W7 (fits_nar_byte _) 5 (by decide)
  have N7 := Fr.snoc X7 N6 g_b18
  have Z7 : n0 ≤ h7.size := Nat.le_trans Z6 (Nat.le_of_eq W7.size.symm)
  refine Fin.by (B := T7.setTop (mkF m 50 #[.val (.long v0), .second, .val (.int v2), .val (.int v3), .val (.long v4), .second, .val (.int (v3.toInt8.toInt32)), .unset, .unset, .unset] [(.ref b18)])) (fun t k => st7 t k) ?_
  refine Fin.by (B := T7.setTop (mkF m 55 #[.val (.long v0), .second, .val (.int v2), .val (.int v3), .val (.long v4), .second, .val (.int (v3.toInt8.toInt32)), .unset, .unset, .unset] [(.int (v3.toInt8.toInt32)), (.int (6 : Int32)), (.ref b18), (.ref b18)])) (fun t k => ?_) ?_
  · show Steps p.tables e below (T7.setTop (mkF m 50 #[.val (.long v0), .second, .val (.int v2), .val (.int v3), .val (.long v4), .second, .val (.int (v3.toInt8.toInt32)), .unset, .unset, .unset] [(.ref b18)])) _
    refine XS.dup X7.here hx rfl (hb hby at_50) rfl rfl ?_
    show Steps p.tables e below (T7.setTop (mkF m 51 #[.val (.long v0), .second, .val (.int v2), .val (.int v3), .val (.long v4), .second, .val (.int (v3.toInt8.toInt32)), .unset, .unset, .unset] [(.ref b18), (.ref b18)])) _
    refine XS.bipush X7.here hx rfl (hb hby at_51) ?_
    show Steps p.tables e below (T7.setTop (mkF m 53 #[.val (.long v0), .second, .val (.int v2), .val (.int v3), .val (.long v4), .second, .val (.int (v3.toInt8.toInt32)), .unset, .unset, .unset] [(.int (6 : Int32)), (.ref b18), (.ref b18)])) _
    refine XS.iload X7.here hx rfl (hb hby at_53) rfl  ?_
    exact k
  have hin8 : ¬ ((6 : Int32) < 0) ∧ (6 : Int32) < (10 : Int32) := by decide
  obtain ⟨cl8, Ar8, hi8, q8⟩ := own_open V_b18_7 hin8
  obtain ⟨T8, h8, X8, e8, W8, st8⟩ := stB X7 hx hZ e7 Ar8 (j := (6 : Int32)) hi8 (g := (mkF m 55 #[.val (.long v0), .second, .val (.int v2), .val (.int v3), .val (.long v4), .second, .val (.int (v3.toInt8.toInt32)), .unset, .unset, .unset] [(.int (v3.toInt8.toInt32)), (.int (6 : Int32)), (.ref b18), (.ref b18)])) rfl rfl (hb hby at_55)
  obtain ⟨V_b18_8, ln_b18_8⟩ : Arv Z h8 b18 k1 .byte (10 : Int32) (([((v3.toInt8.toInt32).toInt8.toInt32), ((v3.toInt8.toInt32).toInt8.toInt32), ((v3.toInt8.toInt32).toInt8.toInt32), ((v3.toInt8.toInt32).toInt8.toInt32), ((v3.toInt8.toInt32).toInt8.toInt32), ((v3.toInt8.toInt32).toInt8.toInt32), ((v3.toInt8.toInt32).toInt8.toInt32), 0, 0, 0] : List Int32).map Value.int) (.int 0) ∧ ([((v3.toInt8.toInt32).toInt8.toInt32), ((v3.toInt8.toInt32).toInt8.toInt32), ((v3.toInt8.toInt32).toInt8.toInt32), ((v3.toInt8.toInt32).toInt8.toInt32), ((v3.toInt8.toInt32).toInt8.toInt32), ((v3.toInt8.toInt32).toInt8.toInt32), ((v3.toInt8.toInt32).toInt8.toInt32), 0, 0, 0] : List Int32).length = (10 : Int32).toNatClampNeg := own_setI V_b18_7 ln_b18_7 hin8 W8 (fits_nar_byte _) 6 (by decide)
  have N8 := Fr.snoc X8 N7 g_b18
  have Z8 : n0 ≤ h8.size := Nat.le_trans Z7 (Nat.le_of_eq W8.size.symm)
  refine Fin.by (B := T8.setTop (mkF m 56 #[.val (.long v0), .second, .val (.int v2), .val (.int v3), .val (.long v4), .second, .val (.int (v3.toInt8.toInt32)), .unset, .unset, .unset] [(.ref b18)])) (fun t k => st8 t k) ?_
  refine Fin.by (B := T8.setTop (mkF m 61 #[.val (.long v0), .second, .val (.int v2), .val (.int v3), .val (.long v4), .second, .val (.int (v3.toInt8.toInt32)), .unset, .unset, .unset] [(.int (v3.toInt8.toInt32)), (.int (7 : Int32)), (.ref b18), (.ref b18)])) (fun t k => ?_) ?_
  · show Steps p.tables e below (T8.setTop (mkF m 56 #[.val (.long v0), .second, .val (.int v2), .val (.int v3), .val (.long v4), .second, .val (.int (v3.toInt8.toInt32)), .unset, .unset, .unset] [(.ref b18)])) _
    refine XS.dup X8.here hx rfl (hb hby at_56) rfl rfl ?_
    show Steps p.tables e below (T8.setTop (mkF m 57 #[.val (.long v0), .second, .val (.int v2), .val (.int v3), .val (.long v4), .second, .val (.int (v3.toInt8.toInt32)), .unset, .unset, .unset] [(.ref b18), (.ref b18)])) _
    refine XS.bipush X8.here hx rfl (hb hby at_57) ?_
    show Steps p.tables e below (T8.setTop (mkF m 59 #[.val (.long v0), .second, .val (.int v2), .val (.int v3), .val (.long v4), .second, .val (.int (v3.toInt8.toInt32)), .unset, .unset, .unset] [(.int (7 : Int32)), (.ref b18), (.ref b18)])) _
    refine XS.iload X8.here hx rfl (hb hby at_59) rfl  ?_
    exact k
  have hin9 : ¬ ((7 : Int32) < 0) ∧ (7 : Int32) < (10 : Int32) := by decide
  obtain ⟨cl9, Ar9, hi9, q9⟩ := own_open V_b18_8 hin9
  obtain ⟨T9, h9, X9, e9, W9, st9⟩ := stB X8 hx hZ e8 Ar9 (j := (7 : Int32)) hi9 (g := (mkF m 61 #[.val (.long v0), .second, .val (.int v2), .val (.int v3), .val (.long v4), .second, .val (.int (v3.toInt8.toInt32)), .unset, .unset, .unset] [(.int (v3.toInt8.toInt32)), (.int (7 : Int32)), (.ref b18), (.ref b18)])) rfl rfl (hb hby at_61)
  obtain ⟨V_b18_9, ln_b18_9⟩ : Arv Z h9 b18 k1 .byte (10 : Int32) (([((v3.toInt8.toInt32).toInt8.toInt32), ((v3.toInt8.toInt32).toInt8.toInt32), ((v3.toInt8.toInt32).toInt8.toInt32), ((v3.toInt8.toInt32).toInt8.toInt32), ((v3.toInt8.toInt32).toInt8.toInt32), ((v3.toInt8.toInt32).toInt8.toInt32), ((v3.toInt8.toInt32).toInt8.toInt32), ((v3.toInt8.toInt32).toInt8.toInt32), 0, 0] : List Int32).map Value.int) (.int 0) ∧ ([((v3.toInt8.toInt32).toInt8.toInt32), ((v3.toInt8.toInt32).toInt8.toInt32), ((v3.toInt8.toInt32).toInt8.toInt32), ((v3.toInt8.toInt32).toInt8.toInt32), ((v3.toInt8.toInt32).toInt8.toInt32), ((v3.toInt8.toInt32).toInt8.toInt32), ((v3.toInt8.toInt32).toInt8.toInt32), ((v3.toInt8.toInt32).toInt8.toInt32), 0, 0] : List Int32).length = (10 : Int32).toNatClampNeg := own_setI V_b18_8 ln_b18_8 hin9 W9 (fits_nar_byte _) 7 (by decide)
  have N9 := Fr.snoc X9 N8 g_b18
  have Z9 : n0 ≤ h9.size := Nat.le_trans Z8 (Nat.le_of_eq W9.size.symm)
  refine Fin.by (B := T9.setTop (mkF m 62 #[.val (.long v0), .second, .val (.int v2), .val (.int v3), .val (.long v4), .second, .val (.int (v3.toInt8.toInt32)), .unset, .unset, .unset] [(.ref b18)])) (fun t k => st9 t k) ?_
  refine Fin.by (B := T9.setTop (mkF m 67 #[.val (.long v0), .second, .val (.int v2), .val (.int v3), .val (.long v4), .second, .val (.int (v3.toInt8.toInt32)), .unset, .unset, .unset] [(.int (v3.toInt8.toInt32)), (.int (8 : Int32)), (.ref b18), (.ref b18)])) (fun t k => ?_) ?_
  · show Steps p.tables e below (T9.setTop (mkF m 62 #[.val (.long v0), .second, .val (.int v2), .val (.int v3), .val (.long v4), .second, .val (.int (v3.toInt8.toInt32)), .unset, .unset, .unset] [(.ref b18)])) _
    refine XS.dup X9.here hx rfl (hb hby at_62) rfl rfl ?_
    show Steps p.tables e below (T9.setTop (mkF m 63 #[.val (.long v0), .second, .val (.int v2), .val (.int v3), .val (.long v4), .second, .val (.int (v3.toInt8.toInt32)), .unset, .unset, .unset] [(.ref b18), (.ref b18)])) _
    refine XS.bipush X9.here hx rfl (hb hby at_63) ?_
    show Steps p.tables e below (T9.setTop (mkF m 65 #[.val (.long v0), .second, .val (.int v2), .val (.int v3), .val (.long v4), .second, .val (.int (v3.toInt8.toInt32)), .unset, .unset, .unset] [(.int (8 : Int32)), (.ref b18), (.ref b18)])) _
    refine XS.iload X9.here hx rfl (hb hby at_65) rfl  ?_
    exact k
  have hin10 : ¬ ((8 : Int32) < 0) ∧ (8 : Int32) < (10 : Int32) := by decide
  obtain ⟨cl10, Ar10, hi10, q10⟩ := own_open V_b18_9 hin10
  obtain ⟨T10, h10, X10, e10, W10, st10⟩ := stB X9 hx hZ e9 Ar10 (j := (8 : Int32)) hi10 (g := (mkF m 67 #[.val (.long v0), .second, .val (.int v2), .val (.int v3), .val (.long v4), .second, .val (.int (v3.toInt8.toInt32)), .unset, .unset, .unset] [(.int (v3.toInt8.toInt32)), (.int (8 : Int32)), (.ref b18), (.ref b18)])) rfl rfl (hb hby at_67)
  obtain ⟨V_b18_10, ln_b18_10⟩ : Arv Z h10 b18 k1 .byte (10 : Int32) (([((v3.toInt8.toInt32).toInt8.toInt32), ((v3.toInt8.toInt32).toInt8.toInt32), ((v3.toInt8.toInt32).toInt8.toInt32), ((v3.toInt8.toInt32).toInt8.toInt32), ((v3.toInt8.toInt32).toInt8.toInt32), ((v3.toInt8.toInt32).toInt8.toInt32), ((v3.toInt8.toInt32).toInt8.toInt32), ((v3.toInt8.toInt32).toInt8.toInt32), ((v3.toInt8.toInt32).toInt8.toInt32), 0] : List Int32).map Value.int) (.int 0) ∧ ([((v3.toInt8.toInt32).toInt8.toInt32), ((v3.toInt8.toInt32).toInt8.toInt32), ((v3.toInt8.toInt32).toInt8.toInt32), ((v3.toInt8.toInt32).toInt8.toInt32), ((v3.toInt8.toInt32).toInt8.toInt32), ((v3.toInt8.toInt32).toInt8.toInt32), ((v3.toInt8.toInt32).toInt8.toInt32), ((v3.toInt8.toInt32).toInt8.toInt32), ((v3.toInt8.toInt32).toInt8.toInt32), 0] : List Int32).length = (10 : Int32).toNatClampNeg := own_setI V_b18_9 ln_b18_9 hin10 W10 (fits_nar_byte _) 8 (by decide)
  have N10 := Fr.snoc X10 N9 g_b18
  have Z10 : n0 ≤ h10.size := Nat.le_trans Z9 (Nat.le_of_eq W10.size.symm)
  refine Fin.by (B := T10.setTop (mkF m 68 #[.val (.long v0), .second, .val (.int v2), .val (.int v3), .val (.long v4), .second, .val (.int (v3.toInt8.toInt32)), .unset, .unset, .unset] [(.ref b18)])) (fun t k => st10 t k) ?_
  refine Fin.by (B := T10.setTop (mkF m 73 #[.val (.long v0), .second, .val (.int v2), .val (.int v3), .val (.long v4), .second, .val (.int (v3.toInt8.toInt32)), .unset, .unset, .unset] [(.int (v3.toInt8.toInt32)), (.int (9 : Int32)), (.ref b18), (.ref b18)])) (fun t k => ?_) ?_
  · show Steps p.tables e below (T10.setTop (mkF m 68 #[.val (.long v0), .second, .val (.int v2), .val (.int v3), .val (.long v4), .second, .val (.int (v3.toInt8.toInt32)), .unset, .unset, .unset] [(.ref b18)])) _
    refine XS.dup X10.here hx rfl (hb hby at_68) rfl rfl ?_
    show Steps p.tables e below (T10.setTop (mkF m 69 #[.val (.long v0), .second, .val (.int v2), .val (.int v3), .val (.long v4), .second, .val (.int (v3.toInt8.toInt32)), .unset, .unset, .unset] [(.ref b18), (.ref b18)])) _
    refine XS.bipush X10.here hx rfl (hb hby at_69) ?_
    show Steps p.tables e below (T10.setTop (mkF m 71 #[.val (.long v0), .second, .val (.int v2), .val (.int v3), .val (.long v4), .second, .val (.int (v3.toInt8.toInt32)), .unset, .unset, .unset] [(.int (9 : Int32)), (.ref b18), (.ref b18)])) _
    refine XS.iload X10.here hx rfl (hb hby at_71) rfl  ?_
    exact k
  have hin11 : ¬ ((9 : Int32) < 0) ∧ (9 : Int32) < (10 : Int32) := by decide
  obtain ⟨cl11, Ar11, hi11, q11⟩ := own_open V_b18_10 hin11
  obtain ⟨T11, h11, X11, e11, W11, st11⟩ := stB X10 hx hZ e10 Ar11 (j := (9 : Int32)) hi11 (g := (mkF m 73 #[.val (.long v0), .second, .val (.int v2), .val (.int v3), .val (.long v4), .second, .val (.int (v3.toInt8.toInt32)), .unset, .unset, .unset] [(.int (v3.toInt8.toInt32)), (.int (9 : Int32)), (.ref b18), (.ref b18)])) rfl rfl (hb hby at_73)
  obtain ⟨V_b18_11, ln_b18_11⟩ : Arv Z h11 b18 k1 .byte (10 : Int32) (([((v3.toInt8.toInt32).toInt8.toInt32), ((v3.toInt8.toInt32).toInt8.toInt32), ((v3.toInt8.toInt32).toInt8.toInt32), ((v3.toInt8.toInt32).toInt8.toInt32), ((v3.toInt8.toInt32).toInt8.toInt32), ((v3.toInt8.toInt32).toInt8.toInt32), ((v3.toInt8.toInt32).toInt8.toInt32), ((v3.toInt8.toInt32).toInt8.toInt32), ((v3.toInt8.toInt32).toInt8.toInt32), ((v3.toInt8.toInt32).toInt8.toInt32)] : List Int32).map Value.int) (.int 0) ∧ ([((v3.toInt8.toInt32).toInt8.toInt32), ((v3.toInt8.toInt32).toInt8.toInt32), ((v3.toInt8.toInt32).toInt8.toInt32), ((v3.toInt8.toInt32).toInt8.toInt32), ((v3.toInt8.toInt32).toInt8.toInt32), ((v3.toInt8.toInt32).toInt8.toInt32), ((v3.toInt8.toInt32).toInt8.toInt32), ((v3.toInt8.toInt32).toInt8.toInt32), ((v3.toInt8.toInt32).toInt8.toInt32), ((v3.toInt8.toInt32).toInt8.toInt32)] : List Int32).length = (10 : Int32).toNatClampNeg := own_setI V_b18_10 ln_b18_10 hin11 W11 (fits_nar_byte _) 9 (by decide)
  have N11 := Fr.snoc X11 N10 g_b18
  have Z11 : n0 ≤ h11.size := Nat.le_trans Z10 (Nat.le_of_eq W11.size.symm)
  refine Fin.by (B := T11.setTop (mkF m 74 #[.val (.long v0), .second, .val (.int v2), .val (.int v3), .val (.long v4), .second, .val (.int (v3.toInt8.toInt32)), .unset, .unset, .unset] [(.ref b18)])) (fun t k => st11 t k) ?_
  refine Fin.by (B := T11.setTop (mkF m 76 #[.val (.long v0), .second, .val (.int v2), .val (.int v3), .val (.long v4), .second, .val (.int (v3.toInt8.toInt32)), .val (.ref b18), .unset, .unset] [])) (fun t k => ?_) ?_
  · show Steps p.tables e below (T11.setTop (mkF m 74 #[.val (.long v0), .second, .val (.int v2), .val (.int v3), .val (.long v4), .second, .val (.int (v3.toInt8.toInt32)), .unset, .unset, .unset] [(.ref b18)])) _
    refine XS.astore X11.here hx rfl (hb hby at_74) rfl rfl (l' := #[.val (.long v0), .second, .val (.int v2), .val (.int v3), .val (.long v4), .second, .val (.int (v3.toInt8.toInt32)), .val (.ref b18), .unset, .unset]) rfl ?_
    exact k
  have iv_j : 0 ≤ v4.toInt := by first | assumption | exact own_val _ _
  exact b0_76 ⟨hx, hZ, hw, hby, hml, hret, hown, hnm, hlk⟩ h0 n0 v0 v2 v3 v4 (v3.toInt8.toInt32) b18 k1 ([((v3.toInt8.toInt32).toInt8.toInt32), ((v3.toInt8.toInt32).toInt8.toInt32), ((v3.toInt8.toInt32).toInt8.toInt32), ((v3.toInt8.toInt32).toInt8.toInt32), ((v3.toInt8.toInt32).toInt8.toInt32), ((v3.toInt8.toInt32).toInt8.toInt32), ((v3.toInt8.toInt32).toInt8.toInt32), ((v3.toInt8.toInt32).toInt8.toInt32), ((v3.toInt8.toInt32).toInt8.toInt32), ((v3.toInt8.toInt32).toInt8.toInt32)] : List Int32) X11 e11 N11 Z11 V_b18_11 ln_b18_11 g_b18 iv_j _ hr
def f0_0 (v0 : Int64) (v2 : Int32) (v3 : Int32) : Int32 := (f0_12 v0 v2 v3 (((v0 &&& (9223372036854775807 : Int64)).toUInt64 >>> ((v2 &&& (63 : Int32)) &&& 0x3f).toInt64.toUInt64).toInt64))
set_option maxRecDepth 65536 in
set_option maxHeartbeats 40000000 in
theorem b0_0 {p : Program} {l : Launch} {e : Env} {s : State} {m : MethodId} {args : Array Value} {below : List Frame} {meth : Method} {c : Code} {Z : State} {a0 : Array Value} (B : Ctx p Z s a0 m meth c "com/example/search_suggest/searchsuggest/engine/VarintEncodePinLaw" "law" code 10 (some .boolean)) {T0 : State} {locs : List Loc} {h : Heap} (h0 : Heap) (n0 : Nat) (v0 : Int64) (v2 : Int32) (v3 : Int32) (X0 : Stand p l e room_1 s m args below meth c T0 locs 0 0) (e0 : T0.heap = h) (N0 : Fr n0 locs) (Z0 : n0 ≤ h.size) (r : Int32) (hr : f0_0 v0 v2 v3 = r) :
    Fin p e below s 1 10 (Q0 n0 r) (T0.setTop (mkF m 0 #[.val (.long v0), .second, .val (.int v2), .val (.int v3), .unset, .unset, .unset, .unset, .unset, .unset] [])) := by
  obtain ⟨hx, hZ, hw, hby, hml, hret, hown, hnm, hlk⟩ := B
  unfold f0_0 at hr
  refine Fin.by (B := T0.setTop (mkF m 12 #[.val (.long v0), .second, .val (.int v2), .val (.int v3), .val (.long (((v0 &&& (9223372036854775807 : Int64)).toUInt64 >>> ((v2 &&& (63 : Int32)) &&& 0x3f).toInt64.toUInt64).toInt64)), .second, .unset, .unset, .unset, .unset] [])) (fun t k => ?_) ?_
  · show Steps p.tables e below (T0.setTop (mkF m 0 #[.val (.long v0), .second, .val (.int v2), .val (.int v3), .unset, .unset, .unset, .unset, .unset, .unset] [])) _
    refine XS.lloadN X0.here hx rfl (hb hby at_0) rfl  ?_
    show Steps p.tables e below (T0.setTop (mkF m 1 #[.val (.long v0), .second, .val (.int v2), .val (.int v3), .unset, .unset, .unset, .unset, .unset, .unset] [(.long v0)])) _
    refine X0.ldc2Long hx hown (mvT hZ (hw _ (List.mem_of_getElem? (i := 0) rfl))) (g := (mkF m 1 #[.val (.long v0), .second, .val (.int v2), .val (.int v3), .unset, .unset, .unset, .unset, .unset, .unset] [(.long v0)])) rfl (hb hby at_1) _ ?_
    show Steps p.tables e below (T0.setTop (mkF m 4 #[.val (.long v0), .second, .val (.int v2), .val (.int v3), .unset, .unset, .unset, .unset, .unset, .unset] [(.long (9223372036854775807 : Int64)), (.long v0)])) _
    refine XS.land X0.here hx rfl (hb hby at_4) rfl ?_
    show Steps p.tables e below (T0.setTop (mkF m 5 #[.val (.long v0), .second, .val (.int v2), .val (.int v3), .unset, .unset, .unset, .unset, .unset, .unset] [(.long (v0 &&& (9223372036854775807 : Int64)))])) _
    refine XS.iloadN X0.here hx rfl (hb hby at_5) rfl  ?_
    show Steps p.tables e below (T0.setTop (mkF m 6 #[.val (.long v0), .second, .val (.int v2), .val (.int v3), .unset, .unset, .unset, .unset, .unset, .unset] [(.int v2), (.long (v0 &&& (9223372036854775807 : Int64)))])) _
    refine XS.bipush X0.here hx rfl (hb hby at_6) ?_
    show Steps p.tables e below (T0.setTop (mkF m 8 #[.val (.long v0), .second, .val (.int v2), .val (.int v3), .unset, .unset, .unset, .unset, .unset, .unset] [(.int (63 : Int32)), (.int v2), (.long (v0 &&& (9223372036854775807 : Int64)))])) _
    refine XS.iand X0.here hx rfl (hb hby at_8) rfl ?_
    show Steps p.tables e below (T0.setTop (mkF m 9 #[.val (.long v0), .second, .val (.int v2), .val (.int v3), .unset, .unset, .unset, .unset, .unset, .unset] [(.int (v2 &&& (63 : Int32))), (.long (v0 &&& (9223372036854775807 : Int64)))])) _
    refine XS.lushr X0.here hx rfl (hb hby at_9) rfl ?_
    show Steps p.tables e below (T0.setTop (mkF m 10 #[.val (.long v0), .second, .val (.int v2), .val (.int v3), .unset, .unset, .unset, .unset, .unset, .unset] [(.long (((v0 &&& (9223372036854775807 : Int64)).toUInt64 >>> ((v2 &&& (63 : Int32)) &&& 0x3f).toInt64.toUInt64).toInt64))])) _
    refine XS.lstore X0.here hx rfl (hb hby at_10) rfl (l' := #[.val (.long v0), .second, .val (.int v2), .val (.int v3), .val (.long (((v0 &&& (9223372036854775807 : Int64)).toUInt64 >>> ((v2 &&& (63 : Int32)) &&& 0x3f).toInt64.toUInt64).toInt64)), .second, .unset, .unset, .unset, .unset]) rfl ?_
    exact k
  have iv_j : 0 ≤ (((v0 &&& (9223372036854775807 : Int64)).toUInt64 >>> ((v2 &&& (63 : Int32)) &&& 0x3f).toInt64.toUInt64).toInt64).toInt := by first | assumption | exact own_val _ _
  exact b0_12 ⟨hx, hZ, hw, hby, hml, hret, hown, hnm, hlk⟩ h0 n0 v0 v2 v3 (((v0 &&& (9223372036854775807 : Int64)).toUInt64 >>> ((v2 &&& (63 : Int32)) &&& 0x3f).toInt64.toUInt64).toInt64) X0 e0 N0 Z0 iv_j _ hr
theorem ef_0 (m : MethodId) (v0 : Int64) (v2 : Int32) (v3 : Int32) : entryFrame m #[(.long v0), (.int v2), (.int v3)] maxLocals = (mkF m 0 #[.val (.long v0), .second, .val (.int v2), .val (.int v3), .unset, .unset, .unset, .unset, .unset, .unset] []) := by first | (simp [entryFrame, mkF, argsToLocals, Value.category, maxLocals]; done) | rfl
set_option maxRecDepth 65536 in
set_option maxHeartbeats 40000000 in
theorem rm0 (l : Launch) (Z : State) (a0 : Array Value) (hw : ∀ d ∈ tables_1, d.before a0 Z = true) (ws : List Jvm.Cond) (v0 : Int64) (v2 : Int32) (v3 : Int32) (h0 : Heap) (n0 : Nat) (Z0 : n0 ≤ h0.size) :
    MetFree l x (head1 (Jvm.Cond.code x code maxLocals ret :: ws) room_1) (fun a U => a = #[(.long v0), (.int v2), (.int v3)] ∧ Z.Warmed39 U.vm ∧ U.heap = h0) (fun _ _ _ _ _ => True) (fun _ U o U' => ∃ v L, o = .returned v ∧ (Q0 n0 (f0_0 v0 v2 v3)) v U'.heap L ∧ FrameEnd U o U' L 1 10) := by
  refine MetFree.of_bodySF (plainFor_of_name pn_0) hisR ?_
  intro p e s m args below meth c s₁ Bd hml0 hP hK
  obtain ⟨rfl, hZ, hh⟩ := hP
  have B : Ctx p Z s a0 m meth c "com/example/search_suggest/searchsuggest/engine/VarintEncodePinLaw" "law" code 10 (some .boolean) := ⟨Bd.exec, hZ, hw, Bd.bytes, hml0, Bd.returns, findClass_of_methodNamed Bd.named, (name_of_methodNamed Bd.named Bd.method).1, Bd.notSynchronized⟩
  have X0 : Stand p l e room_1 s m #[(.long v0), (.int v2), (.int v3)] below meth c s₁ [] 0 0 := Stand.of_body Bd
  have e0 : s₁.heap = h0 := by rw [← hh, Bd.state]; rfl
  have K := Keep.refl h0 []
  show Fin p e below s 1 10 (Q0 n0 (f0_0 v0 v2 v3)) (s₁.setTop (entryFrame m #[(.long v0), (.int v2), (.int v3)] maxLocals))
  refine Fin.by (fun t k => castTop (ef_0 m v0 v2 v3) k) ?_
  exact b0_0 B h0 n0 v0 v2 v3 X0 e0 (Fr.nil n0) Z0  _ rfl
/-! the encoder's bytes -/
def own_s (x : Int64) : Int64 := ((x.toUInt64 >>> ((7 : Int32) &&& 0x3f).toInt64.toUInt64).toInt64)
def own_B (x : Int64) : Int32 := (((((x &&& (127 : Int64)) ||| (128 : Int64)).toInt32).toInt8.toInt32).toInt8.toInt32)
def own_L (x : Int64) : Int32 := (((x.toInt32).toInt8.toInt32).toInt8.toInt32)
def own_it : Nat → Int64 → Int64
  | 0, v => v
  | i + 1, v => own_s (own_it i v)
theorem own_itT (v : Int64) (hv : 0 ≤ v.toInt) : ∀ i, (own_it i v).toInt = v.toInt / 128 ^ i := by
  intro i
  induction i with
  | zero => show v.toInt = v.toInt / 1; omega
  | succ i ih =>
    show (own_s (own_it i v)).toInt = _
    unfold own_s
    rw [own_sh, ih]
    have h0 : 0 ≤ v.toInt / 128 ^ i := Int.ediv_nonneg hv (Int.pow_nonneg (by decide))
    have r := rng64 (own_it i v)
    rw [ih] at r
    rw [Int.emod_eq_of_lt h0 (by omega), Int.ediv_ediv_of_nonneg (Int.pow_nonneg (by decide)), Int.pow_succ]
theorem own_step (k : Nat) (w x : Int64) (i : Int32) (xs : List Int32) (h : 128 ≤ x.toInt) : f1_5 (k + 1) w x i xs = f1_5 k w (own_s x) (i + 1) (xs.set i.toNatClampNeg (own_B x)) := by
  have q : ¬ ((x &&& (-128 : Int64)) = (0 : Int64)) := fun w => absurd ((own_hi x (by omega)).mp w) (by omega)
  conv => lhs; unfold f1_5
  rw [if_neg q]
  rfl
theorem own_last (k : Nat) (w x : Int64) (i : Int32) (xs : List Int32) (h : 0 ≤ x.toInt ∧ x.toInt < 128) : f1_5 (k + 1) w x i xs = (i + 1, xs.set i.toNatClampNeg (own_L x)) := by
  have q := (own_hi x h.1).mpr h.2
  unfold f1_5
  rw [if_pos q]
  rfl
theorem own_b8 (x : Int32) : (x.toInt8.toInt32).toInt8.toInt32 = x.toInt8.toInt32 := by
  apply Int32.toInt_inj.mp
  have h3 := c_i2b x; have h4 := c_i2b x.toInt8.toInt32
  omega
theorem own_Beq (x : Int64) : own_B x = ((x &&& (127 : Int64)).toInt32 ||| (128 : Int32)).toInt8.toInt32 := by
  unfold own_B
  rw [own_b8, Int64.toInt32_or]
  rfl
theorem own_Leq (x : Int64) (h : 0 ≤ x.toInt ∧ x.toInt < 128) : own_L x = ((x &&& (127 : Int64)).toInt32).toInt8.toInt32 := by
  unfold own_L
  have m := c_maskL x 127 7 (by decide) (by decide)
  have e : x &&& (127 : Int64) = x := Int64.toInt_inj.mp (by omega)
  rw [own_b8, e]

theorem own_n0 : (0 : Int32) + 1 = 1 := by decide
theorem own_t0 : (0 : Int32).toNatClampNeg = 0 := by decide
theorem own_n1 : (1 : Int32) + 1 = 2 := by decide
theorem own_t1 : (1 : Int32).toNatClampNeg = 1 := by decide
theorem own_n2 : (2 : Int32) + 1 = 3 := by decide
theorem own_t2 : (2 : Int32).toNatClampNeg = 2 := by decide
theorem own_n3 : (3 : Int32) + 1 = 4 := by decide
theorem own_t3 : (3 : Int32).toNatClampNeg = 3 := by decide
theorem own_n4 : (4 : Int32) + 1 = 5 := by decide
theorem own_t4 : (4 : Int32).toNatClampNeg = 4 := by decide
theorem own_n5 : (5 : Int32) + 1 = 6 := by decide
theorem own_t5 : (5 : Int32).toNatClampNeg = 5 := by decide
theorem own_n6 : (6 : Int32) + 1 = 7 := by decide
theorem own_t6 : (6 : Int32).toNatClampNeg = 6 := by decide
theorem own_n7 : (7 : Int32) + 1 = 8 := by decide
theorem own_t7 : (7 : Int32).toNatClampNeg = 7 := by decide
theorem own_n8 : (8 : Int32) + 1 = 9 := by decide
theorem own_t8 : (8 : Int32).toNatClampNeg = 8 := by decide
theorem own_n9 : (9 : Int32) + 1 = 10 := by decide
theorem own_t9 : (9 : Int32).toNatClampNeg = 9 := by decide
theorem own_E0 (v : Int64) : ((v.toUInt64 >>> (((7 : Int32) * (0 : Int32)) &&& 0x3f).toInt64.toUInt64).toInt64) = own_it 0 v := by
  show _ = v
  rw [show (((7 : Int32) * (0 : Int32)) &&& 0x3f).toInt64.toUInt64 = 0 from by decide, UInt64.shiftRight_zero, Int64.toInt64_toUInt64]
theorem own_E1 (v : Int64) (hv : 0 ≤ v.toInt) : ((v.toUInt64 >>> (((7 : Int32) * (1 : Int32)) &&& 0x3f).toInt64.toUInt64).toInt64) = own_it 1 v := by
  apply Int64.toInt_inj.mp
  have r := rng64 v
  have e1 := c_lushr v ((7 : Int32) * (1 : Int32)) 7 (by decide) (by decide)
  have e2 := own_itT v hv 1
  rw [e1, e2, Int.emod_eq_of_lt hv (by omega)]
  rfl
theorem own_E2 (v : Int64) (hv : 0 ≤ v.toInt) : ((v.toUInt64 >>> (((7 : Int32) * (2 : Int32)) &&& 0x3f).toInt64.toUInt64).toInt64) = own_it 2 v := by
  apply Int64.toInt_inj.mp
  have r := rng64 v
  have e1 := c_lushr v ((7 : Int32) * (2 : Int32)) 14 (by decide) (by decide)
  have e2 := own_itT v hv 2
  rw [e1, e2, Int.emod_eq_of_lt hv (by omega)]
  rfl
theorem own_E3 (v : Int64) (hv : 0 ≤ v.toInt) : ((v.toUInt64 >>> (((7 : Int32) * (3 : Int32)) &&& 0x3f).toInt64.toUInt64).toInt64) = own_it 3 v := by
  apply Int64.toInt_inj.mp
  have r := rng64 v
  have e1 := c_lushr v ((7 : Int32) * (3 : Int32)) 21 (by decide) (by decide)
  have e2 := own_itT v hv 3
  rw [e1, e2, Int.emod_eq_of_lt hv (by omega)]
  rfl
theorem own_E4 (v : Int64) (hv : 0 ≤ v.toInt) : ((v.toUInt64 >>> (((7 : Int32) * (4 : Int32)) &&& 0x3f).toInt64.toUInt64).toInt64) = own_it 4 v := by
  apply Int64.toInt_inj.mp
  have r := rng64 v
  have e1 := c_lushr v ((7 : Int32) * (4 : Int32)) 28 (by decide) (by decide)
  have e2 := own_itT v hv 4
  rw [e1, e2, Int.emod_eq_of_lt hv (by omega)]
  rfl
theorem own_E5 (v : Int64) (hv : 0 ≤ v.toInt) : ((v.toUInt64 >>> (((7 : Int32) * (5 : Int32)) &&& 0x3f).toInt64.toUInt64).toInt64) = own_it 5 v := by
  apply Int64.toInt_inj.mp
  have r := rng64 v
  have e1 := c_lushr v ((7 : Int32) * (5 : Int32)) 35 (by decide) (by decide)
  have e2 := own_itT v hv 5
  rw [e1, e2, Int.emod_eq_of_lt hv (by omega)]
  rfl
theorem own_E6 (v : Int64) (hv : 0 ≤ v.toInt) : ((v.toUInt64 >>> (((7 : Int32) * (6 : Int32)) &&& 0x3f).toInt64.toUInt64).toInt64) = own_it 6 v := by
  apply Int64.toInt_inj.mp
  have r := rng64 v
  have e1 := c_lushr v ((7 : Int32) * (6 : Int32)) 42 (by decide) (by decide)
  have e2 := own_itT v hv 6
  rw [e1, e2, Int.emod_eq_of_lt hv (by omega)]
  rfl
theorem own_E7 (v : Int64) (hv : 0 ≤ v.toInt) : ((v.toUInt64 >>> (((7 : Int32) * (7 : Int32)) &&& 0x3f).toInt64.toUInt64).toInt64) = own_it 7 v := by
  apply Int64.toInt_inj.mp
  have r := rng64 v
  have e1 := c_lushr v ((7 : Int32) * (7 : Int32)) 49 (by decide) (by decide)
  have e2 := own_itT v hv 7
  rw [e1, e2, Int.emod_eq_of_lt hv (by omega)]
  rfl
theorem own_E8 (v : Int64) (hv : 0 ≤ v.toInt) : ((v.toUInt64 >>> (((7 : Int32) * (8 : Int32)) &&& 0x3f).toInt64.toUInt64).toInt64) = own_it 8 v := by
  apply Int64.toInt_inj.mp
  have r := rng64 v
  have e1 := c_lushr v ((7 : Int32) * (8 : Int32)) 56 (by decide) (by decide)
  have e2 := own_itT v hv 8
  rw [e1, e2, Int.emod_eq_of_lt hv (by omega)]
  rfl
theorem own_mid (i n : Int32) (v : Int64) (f : Int32) (ys : List Int32) (x : Int64) (h1 : i < n) (h2 : i < n - 1) (hE : ((v.toUInt64 >>> (((7 : Int32) * i) &&& 0x3f).toInt64.toUInt64).toInt64) = x) (hy : own_at ys i = own_B x) : ¬ (f2_0 i v n f ys = 0) := by
  unfold f2_0 f2_49
  rw [if_pos h1, if_pos h2, hE, hy, own_Beq, if_pos rfl]
  decide
theorem own_end (i n : Int32) (v : Int64) (f : Int32) (ys : List Int32) (x : Int64) (h1 : i < n) (h2 : ¬ (i < n - 1)) (hE : ((v.toUInt64 >>> (((7 : Int32) * i) &&& 0x3f).toInt64.toUInt64).toInt64) = x) (hx : 0 ≤ x.toInt ∧ x.toInt < 128) (hy : own_at ys i = own_L x) : ¬ (f2_0 i v n f ys = 0) := by
  unfold f2_0 f2_49
  rw [if_pos h1, if_neg h2, hE, hy, own_Leq x hx, if_pos rfl]
  decide
theorem own_out (i n : Int32) (v : Int64) (f : Int32) (ys : List Int32) (h1 : ¬ (i < n)) (hy : own_at ys i = f) : ¬ (f2_0 i v n f ys = 0) := by
  unfold f2_0
  rw [if_neg h1, hy, if_pos rfl]
  decide
theorem own_182 (v0 : Int64) (v2 v3 : Int32) (v4 : Int64) (f n : Int32) (ys : List Int32) (h0 : ¬ (f2_0 0 v4 n f ys = 0)) (h1 : ¬ (f2_0 1 v4 n f ys = 0)) (h2 : ¬ (f2_0 2 v4 n f ys = 0)) (h3 : ¬ (f2_0 3 v4 n f ys = 0)) (h4 : ¬ (f2_0 4 v4 n f ys = 0)) (h5 : ¬ (f2_0 5 v4 n f ys = 0)) (h6 : ¬ (f2_0 6 v4 n f ys = 0)) (h7 : ¬ (f2_0 7 v4 n f ys = 0)) (h8 : ¬ (f2_0 8 v4 n f ys = 0)) (h9 : ¬ (f2_0 9 v4 n f ys = 0)) : f0_182 v0 v2 v3 v4 f n n ys = 1 := by
  unfold f0_182
  rw [if_pos rfl, if_neg h0, if_neg h1, if_neg h2, if_neg h3, if_neg h4, if_neg h5, if_neg h6, if_neg h7, if_neg h8, if_neg h9]
theorem own_len1 (v0 : Int64) (v2 v3 : Int32) (v : Int64) (f : Int32) (hl : 0 ≤ v.toInt) (hh : v.toInt < 128) : f0_175 v0 v2 v3 v f 1 [f, f, f, f, f, f, f, f, f, f] = 1 := by
  have hv : 0 ≤ v.toInt := by omega
  have t0 : (own_it 0 v).toInt = v.toInt / 1 := own_itT v hv 0
  have e : f1_0 v [f, f, f, f, f, f, f, f, f, f] = (1, [own_L (own_it 0 v), f, f, f, f, f, f, f, f, f]) := by
    show f1_5 9 v (own_it 0 v) 0 _ = _
    rw [own_last _ _ (own_it 0 v) _ _ (by omega), own_n0, own_t0]
    rfl
  unfold f0_175
  rw [e]
  exact own_182 _ _ _ _ _ _ _ (own_end 0 _ _ _ _ (own_it 0 v) (by decide) (by decide) (own_E0 v) (by omega) rfl) (own_out 1 _ _ _ _ (by decide) rfl) (own_out 2 _ _ _ _ (by decide) rfl) (own_out 3 _ _ _ _ (by decide) rfl) (own_out 4 _ _ _ _ (by decide) rfl) (own_out 5 _ _ _ _ (by decide) rfl) (own_out 6 _ _ _ _ (by decide) rfl) (own_out 7 _ _ _ _ (by decide) rfl) (own_out 8 _ _ _ _ (by decide) rfl) (own_out 9 _ _ _ _ (by decide) rfl)
theorem own_len2 (v0 : Int64) (v2 v3 : Int32) (v : Int64) (f : Int32) (hl : 128 ≤ v.toInt) (hh : v.toInt < 16384) : f0_175 v0 v2 v3 v f 2 [f, f, f, f, f, f, f, f, f, f] = 1 := by
  have hv : 0 ≤ v.toInt := by omega
  have t0 : (own_it 0 v).toInt = v.toInt / 1 := own_itT v hv 0
  have t1 : (own_it 1 v).toInt = v.toInt / 128 := own_itT v hv 1
  have e : f1_0 v [f, f, f, f, f, f, f, f, f, f] = (2, [own_B (own_it 0 v), own_L (own_it 1 v), f, f, f, f, f, f, f, f]) := by
    show f1_5 9 v (own_it 0 v) 0 _ = _
    rw [own_step _ _ (own_it 0 v) _ _ (by omega)]
    change f1_5 8 v (own_it 1 v) _ _ = _
    rw [own_n0, own_t0]
    rw [own_last _ _ (own_it 1 v) _ _ (by omega), own_n1, own_t1]
    rfl
  unfold f0_175
  rw [e]
  exact own_182 _ _ _ _ _ _ _ (own_mid 0 _ _ _ _ (own_it 0 v) (by decide) (by decide) (own_E0 v) rfl) (own_end 1 _ _ _ _ (own_it 1 v) (by decide) (by decide) (own_E1 v hv) (by omega) rfl) (own_out 2 _ _ _ _ (by decide) rfl) (own_out 3 _ _ _ _ (by decide) rfl) (own_out 4 _ _ _ _ (by decide) rfl) (own_out 5 _ _ _ _ (by decide) rfl) (own_out 6 _ _ _ _ (by decide) rfl) (own_out 7 _ _ _ _ (by decide) rfl) (own_out 8 _ _ _ _ (by decide) rfl) (own_out 9 _ _ _ _ (by decide) rfl)
theorem own_len3 (v0 : Int64) (v2 v3 : Int32) (v : Int64) (f : Int32) (hl : 16384 ≤ v.toInt) (hh : v.toInt < 2097152) : f0_175 v0 v2 v3 v f 3 [f, f, f, f, f, f, f, f, f, f] = 1 := by
  have hv : 0 ≤ v.toInt := by omega
  have t0 : (own_it 0 v).toInt = v.toInt / 1 := own_itT v hv 0
  have t1 : (own_it 1 v).toInt = v.toInt / 128 := own_itT v hv 1
  have t2 : (own_it 2 v).toInt = v.toInt / 16384 := own_itT v hv 2
  have e : f1_0 v [f, f, f, f, f, f, f, f, f, f] = (3, [own_B (own_it 0 v), own_B (own_it 1 v), own_L (own_it 2 v), f, f, f, f, f, f, f]) := by
    show f1_5 9 v (own_it 0 v) 0 _ = _
    rw [own_step _ _ (own_it 0 v) _ _ (by omega)]
    change f1_5 8 v (own_it 1 v) _ _ = _
    rw [own_n0, own_t0]
    rw [own_step _ _ (own_it 1 v) _ _ (by omega)]
    change f1_5 7 v (own_it 2 v) _ _ = _
    rw [own_n1, own_t1]
    rw [own_last _ _ (own_it 2 v) _ _ (by omega), own_n2, own_t2]
    rfl
  unfold f0_175
  rw [e]
  exact own_182 _ _ _ _ _ _ _ (own_mid 0 _ _ _ _ (own_it 0 v) (by decide) (by decide) (own_E0 v) rfl) (own_mid 1 _ _ _ _ (own_it 1 v) (by decide) (by decide) (own_E1 v hv) rfl) (own_end 2 _ _ _ _ (own_it 2 v) (by decide) (by decide) (own_E2 v hv) (by omega) rfl) (own_out 3 _ _ _ _ (by decide) rfl) (own_out 4 _ _ _ _ (by decide) rfl) (own_out 5 _ _ _ _ (by decide) rfl) (own_out 6 _ _ _ _ (by decide) rfl) (own_out 7 _ _ _ _ (by decide) rfl) (own_out 8 _ _ _ _ (by decide) rfl) (own_out 9 _ _ _ _ (by decide) rfl)
theorem own_len4 (v0 : Int64) (v2 v3 : Int32) (v : Int64) (f : Int32) (hl : 2097152 ≤ v.toInt) (hh : v.toInt < 268435456) : f0_175 v0 v2 v3 v f 4 [f, f, f, f, f, f, f, f, f, f] = 1 := by
  have hv : 0 ≤ v.toInt := by omega
  have t0 : (own_it 0 v).toInt = v.toInt / 1 := own_itT v hv 0
  have t1 : (own_it 1 v).toInt = v.toInt / 128 := own_itT v hv 1
  have t2 : (own_it 2 v).toInt = v.toInt / 16384 := own_itT v hv 2
  have t3 : (own_it 3 v).toInt = v.toInt / 2097152 := own_itT v hv 3
  have e : f1_0 v [f, f, f, f, f, f, f, f, f, f] = (4, [own_B (own_it 0 v), own_B (own_it 1 v), own_B (own_it 2 v), own_L (own_it 3 v), f, f, f, f, f, f]) := by
    show f1_5 9 v (own_it 0 v) 0 _ = _
    rw [own_step _ _ (own_it 0 v) _ _ (by omega)]
    change f1_5 8 v (own_it 1 v) _ _ = _
    rw [own_n0, own_t0]
    rw [own_step _ _ (own_it 1 v) _ _ (by omega)]
    change f1_5 7 v (own_it 2 v) _ _ = _
    rw [own_n1, own_t1]
    rw [own_step _ _ (own_it 2 v) _ _ (by omega)]
    change f1_5 6 v (own_it 3 v) _ _ = _
    rw [own_n2, own_t2]
    rw [own_last _ _ (own_it 3 v) _ _ (by omega), own_n3, own_t3]
    rfl
  unfold f0_175
  rw [e]
  exact own_182 _ _ _ _ _ _ _ (own_mid 0 _ _ _ _ (own_it 0 v) (by decide) (by decide) (own_E0 v) rfl) (own_mid 1 _ _ _ _ (own_it 1 v) (by decide) (by decide) (own_E1 v hv) rfl) (own_mid 2 _ _ _ _ (own_it 2 v) (by decide) (by decide) (own_E2 v hv) rfl) (own_end 3 _ _ _ _ (own_it 3 v) (by decide) (by decide) (own_E3 v hv) (by omega) rfl) (own_out 4 _ _ _ _ (by decide) rfl) (own_out 5 _ _ _ _ (by decide) rfl) (own_out 6 _ _ _ _ (by decide) rfl) (own_out 7 _ _ _ _ (by decide) rfl) (own_out 8 _ _ _ _ (by decide) rfl) (own_out 9 _ _ _ _ (by decide) rfl)
theorem own_len5 (v0 : Int64) (v2 v3 : Int32) (v : Int64) (f : Int32) (hl : 268435456 ≤ v.toInt) (hh : v.toInt < 34359738368) : f0_175 v0 v2 v3 v f 5 [f, f, f, f, f, f, f, f, f, f] = 1 := by
  have hv : 0 ≤ v.toInt := by omega
  have t0 : (own_it 0 v).toInt = v.toInt / 1 := own_itT v hv 0
  have t1 : (own_it 1 v).toInt = v.toInt / 128 := own_itT v hv 1
  have t2 : (own_it 2 v).toInt = v.toInt / 16384 := own_itT v hv 2
  have t3 : (own_it 3 v).toInt = v.toInt / 2097152 := own_itT v hv 3
  have t4 : (own_it 4 v).toInt = v.toInt / 268435456 := own_itT v hv 4
  have e : f1_0 v [f, f, f, f, f, f, f, f, f, f] = (5, [own_B (own_it 0 v), own_B (own_it 1 v), own_B (own_it 2 v), own_B (own_it 3 v), own_L (own_it 4 v), f, f, f, f, f]) := by
    show f1_5 9 v (own_it 0 v) 0 _ = _
    rw [own_step _ _ (own_it 0 v) _ _ (by omega)]
    change f1_5 8 v (own_it 1 v) _ _ = _
    rw [own_n0, own_t0]
    rw [own_step _ _ (own_it 1 v) _ _ (by omega)]
    change f1_5 7 v (own_it 2 v) _ _ = _
    rw [own_n1, own_t1]
    rw [own_step _ _ (own_it 2 v) _ _ (by omega)]
    change f1_5 6 v (own_it 3 v) _ _ = _
    rw [own_n2, own_t2]
    rw [own_step _ _ (own_it 3 v) _ _ (by omega)]
    change f1_5 5 v (own_it 4 v) _ _ = _
    rw [own_n3, own_t3]
    rw [own_last _ _ (own_it 4 v) _ _ (by omega), own_n4, own_t4]
    rfl
  unfold f0_175
  rw [e]
  exact own_182 _ _ _ _ _ _ _ (own_mid 0 _ _ _ _ (own_it 0 v) (by decide) (by decide) (own_E0 v) rfl) (own_mid 1 _ _ _ _ (own_it 1 v) (by decide) (by decide) (own_E1 v hv) rfl) (own_mid 2 _ _ _ _ (own_it 2 v) (by decide) (by decide) (own_E2 v hv) rfl) (own_mid 3 _ _ _ _ (own_it 3 v) (by decide) (by decide) (own_E3 v hv) rfl) (own_end 4 _ _ _ _ (own_it 4 v) (by decide) (by decide) (own_E4 v hv) (by omega) rfl) (own_out 5 _ _ _ _ (by decide) rfl) (own_out 6 _ _ _ _ (by decide) rfl) (own_out 7 _ _ _ _ (by decide) rfl) (own_out 8 _ _ _ _ (by decide) rfl) (own_out 9 _ _ _ _ (by decide) rfl)
theorem own_len6 (v0 : Int64) (v2 v3 : Int32) (v : Int64) (f : Int32) (hl : 34359738368 ≤ v.toInt) (hh : v.toInt < 4398046511104) : f0_175 v0 v2 v3 v f 6 [f, f, f, f, f, f, f, f, f, f] = 1 := by
  have hv : 0 ≤ v.toInt := by omega
  have t0 : (own_it 0 v).toInt = v.toInt / 1 := own_itT v hv 0
  have t1 : (own_it 1 v).toInt = v.toInt / 128 := own_itT v hv 1
  have t2 : (own_it 2 v).toInt = v.toInt / 16384 := own_itT v hv 2
  have t3 : (own_it 3 v).toInt = v.toInt / 2097152 := own_itT v hv 3
  have t4 : (own_it 4 v).toInt = v.toInt / 268435456 := own_itT v hv 4
  have t5 : (own_it 5 v).toInt = v.toInt / 34359738368 := own_itT v hv 5
  have e : f1_0 v [f, f, f, f, f, f, f, f, f, f] = (6, [own_B (own_it 0 v), own_B (own_it 1 v), own_B (own_it 2 v), own_B (own_it 3 v), own_B (own_it 4 v), own_L (own_it 5 v), f, f, f, f]) := by
    show f1_5 9 v (own_it 0 v) 0 _ = _
    rw [own_step _ _ (own_it 0 v) _ _ (by omega)]
    change f1_5 8 v (own_it 1 v) _ _ = _
    rw [own_n0, own_t0]
    rw [own_step _ _ (own_it 1 v) _ _ (by omega)]
    change f1_5 7 v (own_it 2 v) _ _ = _
    rw [own_n1, own_t1]
    rw [own_step _ _ (own_it 2 v) _ _ (by omega)]
    change f1_5 6 v (own_it 3 v) _ _ = _
    rw [own_n2, own_t2]
    rw [own_step _ _ (own_it 3 v) _ _ (by omega)]
    change f1_5 5 v (own_it 4 v) _ _ = _
    rw [own_n3, own_t3]
    rw [own_step _ _ (own_it 4 v) _ _ (by omega)]
    change f1_5 4 v (own_it 5 v) _ _ = _
    rw [own_n4, own_t4]
    rw [own_last _ _ (own_it 5 v) _ _ (by omega), own_n5, own_t5]
    rfl
  unfold f0_175
  rw [e]
  exact own_182 _ _ _ _ _ _ _ (own_mid 0 _ _ _ _ (own_it 0 v) (by decide) (by decide) (own_E0 v) rfl) (own_mid 1 _ _ _ _ (own_it 1 v) (by decide) (by decide) (own_E1 v hv) rfl) (own_mid 2 _ _ _ _ (own_it 2 v) (by decide) (by decide) (own_E2 v hv) rfl) (own_mid 3 _ _ _ _ (own_it 3 v) (by decide) (by decide) (own_E3 v hv) rfl) (own_mid 4 _ _ _ _ (own_it 4 v) (by decide) (by decide) (own_E4 v hv) rfl) (own_end 5 _ _ _ _ (own_it 5 v) (by decide) (by decide) (own_E5 v hv) (by omega) rfl) (own_out 6 _ _ _ _ (by decide) rfl) (own_out 7 _ _ _ _ (by decide) rfl) (own_out 8 _ _ _ _ (by decide) rfl) (own_out 9 _ _ _ _ (by decide) rfl)
theorem own_len7 (v0 : Int64) (v2 v3 : Int32) (v : Int64) (f : Int32) (hl : 4398046511104 ≤ v.toInt) (hh : v.toInt < 562949953421312) : f0_175 v0 v2 v3 v f 7 [f, f, f, f, f, f, f, f, f, f] = 1 := by
  have hv : 0 ≤ v.toInt := by omega
  have t0 : (own_it 0 v).toInt = v.toInt / 1 := own_itT v hv 0
  have t1 : (own_it 1 v).toInt = v.toInt / 128 := own_itT v hv 1
  have t2 : (own_it 2 v).toInt = v.toInt / 16384 := own_itT v hv 2
  have t3 : (own_it 3 v).toInt = v.toInt / 2097152 := own_itT v hv 3
  have t4 : (own_it 4 v).toInt = v.toInt / 268435456 := own_itT v hv 4
  have t5 : (own_it 5 v).toInt = v.toInt / 34359738368 := own_itT v hv 5
  have t6 : (own_it 6 v).toInt = v.toInt / 4398046511104 := own_itT v hv 6
  have e : f1_0 v [f, f, f, f, f, f, f, f, f, f] = (7, [own_B (own_it 0 v), own_B (own_it 1 v), own_B (own_it 2 v), own_B (own_it 3 v), own_B (own_it 4 v), own_B (own_it 5 v), own_L (own_it 6 v), f, f, f]) := by
    show f1_5 9 v (own_it 0 v) 0 _ = _
    rw [own_step _ _ (own_it 0 v) _ _ (by omega)]
    change f1_5 8 v (own_it 1 v) _ _ = _
    rw [own_n0, own_t0]
    rw [own_step _ _ (own_it 1 v) _ _ (by omega)]
    change f1_5 7 v (own_it 2 v) _ _ = _
    rw [own_n1, own_t1]
    rw [own_step _ _ (own_it 2 v) _ _ (by omega)]
    change f1_5 6 v (own_it 3 v) _ _ = _
    rw [own_n2, own_t2]
    rw [own_step _ _ (own_it 3 v) _ _ (by omega)]
    change f1_5 5 v (own_it 4 v) _ _ = _
    rw [own_n3, own_t3]
    rw [own_step _ _ (own_it 4 v) _ _ (by omega)]
    change f1_5 4 v (own_it 5 v) _ _ = _
    rw [own_n4, own_t4]
    rw [own_step _ _ (own_it 5 v) _ _ (by omega)]
    change f1_5 3 v (own_it 6 v) _ _ = _
    rw [own_n5, own_t5]
    rw [own_last _ _ (own_it 6 v) _ _ (by omega), own_n6, own_t6]
    rfl
  unfold f0_175
  rw [e]
  exact own_182 _ _ _ _ _ _ _ (own_mid 0 _ _ _ _ (own_it 0 v) (by decide) (by decide) (own_E0 v) rfl) (own_mid 1 _ _ _ _ (own_it 1 v) (by decide) (by decide) (own_E1 v hv) rfl) (own_mid 2 _ _ _ _ (own_it 2 v) (by decide) (by decide) (own_E2 v hv) rfl) (own_mid 3 _ _ _ _ (own_it 3 v) (by decide) (by decide) (own_E3 v hv) rfl) (own_mid 4 _ _ _ _ (own_it 4 v) (by decide) (by decide) (own_E4 v hv) rfl) (own_mid 5 _ _ _ _ (own_it 5 v) (by decide) (by decide) (own_E5 v hv) rfl) (own_end 6 _ _ _ _ (own_it 6 v) (by decide) (by decide) (own_E6 v hv) (by omega) rfl) (own_out 7 _ _ _ _ (by decide) rfl) (own_out 8 _ _ _ _ (by decide) rfl) (own_out 9 _ _ _ _ (by decide) rfl)
theorem own_len8 (v0 : Int64) (v2 v3 : Int32) (v : Int64) (f : Int32) (hl : 562949953421312 ≤ v.toInt) (hh : v.toInt < 72057594037927936) : f0_175 v0 v2 v3 v f 8 [f, f, f, f, f, f, f, f, f, f] = 1 := by
  have hv : 0 ≤ v.toInt := by omega
  have t0 : (own_it 0 v).toInt = v.toInt / 1 := own_itT v hv 0
  have t1 : (own_it 1 v).toInt = v.toInt / 128 := own_itT v hv 1
  have t2 : (own_it 2 v).toInt = v.toInt / 16384 := own_itT v hv 2
  have t3 : (own_it 3 v).toInt = v.toInt / 2097152 := own_itT v hv 3
  have t4 : (own_it 4 v).toInt = v.toInt / 268435456 := own_itT v hv 4
  have t5 : (own_it 5 v).toInt = v.toInt / 34359738368 := own_itT v hv 5
  have t6 : (own_it 6 v).toInt = v.toInt / 4398046511104 := own_itT v hv 6
  have t7 : (own_it 7 v).toInt = v.toInt / 562949953421312 := own_itT v hv 7
  have e : f1_0 v [f, f, f, f, f, f, f, f, f, f] = (8, [own_B (own_it 0 v), own_B (own_it 1 v), own_B (own_it 2 v), own_B (own_it 3 v), own_B (own_it 4 v), own_B (own_it 5 v), own_B (own_it 6 v), own_L (own_it 7 v), f, f]) := by
    show f1_5 9 v (own_it 0 v) 0 _ = _
    rw [own_step _ _ (own_it 0 v) _ _ (by omega)]
    change f1_5 8 v (own_it 1 v) _ _ = _
    rw [own_n0, own_t0]
    rw [own_step _ _ (own_it 1 v) _ _ (by omega)]
    change f1_5 7 v (own_it 2 v) _ _ = _
    rw [own_n1, own_t1]
    rw [own_step _ _ (own_it 2 v) _ _ (by omega)]
    change f1_5 6 v (own_it 3 v) _ _ = _
    rw [own_n2, own_t2]
    rw [own_step _ _ (own_it 3 v) _ _ (by omega)]
    change f1_5 5 v (own_it 4 v) _ _ = _
    rw [own_n3, own_t3]
    rw [own_step _ _ (own_it 4 v) _ _ (by omega)]
    change f1_5 4 v (own_it 5 v) _ _ = _
    rw [own_n4, own_t4]
    rw [own_step _ _ (own_it 5 v) _ _ (by omega)]
    change f1_5 3 v (own_it 6 v) _ _ = _
    rw [own_n5, own_t5]
    rw [own_step _ _ (own_it 6 v) _ _ (by omega)]
    change f1_5 2 v (own_it 7 v) _ _ = _
    rw [own_n6, own_t6]
    rw [own_last _ _ (own_it 7 v) _ _ (by omega), own_n7, own_t7]
    rfl
  unfold f0_175
  rw [e]
  exact own_182 _ _ _ _ _ _ _ (own_mid 0 _ _ _ _ (own_it 0 v) (by decide) (by decide) (own_E0 v) rfl) (own_mid 1 _ _ _ _ (own_it 1 v) (by decide) (by decide) (own_E1 v hv) rfl) (own_mid 2 _ _ _ _ (own_it 2 v) (by decide) (by decide) (own_E2 v hv) rfl) (own_mid 3 _ _ _ _ (own_it 3 v) (by decide) (by decide) (own_E3 v hv) rfl) (own_mid 4 _ _ _ _ (own_it 4 v) (by decide) (by decide) (own_E4 v hv) rfl) (own_mid 5 _ _ _ _ (own_it 5 v) (by decide) (by decide) (own_E5 v hv) rfl) (own_mid 6 _ _ _ _ (own_it 6 v) (by decide) (by decide) (own_E6 v hv) rfl) (own_end 7 _ _ _ _ (own_it 7 v) (by decide) (by decide) (own_E7 v hv) (by omega) rfl) (own_out 8 _ _ _ _ (by decide) rfl) (own_out 9 _ _ _ _ (by decide) rfl)
theorem own_len9 (v0 : Int64) (v2 v3 : Int32) (v : Int64) (f : Int32) (hl : 72057594037927936 ≤ v.toInt) (hh : v.toInt < 9223372036854775808) : f0_175 v0 v2 v3 v f 9 [f, f, f, f, f, f, f, f, f, f] = 1 := by
  have hv : 0 ≤ v.toInt := by omega
  have t0 : (own_it 0 v).toInt = v.toInt / 1 := own_itT v hv 0
  have t1 : (own_it 1 v).toInt = v.toInt / 128 := own_itT v hv 1
  have t2 : (own_it 2 v).toInt = v.toInt / 16384 := own_itT v hv 2
  have t3 : (own_it 3 v).toInt = v.toInt / 2097152 := own_itT v hv 3
  have t4 : (own_it 4 v).toInt = v.toInt / 268435456 := own_itT v hv 4
  have t5 : (own_it 5 v).toInt = v.toInt / 34359738368 := own_itT v hv 5
  have t6 : (own_it 6 v).toInt = v.toInt / 4398046511104 := own_itT v hv 6
  have t7 : (own_it 7 v).toInt = v.toInt / 562949953421312 := own_itT v hv 7
  have t8 : (own_it 8 v).toInt = v.toInt / 72057594037927936 := own_itT v hv 8
  have e : f1_0 v [f, f, f, f, f, f, f, f, f, f] = (9, [own_B (own_it 0 v), own_B (own_it 1 v), own_B (own_it 2 v), own_B (own_it 3 v), own_B (own_it 4 v), own_B (own_it 5 v), own_B (own_it 6 v), own_B (own_it 7 v), own_L (own_it 8 v), f]) := by
    show f1_5 9 v (own_it 0 v) 0 _ = _
    rw [own_step _ _ (own_it 0 v) _ _ (by omega)]
    change f1_5 8 v (own_it 1 v) _ _ = _
    rw [own_n0, own_t0]
    rw [own_step _ _ (own_it 1 v) _ _ (by omega)]
    change f1_5 7 v (own_it 2 v) _ _ = _
    rw [own_n1, own_t1]
    rw [own_step _ _ (own_it 2 v) _ _ (by omega)]
    change f1_5 6 v (own_it 3 v) _ _ = _
    rw [own_n2, own_t2]
    rw [own_step _ _ (own_it 3 v) _ _ (by omega)]
    change f1_5 5 v (own_it 4 v) _ _ = _
    rw [own_n3, own_t3]
    rw [own_step _ _ (own_it 4 v) _ _ (by omega)]
    change f1_5 4 v (own_it 5 v) _ _ = _
    rw [own_n4, own_t4]
    rw [own_step _ _ (own_it 5 v) _ _ (by omega)]
    change f1_5 3 v (own_it 6 v) _ _ = _
    rw [own_n5, own_t5]
    rw [own_step _ _ (own_it 6 v) _ _ (by omega)]
    change f1_5 2 v (own_it 7 v) _ _ = _
    rw [own_n6, own_t6]
    rw [own_step _ _ (own_it 7 v) _ _ (by omega)]
    change f1_5 1 v (own_it 8 v) _ _ = _
    rw [own_n7, own_t7]
    rw [own_last _ _ (own_it 8 v) _ _ (by omega), own_n8, own_t8]
    rfl
  unfold f0_175
  rw [e]
  exact own_182 _ _ _ _ _ _ _ (own_mid 0 _ _ _ _ (own_it 0 v) (by decide) (by decide) (own_E0 v) rfl) (own_mid 1 _ _ _ _ (own_it 1 v) (by decide) (by decide) (own_E1 v hv) rfl) (own_mid 2 _ _ _ _ (own_it 2 v) (by decide) (by decide) (own_E2 v hv) rfl) (own_mid 3 _ _ _ _ (own_it 3 v) (by decide) (by decide) (own_E3 v hv) rfl) (own_mid 4 _ _ _ _ (own_it 4 v) (by decide) (by decide) (own_E4 v hv) rfl) (own_mid 5 _ _ _ _ (own_it 5 v) (by decide) (by decide) (own_E5 v hv) rfl) (own_mid 6 _ _ _ _ (own_it 6 v) (by decide) (by decide) (own_E6 v hv) rfl) (own_mid 7 _ _ _ _ (own_it 7 v) (by decide) (by decide) (own_E7 v hv) rfl) (own_end 8 _ _ _ _ (own_it 8 v) (by decide) (by decide) (own_E8 v hv) (by omega) rfl) (own_out 9 _ _ _ _ (by decide) rfl)
theorem own_76 (v0 : Int64) (v2 v3 : Int32) (v : Int64) (f : Int32) (hv : 0 ≤ v.toInt) : f0_76 v0 v2 v3 v f [f, f, f, f, f, f, f, f, f, f] = 1 := by
  have r := rng64 v
  have z0 : (128 : Int64).toInt = 128 := rfl
  have z1 : (16384 : Int64).toInt = 16384 := rfl
  have z2 : (2097152 : Int64).toInt = 2097152 := rfl
  have z3 : (268435456 : Int64).toInt = 268435456 := rfl
  have z4 : (34359738368 : Int64).toInt = 34359738368 := rfl
  have z5 : (4398046511104 : Int64).toInt = 4398046511104 := rfl
  have z6 : (562949953421312 : Int64).toInt = 562949953421312 := rfl
  have z7 : (72057594037927936 : Int64).toInt = 72057594037927936 := rfl
  by_cases q1 : v.toInt < 128
  · unfold f0_76 f0_91 f0_103 f0_115 f0_127 f0_139 f0_151 f0_163
    rw [if_pos (show v < 128 from by rw [own_ltL]; omega), if_pos (show v < 16384 from by rw [own_ltL]; omega), if_pos (show v < 2097152 from by rw [own_ltL]; omega), if_pos (show v < 268435456 from by rw [own_ltL]; omega), if_pos (show v < 34359738368 from by rw [own_ltL]; omega), if_pos (show v < 4398046511104 from by rw [own_ltL]; omega), if_pos (show v < 562949953421312 from by rw [own_ltL]; omega), if_pos (show v < 72057594037927936 from by rw [own_ltL]; omega)]
    exact own_len1 v0 v2 v3 v f (by omega) (by omega)
  by_cases q2 : v.toInt < 16384
  · unfold f0_76 f0_91 f0_103 f0_115 f0_127 f0_139 f0_151 f0_163
    rw [if_neg (show ¬ (v < 128) from by rw [own_ltL]; omega), if_pos (show v < 16384 from by rw [own_ltL]; omega), if_pos (show v < 2097152 from by rw [own_ltL]; omega), if_pos (show v < 268435456 from by rw [own_ltL]; omega), if_pos (show v < 34359738368 from by rw [own_ltL]; omega), if_pos (show v < 4398046511104 from by rw [own_ltL]; omega), if_pos (show v < 562949953421312 from by rw [own_ltL]; omega), if_pos (show v < 72057594037927936 from by rw [own_ltL]; omega)]
    rw [own_n1]
    exact own_len2 v0 v2 v3 v f (by omega) (by omega)
  by_cases q3 : v.toInt < 2097152
  · unfold f0_76 f0_91 f0_103 f0_115 f0_127 f0_139 f0_151 f0_163
    rw [if_neg (show ¬ (v < 128) from by rw [own_ltL]; omega), if_neg (show ¬ (v < 16384) from by rw [own_ltL]; omega), if_pos (show v < 2097152 from by rw [own_ltL]; omega), if_pos (show v < 268435456 from by rw [own_ltL]; omega), if_pos (show v < 34359738368 from by rw [own_ltL]; omega), if_pos (show v < 4398046511104 from by rw [own_ltL]; omega), if_pos (show v < 562949953421312 from by rw [own_ltL]; omega), if_pos (show v < 72057594037927936 from by rw [own_ltL]; omega)]
    rw [own_n1, own_n2]
    exact own_len3 v0 v2 v3 v f (by omega) (by omega)
  by_cases q4 : v.toInt < 268435456
  · unfold f0_76 f0_91 f0_103 f0_115 f0_127 f0_139 f0_151 f0_163
    rw [if_neg (show ¬ (v < 128) from by rw [own_ltL]; omega), if_neg (show ¬ (v < 16384) from by rw [own_ltL]; omega), if_neg (show ¬ (v < 2097152) from by rw [own_ltL]; omega), if_pos (show v < 268435456 from by rw [own_ltL]; omega), if_pos (show v < 34359738368 from by rw [own_ltL]; omega), if_pos (show v < 4398046511104 from by rw [own_ltL]; omega), if_pos (show v < 562949953421312 from by rw [own_ltL]; omega), if_pos (show v < 72057594037927936 from by rw [own_ltL]; omega)]
    rw [own_n1, own_n2, own_n3]
    exact own_len4 v0 v2 v3 v f (by omega) (by omega)
  by_cases q5 : v.toInt < 34359738368
  · unfold f0_76 f0_91 f0_103 f0_115 f0_127 f0_139 f0_151 f0_163
    rw [if_neg (show ¬ (v < 128) from by rw [own_ltL]; omega), if_neg (show ¬ (v < 16384) from by rw [own_ltL]; omega), if_neg (show ¬ (v < 2097152) from by rw [own_ltL]; omega), if_neg (show ¬ (v < 268435456) from by rw [own_ltL]; omega), if_pos (show v < 34359738368 from by rw [own_ltL]; omega), if_pos (show v < 4398046511104 from by rw [own_ltL]; omega), if_pos (show v < 562949953421312 from by rw [own_ltL]; omega), if_pos (show v < 72057594037927936 from by rw [own_ltL]; omega)]
    rw [own_n1, own_n2, own_n3, own_n4]
    exact own_len5 v0 v2 v3 v f (by omega) (by omega)
  by_cases q6 : v.toInt < 4398046511104
  · unfold f0_76 f0_91 f0_103 f0_115 f0_127 f0_139 f0_151 f0_163
    rw [if_neg (show ¬ (v < 128) from by rw [own_ltL]; omega), if_neg (show ¬ (v < 16384) from by rw [own_ltL]; omega), if_neg (show ¬ (v < 2097152) from by rw [own_ltL]; omega), if_neg (show ¬ (v < 268435456) from by rw [own_ltL]; omega), if_neg (show ¬ (v < 34359738368) from by rw [own_ltL]; omega), if_pos (show v < 4398046511104 from by rw [own_ltL]; omega), if_pos (show v < 562949953421312 from by rw [own_ltL]; omega), if_pos (show v < 72057594037927936 from by rw [own_ltL]; omega)]
    rw [own_n1, own_n2, own_n3, own_n4, own_n5]
    exact own_len6 v0 v2 v3 v f (by omega) (by omega)
  by_cases q7 : v.toInt < 562949953421312
  · unfold f0_76 f0_91 f0_103 f0_115 f0_127 f0_139 f0_151 f0_163
    rw [if_neg (show ¬ (v < 128) from by rw [own_ltL]; omega), if_neg (show ¬ (v < 16384) from by rw [own_ltL]; omega), if_neg (show ¬ (v < 2097152) from by rw [own_ltL]; omega), if_neg (show ¬ (v < 268435456) from by rw [own_ltL]; omega), if_neg (show ¬ (v < 34359738368) from by rw [own_ltL]; omega), if_neg (show ¬ (v < 4398046511104) from by rw [own_ltL]; omega), if_pos (show v < 562949953421312 from by rw [own_ltL]; omega), if_pos (show v < 72057594037927936 from by rw [own_ltL]; omega)]
    rw [own_n1, own_n2, own_n3, own_n4, own_n5, own_n6]
    exact own_len7 v0 v2 v3 v f (by omega) (by omega)
  by_cases q8 : v.toInt < 72057594037927936
  · unfold f0_76 f0_91 f0_103 f0_115 f0_127 f0_139 f0_151 f0_163
    rw [if_neg (show ¬ (v < 128) from by rw [own_ltL]; omega), if_neg (show ¬ (v < 16384) from by rw [own_ltL]; omega), if_neg (show ¬ (v < 2097152) from by rw [own_ltL]; omega), if_neg (show ¬ (v < 268435456) from by rw [own_ltL]; omega), if_neg (show ¬ (v < 34359738368) from by rw [own_ltL]; omega), if_neg (show ¬ (v < 4398046511104) from by rw [own_ltL]; omega), if_neg (show ¬ (v < 562949953421312) from by rw [own_ltL]; omega), if_pos (show v < 72057594037927936 from by rw [own_ltL]; omega)]
    rw [own_n1, own_n2, own_n3, own_n4, own_n5, own_n6, own_n7]
    exact own_len8 v0 v2 v3 v f (by omega) (by omega)
  unfold f0_76 f0_91 f0_103 f0_115 f0_127 f0_139 f0_151 f0_163
  rw [if_neg (show ¬ (v < 128) from by rw [own_ltL]; omega), if_neg (show ¬ (v < 16384) from by rw [own_ltL]; omega), if_neg (show ¬ (v < 2097152) from by rw [own_ltL]; omega), if_neg (show ¬ (v < 268435456) from by rw [own_ltL]; omega), if_neg (show ¬ (v < 34359738368) from by rw [own_ltL]; omega), if_neg (show ¬ (v < 4398046511104) from by rw [own_ltL]; omega), if_neg (show ¬ (v < 562949953421312) from by rw [own_ltL]; omega), if_neg (show ¬ (v < 72057594037927936) from by rw [own_ltL]; omega)]
  rw [own_n1, own_n2, own_n3, own_n4, own_n5, own_n6, own_n7, own_n8]
  exact own_len9 v0 v2 v3 v f (by omega) (by omega)
theorem own_law (v : Int64) (s f : Int32) : f0_0 v s f = 1 := by
  unfold f0_0 f0_12
  rw [own_b8]
  exact own_76 _ _ _ _ _ (own_val v s)


set_option maxRecDepth 65536 in
set_option maxHeartbeats 40000000 in
theorem comes_1 {Post : Tables → Env → Array Value → State → Outcome → State → Prop} (hpost : ∀ tb e args s v u, (limb_1_1.after args s (.returned v) u = true ∧ limb_1_2.after args s (.returned v) u = true ∧ True) → FrameEnd s (.returned v) u (Jvm.fieldLocs frame_1_writes args s ++ Jvm.arrayLocs frame_1_arrays args s ++ Jvm.staticLocs frame_1_statics s) 16 128 → Post tb e args s (.returned v) u) :
    ArmFor flags0 classFile x code maxLocals ret World_1 tables_1 room_1 Calls_1 rest_1 Pre_1 Post := by
  intro l hfl _ _ p e ha hc hk s m args below hf hA hF happ hP
  obtain ⟨hcalls, hrest, hpre⟩ := hP
  obtain ⟨-, -, -, hnamed, -, -, -, hat⟩ := (Spec.applies_iff hf).mp happ
  obtain ⟨hg, hn⟩ := and_e (Cond.before_iff.mp (show (Jvm.Cond.and given_1 narrow_1).before args s = true from hpre))
  obtain ⟨gg1, gg2⟩ := and_e hg
  obtain ⟨gg3, gg4⟩ := and_e gg2
  obtain ⟨gg5, gg6⟩ := and_e gg4
  obtain ⟨w0, w1, w2, rfl⟩ : ∃ w0 w1 w2 : Value, args = #[w0, w1, w2] := by
    have hs : args.size = 3 := by simpa [Cond.value, given_1] using gg1
    obtain ⟨L⟩ := args
    match L, hs with
    | [w0, w1, w2], _ => exact ⟨w0, w1, w2, rfl⟩
  have hw := fun d (hd : d ∈ tables_1) => atoms_spec (ws := Jvm.Cond.code x code maxLocals ret :: tables_1) hat d (List.mem_cons_of_mem _ hd)
  have hfit : Fit s := fun {y c} hc i hi => by
    obtain ⟨ha, rfl⟩ := Array.getElem?_eq_some_iff.mp hc
    have q := List.all_eq_true.mp ((Array.all_eq_true_iff_forall_mem.mp hF) _ (Array.getElem_mem ha)) i (List.mem_range.mpr hi)
    simpa [Array.getElem?_eq_getElem hi] using q
  obtain ⟨i0, ei0⟩ := isL_v gg3
  obtain rfl : w0 = (.long i0) := Option.some.inj ei0
  obtain ⟨i1, ei1⟩ := is_v gg5
  obtain rfl : w1 = (.int i1) := Option.some.inj ei1
  obtain ⟨i2, ei2⟩ := is_v gg6
  obtain rfl : w2 = (.int i2) := Option.some.inj ei2
  obtain ⟨n, o, h1, h2, h3, _, L, rfl, ⟨rfl, N⟩, hq⟩ := rm0 l s _ hw tables_1 i0 i1 i2 s.heap s.heap.size (Nat.le_refl _)  p e ha hc hk s m _ below hf ((Spec.applies_iff_loose hf).mp happ).1 ⟨rfl, State.Warmed39.refl s, rfl⟩ trivial
  refine ⟨n, _, h1, h2, h3, hpost _ _ _ _ _ _ ⟨Cond.after_iff.mpr rfl, Cond.after_iff.mpr (eq_i res_at (Term.int_eval (1)) (congrArg Value.int (own_law i0 i1 i2))), trivial⟩ ⟨hq.1, hq.2.1, (hq.2.2.sift fun y hy => Or.inr (N y hy)).mono (by decide) (by decide)⟩⟩
theorem main_1_1 : Claimed_1_1 := comes_1 fun _ _ _ _ _ _ h hF => ⟨h.1, hF⟩
theorem main_1_2 : Claimed_1_2 := comes_1 fun _ _ _ _ _ _ h hF => ⟨h.2.1, hF⟩
end Jvm.Pilot.@@N@@
namespace Jvm.Pilot.@@N@@
open Jvm Jvm.ClassFile Sem Op Lib Jvm.Free Jvm.Stand Jvm.Pilot.@@N@@.Jvm.D
/-! MADE BY PROGRAM (witnessworld.py) out of the Statement's table words and the real class files: 9 classes; the members and pool entries that the words name. The judged class is class 1, her method 1. -/
namespace start1
open Jvm.ClassFile
def u (s : String) : CpInfo := .utf8 (stringToUtf16 s)
/-- a pool by its gaps: so many unusable entries, then the entry; so many at the end -/
def gap : Nat → List CpInfo → List CpInfo
  | 0, r => r
  | n + 1, r => .unusable :: gap n r
def poolList (es : List (Nat × CpInfo)) (last : Nat) : List CpInfo := es.foldr (fun e r => gap e.1 (e.2 :: r)) (gap last [])
def pool (es : List (Nat × CpInfo)) (last : Nat) : Array CpInfo := ⟨poolList es last⟩
def fileOf (pool : Array CpInfo) (this : Nat) (attrs : Array Attribute := #[]) (ms : Array MethodInfo := #[]) (fl : Nat := 33) (sup : Nat := 0) (ifs : Array Nat := #[]) (fds : Array FieldInfo := #[]) : ClassFile where
  minorVersion := 0
  majorVersion := 65
  constantPool := pool
  accessFlags := fl
  thisClass := this
  superClass := sup
  interfaces := ifs
  fields := fds
  methods := ms
  attributes := attrs
def plain (name : String) (sup : Option ClassId) : Class where
  name := name
  kind := .ordinary
  loader := none
  accessFlags := 33
  super := sup
  interfaces := #[]
  cf := none
  fields := #[]
  methods := #[]
  instanceTypes := #[]
  staticTypes := #[]
  resolved := #[]
  callSites := []
  init := .initialized
  statics := none
  mirror := none

def pool0 : Array CpInfo := pool [(5, u "<init>"), (0, u "()V"), (1, .class_ 10), (1, u "java/lang/Object")] 113

def k0m0 : Method := { name := "<init>", desc := "()V", sig := { parameters := [], returnType := none }, accessFlags := 1, code := none }
/-- java/lang/Object -/
def k0 : Class := { plain "java/lang/Object" none with
  accessFlags := 33
  interfaces := #[]
  cf := some (fileOf pool0 8 #[] #[{ accessFlags := 1, nameIndex := 5, descriptorIndex := 6, attributes := #[] }] 33 0 #[] #[])
  fields := #[]
  methods := #[k0m0]
  instanceTypes := #[]
  staticTypes := #[]
  resolved := Array.replicate 124 none
  statics := none }

def pool1 : Array CpInfo := pool [(2, .class_ 4), (1, u "java/lang/Object"), (0, u "<init>"), (0, u "()V"), (2, .long 9223372036854775807), (1, .long 128), (1, .long 16384), (1, .long 2097152), (1, .long 268435456), (1, .long 34359738368), (1, .long 4398046511104), (1, .long 562949953421312), (1, .long 72057594037927936), (1, .methodref 28 29), (0, .class_ 30), (0, .nameAndType 31 32), (0, u "com/example/search_suggest/searchsuggest/engine/Varint"), (0, u "encode"), (0, u "(J[B)I"), (0, .methodref 34 35), (0, .class_ 36), (0, .nameAndType 37 38), (0, u "com/example/search_suggest/searchsuggest/engine/VarintEncodePinLaw"), (0, u "byteOk"), (0, u "([BIJIB)Z"), (0, .long 127), (3, u "law"), (0, u "(JII)Z")] 5

def k1m0 : Method := { name := "<init>", desc := "()V", sig := { parameters := [], returnType := none }, accessFlags := 2, code := none }
def k1c1 : Code := { maxStack := 6, maxLocals := 10, code := code, exceptionTable := #[], attributes := #[] }
def k1m1 : Method := { name := "law", desc := "(JII)Z", sig := { parameters := [.long, .int, .int], returnType := some .boolean }, accessFlags := 9, code := some k1c1 }
def k1c2 : Code := { maxStack := 4, maxLocals := 7, code := method_3_code, exceptionTable := #[], attributes := #[] }
def k1m2 : Method := { name := "byteOk", desc := "([BIJIB)Z", sig := { parameters := [(.array .byte), .int, .long, .int, .byte], returnType := some .boolean }, accessFlags := 10, code := some k1c2 }
/-- com/example/search_suggest/searchsuggest/engine/VarintEncodePinLaw -/
def k1 : Class := { plain "com/example/search_suggest/searchsuggest/engine/VarintEncodePinLaw" (some 0) with
  accessFlags := 49
  interfaces := #[]
  cf := some (fileOf pool1 34 #[] #[{ accessFlags := 2, nameIndex := 5, descriptorIndex := 6, attributes := #[] }, { accessFlags := 9, nameIndex := 43, descriptorIndex := 44, attributes := #[] }, { accessFlags := 10, nameIndex := 37, descriptorIndex := 38, attributes := #[] }] 49 2 #[] #[])
  fields := #[]
  methods := #[k1m0, k1m1, k1m2]
  instanceTypes := #[]
  staticTypes := #[]
  resolved := Array.replicate 50 none
  statics := none }

def pool2 : Array CpInfo := pool [(2, .class_ 4), (1, u "java/lang/Object"), (0, u "<init>"), (0, u "()V"), (0, .long 18446744073709551488), (1, .long 127), (1, .long 128), (1, .class_ 14), (0, u "com/example/search_suggest/searchsuggest/engine/Varint"), (23, u "MAX_BYTES"), (0, u "I"), (4, u "encode"), (0, u "(J[B)I")] 5

def k2m0 : Method := { name := "<init>", desc := "()V", sig := { parameters := [], returnType := none }, accessFlags := 2, code := none }
def k2c1 : Code := { maxStack := 6, maxLocals := 6, code := prog_37_method_2_code, exceptionTable := #[], attributes := #[] }
def k2m1 : Method := { name := "encode", desc := "(J[B)I", sig := { parameters := [.long, (.array .byte)], returnType := some .int }, accessFlags := 8, code := some k2c1 }
/-- com/example/search_suggest/searchsuggest/engine/Varint -/
def k2 : Class := { plain "com/example/search_suggest/searchsuggest/engine/Varint" (some 0) with
  accessFlags := 48
  interfaces := #[]
  cf := some (fileOf pool2 13 #[] #[{ accessFlags := 2, nameIndex := 5, descriptorIndex := 6, attributes := #[] }, { accessFlags := 8, nameIndex := 44, descriptorIndex := 45, attributes := #[] }] 48 2 #[] #[{ accessFlags := 24, nameIndex := 38, descriptorIndex := 39, attributes := #[] }])
  fields := #[{ name := "MAX_BYTES", type := .int, accessFlags := 24, slot := 0, constantValue := 0 }]
  methods := #[k2m0, k2m1]
  instanceTypes := #[]
  staticTypes := #[.int]
  resolved := Array.replicate 51 none
  statics := none }

def pool3 : Array CpInfo := pool [(1, u "java/lang/Cloneable"), (0, .class_ 1), (0, u "java/lang/Object"), (0, .class_ 3)] 3

/-- java/lang/Cloneable -/
def k3 : Class := { plain "java/lang/Cloneable" (some 0) with
  accessFlags := 1537
  interfaces := #[]
  cf := some (fileOf pool3 2 #[] #[] 1537 4 #[] #[])
  fields := #[]
  methods := #[]
  instanceTypes := #[]
  staticTypes := #[]
  resolved := Array.replicate 8 none
  statics := none }

def pool4 : Array CpInfo := pool [(1, u "java/io/Serializable"), (0, .class_ 1), (0, u "java/lang/Object"), (0, .class_ 3)] 3

/-- java/io/Serializable -/
def k4 : Class := { plain "java/io/Serializable" (some 0) with
  accessFlags := 1537
  interfaces := #[]
  cf := some (fileOf pool4 2 #[] #[] 1537 4 #[] #[])
  fields := #[]
  methods := #[]
  instanceTypes := #[]
  staticTypes := #[]
  resolved := Array.replicate 8 none
  statics := none }

/-- the primitive byte -/
def k5 : Class := { plain "byte" none with kind := .primitive 'B', accessFlags := 0x411 }
/-- [B -/
def k6 : Class := { plain "[B" (some 0) with kind := .array 5 .byte, interfaces := #[3, 4], accessFlags := 1041 }

/-- the primitive int -/
def k7 : Class := { plain "int" none with kind := .primitive 'I', accessFlags := 0x411 }
/-- [I -/
def k8 : Class := { plain "[I" (some 0) with kind := .array 7 .int, interfaces := #[3, 4], accessFlags := 1041 }

def heap : Heap := #[]
def classes : Array Class := #[k0, k1, k2, k3, k4, k5, k6, k7, k8]
def interned : List (Array UInt16 × Addr) := []
def slotsUsed : Nat := 0
def theMethod : MethodId := ⟨1, 1⟩
def args0 : Array Value := #[.long 300, .int 0, .int 7]
def aboutOver (below : List Frame) : State where
  vm := { classes := classes, interned := interned.toArray }
  heap := heap
  slotsUsed := slotsUsed
  threads := #[{ frames := .invoking theMethod args0 :: below }]
def below0 : List Frame := [.native { method := ⟨0, 0⟩, args := #[] }]
def about1 : State := aboutOver below0
def p0 : Program := .bare "" "" ""
def e0 : Env := launch0.env 0 0 0
theorem w_frames : about1.frames = Frame.invoking theMethod args0 :: below0 := rfl
set_option maxRecDepth 65536 in
theorem w_args : argsFit about1.vm theMethod args0 = true := by decide +kernel
set_option maxRecDepth 65536 in
theorem w_heap : heapFits about1 = true := by decide +kernel
set_option maxRecDepth 65536 in
theorem w_runnable : about1.curStatus? = some .runnable := by decide +kernel
set_option maxRecDepth 65536 in
theorem w_alone : about1.alone = true := by decide +kernel
set_option maxRecDepth 65536 in
theorem w_named : about1.methodNamed? x = some theMethod := by decide +kernel
set_option maxRecDepth 65536 in
theorem w_hears : about1.hears theMethod below0 = true := by decide +kernel
set_option maxRecDepth 65536 in
theorem w_ripe : about1.ripe theMethod args0 below0 = true := by decide +kernel
theorem w_running : about1.status = .running := rfl
set_option maxRecDepth 65536 in
theorem w_room : about1.hasRoom e0.platform room_1 = true :=
  launch0.hasRoom_least _ room_1 (by decide +kernel) (by decide +kernel) (by decide +kernel) (by decide +kernel) (by decide +kernel) (by decide +kernel)
theorem allAtoms_all (ts : List Jvm.Cond) (a : Array Jvm.Value) (st : Jvm.State) : (allAtoms ts).before a st = ts.all (fun c => c.before a st) := by
  induction ts with
  | nil => rfl
  | cons c t ih =>
    show (Jvm.Cond.and c (allAtoms t)).before a st = _
    rw [Jvm.Cond.before_and, ih, List.all_cons]
def words1 : List Jvm.Cond := Jvm.Cond.code x code maxLocals ret :: tables_1
/-- a 'code' word, met by the world's own term for the bytes: nothing is compared byte by byte -/
theorem code_word {y : MethodName} {bytes : ByteArray} {mx : Nat} {rt : Option FieldType} {a : Array Value} {s : State} {m : MethodId} {meth : Method} {c : Code} (h1 : s.methodNamed? y = some m) (h2 : s.vm.method? m = some meth) (h3 : meth.code = some c) (h4 : c.code = bytes)
    (h5 : (c.maxLocals == mx && c.exceptionTable.isEmpty && decide (c.maxStack ≤ mostOperands) && decide (meth.sig.returnType = rt) && !meth.locks && decide (parseMethodDescriptor y.desc = some meth.sig)) = true) : (Jvm.Cond.code y bytes mx rt).before a s = true := by
  simp only [Bool.and_eq_true, beq_iff_eq, Bool.not_eq_true', decide_eq_true_eq] at h5
  obtain ⟨⟨⟨⟨⟨g1, g2⟩, g3⟩, g4⟩, g5⟩, g6⟩ := h5
  simp [Cond.before, Cond.holds, Cond.value, h1, h2, h3, h4, g1, g2, g3, g4, g5, g6]
def isCode : Jvm.Cond → Bool
  | .code _ _ _ _ => true
  | _ => false
theorem all_split {L : List Jvm.Cond} {P : Jvm.Cond → Bool} (h1 : L.all (fun c => isCode c || P c) = true) (h2 : ∀ c ∈ L.filter isCode, P c = true) : L.all P = true := by
  refine List.all_eq_true.mpr fun c hc => ?_
  have h := List.all_eq_true.mp h1 c hc
  rcases Bool.eq_false_or_eq_true (isCode c) with hi | hi
  · exact h2 c (List.mem_filter.mpr ⟨hc, hi⟩)
  · simpa [hi] using h
set_option maxRecDepth 65536 in
theorem w_c0 : (Jvm.Cond.code x code maxLocals ret).before args0 about1 = true := code_word (m := ⟨1, 1⟩) (meth := k1m1) (c := k1c1) (by decide +kernel) rfl rfl rfl (by decide +kernel)
set_option maxRecDepth 65536 in
theorem w_c1 : (Jvm.Cond.code ({ cls := "com/example/search_suggest/searchsuggest/engine/Varint", name := "encode", desc := "(J[B)I" } : Jvm.MethodName) prog_37_method_2_code (6 : Nat) (Option.some Jvm.ClassFile.FieldType.int)).before args0 about1 = true := code_word (m := ⟨2, 1⟩) (meth := k2m1) (c := k2c1) (by decide +kernel) rfl rfl rfl (by decide +kernel)
set_option maxRecDepth 65536 in
theorem w_c2 : (Jvm.Cond.code ({ cls := "com/example/search_suggest/searchsuggest/engine/VarintEncodePinLaw", name := "byteOk", desc := "([BIJIB)Z" } : Jvm.MethodName) method_3_code (7 : Nat) (Option.some Jvm.ClassFile.FieldType.boolean)).before args0 about1 = true := code_word (m := ⟨1, 2⟩) (meth := k1m2) (c := k1c2) (by decide +kernel) rfl rfl rfl (by decide +kernel)
def codes1 : List Jvm.Cond := [Jvm.Cond.code x code maxLocals ret, Jvm.Cond.code ({ cls := "com/example/search_suggest/searchsuggest/engine/Varint", name := "encode", desc := "(J[B)I" } : Jvm.MethodName) prog_37_method_2_code (6 : Nat) (Option.some Jvm.ClassFile.FieldType.int), Jvm.Cond.code ({ cls := "com/example/search_suggest/searchsuggest/engine/VarintEncodePinLaw", name := "byteOk", desc := "([BIJIB)Z" } : Jvm.MethodName) method_3_code (7 : Nat) (Option.some Jvm.ClassFile.FieldType.boolean)]
set_option maxRecDepth 65536 in
theorem codes_eq : words1.filter isCode = codes1 := rfl
theorem w_codes : ∀ c ∈ words1.filter isCode, c.before args0 about1 = true := by
  rw [codes_eq]
  intro c hc
  simp only [codes1, List.mem_cons, List.not_mem_nil, or_false] at hc
  rcases hc with rfl | rfl | rfl
  · exact w_c0
  · exact w_c1
  · exact w_c2
set_option maxRecDepth 65536 in
theorem w_t1 : words1.all (fun c => isCode c || c.before args0 about1) = true := by decide +kernel
theorem w_tables : (allAtoms (Jvm.Cond.code x code maxLocals ret :: tables_1)).before args0 about1 = true := by
  rw [allAtoms_all]
  show words1.all (fun c => c.before args0 about1) = true
  refine all_split ?_ w_codes
  rw [w_t1]
set_option maxRecDepth 65536 in
theorem w_case : (Jvm.Cond.and given_1 narrow_1).before args0 about1 = true := by decide +kernel
theorem w_applies : (headSpec (Jvm.Cond.code x code maxLocals ret :: tables_1) room_1).applies x e0.platform about1 = true :=
  (Spec.applies_iff w_frames).mpr ⟨w_running, w_runnable, w_alone, w_named, w_hears, w_ripe, w_room, w_tables⟩
theorem atStart : AtStart classFile x code maxLocals ret World_1 tables_1 room_1 Calls_1 rest_1 Pre_1 launch0 p0 e0 about1 theMethod args0 below0 :=
  ⟨lists_1, trivial, launch0.admits_env _ _ _, launch0.least_env, fairChoices_fair.cas, fairChoices_fair.clock, w_frames, w_args, w_heap, w_applies, trivial, trivial, w_case⟩
end start1
theorem witness_1 : WitnessClaimed_1 := ⟨start1.p0, start1.e0, start1.about1, start1.theMethod, start1.args0, start1.below0, start1.atStart⟩
end Jvm.Pilot.@@N@@
