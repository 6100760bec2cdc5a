import JvmDerived
import JvmDerived.Pilot.@@N@@Statement
import JvmDerived.Pilot.@@N@@Code
set_option linter.unusedVariables false
set_option linter.unusedSimpArgs false
namespace Jvm.RoadKit
open Sem ClassFile Op Lib Jvm.Stand Jvm.Free Jvm.LawKit
section New
variable {p : Program} {l : Launch} {e : Env} {R : Room} {s : State} {m : MethodId} {args : Array Value} {below : List Frame} {meth : Method} {c : Code} {T : State} {locs : List Loc} {cells slots : Nat}
theorem retI (X : Stand p l e R s m args below meth c T locs cells slots) (hx : p.tables.exec = Jvm.exec) {pc : Nat} {Ls : Array Slot} {z : Int32} {rest : List Value} (hret : meth.sig.returnType = some .int) (hd : decode c.code pc = .ok (.ireturn, 1)) {fs : List Frame}
    (hl : ∀ (f : JFrame) (acts : List Action), f.method = m → f.locked = none → f.entered = [] → (doReturn e (T.setTop f) acts (some (.int z))).1 = T.setFrames fs) : Steps p.tables e below (T.setTop (mkF m pc Ls (.int z :: rest))) (T.setFrames fs) := by
  have hm' : T.vm.method? m = some meth := X.method'
  have hn : narrow .int (.int z) = .int z := rfl
  show Steps p.tables e below (T.setTop { method := m, pc := pc, locals := Ls, stack := _ :: rest, locked := none }) _
  jvm_step X.here [X.here.top, hx, hd, hm', hret, hn]
  first | (intro acts; rw [hl _ acts rfl rfl rfl]) | rw [hl _ _ rfl rfl rfl]
  exact Steps.refl _
end New
end Jvm.RoadKit
namespace Jvm.Pilot.@@N@@
open Jvm Jvm.ClassFile Sem Op Lib Jvm.Free Jvm.Stand Jvm.LawKit Jvm.RoadKit Bundle Jvm.Pilot.@@N@@.Jvm.D
/-! what every block of a body's walk is given -/
def Ctx (p : Program) (Z s : State) (a0 : Array Value) (m : MethodId) (meth : Method) (c : Code) (own nm : String) (bytes : ByteArray) (maxl : Nat) (rt : Option FieldType) : Prop :=
  p.tables.exec = Jvm.exec ∧ Z.Warmed39 s.vm ∧ (∀ d ∈ tables_1, d.before a0 Z = true) ∧ c.code = bytes ∧ c.maxLocals = maxl ∧ meth.sig.returnType = rt ∧ s.vm.findClass own = some m.cls ∧ meth.name = nm ∧ meth.locks = false
/-- from the state A the body's run ends, returns, and leaves what Q says -/
def EndsIn (p : Program) (e : Env) (below : List Frame) (s : State) (cells slots : Nat) (Q : Option Value → Heap → List Loc → Prop) (A : State) : Prop :=
  ∃ s₂ o, Steps p.tables e below A s₂ ∧ s₂.status = .running ∧ Ended s₂ below o ∧ ∃ v L, o = .returned v ∧ Q v s₂.heap L ∧ FrameEnd s o s₂ L cells slots
section Ends
variable {p : Program} {l : Launch} {e : Env} {R : Room} {s : State} {m : MethodId} {args : Array Value} {below : List Frame} {meth : Method} {c : Code} {T : State} {locs : List Loc} {cells slots : Nat} {C S : Nat} {Q : Option Value → Heap → List Loc → Prop}
theorem EndsIn.by {A B : State} (h : ∀ t, Steps p.tables e below B t → Steps p.tables e below A t) (k : EndsIn p e below s C S Q B) : EndsIn p e below s C S Q A := by
  obtain ⟨s₂, o, h1, r⟩ := k
  exact ⟨s₂, o, h _ h1, r⟩
theorem own_retI (X : Stand p l e R s m args below meth c T locs cells slots) (hx : p.tables.exec = Jvm.exec) (hlk : meth.locks = false) {pc : Nat} {Ls : Array Slot} {z : Int32} {rest : List Value} (hret : meth.sig.returnType = some .int) (hd : decode c.code pc = .ok (.ireturn, 1)) (hc : cells ≤ C) (hs : slots ≤ S)
    (hq : Q (some (.int z)) T.heap locs) : EndsIn p e below s C S Q (T.setTop (mkF m pc Ls (.int z :: rest))) := by
  obtain ⟨fs, hr, hrun, hended, hW, hsame⟩ := X.leave (v := some (.int z)) (fun h => by rw [hret] at h; cases h) hlk
  exact ⟨_, _, retI X hx hret hd hr, hrun, hended, _, _, rfl, hq, ⟨_, rfl⟩, hW, hsame.mono hc hs⟩
theorem own_retN (X : Stand p l e R s m args below meth c T locs cells slots) (hx : p.tables.exec = Jvm.exec) (hlk : meth.locks = false) {pc : Nat} {Ls : Array Slot} {z : Int32} {rest : List Value} {t : FieldType} (hret : meth.sig.returnType = some t) (ht : t = .boolean ∨ t = .byte ∨ t = .char ∨ t = .short) (hd : decode c.code pc = .ok (.ireturn, 1)) (hc : cells ≤ C) (hs : slots ≤ S)
    (hq : Q (some (.int (nar t z))) T.heap locs) : EndsIn p e below s C S Q (T.setTop (mkF m pc Ls (.int z :: rest))) := by
  obtain ⟨fs, hr, hrun, hended, hW, hsame⟩ := X.leave (v := some (.int (nar t z))) (fun h => by rw [hret] at h; cases h) hlk
  exact ⟨_, _, retN X hx hret ht hd hr, hrun, hended, _, _, rfl, hq, ⟨_, rfl⟩, hW, hsame.mono hc hs⟩
theorem own_retJ (X : Stand p l e R s m args below meth c T locs cells slots) (hx : p.tables.exec = Jvm.exec) (hlk : meth.locks = false) {pc : Nat} {Ls : Array Slot} {z : Int64} (hret : meth.sig.returnType = some .long) (hd : decode c.code pc = .ok (.lreturn, 1)) (hc : cells ≤ C) (hs : slots ≤ S)
    (hq : Q (some (.long z)) T.heap locs) : EndsIn p e below s C S Q (T.setTop (mkF m pc Ls [.long z])) := by
  obtain ⟨fs, hr, hrun, hended, hW, hsame⟩ := X.leave (v := some (.long z)) (fun h => by rw [hret] at h; cases h) hlk
  exact ⟨_, _, X.lreturnOut hx hret hd hr, hrun, hended, _, _, rfl, hq, ⟨_, rfl⟩, hW, hsame.mono hc hs⟩
theorem own_retR (X : Stand p l e R s m args below meth c T locs cells slots) (hx : p.tables.exec = Jvm.exec) (hlk : meth.locks = false) {pc : Nat} {Ls : Array Slot} {z : Addr} {t : FieldType} (hret : meth.sig.returnType = some t) (ht : t.isReference = true) (hd : decode c.code pc = .ok (.areturn, 1)) (hc : cells ≤ C) (hs : slots ≤ S)
    (hq : Q (some (.ref z)) T.heap locs) : EndsIn p e below s C S Q (T.setTop (mkF m pc Ls [.ref z])) := by
  obtain ⟨fs, hr, hrun, hended, hW, hsame⟩ := X.leave (v := some (.ref z)) (fun h => by rw [hret] at h; cases h) hlk
  exact ⟨_, _, X.areturnOut hx rfl hret ht hd hr, hrun, hended, _, _, rfl, hq, ⟨_, rfl⟩, hW, hsame.mono hc hs⟩
theorem own_ret0 (X : Stand p l e R s m args below meth c T locs cells slots) (hx : p.tables.exec = Jvm.exec) (hlk : meth.locks = false) {pc : Nat} {Ls : Array Slot} (hret : meth.sig.returnType = none) (hd : decode c.code pc = .ok (.return_, 1)) (hc : cells ≤ C) (hs : slots ≤ S)
    (hq : Q none T.heap locs) : EndsIn p e below s C S Q (T.setTop (mkF m pc Ls [])) := by
  obtain ⟨fs, hr, hrun, hended, hW, hsame⟩ := X.leave (v := none) (fun _ => rfl) hlk
  exact ⟨_, _, X.returnOut hx hret hd hr, hrun, hended, _, _, rfl, hq, ⟨_, rfl⟩, hW, hsame.mono hc hs⟩
end Ends
section Arrays
variable {Z : State} {h h' : Heap} {a : Addr} {k : ClassId} {ty : FieldType} {n j : Int32} {vs : List Value} {d : Value}
/-- what an array of ints holds at the place j -/
def own_at (xs : List Int32) (j : Int32) : Int32 := xs.getD j.toNatClampNeg 0
def own_atJ (xs : List Int64) (j : Int32) : Int64 := xs.getD j.toNatClampNeg 0
theorem own_mapD (xs : List Int32) (i : Nat) : (xs.map Value.int).getD i (.int 0) = .int (xs.getD i 0) := by
  rw [List.getD_eq_getElem?_getD, List.getD_eq_getElem?_getD, List.getElem?_map]; cases xs[i]? <;> rfl
theorem own_mapDJ (xs : List Int64) (i : Nat) : (xs.map Value.long).getD i (.long 0) = .long (xs.getD i 0) := by
  rw [List.getD_eq_getElem?_getD, List.getD_eq_getElem?_getD, List.getElem?_map]; cases xs[i]? <;> rfl
theorem own_open (V : Arv Z h a k ty n vs d) (hj : ¬ (j < 0) ∧ j < n) : ∃ cl, Arr Z h a cl ty ∧ ¬ (j < 0 ∨ cl.slots.size ≤ j.toNatClampNeg) ∧ True := by
  obtain ⟨cl, Ar, -, S, -, -, -⟩ := V
  exact ⟨cl, Ar, inb_of S hj, trivial⟩
theorem own_readI {xs : List Int32} (V : Arv Z h a k ty n (xs.map Value.int) (.int 0)) (hj : ¬ (j < 0) ∧ j < n) (i : Nat) (hi : j.toNatClampNeg = i) : ∃ cl, Arr Z h a cl ty ∧ ¬ (j < 0 ∨ cl.slots.size ≤ j.toNatClampNeg) ∧ cl.slots[j.toNatClampNeg]? = some (.int (xs.getD i 0)) := by
  obtain ⟨cl, Ar, -, S, -, H, -⟩ := V
  have q := inb_of S hj
  refine ⟨cl, Ar, q, ?_⟩
  rw [H _ (Nat.lt_of_not_le fun y => q (Or.inr y)), own_mapD, hi]
theorem own_readJ {xs : List Int64} (V : Arv Z h a k ty n (xs.map Value.long) (.long 0)) (hj : ¬ (j < 0) ∧ j < n) (i : Nat) (hi : j.toNatClampNeg = i) : ∃ cl, Arr Z h a cl ty ∧ ¬ (j < 0 ∨ cl.slots.size ≤ j.toNatClampNeg) ∧ cl.slots[j.toNatClampNeg]? = some (.long (xs.getD i 0)) := by
  obtain ⟨cl, Ar, -, S, -, H, -⟩ := V
  have q := inb_of S hj
  refine ⟨cl, Ar, q, ?_⟩
  rw [H _ (Nat.lt_of_not_le fun y => q (Or.inr y)), own_mapDJ, hi]
theorem own_setI {xs : List Int32} {v : Int32} (V : Arv Z h a k ty n (xs.map Value.int) (.int 0)) (ln : xs.length = n.toNatClampNeg) (hj : ¬ (j < 0) ∧ j < n) (W : Wr h h' a j.toNatClampNeg (.int v)) (hf : fits ty (.int v) = true) (i : Nat) (hi : j.toNatClampNeg = i) :
    Arv Z h' a k ty n ((xs.set i v).map Value.int) (.int 0) ∧ (xs.set i v).length = n.toNatClampNeg := by
  subst hi
  obtain ⟨cl, Ar, q1, S, q3, H, G⟩ := V
  have q := inb_of S hj
  have W2 := Arv.set Ar q1 S q3 H G hf W j.toNatClampNeg rfl (by rw [List.length_map, ln, ← S]; exact Nat.lt_of_not_le fun y => q (Or.inr y))
  rw [List.map_set]
  exact ⟨W2, by rw [List.length_set]; exact ln⟩
theorem own_setJ {xs : List Int64} {v : Int64} (V : Arv Z h a k ty n (xs.map Value.long) (.long 0)) (ln : xs.length = n.toNatClampNeg) (hj : ¬ (j < 0) ∧ j < n) (W : Wr h h' a j.toNatClampNeg (.long v)) (hf : fits ty (.long v) = true) (i : Nat) (hi : j.toNatClampNeg = i) :
    Arv Z h' a k ty n ((xs.set i v).map Value.long) (.long 0) ∧ (xs.set i v).length = n.toNatClampNeg := by
  subst hi
  obtain ⟨cl, Ar, q1, S, q3, H, G⟩ := V
  have q := inb_of S hj
  have W2 := Arv.set Ar q1 S q3 H G hf W j.toNatClampNeg rfl (by rw [List.length_map, ln, ← S]; exact Nat.lt_of_not_le fun y => q (Or.inr y))
  rw [List.map_set]
  exact ⟨W2, by rw [List.length_set]; exact ln⟩
theorem own_newI (A : Arr Z h a (newA k ty n) ty) (hd : defaultValue ty = .int 0) (q : ¬ n < 0) {xs : List Int32} (hxs : xs = List.replicate n.toNatClampNeg 0) : Arv Z h a k ty n (xs.map Value.int) (.int 0) ∧ xs.length = n.toNatClampNeg := by
  subst hxs
  have V := Arv.new A q
  rw [hd] at V
  have V2 := V.pad (pad_rep [] (.int 0) n.toNatClampNeg)
  rw [List.map_replicate]
  exact ⟨V2, by rw [List.length_replicate]⟩
theorem own_newJ (A : Arr Z h a (newA k ty n) ty) (hd : defaultValue ty = .long 0) (q : ¬ n < 0) {xs : List Int64} (hxs : xs = List.replicate n.toNatClampNeg 0) : Arv Z h a k ty n (xs.map Value.long) (.long 0) ∧ xs.length = n.toNatClampNeg := by
  subst hxs
  have V := Arv.new A q
  rw [hd] at V
  have V2 := V.pad (pad_rep [] (.long 0) n.toNatClampNeg)
  rw [List.map_replicate]
  exact ⟨V2, by rw [List.length_replicate]⟩
end Arrays

section Words
variable {args : Array Value} {s : State}
theorem own_eqI {t : Term} {n : Int32} (h : (Jvm.Cond.eq t (.int n)).value args s none s [] = some true) : t.eval args s none [] s = some (.int n) := by
  obtain ⟨x, y, ex, ey, -, -⟩ := cmp_v (Or.inl h)
  cases x <;> simp [Cond.value, ex, Term.eval] at h
  rw [ex, h]
theorem own_lenI {t : Term} {n : Int32} {a : Addr} {cl : Cell} (h : (Jvm.Cond.eq (.length t) (.int n)).value args s none s [] = some true) (ht : t.eval args s none [] s = some (.ref a)) (hc : s.arrayAt? a = some cl) : cl.slots.size < 2 ^ 31 ∧ cl.slots.size.toInt32 = n := by
  have e := own_eqI h
  by_cases q : cl.slots.size < 2 ^ 31
  · rw [len_f ht hc q] at e
    cases e
    exact ⟨q, rfl⟩
  · simp [Term.eval, ht, hc, q] at e
theorem own_elI {t : Term} {i n : Int32} {a : Addr} {cl : Cell} (h : (Jvm.Cond.eq (.elem t (.int i)) (.int n)).value args s none s [] = some true) (ht : t.eval args s none [] s = some (.ref a)) (hc : s.heap[a]? = some cl) : cl.slots[i.toNatClampNeg]? = some (.int n) := by
  obtain ⟨c', e1, -, e2⟩ := elem_at (own_eqI h) ht (Term.int_eval i)
  cases hc.symm.trans e1
  exact e2
end Words

theorem own_arv {s : State} {a : Addr} {cl : Cell} {ty : FieldType} {z : Int32} {d : Value} (hf : Fit s) (A : Arr s s.heap a cl ty) (q : cl.slots.size < 2 ^ 31) (e : cl.slots.size.toInt32 = z) (hz : ¬ z < 0) : Arv s s.heap a cl.cls ty z cl.slots.toList d := by
  have S : cl.slots.size = z.toNatClampNeg := by rw [← e]; simp only [Int32.toNatClampNeg, len_toInt q]; rfl
  have H' : Has cl cl.slots.toList d := fun j hj => by
    rw [List.getD_eq_getElem?_getD, Array.getElem?_toList, Array.getElem?_eq_getElem hj]; rfl
  refine ⟨cl, A, rfl, S, hz, H', fun j hj => ?_⟩
  have e1 : (Nat.toInt32 j).toNatClampNeg = j := by simp only [Int32.toNatClampNeg, len_toInt (Nat.lt_trans hj q)]; rfl
  exact elem_fits (j := Nat.toInt32 j) hf A (idx_in hj q) (by rw [e1]; exact H' j hj)
theorem own_ltI {x y : Int32} : x < y ↔ x.toInt < y.toInt := Int32.lt_iff_toInt_lt
theorem own_ix (i : Int32) (h : 0 ≤ i.toInt ∧ i.toInt ≤ 4) (q : i < (4 : Int32)) : ¬ (i < (0 : Int32)) ∧ i < (4 : Int32) := by
  have z0 : (0 : Int32).toInt = 0 := rfl
  exact ⟨by rw [own_ltI]; omega, q⟩
theorem own_nx (i : Int32) (h : 0 ≤ i.toInt ∧ i.toInt ≤ 4) (q : i < (4 : Int32)) : (i + (1 : Int32)).toInt = i.toInt + 1 ∧ i.toInt + 1 ≤ 4 := by
  have z4 : (4 : Int32).toInt = 4 := rfl
  have z1 : (1 : Int32).toInt = 1 := rfl
  rw [own_ltI] at q
  have := c_iadd i 1; have := rng32 (i + 1)
  omega
theorem d3_0 : decode prog_28_method_1_code 0 = .ok (.getstatic 16, 3) := by decide +kernel
theorem d3_3 : decode prog_28_method_1_code 3 = .ok (.invokevirtual 20, 3) := by decide +kernel
theorem d3_6 : decode prog_28_method_1_code 6 = .ok (.checkcast 21, 3) := by decide +kernel
theorem d3_9 : decode prog_28_method_1_code 9 = .ok (.areturn, 1) := by decide +kernel
theorem pn_3 : plainName "com/example/search_suggest/searchsuggest/engine/SkipReason" = true := by first | (simp [plainName, overriddenIn]; done) | decide +kernel
def R3 : Room := { frames := 1, cells := 1, slots := 4, locals := 14 }
def Q3 (Z : State) (vals_xs : List Value) (h0 : Heap) (n0 : Nat) (r : Unit) (v : Option Value) (h : Heap) (L : List Loc) : Prop := ∃ (b : Addr) (kb : ClassId), v = some (.ref b) ∧ Fr n0 L ∧ n0 ≤ b ∧ h0.size ≤ b ∧ Keep h0 h [] ∧ Arv Z h b kb (.object "com/example/search_suggest/searchsuggest/engine/SkipReason") (4 : Int32) vals_xs .null ∧ Exa Z h b "[Lcom/example/search_suggest/searchsuggest/engine/SkipReason;"
def f3_0  : Unit := ()
set_option maxRecDepth 65536 in
set_option maxHeartbeats 40000000 in
theorem b3_0 {p : Program} {l : Launch} {e : Env} {s : State} {m : MethodId} {args : Array Value} {below : List Frame} {meth : Method} {c : Code} {Z : State} {a0 : Array Value} (B : Ctx p Z s a0 m meth c "com/example/search_suggest/searchsuggest/engine/SkipReason" "values" prog_28_method_1_code 0 (some (.array (.object "com/example/search_suggest/searchsuggest/engine/SkipReason")))) {T0 : State} {locs : List Loc} {h : Heap} (h0 : Heap) (n0 : Nat) (vals : Addr) (vals_k : ClassId) (vals_xs : List Value) (X0 : Stand p l e R3 s m args below meth c T0 locs 0 0) (e0 : T0.heap = h) (N0 : Fr n0 locs) (Z0 : n0 ≤ h.size) (K : Keep h0 h []) (V_vals : Arv Z h vals vals_k (.object "com/example/search_suggest/searchsuggest/engine/SkipReason") (4 : Int32) vals_xs .null) (E_vals : Exa Z h vals "[Lcom/example/search_suggest/searchsuggest/engine/SkipReason;") (O : Old Z n0 h) (S_vals : Sta Z Z.heap "com/example/search_suggest/searchsuggest/engine/SkipReason" "$VALUES" "[Lcom/example/search_suggest/searchsuggest/engine/SkipReason;" (.ref vals)) (lt_vals : vals < n0) (r : Unit) (hr : f3_0  = r) :
    EndsIn p e below s R3.cells R3.slots (Q3 Z vals_xs h0 n0 r) (T0.setTop (mkF m 0 #[] [])) := by
  obtain ⟨hx, hZ, hw, hby, hml, hret, hown, hnm, hlk⟩ := B
  unfold f3_0 at hr
  obtain ⟨T1, X1, e1, st1⟩ := getS2 X0 hx hZ hown (host := "") (Or.inl (hw _ (List.mem_of_getElem? (i := 13) rfl))) Via.refl e0 (S_vals.ext O.2) (g := (mkF m 0 #[] [])) rfl (hb hby d3_0)
  refine EndsIn.by (B := T1.setTop (mkF m 3 #[] [(.ref vals)])) (fun t k => st1 t k) ?_
  obtain ⟨T2, h2, X2, e2, X2e, A2, EA2, st2⟩ := cloneH X1 hx hZ hown (hw _ (List.mem_of_getElem? (i := 15) rfl)) (hw _ (List.mem_of_getElem? (i := 16) rfl)) (hw _ (List.mem_of_getElem? (i := 20) rfl)) (hw _ (List.mem_of_getElem? (i := 18) rfl)) (hw _ (List.mem_of_getElem? (i := 19) rfl)) (hw _ (List.mem_of_getElem? (i := 21) rfl)) e1 (Arv.arh V_vals) E_vals (g := (mkF m 3 #[] [(.ref vals)])) rfl (by rw [hml]; rfl) rfl (hb hby d3_3) (by decide) (W := 0) (by show 2 * 0 + _ ≤ _; exact Nat.le_of_eq rfl) (by decide) (cap := 4) (by decide) (by decide) (by decide)
  obtain ⟨b3, g2⟩ : ∃ z, z = h.size := ⟨_, rfl⟩
  rw [← g2] at A2 EA2 st2
  have g_b3 : n0 ≤ b3 := Nat.le_trans Z0 (Nat.le_of_eq g2.symm)
  have sz_b3 : h0.size ≤ b3 := Nat.le_trans K.1 (Nat.le_of_eq g2.symm)
  have ne_vals_b3 : vals ≠ b3 := Nat.ne_of_lt (Nat.lt_of_lt_of_le V_vals.lt (Nat.le_of_eq g2.symm))
  have V_vals_2 := V_vals.ext X2e
  have E_vals_2 := E_vals.ext X2e
  have Z2 : n0 ≤ h2.size := Nat.le_trans Z0 X2e.1
  have K2 := K.ext X2e
  have O2 := O.ext X2e
  have V_b3_2 : Arv Z h2 b3 vals_k (.object "com/example/search_suggest/searchsuggest/engine/SkipReason") (4 : Int32) vals_xs .null := A2
  refine EndsIn.by (B := T2.setTop (mkF m 6 #[] [(.ref b3)])) (fun t k => st2 t k) ?_
  obtain ⟨T3, X3, e3, st3⟩ := castY X2 hx hZ hown (hw _ (List.mem_of_getElem? (i := 27) rfl)) e2 (Ins.self EA2) (g := (mkF m 6 #[] [(.ref b3)])) rfl rfl (hb hby d3_6)
  refine EndsIn.by (B := T3.setTop (mkF m 9 #[] [(.ref b3)])) (fun t k => st3 t k) ?_
  subst hr
  exact own_retR X3 hx hlk hret rfl (hb hby d3_9) (by decide) (by decide) ⟨b3, vals_k, rfl, N0, g_b3, sz_b3, (by rw [e3]; exact K2), (by rw [e3]; exact V_b3_2), (by rw [e3]; exact EA2)⟩
theorem ef_3 (m : MethodId)  : entryFrame m #[] 0 = (mkF m 0 #[] []) := by first | (simp [entryFrame, mkF, argsToLocals, Value.category]; done) | rfl
set_option maxRecDepth 65536 in
set_option maxHeartbeats 40000000 in
theorem rm3 (l : Launch) (Z : State) (a0 : Array Value) (hw : ∀ d ∈ tables_1, d.before a0 Z = true) (ws : List Jvm.Cond) (vals : Addr) (vals_k : ClassId) (vals_xs : List Value) (h0 : Heap) (n0 : Nat) (Z0 : n0 ≤ h0.size) (V_vals : Arv Z h0 vals vals_k (.object "com/example/search_suggest/searchsuggest/engine/SkipReason") (4 : Int32) vals_xs .null) (E_vals : Exa Z h0 vals "[Lcom/example/search_suggest/searchsuggest/engine/SkipReason;") (O : Old Z n0 h0) (S_vals : Sta Z Z.heap "com/example/search_suggest/searchsuggest/engine/SkipReason" "$VALUES" "[Lcom/example/search_suggest/searchsuggest/engine/SkipReason;" (.ref vals)) (lt_vals : vals < n0) :
    MetFree l (⟨"com/example/search_suggest/searchsuggest/engine/SkipReason", "values", "()[Lcom/example/search_suggest/searchsuggest/engine/SkipReason;"⟩ : MethodName) (head1 (Jvm.Cond.code (⟨"com/example/search_suggest/searchsuggest/engine/SkipReason", "values", "()[Lcom/example/search_suggest/searchsuggest/engine/SkipReason;"⟩ : MethodName) prog_28_method_1_code 0 (some (.array (.object "com/example/search_suggest/searchsuggest/engine/SkipReason"))) :: ws) R3) (fun a U => a = #[] ∧ Z.Warmed39 U.vm ∧ U.heap = h0) (fun _ _ _ _ _ => True) (fun _ U o U' => ∃ v L, o = .returned v ∧ (Q3 Z vals_xs h0 n0 f3_0) v U'.heap L ∧ FrameEnd U o U' L R3.cells R3.slots) := by
  refine MetFree.of_bodySF (plainFor_of_name pn_3) hisR ?_
  intro p e s m args below meth c s₁ Bd hml0 hP hK
  obtain ⟨rfl, hZ, hh⟩ := hP
  have B : Ctx p Z s a0 m meth c "com/example/search_suggest/searchsuggest/engine/SkipReason" "values" prog_28_method_1_code 0 (some (.array (.object "com/example/search_suggest/searchsuggest/engine/SkipReason"))) := ⟨Bd.exec, hZ, hw, Bd.bytes, hml0, Bd.returns, findClass_of_methodNamed Bd.named, (name_of_methodNamed Bd.named Bd.method).1, Bd.notSynchronized⟩
  have X0 : Stand p l e R3 s m #[] below meth c s₁ [] 0 0 := Stand.of_body Bd
  have e0 : s₁.heap = h0 := by rw [← hh, Bd.state]; rfl
  have K := Keep.refl h0 []
  show EndsIn p e below s R3.cells R3.slots (Q3 Z vals_xs h0 n0 f3_0) (s₁.setTop (entryFrame m #[] 0))
  refine EndsIn.by (fun t k => castTop (ef_3 m ) k) ?_
  exact b3_0 B h0 n0 vals vals_k vals_xs X0 e0 (Fr.nil n0) Z0 K V_vals E_vals O S_vals lt_vals _ rfl
theorem pd_0 : parseMethodDescriptor "()[Lcom/example/search_suggest/searchsuggest/engine/SkipReason;" = some ⟨[], some (.array (.object "com/example/search_suggest/searchsuggest/engine/SkipReason"))⟩ := by decide +kernel
theorem d1_0 : decode prog_6_method_1_code 0 = .ok (.aload_n 0, 1) := by decide +kernel
theorem d1_1 : decode prog_6_method_1_code 1 = .ok (.invokespecial 1, 3) := by decide +kernel
theorem d1_4 : decode prog_6_method_1_code 4 = .ok (.aload_n 0, 1) := by decide +kernel
theorem d1_5 : decode prog_6_method_1_code 5 = .ok (.invokestatic 7, 3) := by decide +kernel
theorem d1_8 : decode prog_6_method_1_code 8 = .ok (.arraylength, 1) := by decide +kernel
theorem d1_9 : decode prog_6_method_1_code 9 = .ok (.newarray .long, 2) := by decide +kernel
theorem d1_11 : decode prog_6_method_1_code 11 = .ok (.putfield 13, 3) := by decide +kernel
theorem d1_14 : decode prog_6_method_1_code 14 = .ok (.return_, 1) := by decide +kernel
theorem pn_1 : plainName "com/example/search_suggest/searchsuggest/engine/LineTally" = true := by first | (simp [plainName, overriddenIn]; done) | decide +kernel
def R1 : Room := { frames := 2, cells := 2, slots := 8, locals := 26 }
def Q1 (Z : State) (o0 : Addr) (h0 : Heap) (n0 : Nat) (r : Int64 × List Int64) (v : Option Value) (h : Heap) (L : List Loc) : Prop := ∃ (b : Addr) (kb : ClassId), v = none ∧ Fr n0 L ∧ n0 ≤ b ∧ h0.size ≤ b ∧ Keep h0 h [o0] ∧ Exa Z h o0 "com/example/search_suggest/searchsuggest/engine/LineTally" ∧ Fld Z h o0 "com/example/search_suggest/searchsuggest/engine/LineTally" "skipped" "[J" (.ref b) ∧ Fld Z h o0 "com/example/search_suggest/searchsuggest/engine/LineTally" "kept" "J" (.long r.1) ∧ Arv Z h b kb .long (4 : Int32) (r.2.map Value.long) (.long 0) ∧ r.2.length = (4 : Int32).toNatClampNeg ∧ o0 ≠ b
def f1_0 (o0_kept : Int64) : Int64 × List Int64 := (o0_kept, ([0, 0, 0, 0] : List Int64))
set_option maxRecDepth 65536 in
set_option maxHeartbeats 40000000 in
theorem b1_0 {p : Program} {l : Launch} {e : Env} {s : State} {m : MethodId} {args : Array Value} {below : List Frame} {meth : Method} {c : Code} {Z : State} {a0 : Array Value} (B : Ctx p Z s a0 m meth c "com/example/search_suggest/searchsuggest/engine/LineTally" "<init>" prog_6_method_1_code 1 none) {T0 : State} {locs : List Loc} {h : Heap} (h0 : Heap) (n0 : Nat) (o0 : Addr) (vals : Addr) (o0_skipped : Value) (o0_kept : Int64) (vals_k : ClassId) (vals_xs : List Value) (X0 : Stand p l e R1 s m args below meth c T0 locs 0 0) (e0 : T0.heap = h) (N0 : Fr n0 locs) (Z0 : n0 ≤ h.size) (K : Keep h0 h [o0]) (E_o0 : Exa Z h o0 "com/example/search_suggest/searchsuggest/engine/LineTally") (F_o0_skipped : Fld Z h o0 "com/example/search_suggest/searchsuggest/engine/LineTally" "skipped" "[J" o0_skipped) (F_o0_kept : Fld Z h o0 "com/example/search_suggest/searchsuggest/engine/LineTally" "kept" "J" (.long o0_kept)) (g_o0 : n0 ≤ o0) (V_vals : Arv Z h vals vals_k (.object "com/example/search_suggest/searchsuggest/engine/SkipReason") (4 : Int32) vals_xs .null) (E_vals : Exa Z h vals "[Lcom/example/search_suggest/searchsuggest/engine/SkipReason;") (O : Old Z n0 h) (S_vals : Sta Z Z.heap "com/example/search_suggest/searchsuggest/engine/SkipReason" "$VALUES" "[Lcom/example/search_suggest/searchsuggest/engine/SkipReason;" (.ref vals)) (lt_vals : vals < n0) (r : Int64 × List Int64) (hr : f1_0 o0_kept = r) :
    EndsIn p e below s R1.cells R1.slots (Q1 Z o0 h0 n0 r) (T0.setTop (mkF m 0 #[.val (.ref o0)] [])) := by
  obtain ⟨hx, hZ, hw, hby, hml, hret, hown, hnm, hlk⟩ := B
  unfold f1_0 at hr
  refine EndsIn.by (B := T0.setTop (mkF m 1 #[.val (.ref o0)] [(.ref o0)])) (fun t k => ?_) ?_
  · show Steps p.tables e below (T0.setTop (mkF m 0 #[.val (.ref o0)] [])) _
    refine XS.aloadN X0.here hx rfl (hb hby d1_0) rfl rfl ?_
    exact k
  obtain ⟨T1, X1, e1, st1⟩ := initO X0 hx hZ hown (hw _ (List.mem_of_getElem? (i := 6) rfl)) (hw _ (List.mem_of_getElem? (i := 7) rfl)) (hw _ (List.mem_of_getElem? (i := 8) rfl)) e0 (g := (mkF m 1 #[.val (.ref o0)] [(.ref o0)])) rfl (by rw [hml]; rfl) rfl (hb hby d1_1) (by decide) (W := 0) (by show 2 * 0 + _ ≤ _; exact Nat.le_of_eq rfl) (by decide)
  refine EndsIn.by (B := T1.setTop (mkF m 4 #[.val (.ref o0)] [])) (fun t k => st1 t k) ?_
  refine EndsIn.by (B := T1.setTop (mkF m 5 #[.val (.ref o0)] [(.ref o0)])) (fun t k => ?_) ?_
  · show Steps p.tables e below (T1.setTop (mkF m 4 #[.val (.ref o0)] [])) _
    refine XS.aloadN X1.here hx rfl (hb hby d1_4) rfl rfl ?_
    exact k
  -- pc 5: com/example/search_suggest/searchsuggest/engine/SkipReason.values
  obtain ⟨_, _, ⟨T2, L2, k2, n2⟩, -, X2, ⟨Lc2, hQ2, l2, y2, z2⟩, st2⟩ := Jvm.LawKit.callS X1 hx (y := (⟨"com/example/search_suggest/searchsuggest/engine/SkipReason", "values", "()[Lcom/example/search_suggest/searchsuggest/engine/SkipReason;"⟩ : MethodName)) hown (mvT hZ (hw _ (List.mem_of_getElem? (i := 9) rfl))) (mvT hZ (hw _ (List.mem_of_getElem? (i := 10) rfl))) (mvT hZ (hw _ (List.mem_of_getElem? (i := 11) rfl))) (mvT hZ (hw _ (List.mem_of_getElem? (i := 12) rfl))) (by decide) (backOf (W := 1) (rm3 l Z a0 hw [] vals vals_k vals_xs h n0 Z0 V_vals E_vals O S_vals lt_vals) hZ (hw _ (List.mem_of_getElem? (i := 12) rfl)) (hw _ (List.mem_of_getElem? (i := 11) rfl)) (by decide) (by decide)) (g := (mkF m 5 #[.val (.ref o0)] [(.ref o0)])) rfl (by rw [hml]; rfl) (argsL := []) (rest := [(.ref o0)]) (lenOf pd_0 rfl) rfl (by show 2 * 0 + _ ≤ _; exact Nat.le_of_eq rfl) (hb hby d1_5) (fun _ _ => ⟨rfl, e1, (by decide : 0 + R3.cells ≤ _), (by decide : 0 + R3.slots ≤ _)⟩)
  dsimp only [Pt.U, Pt.locs, Pt.cells, Pt.slots] at X2 l2 y2 z2 st2 hQ2
  subst l2 y2 z2
  obtain ⟨c5, kb_2, rfl, Nq2, g_c5, szq2, Kq2, Vb_2, Eb_2⟩ := hQ2
  obtain ⟨h2, e2⟩ : ∃ z, T2.heap = z := ⟨_, rfl⟩
  rw [e2] at Kq2 Vb_2 Eb_2
  have N2 := Fr.app N0 Nq2
  have Z2 : n0 ≤ h2.size := Nat.le_trans Z0 Kq2.1
  have ne_o0_c5 : o0 ≠ c5 := Nat.ne_of_lt (Nat.lt_of_lt_of_le E_o0.lt szq2)
  have ne_vals_c5 : vals ≠ c5 := Nat.ne_of_lt (Nat.lt_of_lt_of_le V_vals.lt szq2)
  have E_o0_2 := E_o0.keep Kq2
  have F_o0_skipped_2 := F_o0_skipped.keep Kq2 (by simp)
  have F_o0_kept_2 := F_o0_kept.keep Kq2 (by simp)
  have V_vals_2 := V_vals.keep Kq2 (by simp)
  have E_vals_2 := E_vals.keep Kq2
  have K2 := K.trans Kq2 (fun _ q => nomatch q)
  have O2 := O.keep Kq2 all0
  have sz_c5 : h0.size ≤ c5 := Nat.le_trans K.1 szq2
  refine EndsIn.by (B := T2.setTop (mkF m 8 #[.val (.ref o0)] [(.ref c5), (.ref o0)])) (fun t k => st2 t k) ?_
  have V3 := Vb_2
  obtain ⟨cl3, Ar3, -, S3, M3, -, -⟩ := V3
  refine EndsIn.by (B := T2.setTop (mkF m 9 #[.val (.ref o0)] [(.int (4 : Int32)), (.ref o0)])) (fun t k => ?_) ?_
  · show Steps p.tables e below (T2.setTop (mkF m 8 #[.val (.ref o0)] [(.ref c5), (.ref o0)])) _
    refine X2.arraylength hx (by rw [e2]; exact Ar3.1) (State.isArrayOf_alike hZ.alike Ar3.2.1) (g := (mkF m 8 #[.val (.ref o0)] [(.ref c5), (.ref o0)])) rfl rfl (hb hby d1_8) _ ?_
    rw [len_of S3 M3]
    exact k
  obtain ⟨T4, h4, k4, X4, e4, X4e, A4, st4⟩ := newP X2 hx hZ (hw _ (List.mem_of_getElem? (i := 29) rfl)) e2 (g := (mkF m 9 #[.val (.ref o0)] [(.int (4 : Int32)), (.ref o0)])) rfl (hb hby d1_9) rfl (by decide) (cap := 4) (by decide) (by decide) (by decide) (by decide)
  obtain ⟨b9, g4⟩ : ∃ z, z = h2.size := ⟨_, rfl⟩
  rw [← g4] at A4 st4
  have g_b9 : n0 ≤ b9 := Nat.le_trans Z2 (Nat.le_of_eq g4.symm)
  have sz_b9 : h0.size ≤ b9 := Nat.le_trans K2.1 (Nat.le_of_eq g4.symm)
  have ne_o0_b9 : o0 ≠ b9 := Nat.ne_of_lt (Nat.lt_of_lt_of_le E_o0_2.lt (Nat.le_of_eq g4.symm))
  have ne_vals_b9 : vals ≠ b9 := Nat.ne_of_lt (Nat.lt_of_lt_of_le V_vals_2.lt (Nat.le_of_eq g4.symm))
  have ne_c5_b9 : c5 ≠ b9 := Nat.ne_of_lt (Nat.lt_of_lt_of_le Vb_2.lt (Nat.le_of_eq g4.symm))
  have E_o0_4 := E_o0_2.ext X4e
  have F_o0_skipped_4 := F_o0_skipped_2.ext X4e
  have F_o0_kept_4 := F_o0_kept_2.ext X4e
  have V_vals_4 := V_vals_2.ext X4e
  have E_vals_4 := E_vals_2.ext X4e
  have V_c5_4 := Vb_2.ext X4e
  have E_c5_4 := Eb_2.ext X4e
  have Z4 : n0 ≤ h4.size := Nat.le_trans Z2 X4e.1
  have K4 := K2.ext X4e
  have O4 := O2.ext X4e
  obtain ⟨V_b9_4, ln_b9_4⟩ : Arv Z h4 b9 k4 .long (4 : Int32) (([0, 0, 0, 0] : List Int64).map Value.long) (.long 0) ∧ ([0, 0, 0, 0] : List Int64).length = (4 : Int32).toNatClampNeg := own_newJ A4 rfl (by decide) (xs := ([0, 0, 0, 0] : List Int64)) (by decide)
  refine EndsIn.by (B := T4.setTop (mkF m 11 #[.val (.ref o0)] [(.ref b9), (.ref o0)])) (fun t k => st4 t k) ?_
  obtain ⟨T5, h5, X5, e5, W5, st5⟩ := putF X4 hx hZ hown (host := "") (Or.inl (hw _ (List.mem_of_getElem? (i := 30) rfl))) Via.refl e4 F_o0_skipped_4 E_o0_4 (Or.inr ⟨(hw _ (List.mem_of_getElem? (i := 31) rfl)), rfl, hnm⟩) (hw _ (List.mem_of_getElem? (i := 1) rfl)) (ty := (.array .long)) (by decide) rfl rfl (g := (mkF m 11 #[.val (.ref o0)] [(.ref b9), (.ref o0)])) rfl rfl (hb hby d1_11)
  have E_o0_5 := E_o0_4.wr W5
  have F_o0_skipped_5 := F_o0_skipped_4.same W5
  have F_o0_kept_5 := F_o0_kept_4.other W5 (Or.inr (slot_ne (Or.inl (hw _ (List.mem_of_getElem? (i := 43) rfl))) (Or.inr (hw _ (List.mem_of_getElem? (i := 31) rfl))) (by decide) (t := .long) (t' := (.array .long)) (by decide) (by decide)))
  have V_vals_5 := V_vals_4.other W5 (Nat.ne_of_lt (Nat.lt_of_lt_of_le lt_vals g_o0))
  have E_vals_5 := E_vals_4.wr W5
  have V_c5_5 := V_c5_4.other W5 (Ne.symm ne_o0_c5)
  have E_c5_5 := E_c5_4.wr W5
  have V_b9_5 := V_b9_4.other W5 (Ne.symm ne_o0_b9)
  have N5 := Fr.snoc X5 N2 g_o0
  have Z5 : n0 ≤ h5.size := Nat.le_trans Z4 (Nat.le_of_eq W5.size.symm)
  have K5 := K4.wr W5 (Or.inl (by simp))
  have O5 := O4.wr W5 g_o0
  refine EndsIn.by (B := T5.setTop (mkF m 14 #[.val (.ref o0)] [])) (fun t k => st5 t k) ?_
  subst hr
  exact own_ret0 X5 hx hlk hret (hb hby d1_14) (by decide) (by decide) ⟨b9, k4, rfl, N5, g_b9, sz_b9, (by rw [e5]; exact K5), (by rw [e5]; exact E_o0_5), (by rw [e5]; exact F_o0_skipped_5), (by rw [e5]; exact F_o0_kept_5), (by rw [e5]; exact V_b9_5), ln_b9_4, ne_o0_b9⟩
theorem ef_1 (m : MethodId) (o0 : Addr) : entryFrame m #[(.ref o0)] 1 = (mkF m 0 #[.val (.ref o0)] []) := by first | (simp [entryFrame, mkF, argsToLocals, Value.category]; done) | rfl
set_option maxRecDepth 65536 in
set_option maxHeartbeats 40000000 in
theorem rm1 (l : Launch) (Z : State) (a0 : Array Value) (hw : ∀ d ∈ tables_1, d.before a0 Z = true) (ws : List Jvm.Cond) (o0 : Addr) (vals : Addr) (o0_skipped : Value) (o0_kept : Int64) (vals_k : ClassId) (vals_xs : List Value) (h0 : Heap) (n0 : Nat) (Z0 : n0 ≤ h0.size) (E_o0 : Exa Z h0 o0 "com/example/search_suggest/searchsuggest/engine/LineTally") (F_o0_skipped : Fld Z h0 o0 "com/example/search_suggest/searchsuggest/engine/LineTally" "skipped" "[J" o0_skipped) (F_o0_kept : Fld Z h0 o0 "com/example/search_suggest/searchsuggest/engine/LineTally" "kept" "J" (.long o0_kept)) (g_o0 : n0 ≤ o0) (V_vals : Arv Z h0 vals vals_k (.object "com/example/search_suggest/searchsuggest/engine/SkipReason") (4 : Int32) vals_xs .null) (E_vals : Exa Z h0 vals "[Lcom/example/search_suggest/searchsuggest/engine/SkipReason;") (O : Old Z n0 h0) (S_vals : Sta Z Z.heap "com/example/search_suggest/searchsuggest/engine/SkipReason" "$VALUES" "[Lcom/example/search_suggest/searchsuggest/engine/SkipReason;" (.ref vals)) (lt_vals : vals < n0) :
    MetFree l (⟨"com/example/search_suggest/searchsuggest/engine/LineTally", "<init>", "()V"⟩ : MethodName) (head1 (Jvm.Cond.code (⟨"com/example/search_suggest/searchsuggest/engine/LineTally", "<init>", "()V"⟩ : MethodName) prog_6_method_1_code 1 none :: ws) R1) (fun a U => a = #[(.ref o0)] ∧ Z.Warmed39 U.vm ∧ U.heap = h0) (fun _ _ _ _ _ => True) (fun _ U o U' => ∃ v L, o = .returned v ∧ (Q1 Z o0 h0 n0 (f1_0 o0_kept)) v U'.heap L ∧ FrameEnd U o U' L R1.cells R1.slots) := by
  refine MetFree.of_bodySF (plainFor_of_name pn_1) hisR ?_
  intro p e s m args below meth c s₁ Bd hml0 hP hK
  obtain ⟨rfl, hZ, hh⟩ := hP
  have B : Ctx p Z s a0 m meth c "com/example/search_suggest/searchsuggest/engine/LineTally" "<init>" prog_6_method_1_code 1 none := ⟨Bd.exec, hZ, hw, Bd.bytes, hml0, Bd.returns, findClass_of_methodNamed Bd.named, (name_of_methodNamed Bd.named Bd.method).1, Bd.notSynchronized⟩
  have X0 : Stand p l e R1 s m #[(.ref o0)] below meth c s₁ [] 0 0 := Stand.of_body Bd
  have e0 : s₁.heap = h0 := by rw [← hh, Bd.state]; rfl
  have K := Keep.refl h0 [o0]
  show EndsIn p e below s R1.cells R1.slots (Q1 Z o0 h0 n0 (f1_0 o0_kept)) (s₁.setTop (entryFrame m #[(.ref o0)] 1))
  refine EndsIn.by (fun t k => castTop (ef_1 m o0) k) ?_
  exact b1_0 B h0 n0 o0 vals o0_skipped o0_kept vals_k vals_xs X0 e0 (Fr.nil n0) Z0 K E_o0 F_o0_skipped F_o0_kept g_o0 V_vals E_vals O S_vals lt_vals _ rfl
theorem pd_1 : parseMethodDescriptor "()V" = some ⟨[], none⟩ := by decide +kernel
theorem d4_0 : decode prog_6_method_6_code 0 = .ok (.lconst 0, 1) := by decide +kernel
theorem d4_1 : decode prog_6_method_6_code 1 = .ok (.lstore_n 1, 1) := by decide +kernel
theorem d4_2 : decode prog_6_method_6_code 2 = .ok (.aload_n 0, 1) := by decide +kernel
theorem d4_3 : decode prog_6_method_6_code 3 = .ok (.getfield 13, 3) := by decide +kernel
theorem d4_6 : decode prog_6_method_6_code 6 = .ok (.astore_n 3, 1) := by decide +kernel
theorem d4_7 : decode prog_6_method_6_code 7 = .ok (.aload_n 3, 1) := by decide +kernel
theorem d4_8 : decode prog_6_method_6_code 8 = .ok (.arraylength, 1) := by decide +kernel
theorem d4_9 : decode prog_6_method_6_code 9 = .ok (.istore 4, 2) := by decide +kernel
theorem d4_11 : decode prog_6_method_6_code 11 = .ok (.iconst 0, 1) := by decide +kernel
theorem d4_12 : decode prog_6_method_6_code 12 = .ok (.istore 5, 2) := by decide +kernel
theorem d4_14 : decode prog_6_method_6_code 14 = .ok (.iload 5, 2) := by decide +kernel
theorem d4_16 : decode prog_6_method_6_code 16 = .ok (.iload 4, 2) := by decide +kernel
theorem d4_18 : decode prog_6_method_6_code 18 = .ok (.if_icmp .ge 20, 3) := by decide +kernel
theorem d4_21 : decode prog_6_method_6_code 21 = .ok (.aload_n 3, 1) := by decide +kernel
theorem d4_22 : decode prog_6_method_6_code 22 = .ok (.iload 5, 2) := by decide +kernel
theorem d4_24 : decode prog_6_method_6_code 24 = .ok (.laload, 1) := by decide +kernel
theorem d4_25 : decode prog_6_method_6_code 25 = .ok (.lstore 6, 2) := by decide +kernel
theorem d4_27 : decode prog_6_method_6_code 27 = .ok (.lload_n 1, 1) := by decide +kernel
theorem d4_28 : decode prog_6_method_6_code 28 = .ok (.lload 6, 2) := by decide +kernel
theorem d4_30 : decode prog_6_method_6_code 30 = .ok (.ladd, 1) := by decide +kernel
theorem d4_31 : decode prog_6_method_6_code 31 = .ok (.lstore_n 1, 1) := by decide +kernel
theorem d4_32 : decode prog_6_method_6_code 32 = .ok (.iinc 5 1, 3) := by decide +kernel
theorem d4_35 : decode prog_6_method_6_code 35 = .ok (.goto (-21), 3) := by decide +kernel
theorem d4_38 : decode prog_6_method_6_code 38 = .ok (.lload_n 1, 1) := by decide +kernel
theorem d4_39 : decode prog_6_method_6_code 39 = .ok (.lreturn, 1) := by decide +kernel
theorem pn_4 : plainName "com/example/search_suggest/searchsuggest/engine/LineTally" = true := by first | (simp [plainName, overriddenIn]; done) | decide +kernel
def R4 : Room := { frames := 0, cells := 0, slots := 0, locals := 0 }
def Q4 (Z : State)  (h0 : Heap) (n0 : Nat) (r : Int64) (v : Option Value) (h : Heap) (L : List Loc) : Prop := v = some (.long r) ∧ Fr n0 L ∧ h = h0
def f4_14_1 : Nat → Int64 → Int32 → Int32 → Int64 → Int64 → List Int64 → Int64
  | 0, _, _, _, _, _, _ => ((0 : Int64))
  | k + 1, v1, v4, v5, v6, o0_kept, sk_xs => (if v5 < v4 then (f4_14_1 k (v1 + (own_atJ sk_xs v5)) v4 (v5 + (1 : Int32)) (own_atJ sk_xs v5) o0_kept sk_xs) else v1)
set_option maxRecDepth 65536 in
set_option maxHeartbeats 40000000 in
theorem b4_14_1 {p : Program} {l : Launch} {e : Env} {s : State} {m : MethodId} {args : Array Value} {below : List Frame} {meth : Method} {c : Code} {Z : State} {a0 : Array Value} (B : Ctx p Z s a0 m meth c "com/example/search_suggest/searchsuggest/engine/LineTally" "skipped" prog_6_method_6_code 8 (some .long)) (h0 : Heap) (n0 : Nat)  : ∀ (k : Nat) {T0 : State} {locs : List Loc} {h : Heap} (o0 : Addr) (v1 : Int64) (sk : Addr) (v4 : Int32) (v5 : Int32) (v6 : Int64) (o0_kept : Int64) (sk_k : ClassId) (sk_xs : List Int64) (X0 : Stand p l e R4 s m args below meth c T0 locs 0 0) (e0 : T0.heap = h) (N0 : Fr n0 locs) (Z0 : n0 ≤ h.size) (hh0 : h = h0) (E_o0 : Exa Z h o0 "com/example/search_suggest/searchsuggest/engine/LineTally") (F_o0_skipped : Fld Z h o0 "com/example/search_suggest/searchsuggest/engine/LineTally" "skipped" "[J" (.ref sk)) (F_o0_kept : Fld Z h o0 "com/example/search_suggest/searchsuggest/engine/LineTally" "kept" "J" (.long o0_kept)) (V_sk : Arv Z h sk sk_k .long (4 : Int32) (sk_xs.map Value.long) (.long 0)) (ln_sk : sk_xs.length = (4 : Int32).toNatClampNeg) (i1 : v4 = (4 : Int32)) (hj : 0 ≤ v5.toInt ∧ v5.toInt ≤ 4) (hmu : (4 - v5.toInt).toNat < k) (r : Int64) (hr : f4_14_1 k v1 v4 v5 v6 o0_kept sk_xs = r),
    EndsIn p e below s R4.cells R4.slots (Q4 Z  h0 n0 r) (T0.setTop (mkF m 14 #[.val (.ref o0), .val (.long v1), .second, .val (.ref sk), .val (.int v4), .val (.int v5), .val (.long v6), .second] [])) := by
  obtain ⟨hx, hZ, hw, hby, hml, hret, hown, hnm, hlk⟩ := B
  intro k
  induction k with
  | zero => intro T0 locs h o0 v1 sk v4 v5 v6 o0_kept sk_k sk_xs X0 e0 N0 Z0 hh0 E_o0 F_o0_skipped F_o0_kept V_sk ln_sk i1 hj hmu r hr; exact absurd hmu (Nat.not_lt_zero _)
  | succ k ih =>
    intro T0 locs h o0 v1 sk v4 v5 v6 o0_kept sk_k sk_xs X0 e0 N0 Z0 hh0 E_o0 F_o0_skipped F_o0_kept V_sk ln_sk i1 hj hmu r hr
    unfold f4_14_1 at hr
    refine EndsIn.by (B := T0.setTop (mkF m 18 #[.val (.ref o0), .val (.long v1), .second, .val (.ref sk), .val (.int v4), .val (.int v5), .val (.long v6), .second] [(.int v4), (.int v5)])) (fun t k => ?_) ?_
    · show Steps p.tables e below (T0.setTop (mkF m 14 #[.val (.ref o0), .val (.long v1), .second, .val (.ref sk), .val (.int v4), .val (.int v5), .val (.long v6), .second] [])) _
      refine XS.iload X0.here hx rfl (hb hby d4_14) rfl  ?_
      show Steps p.tables e below (T0.setTop (mkF m 16 #[.val (.ref o0), .val (.long v1), .second, .val (.ref sk), .val (.int v4), .val (.int v5), .val (.long v6), .second] [(.int v5)])) _
      refine XS.iload X0.here hx rfl (hb hby d4_16) rfl  ?_
      exact k
    by_cases hc18 : v5 < v4
    · rw [if_pos hc18] at hr
      refine EndsIn.by (B := T0.setTop (mkF m 21 #[.val (.ref o0), .val (.long v1), .second, .val (.ref sk), .val (.int v4), .val (.int v5), .val (.long v6), .second] [])) (fun t k => ?_) ?_
      · show Steps p.tables e below (T0.setTop (mkF m 18 #[.val (.ref o0), .val (.long v1), .second, .val (.ref sk), .val (.int v4), .val (.int v5), .val (.long v6), .second] [(.int v4), (.int v5)])) _
        exact XS.icmpNo X0.here hx rfl (hb hby d4_18) rfl (tlt hc18).2.1 k
      refine EndsIn.by (B := T0.setTop (mkF m 24 #[.val (.ref o0), .val (.long v1), .second, .val (.ref sk), .val (.int v4), .val (.int v5), .val (.long v6), .second] [(.int v5), (.ref sk)])) (fun t k => ?_) ?_
      · show Steps p.tables e below (T0.setTop (mkF m 21 #[.val (.ref o0), .val (.long v1), .second, .val (.ref sk), .val (.int v4), .val (.int v5), .val (.long v6), .second] [])) _
        refine XS.aloadN X0.here hx rfl (hb hby d4_21) rfl rfl ?_
        show Steps p.tables e below (T0.setTop (mkF m 22 #[.val (.ref o0), .val (.long v1), .second, .val (.ref sk), .val (.int v4), .val (.int v5), .val (.long v6), .second] [(.ref sk)])) _
        refine XS.iload X0.here hx rfl (hb hby d4_22) rfl  ?_
        exact k
      have hin4 : ¬ (v5 < 0) ∧ v5 < (4 : Int32) := own_ix v5 hj (i1 ▸ hc18)
      obtain ⟨cl4, Ar4, hi4, q4⟩ := own_readJ V_sk hin4 _ rfl
      refine EndsIn.by (B := T0.setTop (mkF m 25 #[.val (.ref o0), .val (.long v1), .second, .val (.ref sk), .val (.int v4), .val (.int v5), .val (.long v6), .second] [(.long (own_atJ sk_xs v5))])) (fun t k => ?_) ?_
      · show Steps p.tables e below (T0.setTop (mkF m 24 #[.val (.ref o0), .val (.long v1), .second, .val (.ref sk), .val (.int v4), .val (.int v5), .val (.long v6), .second] [(.int v5), (.ref sk)])) _
        exact X0.laload hx (j := v5) (v := (.long (own_atJ sk_xs v5))) (by rw [e0]; exact Ar4.1) (State.isArrayOf_alike hZ.alike Ar4.2.1) Ar4.2.2 hi4 q4 (g := (mkF m 24 #[.val (.ref o0), .val (.long v1), .second, .val (.ref sk), .val (.int v4), .val (.int v5), .val (.long v6), .second] [(.int v5), (.ref sk)])) rfl rfl (hb hby d4_24) _ k
      refine EndsIn.by (B := T0.setTop (mkF m 14 #[.val (.ref o0), .val (.long (v1 + (own_atJ sk_xs v5))), .second, .val (.ref sk), .val (.int v4), .val (.int (v5 + (1 : Int32))), .val (.long (own_atJ sk_xs v5)), .second] [])) (fun t k => ?_) ?_
      · show Steps p.tables e below (T0.setTop (mkF m 25 #[.val (.ref o0), .val (.long v1), .second, .val (.ref sk), .val (.int v4), .val (.int v5), .val (.long v6), .second] [(.long (own_atJ sk_xs v5))])) _
        refine XS.lstore X0.here hx rfl (hb hby d4_25) rfl (l' := #[.val (.ref o0), .val (.long v1), .second, .val (.ref sk), .val (.int v4), .val (.int v5), .val (.long (own_atJ sk_xs v5)), .second]) rfl ?_
        show Steps p.tables e below (T0.setTop (mkF m 27 #[.val (.ref o0), .val (.long v1), .second, .val (.ref sk), .val (.int v4), .val (.int v5), .val (.long (own_atJ sk_xs v5)), .second] [])) _
        refine XS.lloadN X0.here hx rfl (hb hby d4_27) rfl  ?_
        show Steps p.tables e below (T0.setTop (mkF m 28 #[.val (.ref o0), .val (.long v1), .second, .val (.ref sk), .val (.int v4), .val (.int v5), .val (.long (own_atJ sk_xs v5)), .second] [(.long v1)])) _
        refine XS.lload X0.here hx rfl (hb hby d4_28) rfl  ?_
        show Steps p.tables e below (T0.setTop (mkF m 30 #[.val (.ref o0), .val (.long v1), .second, .val (.ref sk), .val (.int v4), .val (.int v5), .val (.long (own_atJ sk_xs v5)), .second] [(.long (own_atJ sk_xs v5)), (.long v1)])) _
        refine XS.ladd X0.here hx rfl (hb hby d4_30) rfl ?_
        show Steps p.tables e below (T0.setTop (mkF m 31 #[.val (.ref o0), .val (.long v1), .second, .val (.ref sk), .val (.int v4), .val (.int v5), .val (.long (own_atJ sk_xs v5)), .second] [(.long (v1 + (own_atJ sk_xs v5)))])) _
        refine XS.lstoreN X0.here hx rfl (hb hby d4_31) rfl (l' := #[.val (.ref o0), .val (.long (v1 + (own_atJ sk_xs v5))), .second, .val (.ref sk), .val (.int v4), .val (.int v5), .val (.long (own_atJ sk_xs v5)), .second]) rfl ?_
        show Steps p.tables e below (T0.setTop (mkF m 32 #[.val (.ref o0), .val (.long (v1 + (own_atJ sk_xs v5))), .second, .val (.ref sk), .val (.int v4), .val (.int v5), .val (.long (own_atJ sk_xs v5)), .second] [])) _
        refine XS.iinc X0.here hx rfl (hb hby d4_32) rfl (l' := #[.val (.ref o0), .val (.long (v1 + (own_atJ sk_xs v5))), .second, .val (.ref sk), .val (.int v4), .val (.int (v5 + (1 : Int32))), .val (.long (own_atJ sk_xs v5)), .second]) rfl ?_
        show Steps p.tables e below (T0.setTop (mkF m 35 #[.val (.ref o0), .val (.long (v1 + (own_atJ sk_xs v5))), .second, .val (.ref sk), .val (.int v4), .val (.int (v5 + (1 : Int32))), .val (.long (own_atJ sk_xs v5)), .second] [])) _
        refine XS.goto X0.here hx rfl (pc0 := 35) (pc' := 14) rfl (hb hby d4_35) (by decide) (by decide) ?_
        exact k
      have i1_j : v4 = (4 : Int32) := by first | rfl | assumption
      have hj_j : 0 ≤ (v5 + (1 : Int32)).toInt ∧ (v5 + (1 : Int32)).toInt ≤ 4 := by first | decide | (have q := own_nx v5 hj (i1 ▸ hc18); omega)
      have hmu_j : (4 - (v5 + (1 : Int32)).toInt).toNat < k := by have q := own_nx v5 hj (i1 ▸ hc18); omega
      exact ih o0 (v1 + (own_atJ sk_xs v5)) sk v4 (v5 + (1 : Int32)) (own_atJ sk_xs v5) o0_kept sk_k sk_xs X0 e0 N0 Z0 hh0 E_o0 F_o0_skipped F_o0_kept V_sk ln_sk i1_j hj_j hmu_j _ hr
    · rw [if_neg hc18] at hr
      refine EndsIn.by (B := T0.setTop (mkF m 38 #[.val (.ref o0), .val (.long v1), .second, .val (.ref sk), .val (.int v4), .val (.int v5), .val (.long v6), .second] [])) (fun t k => ?_) ?_
      · show Steps p.tables e below (T0.setTop (mkF m 18 #[.val (.ref o0), .val (.long v1), .second, .val (.ref sk), .val (.int v4), .val (.int v5), .val (.long v6), .second] [(.int v4), (.int v5)])) _
        exact XS.icmpYes X0.here hx rfl (pc0 := 18) (pc' := 38) rfl (hb hby d4_18) rfl (flt hc18).2.1 (by decide) (by decide) k
      refine EndsIn.by (B := T0.setTop (mkF m 39 #[.val (.ref o0), .val (.long v1), .second, .val (.ref sk), .val (.int v4), .val (.int v5), .val (.long v6), .second] [(.long v1)])) (fun t k => ?_) ?_
      · show Steps p.tables e below (T0.setTop (mkF m 38 #[.val (.ref o0), .val (.long v1), .second, .val (.ref sk), .val (.int v4), .val (.int v5), .val (.long v6), .second] [])) _
        refine XS.lloadN X0.here hx rfl (hb hby d4_38) rfl  ?_
        exact k
      subst hr
      exact own_retJ X0 hx hlk hret (hb hby d4_39) (by decide) (by decide) ⟨rfl, N0, (e0.trans hh0)⟩
def f4_14 (v1 : Int64) (v4 : Int32) (v5 : Int32) (o0_kept : Int64) (sk_xs : List Int64) : Int64 := (if v5 < v4 then (f4_14_1 5 (v1 + (own_atJ sk_xs v5)) v4 (v5 + (1 : Int32)) (own_atJ sk_xs v5) o0_kept sk_xs) else v1)
set_option maxRecDepth 65536 in
set_option maxHeartbeats 40000000 in
theorem b4_14 {p : Program} {l : Launch} {e : Env} {s : State} {m : MethodId} {args : Array Value} {below : List Frame} {meth : Method} {c : Code} {Z : State} {a0 : Array Value} (B : Ctx p Z s a0 m meth c "com/example/search_suggest/searchsuggest/engine/LineTally" "skipped" prog_6_method_6_code 8 (some .long)) {T0 : State} {locs : List Loc} {h : Heap} (h0 : Heap) (n0 : Nat) (o0 : Addr) (v1 : Int64) (sk : Addr) (v4 : Int32) (v5 : Int32) (o0_kept : Int64) (sk_k : ClassId) (sk_xs : List Int64) (X0 : Stand p l e R4 s m args below meth c T0 locs 0 0) (e0 : T0.heap = h) (N0 : Fr n0 locs) (Z0 : n0 ≤ h.size) (hh0 : h = h0) (E_o0 : Exa Z h o0 "com/example/search_suggest/searchsuggest/engine/LineTally") (F_o0_skipped : Fld Z h o0 "com/example/search_suggest/searchsuggest/engine/LineTally" "skipped" "[J" (.ref sk)) (F_o0_kept : Fld Z h o0 "com/example/search_suggest/searchsuggest/engine/LineTally" "kept" "J" (.long o0_kept)) (V_sk : Arv Z h sk sk_k .long (4 : Int32) (sk_xs.map Value.long) (.long 0)) (ln_sk : sk_xs.length = (4 : Int32).toNatClampNeg) (i1 : v4 = (4 : Int32)) (hj : 0 ≤ v5.toInt ∧ v5.toInt ≤ 4) (r : Int64) (hr : f4_14 v1 v4 v5 o0_kept sk_xs = r) :
    EndsIn p e below s R4.cells R4.slots (Q4 Z  h0 n0 r) (T0.setTop (mkF m 14 #[.val (.ref o0), .val (.long v1), .second, .val (.ref sk), .val (.int v4), .val (.int v5), .unset, .unset] [])) := by
  obtain ⟨hx, hZ, hw, hby, hml, hret, hown, hnm, hlk⟩ := B
  unfold f4_14 at hr
  refine EndsIn.by (B := T0.setTop (mkF m 18 #[.val (.ref o0), .val (.long v1), .second, .val (.ref sk), .val (.int v4), .val (.int v5), .unset, .unset] [(.int v4), (.int v5)])) (fun t k => ?_) ?_
  · show Steps p.tables e below (T0.setTop (mkF m 14 #[.val (.ref o0), .val (.long v1), .second, .val (.ref sk), .val (.int v4), .val (.int v5), .unset, .unset] [])) _
    refine XS.iload X0.here hx rfl (hb hby d4_14) rfl  ?_
    show Steps p.tables e below (T0.setTop (mkF m 16 #[.val (.ref o0), .val (.long v1), .second, .val (.ref sk), .val (.int v4), .val (.int v5), .unset, .unset] [(.int v5)])) _
    refine XS.iload X0.here hx rfl (hb hby d4_16) rfl  ?_
    exact k
  by_cases hc18 : v5 < v4
  · rw [if_pos hc18] at hr
    refine EndsIn.by (B := T0.setTop (mkF m 21 #[.val (.ref o0), .val (.long v1), .second, .val (.ref sk), .val (.int v4), .val (.int v5), .unset, .unset] [])) (fun t k => ?_) ?_
    · show Steps p.tables e below (T0.setTop (mkF m 18 #[.val (.ref o0), .val (.long v1), .second, .val (.ref sk), .val (.int v4), .val (.int v5), .unset, .unset] [(.int v4), (.int v5)])) _
      exact XS.icmpNo X0.here hx rfl (hb hby d4_18) rfl (tlt hc18).2.1 k
    refine EndsIn.by (B := T0.setTop (mkF m 24 #[.val (.ref o0), .val (.long v1), .second, .val (.ref sk), .val (.int v4), .val (.int v5), .unset, .unset] [(.int v5), (.ref sk)])) (fun t k => ?_) ?_
    · show Steps p.tables e below (T0.setTop (mkF m 21 #[.val (.ref o0), .val (.long v1), .second, .val (.ref sk), .val (.int v4), .val (.int v5), .unset, .unset] [])) _
      refine XS.aloadN X0.here hx rfl (hb hby d4_21) rfl rfl ?_
      show Steps p.tables e below (T0.setTop (mkF m 22 #[.val (.ref o0), .val (.long v1), .second, .val (.ref sk), .val (.int v4), .val (.int v5), .unset, .unset] [(.ref sk)])) _
      refine XS.iload X0.here hx rfl (hb hby d4_22) rfl  ?_
      exact k
    have hin5 : ¬ (v5 < 0) ∧ v5 < (4 : Int32) := own_ix v5 hj (i1 ▸ hc18)
    obtain ⟨cl5, Ar5, hi5, q5⟩ := own_readJ V_sk hin5 _ rfl
    refine EndsIn.by (B := T0.setTop (mkF m 25 #[.val (.ref o0), .val (.long v1), .second, .val (.ref sk), .val (.int v4), .val (.int v5), .unset, .unset] [(.long (own_atJ sk_xs v5))])) (fun t k => ?_) ?_
    · show Steps p.tables e below (T0.setTop (mkF m 24 #[.val (.ref o0), .val (.long v1), .second, .val (.ref sk), .val (.int v4), .val (.int v5), .unset, .unset] [(.int v5), (.ref sk)])) _
      exact X0.laload hx (j := v5) (v := (.long (own_atJ sk_xs v5))) (by rw [e0]; exact Ar5.1) (State.isArrayOf_alike hZ.alike Ar5.2.1) Ar5.2.2 hi5 q5 (g := (mkF m 24 #[.val (.ref o0), .val (.long v1), .second, .val (.ref sk), .val (.int v4), .val (.int v5), .unset, .unset] [(.int v5), (.ref sk)])) rfl rfl (hb hby d4_24) _ k
    refine EndsIn.by (B := T0.setTop (mkF m 14 #[.val (.ref o0), .val (.long (v1 + (own_atJ sk_xs v5))), .second, .val (.ref sk), .val (.int v4), .val (.int (v5 + (1 : Int32))), .val (.long (own_atJ sk_xs v5)), .second] [])) (fun t k => ?_) ?_
    · show Steps p.tables e below (T0.setTop (mkF m 25 #[.val (.ref o0), .val (.long v1), .second, .val (.ref sk), .val (.int v4), .val (.int v5), .unset, .unset] [(.long (own_atJ sk_xs v5))])) _
      refine XS.lstore X0.here hx rfl (hb hby d4_25) rfl (l' := #[.val (.ref o0), .val (.long v1), .second, .val (.ref sk), .val (.int v4), .val (.int v5), .val (.long (own_atJ sk_xs v5)), .second]) rfl ?_
      show Steps p.tables e below (T0.setTop (mkF m 27 #[.val (.ref o0), .val (.long v1), .second, .val (.ref sk), .val (.int v4), .val (.int v5), .val (.long (own_atJ sk_xs v5)), .second] [])) _
      refine XS.lloadN X0.here hx rfl (hb hby d4_27) rfl  ?_
      show Steps p.tables e below (T0.setTop (mkF m 28 #[.val (.ref o0), .val (.long v1), .second, .val (.ref sk), .val (.int v4), .val (.int v5), .val (.long (own_atJ sk_xs v5)), .second] [(.long v1)])) _
      refine XS.lload X0.here hx rfl (hb hby d4_28) rfl  ?_
      show Steps p.tables e below (T0.setTop (mkF m 30 #[.val (.ref o0), .val (.long v1), .second, .val (.ref sk), .val (.int v4), .val (.int v5), .val (.long (own_atJ sk_xs v5)), .second] [(.long (own_atJ sk_xs v5)), (.long v1)])) _
      refine XS.ladd X0.here hx rfl (hb hby d4_30) rfl ?_
      show Steps p.tables e below (T0.setTop (mkF m 31 #[.val (.ref o0), .val (.long v1), .second, .val (.ref sk), .val (.int v4), .val (.int v5), .val (.long (own_atJ sk_xs v5)), .second] [(.long (v1 + (own_atJ sk_xs v5)))])) _
      refine XS.lstoreN X0.here hx rfl (hb hby d4_31) rfl (l' := #[.val (.ref o0), .val (.long (v1 + (own_atJ sk_xs v5))), .second, .val (.ref sk), .val (.int v4), .val (.int v5), .val (.long (own_atJ sk_xs v5)), .second]) rfl ?_
      show Steps p.tables e below (T0.setTop (mkF m 32 #[.val (.ref o0), .val (.long (v1 + (own_atJ sk_xs v5))), .second, .val (.ref sk), .val (.int v4), .val (.int v5), .val (.long (own_atJ sk_xs v5)), .second] [])) _
      refine XS.iinc X0.here hx rfl (hb hby d4_32) rfl (l' := #[.val (.ref o0), .val (.long (v1 + (own_atJ sk_xs v5))), .second, .val (.ref sk), .val (.int v4), .val (.int (v5 + (1 : Int32))), .val (.long (own_atJ sk_xs v5)), .second]) rfl ?_
      show Steps p.tables e below (T0.setTop (mkF m 35 #[.val (.ref o0), .val (.long (v1 + (own_atJ sk_xs v5))), .second, .val (.ref sk), .val (.int v4), .val (.int (v5 + (1 : Int32))), .val (.long (own_atJ sk_xs v5)), .second] [])) _
      refine XS.goto X0.here hx rfl (pc0 := 35) (pc' := 14) rfl (hb hby d4_35) (by decide) (by decide) ?_
      exact k
    have i1_j : v4 = (4 : Int32) := by first | rfl | assumption
    have hj_j : 0 ≤ (v5 + (1 : Int32)).toInt ∧ (v5 + (1 : Int32)).toInt ≤ 4 := by first | decide | (have q := own_nx v5 hj (i1 ▸ hc18); omega)
    have hmu_j : (4 - (v5 + (1 : Int32)).toInt).toNat < 5 := by first | decide | (have q := own_nx v5 hj (i1 ▸ hc18); omega)
    exact b4_14_1 ⟨hx, hZ, hw, hby, hml, hret, hown, hnm, hlk⟩ h0 n0  5 o0 (v1 + (own_atJ sk_xs v5)) sk v4 (v5 + (1 : Int32)) (own_atJ sk_xs v5) o0_kept sk_k sk_xs X0 e0 N0 Z0 hh0 E_o0 F_o0_skipped F_o0_kept V_sk ln_sk i1_j hj_j hmu_j _ hr
  · rw [if_neg hc18] at hr
    refine EndsIn.by (B := T0.setTop (mkF m 38 #[.val (.ref o0), .val (.long v1), .second, .val (.ref sk), .val (.int v4), .val (.int v5), .unset, .unset] [])) (fun t k => ?_) ?_
    · show Steps p.tables e below (T0.setTop (mkF m 18 #[.val (.ref o0), .val (.long v1), .second, .val (.ref sk), .val (.int v4), .val (.int v5), .unset, .unset] [(.int v4), (.int v5)])) _
      exact XS.icmpYes X0.here hx rfl (pc0 := 18) (pc' := 38) rfl (hb hby d4_18) rfl (flt hc18).2.1 (by decide) (by decide) k
    refine EndsIn.by (B := T0.setTop (mkF m 39 #[.val (.ref o0), .val (.long v1), .second, .val (.ref sk), .val (.int v4), .val (.int v5), .unset, .unset] [(.long v1)])) (fun t k => ?_) ?_
    · show Steps p.tables e below (T0.setTop (mkF m 38 #[.val (.ref o0), .val (.long v1), .second, .val (.ref sk), .val (.int v4), .val (.int v5), .unset, .unset] [])) _
      refine XS.lloadN X0.here hx rfl (hb hby d4_38) rfl  ?_
      exact k
    subst hr
    exact own_retJ X0 hx hlk hret (hb hby d4_39) (by decide) (by decide) ⟨rfl, N0, (e0.trans hh0)⟩
def f4_0 (o0_kept : Int64) (sk_xs : List Int64) : Int64 := (f4_14 (0 : Int64) (4 : Int32) (0 : Int32) o0_kept sk_xs)
set_option maxRecDepth 65536 in
set_option maxHeartbeats 40000000 in
theorem b4_0 {p : Program} {l : Launch} {e : Env} {s : State} {m : MethodId} {args : Array Value} {below : List Frame} {meth : Method} {c : Code} {Z : State} {a0 : Array Value} (B : Ctx p Z s a0 m meth c "com/example/search_suggest/searchsuggest/engine/LineTally" "skipped" prog_6_method_6_code 8 (some .long)) {T0 : State} {locs : List Loc} {h : Heap} (h0 : Heap) (n0 : Nat) (o0 : Addr) (sk : Addr) (o0_kept : Int64) (sk_k : ClassId) (sk_xs : List Int64) (X0 : Stand p l e R4 s m args below meth c T0 locs 0 0) (e0 : T0.heap = h) (N0 : Fr n0 locs) (Z0 : n0 ≤ h.size) (hh0 : h = h0) (E_o0 : Exa Z h o0 "com/example/search_suggest/searchsuggest/engine/LineTally") (F_o0_skipped : Fld Z h o0 "com/example/search_suggest/searchsuggest/engine/LineTally" "skipped" "[J" (.ref sk)) (F_o0_kept : Fld Z h o0 "com/example/search_suggest/searchsuggest/engine/LineTally" "kept" "J" (.long o0_kept)) (V_sk : Arv Z h sk sk_k .long (4 : Int32) (sk_xs.map Value.long) (.long 0)) (ln_sk : sk_xs.length = (4 : Int32).toNatClampNeg) (r : Int64) (hr : f4_0 o0_kept sk_xs = r) :
    EndsIn p e below s R4.cells R4.slots (Q4 Z  h0 n0 r) (T0.setTop (mkF m 0 #[.val (.ref o0), .unset, .unset, .unset, .unset, .unset, .unset, .unset] [])) := by
  obtain ⟨hx, hZ, hw, hby, hml, hret, hown, hnm, hlk⟩ := B
  unfold f4_0 at hr
  refine EndsIn.by (B := T0.setTop (mkF m 3 #[.val (.ref o0), .val (.long (0 : Int64)), .second, .unset, .unset, .unset, .unset, .unset] [(.ref o0)])) (fun t k => ?_) ?_
  · show Steps p.tables e below (T0.setTop (mkF m 0 #[.val (.ref o0), .unset, .unset, .unset, .unset, .unset, .unset, .unset] [])) _
    refine XS.lconst X0.here hx rfl (hb hby d4_0) ?_
    show Steps p.tables e below (T0.setTop (mkF m 1 #[.val (.ref o0), .unset, .unset, .unset, .unset, .unset, .unset, .unset] [(.long (0 : Int64))])) _
    refine XS.lstoreN X0.here hx rfl (hb hby d4_1) rfl (l' := #[.val (.ref o0), .val (.long (0 : Int64)), .second, .unset, .unset, .unset, .unset, .unset]) rfl ?_
    show Steps p.tables e below (T0.setTop (mkF m 2 #[.val (.ref o0), .val (.long (0 : Int64)), .second, .unset, .unset, .unset, .unset, .unset] [])) _
    refine XS.aloadN X0.here hx rfl (hb hby d4_2) rfl rfl ?_
    exact k
  obtain ⟨T1, X1, e1, st1⟩ := getF X0 hx hZ hown (host := "") (Or.inl (hw _ (List.mem_of_getElem? (i := 30) rfl))) Via.refl e0 F_o0_skipped (g := (mkF m 3 #[.val (.ref o0), .val (.long (0 : Int64)), .second, .unset, .unset, .unset, .unset, .unset] [(.ref o0)])) rfl rfl (hb hby d4_3)
  refine EndsIn.by (B := T1.setTop (mkF m 6 #[.val (.ref o0), .val (.long (0 : Int64)), .second, .unset, .unset, .unset, .unset, .unset] [(.ref sk)])) (fun t k => st1 t k) ?_
  refine EndsIn.by (B := T1.setTop (mkF m 8 #[.val (.ref o0), .val (.long (0 : Int64)), .second, .val (.ref sk), .unset, .unset, .unset, .unset] [(.ref sk)])) (fun t k => ?_) ?_
  · show Steps p.tables e below (T1.setTop (mkF m 6 #[.val (.ref o0), .val (.long (0 : Int64)), .second, .unset, .unset, .unset, .unset, .unset] [(.ref sk)])) _
    refine XS.astoreN X1.here hx rfl (hb hby d4_6) rfl rfl (l' := #[.val (.ref o0), .val (.long (0 : Int64)), .second, .val (.ref sk), .unset, .unset, .unset, .unset]) rfl ?_
    show Steps p.tables e below (T1.setTop (mkF m 7 #[.val (.ref o0), .val (.long (0 : Int64)), .second, .val (.ref sk), .unset, .unset, .unset, .unset] [])) _
    refine XS.aloadN X1.here hx rfl (hb hby d4_7) rfl rfl ?_
    exact k
  have V2 := V_sk
  obtain ⟨cl2, Ar2, -, S2, M2, -, -⟩ := V2
  refine EndsIn.by (B := T1.setTop (mkF m 9 #[.val (.ref o0), .val (.long (0 : Int64)), .second, .val (.ref sk), .unset, .unset, .unset, .unset] [(.int (4 : Int32))])) (fun t k => ?_) ?_
  · show Steps p.tables e below (T1.setTop (mkF m 8 #[.val (.ref o0), .val (.long (0 : Int64)), .second, .val (.ref sk), .unset, .unset, .unset, .unset] [(.ref sk)])) _
    refine X1.arraylength hx (by rw [e1]; exact Ar2.1) (State.isArrayOf_alike hZ.alike Ar2.2.1) (g := (mkF m 8 #[.val (.ref o0), .val (.long (0 : Int64)), .second, .val (.ref sk), .unset, .unset, .unset, .unset] [(.ref sk)])) rfl rfl (hb hby d4_8) _ ?_
    rw [len_of S2 M2]
    exact k
  refine EndsIn.by (B := T1.setTop (mkF m 14 #[.val (.ref o0), .val (.long (0 : Int64)), .second, .val (.ref sk), .val (.int (4 : Int32)), .val (.int (0 : Int32)), .unset, .unset] [])) (fun t k => ?_) ?_
  · show Steps p.tables e below (T1.setTop (mkF m 9 #[.val (.ref o0), .val (.long (0 : Int64)), .second, .val (.ref sk), .unset, .unset, .unset, .unset] [(.int (4 : Int32))])) _
    refine XS.istore X1.here hx rfl (hb hby d4_9) rfl (l' := #[.val (.ref o0), .val (.long (0 : Int64)), .second, .val (.ref sk), .val (.int (4 : Int32)), .unset, .unset, .unset]) rfl ?_
    show Steps p.tables e below (T1.setTop (mkF m 11 #[.val (.ref o0), .val (.long (0 : Int64)), .second, .val (.ref sk), .val (.int (4 : Int32)), .unset, .unset, .unset] [])) _
    refine XS.iconst X1.here hx rfl (hb hby d4_11) ?_
    show Steps p.tables e below (T1.setTop (mkF m 12 #[.val (.ref o0), .val (.long (0 : Int64)), .second, .val (.ref sk), .val (.int (4 : Int32)), .unset, .unset, .unset] [(.int (0 : Int32))])) _
    refine XS.istore X1.here hx rfl (hb hby d4_12) rfl (l' := #[.val (.ref o0), .val (.long (0 : Int64)), .second, .val (.ref sk), .val (.int (4 : Int32)), .val (.int (0 : Int32)), .unset, .unset]) rfl ?_
    exact k
  have i1_j : (4 : Int32) = (4 : Int32) := by first | rfl | assumption
  have hj_j : 0 ≤ (0 : Int32).toInt ∧ (0 : Int32).toInt ≤ 4 := by first | decide | (have q := own_nx v5 hj (i1 ▸ hc18); omega)
  exact b4_14 ⟨hx, hZ, hw, hby, hml, hret, hown, hnm, hlk⟩ h0 n0 o0 (0 : Int64) sk (4 : Int32) (0 : Int32) o0_kept sk_k sk_xs X1 e1 N0 Z0 hh0 E_o0 F_o0_skipped F_o0_kept V_sk ln_sk i1_j hj_j _ hr
theorem ef_4 (m : MethodId) (o0 : Addr) : entryFrame m #[(.ref o0)] 8 = (mkF m 0 #[.val (.ref o0), .unset, .unset, .unset, .unset, .unset, .unset, .unset] []) := by first | (simp [entryFrame, mkF, argsToLocals, Value.category]; done) | rfl
set_option maxRecDepth 65536 in
set_option maxHeartbeats 40000000 in
theorem rm4 (l : Launch) (Z : State) (a0 : Array Value) (hw : ∀ d ∈ tables_1, d.before a0 Z = true) (ws : List Jvm.Cond) (o0 : Addr) (sk : Addr) (o0_kept : Int64) (sk_k : ClassId) (sk_xs : List Int64) (h0 : Heap) (n0 : Nat) (Z0 : n0 ≤ h0.size) (E_o0 : Exa Z h0 o0 "com/example/search_suggest/searchsuggest/engine/LineTally") (F_o0_skipped : Fld Z h0 o0 "com/example/search_suggest/searchsuggest/engine/LineTally" "skipped" "[J" (.ref sk)) (F_o0_kept : Fld Z h0 o0 "com/example/search_suggest/searchsuggest/engine/LineTally" "kept" "J" (.long o0_kept)) (V_sk : Arv Z h0 sk sk_k .long (4 : Int32) (sk_xs.map Value.long) (.long 0)) (ln_sk : sk_xs.length = (4 : Int32).toNatClampNeg) :
    MetFree l (⟨"com/example/search_suggest/searchsuggest/engine/LineTally", "skipped", "()J"⟩ : MethodName) (head1 (Jvm.Cond.code (⟨"com/example/search_suggest/searchsuggest/engine/LineTally", "skipped", "()J"⟩ : MethodName) prog_6_method_6_code 8 (some .long) :: ws) R4) (fun a U => a = #[(.ref o0)] ∧ Z.Warmed39 U.vm ∧ U.heap = h0) (fun _ _ _ _ _ => True) (fun _ U o U' => ∃ v L, o = .returned v ∧ (Q4 Z  h0 n0 (f4_0 o0_kept sk_xs)) v U'.heap L ∧ FrameEnd U o U' L R4.cells R4.slots) := by
  refine MetFree.of_bodySF (plainFor_of_name pn_4) hisR ?_
  intro p e s m args below meth c s₁ Bd hml0 hP hK
  obtain ⟨rfl, hZ, hh⟩ := hP
  have B : Ctx p Z s a0 m meth c "com/example/search_suggest/searchsuggest/engine/LineTally" "skipped" prog_6_method_6_code 8 (some .long) := ⟨Bd.exec, hZ, hw, Bd.bytes, hml0, Bd.returns, findClass_of_methodNamed Bd.named, (name_of_methodNamed Bd.named Bd.method).1, Bd.notSynchronized⟩
  have X0 : Stand p l e R4 s m #[(.ref o0)] below meth c s₁ [] 0 0 := Stand.of_body Bd
  have e0 : s₁.heap = h0 := by rw [← hh, Bd.state]; rfl
  have K := Keep.refl h0 []
  show EndsIn p e below s R4.cells R4.slots (Q4 Z  h0 n0 (f4_0 o0_kept sk_xs)) (s₁.setTop (entryFrame m #[(.ref o0)] 8))
  refine EndsIn.by (fun t k => castTop (ef_4 m o0) k) ?_
  exact b4_0 B h0 n0 o0 sk o0_kept sk_k sk_xs X0 e0 (Fr.nil n0) Z0 rfl E_o0 F_o0_skipped F_o0_kept V_sk ln_sk _ rfl
theorem pd_2 : parseMethodDescriptor "()J" = some ⟨[], some .long⟩ := by decide +kernel
theorem d5_0 : decode prog_6_method_2_code 0 = .ok (.aload_n 0, 1) := by decide +kernel
theorem d5_1 : decode prog_6_method_2_code 1 = .ok (.dup, 1) := by decide +kernel
theorem d5_2 : decode prog_6_method_2_code 2 = .ok (.getfield 19, 3) := by decide +kernel
theorem d5_5 : decode prog_6_method_2_code 5 = .ok (.lconst 1, 1) := by decide +kernel
theorem d5_6 : decode prog_6_method_2_code 6 = .ok (.ladd, 1) := by decide +kernel
theorem d5_7 : decode prog_6_method_2_code 7 = .ok (.putfield 19, 3) := by decide +kernel
theorem d5_10 : decode prog_6_method_2_code 10 = .ok (.return_, 1) := by decide +kernel
theorem pn_5 : plainName "com/example/search_suggest/searchsuggest/engine/LineTally" = true := by first | (simp [plainName, overriddenIn]; done) | decide +kernel
def R5 : Room := { frames := 0, cells := 0, slots := 0, locals := 0 }
def Q5 (Z : State) (o0 : Addr) (o0_skipped : Value) (h0 : Heap) (n0 : Nat) (r : Int64) (v : Option Value) (h : Heap) (L : List Loc) : Prop := v = none ∧ Fr n0 L ∧ Keep h0 h [o0] ∧ Exa Z h o0 "com/example/search_suggest/searchsuggest/engine/LineTally" ∧ Fld Z h o0 "com/example/search_suggest/searchsuggest/engine/LineTally" "skipped" "[J" o0_skipped ∧ Fld Z h o0 "com/example/search_suggest/searchsuggest/engine/LineTally" "kept" "J" (.long r)
def f5_0 (o0_kept : Int64) : Int64 := (o0_kept + (1 : Int64))
set_option maxRecDepth 65536 in
set_option maxHeartbeats 40000000 in
theorem b5_0 {p : Program} {l : Launch} {e : Env} {s : State} {m : MethodId} {args : Array Value} {below : List Frame} {meth : Method} {c : Code} {Z : State} {a0 : Array Value} (B : Ctx p Z s a0 m meth c "com/example/search_suggest/searchsuggest/engine/LineTally" "countKept" prog_6_method_2_code 1 none) {T0 : State} {locs : List Loc} {h : Heap} (h0 : Heap) (n0 : Nat) (o0 : Addr) (o0_skipped : Value) (o0_kept : Int64) (X0 : Stand p l e R5 s m args below meth c T0 locs 0 0) (e0 : T0.heap = h) (N0 : Fr n0 locs) (Z0 : n0 ≤ h.size) (K : Keep h0 h [o0]) (E_o0 : Exa Z h o0 "com/example/search_suggest/searchsuggest/engine/LineTally") (F_o0_skipped : Fld Z h o0 "com/example/search_suggest/searchsuggest/engine/LineTally" "skipped" "[J" o0_skipped) (F_o0_kept : Fld Z h o0 "com/example/search_suggest/searchsuggest/engine/LineTally" "kept" "J" (.long o0_kept)) (g_o0 : n0 ≤ o0) (r : Int64) (hr : f5_0 o0_kept = r) :
    EndsIn p e below s R5.cells R5.slots (Q5 Z o0 o0_skipped h0 n0 r) (T0.setTop (mkF m 0 #[.val (.ref o0)] [])) := by
  obtain ⟨hx, hZ, hw, hby, hml, hret, hown, hnm, hlk⟩ := B
  unfold f5_0 at hr
  refine EndsIn.by (B := T0.setTop (mkF m 2 #[.val (.ref o0)] [(.ref o0), (.ref o0)])) (fun t k => ?_) ?_
  · show Steps p.tables e below (T0.setTop (mkF m 0 #[.val (.ref o0)] [])) _
    refine XS.aloadN X0.here hx rfl (hb hby d5_0) rfl rfl ?_
    show Steps p.tables e below (T0.setTop (mkF m 1 #[.val (.ref o0)] [(.ref o0)])) _
    refine XS.dup X0.here hx rfl (hb hby d5_1) rfl rfl ?_
    exact k
  obtain ⟨T1, X1, e1, st1⟩ := getF X0 hx hZ hown (host := "") (Or.inl (hw _ (List.mem_of_getElem? (i := 42) rfl))) Via.refl e0 F_o0_kept (g := (mkF m 2 #[.val (.ref o0)] [(.ref o0), (.ref o0)])) rfl rfl (hb hby d5_2)
  refine EndsIn.by (B := T1.setTop (mkF m 5 #[.val (.ref o0)] [(.long o0_kept), (.ref o0)])) (fun t k => st1 t k) ?_
  refine EndsIn.by (B := T1.setTop (mkF m 7 #[.val (.ref o0)] [(.long (o0_kept + (1 : Int64))), (.ref o0)])) (fun t k => ?_) ?_
  · show Steps p.tables e below (T1.setTop (mkF m 5 #[.val (.ref o0)] [(.long o0_kept), (.ref o0)])) _
    refine XS.lconst X1.here hx rfl (hb hby d5_5) ?_
    show Steps p.tables e below (T1.setTop (mkF m 6 #[.val (.ref o0)] [(.long (1 : Int64)), (.long o0_kept), (.ref o0)])) _
    refine XS.ladd X1.here hx rfl (hb hby d5_6) rfl ?_
    exact k
  obtain ⟨T2, h2, X2, e2, W2, st2⟩ := putF X1 hx hZ hown (host := "") (Or.inl (hw _ (List.mem_of_getElem? (i := 42) rfl))) Via.refl e1 F_o0_kept E_o0 (Or.inl (hw _ (List.mem_of_getElem? (i := 43) rfl))) (hw _ (List.mem_of_getElem? (i := 1) rfl)) (ty := .long) (by decide) rfl rfl (g := (mkF m 7 #[.val (.ref o0)] [(.long (o0_kept + (1 : Int64))), (.ref o0)])) rfl rfl (hb hby d5_7)
  have E_o0_2 := E_o0.wr W2
  have F_o0_skipped_2 := F_o0_skipped.other W2 (Or.inr (slot_ne (Or.inr (hw _ (List.mem_of_getElem? (i := 31) rfl))) (Or.inl (hw _ (List.mem_of_getElem? (i := 43) rfl))) (by decide) (t := (.array .long)) (t' := .long) (by decide) (by decide)))
  have F_o0_kept_2 := F_o0_kept.same W2
  have N2 := Fr.snoc X2 N0 g_o0
  have Z2 : n0 ≤ h2.size := Nat.le_trans Z0 (Nat.le_of_eq W2.size.symm)
  have K2 := K.wr W2 (Or.inl (by simp))
  refine EndsIn.by (B := T2.setTop (mkF m 10 #[.val (.ref o0)] [])) (fun t k => st2 t k) ?_
  subst hr
  exact own_ret0 X2 hx hlk hret (hb hby d5_10) (by decide) (by decide) ⟨rfl, N2, (by rw [e2]; exact K2), (by rw [e2]; exact E_o0_2), (by rw [e2]; exact F_o0_skipped_2), (by rw [e2]; exact F_o0_kept_2)⟩
theorem ef_5 (m : MethodId) (o0 : Addr) : entryFrame m #[(.ref o0)] 1 = (mkF m 0 #[.val (.ref o0)] []) := by first | (simp [entryFrame, mkF, argsToLocals, Value.category]; done) | rfl
set_option maxRecDepth 65536 in
set_option maxHeartbeats 40000000 in
theorem rm5 (l : Launch) (Z : State) (a0 : Array Value) (hw : ∀ d ∈ tables_1, d.before a0 Z = true) (ws : List Jvm.Cond) (o0 : Addr) (o0_skipped : Value) (o0_kept : Int64) (h0 : Heap) (n0 : Nat) (Z0 : n0 ≤ h0.size) (E_o0 : Exa Z h0 o0 "com/example/search_suggest/searchsuggest/engine/LineTally") (F_o0_skipped : Fld Z h0 o0 "com/example/search_suggest/searchsuggest/engine/LineTally" "skipped" "[J" o0_skipped) (F_o0_kept : Fld Z h0 o0 "com/example/search_suggest/searchsuggest/engine/LineTally" "kept" "J" (.long o0_kept)) (g_o0 : n0 ≤ o0) :
    MetFree l (⟨"com/example/search_suggest/searchsuggest/engine/LineTally", "countKept", "()V"⟩ : MethodName) (head1 (Jvm.Cond.code (⟨"com/example/search_suggest/searchsuggest/engine/LineTally", "countKept", "()V"⟩ : MethodName) prog_6_method_2_code 1 none :: ws) R5) (fun a U => a = #[(.ref o0)] ∧ Z.Warmed39 U.vm ∧ U.heap = h0) (fun _ _ _ _ _ => True) (fun _ U o U' => ∃ v L, o = .returned v ∧ (Q5 Z o0 o0_skipped h0 n0 (f5_0 o0_kept)) v U'.heap L ∧ FrameEnd U o U' L R5.cells R5.slots) := by
  refine MetFree.of_bodySF (plainFor_of_name pn_5) hisR ?_
  intro p e s m args below meth c s₁ Bd hml0 hP hK
  obtain ⟨rfl, hZ, hh⟩ := hP
  have B : Ctx p Z s a0 m meth c "com/example/search_suggest/searchsuggest/engine/LineTally" "countKept" prog_6_method_2_code 1 none := ⟨Bd.exec, hZ, hw, Bd.bytes, hml0, Bd.returns, findClass_of_methodNamed Bd.named, (name_of_methodNamed Bd.named Bd.method).1, Bd.notSynchronized⟩
  have X0 : Stand p l e R5 s m #[(.ref o0)] below meth c s₁ [] 0 0 := Stand.of_body Bd
  have e0 : s₁.heap = h0 := by rw [← hh, Bd.state]; rfl
  have K := Keep.refl h0 [o0]
  show EndsIn p e below s R5.cells R5.slots (Q5 Z o0 o0_skipped h0 n0 (f5_0 o0_kept)) (s₁.setTop (entryFrame m #[(.ref o0)] 1))
  refine EndsIn.by (fun t k => castTop (ef_5 m o0) k) ?_
  exact b5_0 B h0 n0 o0 o0_skipped o0_kept X0 e0 (Fr.nil n0) Z0 K E_o0 F_o0_skipped F_o0_kept g_o0 _ rfl
theorem d6_0 : decode method_2_code 0 = .ok (.iload_n 0, 1) := by decide +kernel
theorem d6_1 : decode method_2_code 1 = .ok (.iconst 3, 1) := by decide +kernel
theorem d6_2 : decode method_2_code 2 = .ok (.iand, 1) := by decide +kernel
theorem d6_3 : decode method_2_code 3 = .ok (.istore_n 1, 1) := by decide +kernel
theorem d6_4 : decode method_2_code 4 = .ok (.iload_n 1, 1) := by decide +kernel
theorem d6_5 : decode method_2_code 5 = .ok (.ifCond .ne 7, 3) := by decide +kernel
theorem d6_8 : decode method_2_code 8 = .ok (.getstatic 7, 3) := by decide +kernel
theorem d6_11 : decode method_2_code 11 = .ok (.areturn, 1) := by decide +kernel
theorem d6_12 : decode method_2_code 12 = .ok (.iload_n 1, 1) := by decide +kernel
theorem d6_13 : decode method_2_code 13 = .ok (.iconst 1, 1) := by decide +kernel
theorem d6_14 : decode method_2_code 14 = .ok (.if_icmp .ne 7, 3) := by decide +kernel
theorem d6_17 : decode method_2_code 17 = .ok (.getstatic 13, 3) := by decide +kernel
theorem d6_20 : decode method_2_code 20 = .ok (.areturn, 1) := by decide +kernel
theorem d6_21 : decode method_2_code 21 = .ok (.iload_n 1, 1) := by decide +kernel
theorem d6_22 : decode method_2_code 22 = .ok (.iconst 2, 1) := by decide +kernel
theorem d6_23 : decode method_2_code 23 = .ok (.if_icmp .ne 7, 3) := by decide +kernel
theorem d6_26 : decode method_2_code 26 = .ok (.getstatic 16, 3) := by decide +kernel
theorem d6_29 : decode method_2_code 29 = .ok (.areturn, 1) := by decide +kernel
theorem d6_30 : decode method_2_code 30 = .ok (.getstatic 19, 3) := by decide +kernel
theorem d6_33 : decode method_2_code 33 = .ok (.areturn, 1) := by decide +kernel
theorem pn_6 : plainName "com/example/search_suggest/searchsuggest/engine/LineTallySkippedPinLaw" = true := by first | (simp [plainName, overriddenIn]; done) | decide +kernel
def R6 : Room := { frames := 0, cells := 0, slots := 0, locals := 0 }
def Q6 (Z : State)  (h0 : Heap) (n0 : Nat) (r : Int32) (v : Option Value) (h : Heap) (L : List Loc) : Prop := ∃ (b : Addr) , v = some (.ref b) ∧ Fr n0 L ∧ h = h0 ∧ Exa Z h b "com/example/search_suggest/searchsuggest/engine/SkipReason" ∧ Fld Z h b "java/lang/Enum" "ordinal" "I" (.int r) ∧ b < n0
def f6_0 (v0 : Int32) : Int32 := (if (v0 &&& (3 : Int32)) = (0 : Int32) then (0 : Int32) else (if (v0 &&& (3 : Int32)) = (1 : Int32) then (1 : Int32) else (if (v0 &&& (3 : Int32)) = (2 : Int32) then (2 : Int32) else (3 : Int32))))
set_option maxRecDepth 65536 in
set_option maxHeartbeats 40000000 in
theorem b6_0 {p : Program} {l : Launch} {e : Env} {s : State} {m : MethodId} {args : Array Value} {below : List Frame} {meth : Method} {c : Code} {Z : State} {a0 : Array Value} (B : Ctx p Z s a0 m meth c "com/example/search_suggest/searchsuggest/engine/LineTallySkippedPinLaw" "pick" method_2_code 2 (some (.object "com/example/search_suggest/searchsuggest/engine/SkipReason"))) {T0 : State} {locs : List Loc} {h : Heap} (h0 : Heap) (n0 : Nat) (v0 : Int32) (bl : Addr) (en : Addr) (ma : Addr) (tl : Addr) (X0 : Stand p l e R6 s m args below meth c T0 locs 0 0) (e0 : T0.heap = h) (N0 : Fr n0 locs) (Z0 : n0 ≤ h.size) (hh0 : h = h0) (E_bl : Exa Z h bl "com/example/search_suggest/searchsuggest/engine/SkipReason") (F_bl_ordinal : Fld Z h bl "java/lang/Enum" "ordinal" "I" (.int (0 : Int32))) (E_en : Exa Z h en "com/example/search_suggest/searchsuggest/engine/SkipReason") (F_en_ordinal : Fld Z h en "java/lang/Enum" "ordinal" "I" (.int (1 : Int32))) (E_ma : Exa Z h ma "com/example/search_suggest/searchsuggest/engine/SkipReason") (F_ma_ordinal : Fld Z h ma "java/lang/Enum" "ordinal" "I" (.int (2 : Int32))) (E_tl : Exa Z h tl "com/example/search_suggest/searchsuggest/engine/SkipReason") (F_tl_ordinal : Fld Z h tl "java/lang/Enum" "ordinal" "I" (.int (3 : Int32))) (O : Old Z n0 h) (S_bl : Sta Z Z.heap "com/example/search_suggest/searchsuggest/engine/SkipReason" "BLANK" "Lcom/example/search_suggest/searchsuggest/engine/SkipReason;" (.ref bl)) (S_en : Sta Z Z.heap "com/example/search_suggest/searchsuggest/engine/SkipReason" "ENCODING" "Lcom/example/search_suggest/searchsuggest/engine/SkipReason;" (.ref en)) (S_ma : Sta Z Z.heap "com/example/search_suggest/searchsuggest/engine/SkipReason" "MALFORMED" "Lcom/example/search_suggest/searchsuggest/engine/SkipReason;" (.ref ma)) (S_tl : Sta Z Z.heap "com/example/search_suggest/searchsuggest/engine/SkipReason" "TOO_LONG" "Lcom/example/search_suggest/searchsuggest/engine/SkipReason;" (.ref tl)) (lt_bl : bl < n0) (lt_en : en < n0) (lt_ma : ma < n0) (lt_tl : tl < n0) (r : Int32) (hr : f6_0 v0 = r) :
    EndsIn p e below s R6.cells R6.slots (Q6 Z  h0 n0 r) (T0.setTop (mkF m 0 #[.val (.int v0), .unset] [])) := by
  obtain ⟨hx, hZ, hw, hby, hml, hret, hown, hnm, hlk⟩ := B
  unfold f6_0 at hr
  refine EndsIn.by (B := T0.setTop (mkF m 5 #[.val (.int v0), .val (.int (v0 &&& (3 : Int32)))] [(.int (v0 &&& (3 : Int32)))])) (fun t k => ?_) ?_
  · show Steps p.tables e below (T0.setTop (mkF m 0 #[.val (.int v0), .unset] [])) _
    refine XS.iloadN X0.here hx rfl (hb hby d6_0) rfl  ?_
    show Steps p.tables e below (T0.setTop (mkF m 1 #[.val (.int v0), .unset] [(.int v0)])) _
    refine XS.iconst X0.here hx rfl (hb hby d6_1) ?_
    show Steps p.tables e below (T0.setTop (mkF m 2 #[.val (.int v0), .unset] [(.int (3 : Int32)), (.int v0)])) _
    refine XS.iand X0.here hx rfl (hb hby d6_2) rfl ?_
    show Steps p.tables e below (T0.setTop (mkF m 3 #[.val (.int v0), .unset] [(.int (v0 &&& (3 : Int32)))])) _
    refine XS.istoreN X0.here hx rfl (hb hby d6_3) rfl (l' := #[.val (.int v0), .val (.int (v0 &&& (3 : Int32)))]) rfl ?_
    show Steps p.tables e below (T0.setTop (mkF m 4 #[.val (.int v0), .val (.int (v0 &&& (3 : Int32)))] [])) _
    refine XS.iloadN X0.here hx rfl (hb hby d6_4) rfl  ?_
    exact k
  by_cases hc5 : (v0 &&& (3 : Int32)) = (0 : Int32)
  · rw [if_pos hc5] at hr
    refine EndsIn.by (B := T0.setTop (mkF m 8 #[.val (.int v0), .val (.int (v0 &&& (3 : Int32)))] [])) (fun t k => ?_) ?_
    · show Steps p.tables e below (T0.setTop (mkF m 5 #[.val (.int v0), .val (.int (v0 &&& (3 : Int32)))] [(.int (v0 &&& (3 : Int32)))])) _
      exact XS.ifNo X0.here hx rfl (hb hby d6_5) rfl ((if0 _ _).trans (teq hc5).2) k
    obtain ⟨T1, X1, e1, st1⟩ := getS2 X0 hx hZ hown (host := "") (Or.inl (hw _ (List.mem_of_getElem? (i := 48) rfl))) Via.refl e0 (S_bl.ext O.2) (g := (mkF m 8 #[.val (.int v0), .val (.int (v0 &&& (3 : Int32)))] [])) rfl (hb hby d6_8)
    refine EndsIn.by (B := T1.setTop (mkF m 11 #[.val (.int v0), .val (.int (v0 &&& (3 : Int32)))] [(.ref bl)])) (fun t k => st1 t k) ?_
    subst hr
    exact own_retR X1 hx hlk hret rfl (hb hby d6_11) (by decide) (by decide) ⟨bl, rfl, N0, (e1.trans hh0), (by rw [e1]; exact E_bl), (by rw [e1]; exact F_bl_ordinal), lt_bl⟩
  · rw [if_neg hc5] at hr
    refine EndsIn.by (B := T0.setTop (mkF m 12 #[.val (.int v0), .val (.int (v0 &&& (3 : Int32)))] [])) (fun t k => ?_) ?_
    · show Steps p.tables e below (T0.setTop (mkF m 5 #[.val (.int v0), .val (.int (v0 &&& (3 : Int32)))] [(.int (v0 &&& (3 : Int32)))])) _
      exact XS.ifYes X0.here hx rfl (pc0 := 5) (pc' := 12) rfl (hb hby d6_5) rfl ((if0 _ _).trans (feq hc5).2) (by decide) (by decide) k
    refine EndsIn.by (B := T0.setTop (mkF m 14 #[.val (.int v0), .val (.int (v0 &&& (3 : Int32)))] [(.int (1 : Int32)), (.int (v0 &&& (3 : Int32)))])) (fun t k => ?_) ?_
    · show Steps p.tables e below (T0.setTop (mkF m 12 #[.val (.int v0), .val (.int (v0 &&& (3 : Int32)))] [])) _
      refine XS.iloadN X0.here hx rfl (hb hby d6_12) rfl  ?_
      show Steps p.tables e below (T0.setTop (mkF m 13 #[.val (.int v0), .val (.int (v0 &&& (3 : Int32)))] [(.int (v0 &&& (3 : Int32)))])) _
      refine XS.iconst X0.here hx rfl (hb hby d6_13) ?_
      exact k
    by_cases hc14 : (v0 &&& (3 : Int32)) = (1 : Int32)
    · rw [if_pos hc14] at hr
      refine EndsIn.by (B := T0.setTop (mkF m 17 #[.val (.int v0), .val (.int (v0 &&& (3 : Int32)))] [])) (fun t k => ?_) ?_
      · show Steps p.tables e below (T0.setTop (mkF m 14 #[.val (.int v0), .val (.int (v0 &&& (3 : Int32)))] [(.int (1 : Int32)), (.int (v0 &&& (3 : Int32)))])) _
        exact XS.icmpNo X0.here hx rfl (hb hby d6_14) rfl (teq hc14).2 k
      obtain ⟨T2, X2, e2, st2⟩ := getS2 X0 hx hZ hown (host := "") (Or.inl (hw _ (List.mem_of_getElem? (i := 63) rfl))) Via.refl e0 (S_en.ext O.2) (g := (mkF m 17 #[.val (.int v0), .val (.int (v0 &&& (3 : Int32)))] [])) rfl (hb hby d6_17)
      refine EndsIn.by (B := T2.setTop (mkF m 20 #[.val (.int v0), .val (.int (v0 &&& (3 : Int32)))] [(.ref en)])) (fun t k => st2 t k) ?_
      subst hr
      exact own_retR X2 hx hlk hret rfl (hb hby d6_20) (by decide) (by decide) ⟨en, rfl, N0, (e2.trans hh0), (by rw [e2]; exact E_en), (by rw [e2]; exact F_en_ordinal), lt_en⟩
    · rw [if_neg hc14] at hr
      refine EndsIn.by (B := T0.setTop (mkF m 21 #[.val (.int v0), .val (.int (v0 &&& (3 : Int32)))] [])) (fun t k => ?_) ?_
      · show Steps p.tables e below (T0.setTop (mkF m 14 #[.val (.int v0), .val (.int (v0 &&& (3 : Int32)))] [(.int (1 : Int32)), (.int (v0 &&& (3 : Int32)))])) _
        exact XS.icmpYes X0.here hx rfl (pc0 := 14) (pc' := 21) rfl (hb hby d6_14) rfl (feq hc14).2 (by decide) (by decide) k
      refine EndsIn.by (B := T0.setTop (mkF m 23 #[.val (.int v0), .val (.int (v0 &&& (3 : Int32)))] [(.int (2 : Int32)), (.int (v0 &&& (3 : Int32)))])) (fun t k => ?_) ?_
      · show Steps p.tables e below (T0.setTop (mkF m 21 #[.val (.int v0), .val (.int (v0 &&& (3 : Int32)))] [])) _
        refine XS.iloadN X0.here hx rfl (hb hby d6_21) rfl  ?_
        show Steps p.tables e below (T0.setTop (mkF m 22 #[.val (.int v0), .val (.int (v0 &&& (3 : Int32)))] [(.int (v0 &&& (3 : Int32)))])) _
        refine XS.iconst X0.here hx rfl (hb hby d6_22) ?_
        exact k
      by_cases hc23 : (v0 &&& (3 : Int32)) = (2 : Int32)
      · rw [if_pos hc23] at hr
        refine EndsIn.by (B := T0.setTop (mkF m 26 #[.val (.int v0), .val (.int (v0 &&& (3 : Int32)))] [])) (fun t k => ?_) ?_
        · show Steps p.tables e below (T0.setTop (mkF m 23 #[.val (.int v0), .val (.int (v0 &&& (3 : Int32)))] [(.int (2 : Int32)), (.int (v0 &&& (3 : Int32)))])) _
          exact XS.icmpNo X0.here hx rfl (hb hby d6_23) rfl (teq hc23).2 k
        obtain ⟨T3, X3, e3, st3⟩ := getS2 X0 hx hZ hown (host := "") (Or.inl (hw _ (List.mem_of_getElem? (i := 65) rfl))) Via.refl e0 (S_ma.ext O.2) (g := (mkF m 26 #[.val (.int v0), .val (.int (v0 &&& (3 : Int32)))] [])) rfl (hb hby d6_26)
        refine EndsIn.by (B := T3.setTop (mkF m 29 #[.val (.int v0), .val (.int (v0 &&& (3 : Int32)))] [(.ref ma)])) (fun t k => st3 t k) ?_
        subst hr
        exact own_retR X3 hx hlk hret rfl (hb hby d6_29) (by decide) (by decide) ⟨ma, rfl, N0, (e3.trans hh0), (by rw [e3]; exact E_ma), (by rw [e3]; exact F_ma_ordinal), lt_ma⟩
      · rw [if_neg hc23] at hr
        refine EndsIn.by (B := T0.setTop (mkF m 30 #[.val (.int v0), .val (.int (v0 &&& (3 : Int32)))] [])) (fun t k => ?_) ?_
        · show Steps p.tables e below (T0.setTop (mkF m 23 #[.val (.int v0), .val (.int (v0 &&& (3 : Int32)))] [(.int (2 : Int32)), (.int (v0 &&& (3 : Int32)))])) _
          exact XS.icmpYes X0.here hx rfl (pc0 := 23) (pc' := 30) rfl (hb hby d6_23) rfl (feq hc23).2 (by decide) (by decide) k
        obtain ⟨T4, X4, e4, st4⟩ := getS2 X0 hx hZ hown (host := "") (Or.inl (hw _ (List.mem_of_getElem? (i := 64) rfl))) Via.refl e0 (S_tl.ext O.2) (g := (mkF m 30 #[.val (.int v0), .val (.int (v0 &&& (3 : Int32)))] [])) rfl (hb hby d6_30)
        refine EndsIn.by (B := T4.setTop (mkF m 33 #[.val (.int v0), .val (.int (v0 &&& (3 : Int32)))] [(.ref tl)])) (fun t k => st4 t k) ?_
        subst hr
        exact own_retR X4 hx hlk hret rfl (hb hby d6_33) (by decide) (by decide) ⟨tl, rfl, N0, (e4.trans hh0), (by rw [e4]; exact E_tl), (by rw [e4]; exact F_tl_ordinal), lt_tl⟩
theorem ef_6 (m : MethodId) (v0 : Int32) : entryFrame m #[(.int v0)] 2 = (mkF m 0 #[.val (.int v0), .unset] []) := by first | (simp [entryFrame, mkF, argsToLocals, Value.category]; done) | rfl
set_option maxRecDepth 65536 in
set_option maxHeartbeats 40000000 in
theorem rm6 (l : Launch) (Z : State) (a0 : Array Value) (hw : ∀ d ∈ tables_1, d.before a0 Z = true) (ws : List Jvm.Cond) (v0 : Int32) (bl : Addr) (en : Addr) (ma : Addr) (tl : Addr) (h0 : Heap) (n0 : Nat) (Z0 : n0 ≤ h0.size) (E_bl : Exa Z h0 bl "com/example/search_suggest/searchsuggest/engine/SkipReason") (F_bl_ordinal : Fld Z h0 bl "java/lang/Enum" "ordinal" "I" (.int (0 : Int32))) (E_en : Exa Z h0 en "com/example/search_suggest/searchsuggest/engine/SkipReason") (F_en_ordinal : Fld Z h0 en "java/lang/Enum" "ordinal" "I" (.int (1 : Int32))) (E_ma : Exa Z h0 ma "com/example/search_suggest/searchsuggest/engine/SkipReason") (F_ma_ordinal : Fld Z h0 ma "java/lang/Enum" "ordinal" "I" (.int (2 : Int32))) (E_tl : Exa Z h0 tl "com/example/search_suggest/searchsuggest/engine/SkipReason") (F_tl_ordinal : Fld Z h0 tl "java/lang/Enum" "ordinal" "I" (.int (3 : Int32))) (O : Old Z n0 h0) (S_bl : Sta Z Z.heap "com/example/search_suggest/searchsuggest/engine/SkipReason" "BLANK" "Lcom/example/search_suggest/searchsuggest/engine/SkipReason;" (.ref bl)) (S_en : Sta Z Z.heap "com/example/search_suggest/searchsuggest/engine/SkipReason" "ENCODING" "Lcom/example/search_suggest/searchsuggest/engine/SkipReason;" (.ref en)) (S_ma : Sta Z Z.heap "com/example/search_suggest/searchsuggest/engine/SkipReason" "MALFORMED" "Lcom/example/search_suggest/searchsuggest/engine/SkipReason;" (.ref ma)) (S_tl : Sta Z Z.heap "com/example/search_suggest/searchsuggest/engine/SkipReason" "TOO_LONG" "Lcom/example/search_suggest/searchsuggest/engine/SkipReason;" (.ref tl)) (lt_bl : bl < n0) (lt_en : en < n0) (lt_ma : ma < n0) (lt_tl : tl < n0) :
    MetFree l (⟨"com/example/search_suggest/searchsuggest/engine/LineTallySkippedPinLaw", "pick", "(I)Lcom/example/search_suggest/searchsuggest/engine/SkipReason;"⟩ : MethodName) (head1 (Jvm.Cond.code (⟨"com/example/search_suggest/searchsuggest/engine/LineTallySkippedPinLaw", "pick", "(I)Lcom/example/search_suggest/searchsuggest/engine/SkipReason;"⟩ : MethodName) method_2_code 2 (some (.object "com/example/search_suggest/searchsuggest/engine/SkipReason")) :: ws) R6) (fun a U => a = #[(.int v0)] ∧ Z.Warmed39 U.vm ∧ U.heap = h0) (fun _ _ _ _ _ => True) (fun _ U o U' => ∃ v L, o = .returned v ∧ (Q6 Z  h0 n0 (f6_0 v0)) v U'.heap L ∧ FrameEnd U o U' L R6.cells R6.slots) := by
  refine MetFree.of_bodySF (plainFor_of_name pn_6) hisR ?_
  intro p e s m args below meth c s₁ Bd hml0 hP hK
  obtain ⟨rfl, hZ, hh⟩ := hP
  have B : Ctx p Z s a0 m meth c "com/example/search_suggest/searchsuggest/engine/LineTallySkippedPinLaw" "pick" method_2_code 2 (some (.object "com/example/search_suggest/searchsuggest/engine/SkipReason")) := ⟨Bd.exec, hZ, hw, Bd.bytes, hml0, Bd.returns, findClass_of_methodNamed Bd.named, (name_of_methodNamed Bd.named Bd.method).1, Bd.notSynchronized⟩
  have X0 : Stand p l e R6 s m #[(.int v0)] below meth c s₁ [] 0 0 := Stand.of_body Bd
  have e0 : s₁.heap = h0 := by rw [← hh, Bd.state]; rfl
  have K := Keep.refl h0 []
  show EndsIn p e below s R6.cells R6.slots (Q6 Z  h0 n0 (f6_0 v0)) (s₁.setTop (entryFrame m #[(.int v0)] 2))
  refine EndsIn.by (fun t k => castTop (ef_6 m v0) k) ?_
  exact b6_0 B h0 n0 v0 bl en ma tl X0 e0 (Fr.nil n0) Z0 rfl E_bl F_bl_ordinal E_en F_en_ordinal E_ma F_ma_ordinal E_tl F_tl_ordinal O S_bl S_en S_ma S_tl lt_bl lt_en lt_ma lt_tl _ rfl
theorem pd_3 : parseMethodDescriptor "(I)Lcom/example/search_suggest/searchsuggest/engine/SkipReason;" = some ⟨[.int], some (.object "com/example/search_suggest/searchsuggest/engine/SkipReason")⟩ := by decide +kernel
theorem d8_0 : decode jdk_37_method_2_code 0 = .ok (.aload_n 0, 1) := by decide +kernel
theorem d8_1 : decode jdk_37_method_2_code 1 = .ok (.getfield 7, 3) := by decide +kernel
theorem d8_4 : decode jdk_37_method_2_code 4 = .ok (.ireturn, 1) := by decide +kernel
theorem pn_8 : plainName "java/lang/Enum" = true := by first | (simp [plainName, overriddenIn]; done) | decide +kernel
def R8 : Room := { frames := 0, cells := 0, slots := 0, locals := 0 }
def Q8 (Z : State)  (h0 : Heap) (n0 : Nat) (r : Int32) (v : Option Value) (h : Heap) (L : List Loc) : Prop := v = some (.int r) ∧ Fr n0 L ∧ h = h0
def f8_0 (o0_ordinal : Int32) : Int32 := o0_ordinal
set_option maxRecDepth 65536 in
set_option maxHeartbeats 40000000 in
theorem b8_0 {p : Program} {l : Launch} {e : Env} {s : State} {m : MethodId} {args : Array Value} {below : List Frame} {meth : Method} {c : Code} {Z : State} {a0 : Array Value} (B : Ctx p Z s a0 m meth c "java/lang/Enum" "ordinal" jdk_37_method_2_code 1 (some .int)) {T0 : State} {locs : List Loc} {h : Heap} (h0 : Heap) (n0 : Nat) (o0 : Addr) (o0_ordinal : Int32) (X0 : Stand p l e R8 s m args below meth c T0 locs 0 0) (e0 : T0.heap = h) (N0 : Fr n0 locs) (Z0 : n0 ≤ h.size) (hh0 : h = h0) (E_o0 : Exa Z h o0 "com/example/search_suggest/searchsuggest/engine/SkipReason") (F_o0_ordinal : Fld Z h o0 "java/lang/Enum" "ordinal" "I" (.int o0_ordinal)) (r : Int32) (hr : f8_0 o0_ordinal = r) :
    EndsIn p e below s R8.cells R8.slots (Q8 Z  h0 n0 r) (T0.setTop (mkF m 0 #[.val (.ref o0)] [])) := by
  obtain ⟨hx, hZ, hw, hby, hml, hret, hown, hnm, hlk⟩ := B
  unfold f8_0 at hr
  refine EndsIn.by (B := T0.setTop (mkF m 1 #[.val (.ref o0)] [(.ref o0)])) (fun t k => ?_) ?_
  · show Steps p.tables e below (T0.setTop (mkF m 0 #[.val (.ref o0)] [])) _
    refine XS.aloadN X0.here hx rfl (hb hby d8_0) rfl rfl ?_
    exact k
  obtain ⟨T1, X1, e1, st1⟩ := getF X0 hx hZ hown (host := "") (Or.inl (hw _ (List.mem_of_getElem? (i := 61) rfl))) Via.refl e0 F_o0_ordinal (g := (mkF m 1 #[.val (.ref o0)] [(.ref o0)])) rfl rfl (hb hby d8_1)
  refine EndsIn.by (B := T1.setTop (mkF m 4 #[.val (.ref o0)] [(.int o0_ordinal)])) (fun t k => st1 t k) ?_
  subst hr
  exact own_retI X1 hx hlk hret (hb hby d8_4) (by decide) (by decide) ⟨rfl, N0, (e1.trans hh0)⟩
theorem ef_8 (m : MethodId) (o0 : Addr) : entryFrame m #[(.ref o0)] 1 = (mkF m 0 #[.val (.ref o0)] []) := by first | (simp [entryFrame, mkF, argsToLocals, Value.category]; done) | rfl
set_option maxRecDepth 65536 in
set_option maxHeartbeats 40000000 in
theorem rm8 (l : Launch) (Z : State) (a0 : Array Value) (hw : ∀ d ∈ tables_1, d.before a0 Z = true) (ws : List Jvm.Cond) (o0 : Addr) (o0_ordinal : Int32) (h0 : Heap) (n0 : Nat) (Z0 : n0 ≤ h0.size) (E_o0 : Exa Z h0 o0 "com/example/search_suggest/searchsuggest/engine/SkipReason") (F_o0_ordinal : Fld Z h0 o0 "java/lang/Enum" "ordinal" "I" (.int o0_ordinal)) :
    MetFree l (⟨"java/lang/Enum", "ordinal", "()I"⟩ : MethodName) (head1 (Jvm.Cond.code (⟨"java/lang/Enum", "ordinal", "()I"⟩ : MethodName) jdk_37_method_2_code 1 (some .int) :: ws) R8) (fun a U => a = #[(.ref o0)] ∧ Z.Warmed39 U.vm ∧ U.heap = h0) (fun _ _ _ _ _ => True) (fun _ U o U' => ∃ v L, o = .returned v ∧ (Q8 Z  h0 n0 (f8_0 o0_ordinal)) v U'.heap L ∧ FrameEnd U o U' L R8.cells R8.slots) := by
  refine MetFree.of_bodySF (plainFor_of_name pn_8) hisR ?_
  intro p e s m args below meth c s₁ Bd hml0 hP hK
  obtain ⟨rfl, hZ, hh⟩ := hP
  have B : Ctx p Z s a0 m meth c "java/lang/Enum" "ordinal" jdk_37_method_2_code 1 (some .int) := ⟨Bd.exec, hZ, hw, Bd.bytes, hml0, Bd.returns, findClass_of_methodNamed Bd.named, (name_of_methodNamed Bd.named Bd.method).1, Bd.notSynchronized⟩
  have X0 : Stand p l e R8 s m #[(.ref o0)] below meth c s₁ [] 0 0 := Stand.of_body Bd
  have e0 : s₁.heap = h0 := by rw [← hh, Bd.state]; rfl
  have K := Keep.refl h0 []
  show EndsIn p e below s R8.cells R8.slots (Q8 Z  h0 n0 (f8_0 o0_ordinal)) (s₁.setTop (entryFrame m #[(.ref o0)] 1))
  refine EndsIn.by (fun t k => castTop (ef_8 m o0) k) ?_
  exact b8_0 B h0 n0 o0 o0_ordinal X0 e0 (Fr.nil n0) Z0 rfl E_o0 F_o0_ordinal _ rfl
theorem pd_4 : parseMethodDescriptor "()I" = some ⟨[], some .int⟩ := by decide +kernel
theorem d7_0 : decode prog_6_method_3_code 0 = .ok (.aload_n 0, 1) := by decide +kernel
theorem d7_1 : decode prog_6_method_3_code 1 = .ok (.getfield 13, 3) := by decide +kernel
theorem d7_4 : decode prog_6_method_3_code 4 = .ok (.aload_n 1, 1) := by decide +kernel
theorem d7_5 : decode prog_6_method_3_code 5 = .ok (.invokevirtual 23, 3) := by decide +kernel
theorem d7_8 : decode prog_6_method_3_code 8 = .ok (.dup2, 1) := by decide +kernel
theorem d7_9 : decode prog_6_method_3_code 9 = .ok (.laload, 1) := by decide +kernel
theorem d7_10 : decode prog_6_method_3_code 10 = .ok (.lconst 1, 1) := by decide +kernel
theorem d7_11 : decode prog_6_method_3_code 11 = .ok (.ladd, 1) := by decide +kernel
theorem d7_12 : decode prog_6_method_3_code 12 = .ok (.lastore, 1) := by decide +kernel
theorem d7_13 : decode prog_6_method_3_code 13 = .ok (.return_, 1) := by decide +kernel
theorem pn_7 : plainName "com/example/search_suggest/searchsuggest/engine/LineTally" = true := by first | (simp [plainName, overriddenIn]; done) | decide +kernel
def R7 : Room := { frames := 1, cells := 0, slots := 0, locals := 13 }
def Q7 (Z : State) (sk : Addr) (sk_k : ClassId) (h0 : Heap) (n0 : Nat) (r : List Int64) (v : Option Value) (h : Heap) (L : List Loc) : Prop := v = none ∧ Fr n0 L ∧ Keep h0 h [sk] ∧ Arv Z h sk sk_k .long (4 : Int32) ((r).map Value.long) (.long 0) ∧ (r).length = (4 : Int32).toNatClampNeg
def f7_0 (o0_kept : Int64) (o1_ordinal : Int32) (sk_xs : List Int64) : List Int64 := (sk_xs.set ((f8_0 o1_ordinal)).toNatClampNeg ((own_atJ sk_xs (f8_0 o1_ordinal)) + (1 : Int64)))
set_option maxRecDepth 65536 in
set_option maxHeartbeats 40000000 in
theorem b7_0 {p : Program} {l : Launch} {e : Env} {s : State} {m : MethodId} {args : Array Value} {below : List Frame} {meth : Method} {c : Code} {Z : State} {a0 : Array Value} (B : Ctx p Z s a0 m meth c "com/example/search_suggest/searchsuggest/engine/LineTally" "countSkipped" prog_6_method_3_code 2 none) {T0 : State} {locs : List Loc} {h : Heap} (h0 : Heap) (n0 : Nat) (o0 : Addr) (o1 : Addr) (sk : Addr) (o0_kept : Int64) (o1_ordinal : Int32) (sk_k : ClassId) (sk_xs : List Int64) (X0 : Stand p l e R7 s m args below meth c T0 locs 0 0) (e0 : T0.heap = h) (N0 : Fr n0 locs) (Z0 : n0 ≤ h.size) (K : Keep h0 h [sk]) (E_o0 : Exa Z h o0 "com/example/search_suggest/searchsuggest/engine/LineTally") (F_o0_skipped : Fld Z h o0 "com/example/search_suggest/searchsuggest/engine/LineTally" "skipped" "[J" (.ref sk)) (F_o0_kept : Fld Z h o0 "com/example/search_suggest/searchsuggest/engine/LineTally" "kept" "J" (.long o0_kept)) (E_o1 : Exa Z h o1 "com/example/search_suggest/searchsuggest/engine/SkipReason") (F_o1_ordinal : Fld Z h o1 "java/lang/Enum" "ordinal" "I" (.int o1_ordinal)) (V_sk : Arv Z h sk sk_k .long (4 : Int32) (sk_xs.map Value.long) (.long 0)) (ln_sk : sk_xs.length = (4 : Int32).toNatClampNeg) (g_sk : n0 ≤ sk) (ne_o0_sk : o0 ≠ sk) (ne_o1_sk : o1 ≠ sk) (hi : ¬ (o1_ordinal < (0 : Int32)) ∧ o1_ordinal < (4 : Int32)) (r : List Int64) (hr : f7_0 o0_kept o1_ordinal sk_xs = r) :
    EndsIn p e below s R7.cells R7.slots (Q7 Z sk sk_k h0 n0 r) (T0.setTop (mkF m 0 #[.val (.ref o0), .val (.ref o1)] [])) := by
  obtain ⟨hx, hZ, hw, hby, hml, hret, hown, hnm, hlk⟩ := B
  unfold f7_0 at hr
  refine EndsIn.by (B := T0.setTop (mkF m 1 #[.val (.ref o0), .val (.ref o1)] [(.ref o0)])) (fun t k => ?_) ?_
  · show Steps p.tables e below (T0.setTop (mkF m 0 #[.val (.ref o0), .val (.ref o1)] [])) _
    refine XS.aloadN X0.here hx rfl (hb hby d7_0) rfl rfl ?_
    exact k
  obtain ⟨T1, X1, e1, st1⟩ := getF X0 hx hZ hown (host := "") (Or.inl (hw _ (List.mem_of_getElem? (i := 30) rfl))) Via.refl e0 F_o0_skipped (g := (mkF m 1 #[.val (.ref o0), .val (.ref o1)] [(.ref o0)])) rfl rfl (hb hby d7_1)
  refine EndsIn.by (B := T1.setTop (mkF m 4 #[.val (.ref o0), .val (.ref o1)] [(.ref sk)])) (fun t k => st1 t k) ?_
  refine EndsIn.by (B := T1.setTop (mkF m 5 #[.val (.ref o0), .val (.ref o1)] [(.ref o1), (.ref sk)])) (fun t k => ?_) ?_
  · show Steps p.tables e below (T1.setTop (mkF m 4 #[.val (.ref o0), .val (.ref o1)] [(.ref sk)])) _
    refine XS.aloadN X1.here hx rfl (hb hby d7_4) rfl rfl ?_
    exact k
  -- pc 5: com/example/search_suggest/searchsuggest/engine/SkipReason.ordinal
  obtain ⟨cq2, kq2, q2a, q2b, q2c⟩ := isOf hZ e1 E_o1
  obtain ⟨_, _, ⟨T2, L2, k2, n2⟩, -, X2, ⟨Lc2, hQ2, l2, y2, z2⟩, st2⟩ := X1.virtualBackUp hx (owner := "java/lang/Enum") (x := (⟨"com/example/search_suggest/searchsuggest/engine/SkipReason", "ordinal", "()I"⟩ : MethodName)) (y := (⟨"java/lang/Enum", "ordinal", "()I"⟩ : MethodName)) hown (mvT hZ (hw _ (List.mem_of_getElem? (i := 54) rfl))) (mvT hZ (hw _ (List.mem_of_getElem? (i := 55) rfl))) (mvT hZ (hw _ (List.mem_of_getElem? (i := 56) rfl))) (by decide) (mvT hZ (hw _ (List.mem_of_getElem? (i := 58) rfl))) (mvT hZ (hw _ (List.mem_of_getElem? (i := 57) rfl))) (backOf (W := 1) (rm8 l Z a0 hw [] o1 o1_ordinal h n0 Z0 E_o1 F_o1_ordinal) hZ (hw _ (List.mem_of_getElem? (i := 60) rfl)) (hw _ (List.mem_of_getElem? (i := 59) rfl)) (by decide) (by decide)) q2a q2c (g := (mkF m 5 #[.val (.ref o0), .val (.ref o1)] [(.ref o1), (.ref sk)])) rfl (by rw [hml]; rfl) (Steps.refl _) (argsL := []) (rest := [(.ref sk)]) (lenOf pd_4 rfl) rfl (by show 2 * 0 + _ ≤ _; exact Nat.le_of_eq rfl) (hb hby d7_5) (fun _ _ => ⟨rfl, e1, (by decide : 0 + R8.cells ≤ _), (by decide : 0 + R8.slots ≤ _)⟩)
  dsimp only [Pt.U, Pt.locs, Pt.cells, Pt.slots] at X2 l2 y2 z2 st2 hQ2
  subst l2 y2 z2
  obtain ⟨rfl, Nq2, e2⟩ := hQ2
  have N2 := Fr.app N0 Nq2
  refine EndsIn.by (B := T2.setTop (mkF m 8 #[.val (.ref o0), .val (.ref o1)] [(.int (f8_0 o1_ordinal)), (.ref sk)])) (fun t k => st2.trans k) ?_
  refine EndsIn.by (B := T2.setTop (mkF m 9 #[.val (.ref o0), .val (.ref o1)] [(.int (f8_0 o1_ordinal)), (.ref sk), (.int (f8_0 o1_ordinal)), (.ref sk)])) (fun t k => ?_) ?_
  · show Steps p.tables e below (T2.setTop (mkF m 8 #[.val (.ref o0), .val (.ref o1)] [(.int (f8_0 o1_ordinal)), (.ref sk)])) _
    jvm_step X2.here [X2.here.top, hx, (hb hby d7_8), Value.category]
    exact k
  have hin3 : ¬ ((f8_0 o1_ordinal) < 0) ∧ (f8_0 o1_ordinal) < (4 : Int32) := hi
  obtain ⟨cl3, Ar3, hi3, q3⟩ := own_readJ V_sk hin3 _ rfl
  refine EndsIn.by (B := T2.setTop (mkF m 10 #[.val (.ref o0), .val (.ref o1)] [(.long (own_atJ sk_xs (f8_0 o1_ordinal))), (.int (f8_0 o1_ordinal)), (.ref sk)])) (fun t k => ?_) ?_
  · show Steps p.tables e below (T2.setTop (mkF m 9 #[.val (.ref o0), .val (.ref o1)] [(.int (f8_0 o1_ordinal)), (.ref sk), (.int (f8_0 o1_ordinal)), (.ref sk)])) _
    exact X2.laload hx (j := (f8_0 o1_ordinal)) (v := (.long (own_atJ sk_xs (f8_0 o1_ordinal)))) (by rw [e2]; exact Ar3.1) (State.isArrayOf_alike hZ.alike Ar3.2.1) Ar3.2.2 hi3 q3 (g := (mkF m 9 #[.val (.ref o0), .val (.ref o1)] [(.int (f8_0 o1_ordinal)), (.ref sk), (.int (f8_0 o1_ordinal)), (.ref sk)])) rfl rfl (hb hby d7_9) _ k
  refine EndsIn.by (B := T2.setTop (mkF m 12 #[.val (.ref o0), .val (.ref o1)] [(.long ((own_atJ sk_xs (f8_0 o1_ordinal)) + (1 : Int64))), (.int (f8_0 o1_ordinal)), (.ref sk)])) (fun t k => ?_) ?_
  · show Steps p.tables e below (T2.setTop (mkF m 10 #[.val (.ref o0), .val (.ref o1)] [(.long (own_atJ sk_xs (f8_0 o1_ordinal))), (.int (f8_0 o1_ordinal)), (.ref sk)])) _
    refine XS.lconst X2.here hx rfl (hb hby d7_10) ?_
    show Steps p.tables e below (T2.setTop (mkF m 11 #[.val (.ref o0), .val (.ref o1)] [(.long (1 : Int64)), (.long (own_atJ sk_xs (f8_0 o1_ordinal))), (.int (f8_0 o1_ordinal)), (.ref sk)])) _
    refine XS.ladd X2.here hx rfl (hb hby d7_11) rfl ?_
    exact k
  have hin4 : ¬ ((f8_0 o1_ordinal) < 0) ∧ (f8_0 o1_ordinal) < (4 : Int32) := hi
  obtain ⟨cl4, Ar4, hi4, q4⟩ := own_open V_sk hin4
  obtain ⟨T4, h4, X4, e4, W4, st4⟩ := stJ X2 hx hZ e2 Ar4 (j := (f8_0 o1_ordinal)) hi4 (g := (mkF m 12 #[.val (.ref o0), .val (.ref o1)] [(.long ((own_atJ sk_xs (f8_0 o1_ordinal)) + (1 : Int64))), (.int (f8_0 o1_ordinal)), (.ref sk)])) rfl rfl (hb hby d7_12)
  have E_o0_4 := E_o0.wr W4
  have F_o0_skipped_4 := F_o0_skipped.other W4 (Or.inl ne_o0_sk)
  have F_o0_kept_4 := F_o0_kept.other W4 (Or.inl ne_o0_sk)
  have E_o1_4 := E_o1.wr W4
  have F_o1_ordinal_4 := F_o1_ordinal.other W4 (Or.inl ne_o1_sk)
  obtain ⟨V_sk_4, ln_sk_4⟩ : Arv Z h4 sk sk_k .long (4 : Int32) ((sk_xs.set ((f8_0 o1_ordinal)).toNatClampNeg ((own_atJ sk_xs (f8_0 o1_ordinal)) + (1 : Int64))).map Value.long) (.long 0) ∧ (sk_xs.set ((f8_0 o1_ordinal)).toNatClampNeg ((own_atJ sk_xs (f8_0 o1_ordinal)) + (1 : Int64))).length = (4 : Int32).toNatClampNeg := own_setJ V_sk ln_sk hin4 W4 rfl ((f8_0 o1_ordinal)).toNatClampNeg rfl
  have N4 := Fr.snoc X4 N2 g_sk
  have Z4 : n0 ≤ h4.size := Nat.le_trans Z0 (Nat.le_of_eq W4.size.symm)
  have K4 := K.wr W4 (Or.inl (by simp))
  refine EndsIn.by (B := T4.setTop (mkF m 13 #[.val (.ref o0), .val (.ref o1)] [])) (fun t k => st4 t k) ?_
  subst hr
  exact own_ret0 X4 hx hlk hret (hb hby d7_13) (by decide) (by decide) ⟨rfl, N4, (by rw [e4]; exact K4), (by rw [e4]; exact V_sk_4), ln_sk_4⟩
theorem ef_7 (m : MethodId) (o0 : Addr) (o1 : Addr) : entryFrame m #[(.ref o0), (.ref o1)] 2 = (mkF m 0 #[.val (.ref o0), .val (.ref o1)] []) := by first | (simp [entryFrame, mkF, argsToLocals, Value.category]; done) | rfl
set_option maxRecDepth 65536 in
set_option maxHeartbeats 40000000 in
theorem rm7 (l : Launch) (Z : State) (a0 : Array Value) (hw : ∀ d ∈ tables_1, d.before a0 Z = true) (ws : List Jvm.Cond) (o0 : Addr) (o1 : Addr) (sk : Addr) (o0_kept : Int64) (o1_ordinal : Int32) (sk_k : ClassId) (sk_xs : List Int64) (h0 : Heap) (n0 : Nat) (Z0 : n0 ≤ h0.size) (E_o0 : Exa Z h0 o0 "com/example/search_suggest/searchsuggest/engine/LineTally") (F_o0_skipped : Fld Z h0 o0 "com/example/search_suggest/searchsuggest/engine/LineTally" "skipped" "[J" (.ref sk)) (F_o0_kept : Fld Z h0 o0 "com/example/search_suggest/searchsuggest/engine/LineTally" "kept" "J" (.long o0_kept)) (E_o1 : Exa Z h0 o1 "com/example/search_suggest/searchsuggest/engine/SkipReason") (F_o1_ordinal : Fld Z h0 o1 "java/lang/Enum" "ordinal" "I" (.int o1_ordinal)) (V_sk : Arv Z h0 sk sk_k .long (4 : Int32) (sk_xs.map Value.long) (.long 0)) (ln_sk : sk_xs.length = (4 : Int32).toNatClampNeg) (g_sk : n0 ≤ sk) (ne_o0_sk : o0 ≠ sk) (ne_o1_sk : o1 ≠ sk) (hi : ¬ (o1_ordinal < (0 : Int32)) ∧ o1_ordinal < (4 : Int32)) :
    MetFree l (⟨"com/example/search_suggest/searchsuggest/engine/LineTally", "countSkipped", "(Lcom/example/search_suggest/searchsuggest/engine/SkipReason;)V"⟩ : MethodName) (head1 (Jvm.Cond.code (⟨"com/example/search_suggest/searchsuggest/engine/LineTally", "countSkipped", "(Lcom/example/search_suggest/searchsuggest/engine/SkipReason;)V"⟩ : MethodName) prog_6_method_3_code 2 none :: ws) R7) (fun a U => a = #[(.ref o0), (.ref o1)] ∧ Z.Warmed39 U.vm ∧ U.heap = h0) (fun _ _ _ _ _ => True) (fun _ U o U' => ∃ v L, o = .returned v ∧ (Q7 Z sk sk_k h0 n0 (f7_0 o0_kept o1_ordinal sk_xs)) v U'.heap L ∧ FrameEnd U o U' L R7.cells R7.slots) := by
  refine MetFree.of_bodySF (plainFor_of_name pn_7) hisR ?_
  intro p e s m args below meth c s₁ Bd hml0 hP hK
  obtain ⟨rfl, hZ, hh⟩ := hP
  have B : Ctx p Z s a0 m meth c "com/example/search_suggest/searchsuggest/engine/LineTally" "countSkipped" prog_6_method_3_code 2 none := ⟨Bd.exec, hZ, hw, Bd.bytes, hml0, Bd.returns, findClass_of_methodNamed Bd.named, (name_of_methodNamed Bd.named Bd.method).1, Bd.notSynchronized⟩
  have X0 : Stand p l e R7 s m #[(.ref o0), (.ref o1)] below meth c s₁ [] 0 0 := Stand.of_body Bd
  have e0 : s₁.heap = h0 := by rw [← hh, Bd.state]; rfl
  have K := Keep.refl h0 [sk]
  show EndsIn p e below s R7.cells R7.slots (Q7 Z sk sk_k h0 n0 (f7_0 o0_kept o1_ordinal sk_xs)) (s₁.setTop (entryFrame m #[(.ref o0), (.ref o1)] 2))
  refine EndsIn.by (fun t k => castTop (ef_7 m o0 o1) k) ?_
  exact b7_0 B h0 n0 o0 o1 sk o0_kept o1_ordinal sk_k sk_xs X0 e0 (Fr.nil n0) Z0 K E_o0 F_o0_skipped F_o0_kept E_o1 F_o1_ordinal V_sk ln_sk g_sk ne_o0_sk ne_o1_sk hi _ rfl
theorem pd_5 : parseMethodDescriptor "(Lcom/example/search_suggest/searchsuggest/engine/SkipReason;)V" = some ⟨[(.object "com/example/search_suggest/searchsuggest/engine/SkipReason")], none⟩ := by decide +kernel

theorem own_ord (c : Int32) : ¬ (f6_0 c < (0 : Int32)) ∧ f6_0 c < (4 : Int32) := by
  unfold f6_0
  split
  · decide
  · split
    · decide
    · split <;> decide

theorem pn_0 : plainName "com/example/search_suggest/searchsuggest/engine/LineTallySkippedPinLaw" = true := by first | (simp [plainName, overriddenIn]; done) | decide +kernel
def Q0 (n0 : Nat) (r : Int32) (v : Option Value) (h : Heap) (L : List Loc) : Prop := v = some (.int r) ∧ Fr n0 L
def f0_102 (v0 : Int32) (v1 : Int32) (v3 : Int64) (v5 : Int64) (b0_kept : Int64) (c4_xs : List Int64) : Int32 := (if v3 = (0 : Int64) then (if (f4_0 b0_kept c4_xs) = v5 then (if (f4_0 b0_kept c4_xs) = v5 then (1 : Int32) else (0 : Int32)) else (0 : Int32)) else (0 : Int32))
set_option maxRecDepth 65536 in
set_option maxHeartbeats 40000000 in
theorem b0_102 {p : Program} {l : Launch} {e : Env} {s : State} {m : MethodId} {args : Array Value} {below : List Frame} {meth : Method} {c : Code} {Z : State} {a0 : Array Value} (B : Ctx p Z s a0 m meth c "com/example/search_suggest/searchsuggest/engine/LineTallySkippedPinLaw" "law" code 11 (some .boolean)) {T0 : State} {locs : List Loc} {h : Heap} (h0 : Heap) (n0 : Nat) (v0 : Int32) (v1 : Int32) (b0 : Addr) (v3 : Int64) (v5 : Int64) (bl : Addr) (en : Addr) (ma : Addr) (tl : Addr) (vals : Addr) (c4 : Addr) (b0_kept : Int64) (vals_k : ClassId) (vals_xs : List Value) (c4_k : ClassId) (c4_xs : List Int64) (X0 : Stand p l e room_1 s m args below meth c T0 locs 3 10) (e0 : T0.heap = h) (N0 : Fr n0 locs) (Z0 : n0 ≤ h.size) (E_bl : Exa Z h bl "com/example/search_suggest/searchsuggest/engine/SkipReason") (F_bl_ordinal : Fld Z h bl "java/lang/Enum" "ordinal" "I" (.int (0 : Int32))) (E_en : Exa Z h en "com/example/search_suggest/searchsuggest/engine/SkipReason") (F_en_ordinal : Fld Z h en "java/lang/Enum" "ordinal" "I" (.int (1 : Int32))) (E_ma : Exa Z h ma "com/example/search_suggest/searchsuggest/engine/SkipReason") (F_ma_ordinal : Fld Z h ma "java/lang/Enum" "ordinal" "I" (.int (2 : Int32))) (E_tl : Exa Z h tl "com/example/search_suggest/searchsuggest/engine/SkipReason") (F_tl_ordinal : Fld Z h tl "java/lang/Enum" "ordinal" "I" (.int (3 : Int32))) (E_b0 : Exa Z h b0 "com/example/search_suggest/searchsuggest/engine/LineTally") (F_b0_skipped : Fld Z h b0 "com/example/search_suggest/searchsuggest/engine/LineTally" "skipped" "[J" (.ref c4)) (F_b0_kept : Fld Z h b0 "com/example/search_suggest/searchsuggest/engine/LineTally" "kept" "J" (.long b0_kept)) (g_b0 : n0 ≤ b0) (V_vals : Arv Z h vals vals_k (.object "com/example/search_suggest/searchsuggest/engine/SkipReason") (4 : Int32) vals_xs .null) (E_vals : Exa Z h vals "[Lcom/example/search_suggest/searchsuggest/engine/SkipReason;") (V_c4 : Arv Z h c4 c4_k .long (4 : Int32) (c4_xs.map Value.long) (.long 0)) (ln_c4 : c4_xs.length = (4 : Int32).toNatClampNeg) (g_c4 : n0 ≤ c4) (ne_bl_b0 : bl ≠ b0) (ne_en_b0 : en ≠ b0) (ne_ma_b0 : ma ≠ b0) (ne_tl_b0 : tl ≠ b0) (ne_vals_b0 : vals ≠ b0) (ne_bl_c4 : bl ≠ c4) (ne_en_c4 : en ≠ c4) (ne_ma_c4 : ma ≠ c4) (ne_tl_c4 : tl ≠ c4) (ne_b0_c4 : b0 ≠ c4) (ne_vals_c4 : vals ≠ c4) (O : Old Z n0 h) (S_vals : Sta Z Z.heap "com/example/search_suggest/searchsuggest/engine/SkipReason" "$VALUES" "[Lcom/example/search_suggest/searchsuggest/engine/SkipReason;" (.ref vals)) (lt_vals : vals < n0) (S_bl : Sta Z Z.heap "com/example/search_suggest/searchsuggest/engine/SkipReason" "BLANK" "Lcom/example/search_suggest/searchsuggest/engine/SkipReason;" (.ref bl)) (S_en : Sta Z Z.heap "com/example/search_suggest/searchsuggest/engine/SkipReason" "ENCODING" "Lcom/example/search_suggest/searchsuggest/engine/SkipReason;" (.ref en)) (S_ma : Sta Z Z.heap "com/example/search_suggest/searchsuggest/engine/SkipReason" "MALFORMED" "Lcom/example/search_suggest/searchsuggest/engine/SkipReason;" (.ref ma)) (S_tl : Sta Z Z.heap "com/example/search_suggest/searchsuggest/engine/SkipReason" "TOO_LONG" "Lcom/example/search_suggest/searchsuggest/engine/SkipReason;" (.ref tl)) (lt_bl : bl < n0) (lt_en : en < n0) (lt_ma : ma < n0) (lt_tl : tl < n0) (r : Int32) (hr : f0_102 v0 v1 v3 v5 b0_kept c4_xs = r) :
    EndsIn p e below s 3 10 (Q0 n0 r) (T0.setTop (mkF m 102 #[.val (.int v0), .val (.int v1), .val (.ref b0), .val (.long v3), .second, .val (.long v5), .second, .unset, .unset, .unset, .unset] [])) := by
  obtain ⟨hx, hZ, hw, hby, hml, hret, hown, hnm, hlk⟩ := B
  unfold f0_102 at hr
  refine EndsIn.by (B := T0.setTop (mkF m 103 #[.val (.int v0), .val (.int v1), .val (.ref b0), .val (.long v3), .second, .val (.long v5), .second, .unset, .unset, .unset, .unset] [(.ref b0)])) (fun t k => ?_) ?_
  · show Steps p.tables e below (T0.setTop (mkF m 102 #[.val (.int v0), .val (.int v1), .val (.ref b0), .val (.long v3), .second, .val (.long v5), .second, .unset, .unset, .unset, .unset] [])) _
    refine XS.aloadN X0.here hx rfl (hb hby at_102) rfl rfl ?_
    exact k
  -- pc 103: com/example/search_suggest/searchsuggest/engine/LineTally.skipped
  obtain ⟨cq4, kq4, q4a, q4b, q4c⟩ := isOf hZ e0 E_b0
  obtain ⟨_, _, ⟨T4, L4, k4, n4⟩, -, X4, ⟨Lc4, hQ4, l4, y4, z4⟩, st4⟩ := X0.virtualBack hx (y := (⟨"com/example/search_suggest/searchsuggest/engine/LineTally", "skipped", "()J"⟩ : MethodName)) (z := (⟨"com/example/search_suggest/searchsuggest/engine/LineTally", "skipped", "()J"⟩ : MethodName)) hown (mvT hZ (hw _ (List.mem_of_getElem? (i := 32) rfl))) (mvT hZ (hw _ (List.mem_of_getElem? (i := 33) rfl))) (notFace_of_selects (args := #[]) (mvT hZ (hw _ (List.mem_of_getElem? (i := 35) rfl)))) (mvT hZ (hw _ (List.mem_of_getElem? (i := 35) rfl))) (mvT hZ (hw _ (List.mem_of_getElem? (i := 34) rfl))) (by decide) (backOf (W := 0) (rm4 l Z a0 hw [] b0 c4 b0_kept c4_k c4_xs h n0 Z0 E_b0 F_b0_skipped F_b0_kept V_c4 ln_c4) hZ (hw _ (List.mem_of_getElem? (i := 36) rfl)) (hw _ (List.mem_of_getElem? (i := 2) rfl)) (by decide) (by decide)) q4a q4c (g := (mkF m 103 #[.val (.int v0), .val (.int v1), .val (.ref b0), .val (.long v3), .second, .val (.long v5), .second, .unset, .unset, .unset, .unset] [(.ref b0)])) rfl (by rw [hml]; rfl) (Steps.refl _) (argsL := []) (rest := []) (lenOf pd_2 rfl) rfl (by show 2 * 0 + _ ≤ _; exact Nat.le_of_eq rfl) (hb hby at_103) (fun _ _ => ⟨rfl, e0, (by decide : 3 + R4.cells ≤ _), (by decide : 10 + R4.slots ≤ _)⟩)
  dsimp only [Pt.U, Pt.locs, Pt.cells, Pt.slots] at X4 l4 y4 z4 st4 hQ4
  subst l4 y4 z4
  obtain ⟨rfl, Nq4, e4⟩ := hQ4
  have N4 := Fr.app N0 Nq4
  refine EndsIn.by (B := T4.setTop (mkF m 106 #[.val (.int v0), .val (.int v1), .val (.ref b0), .val (.long v3), .second, .val (.long v5), .second, .unset, .unset, .unset, .unset] [(.long (f4_0 b0_kept c4_xs))])) (fun t k => st4.trans k) ?_
  refine EndsIn.by (B := T4.setTop (mkF m 109 #[.val (.int v0), .val (.int v1), .val (.ref b0), .val (.long v3), .second, .val (.long v5), .second, .val (.long (f4_0 b0_kept c4_xs)), .second, .unset, .unset] [(.ref b0)])) (fun t k => ?_) ?_
  · show Steps p.tables e below (T4.setTop (mkF m 106 #[.val (.int v0), .val (.int v1), .val (.ref b0), .val (.long v3), .second, .val (.long v5), .second, .unset, .unset, .unset, .unset] [(.long (f4_0 b0_kept c4_xs))])) _
    refine XS.lstore X4.here hx rfl (hb hby at_106) rfl (l' := #[.val (.int v0), .val (.int v1), .val (.ref b0), .val (.long v3), .second, .val (.long v5), .second, .val (.long (f4_0 b0_kept c4_xs)), .second, .unset, .unset]) rfl ?_
    show Steps p.tables e below (T4.setTop (mkF m 108 #[.val (.int v0), .val (.int v1), .val (.ref b0), .val (.long v3), .second, .val (.long v5), .second, .val (.long (f4_0 b0_kept c4_xs)), .second, .unset, .unset] [])) _
    refine XS.aloadN X4.here hx rfl (hb hby at_108) rfl rfl ?_
    exact k
  -- pc 109: com/example/search_suggest/searchsuggest/engine/LineTally.skipped
  obtain ⟨cq5, kq5, q5a, q5b, q5c⟩ := isOf hZ e4 E_b0
  obtain ⟨_, _, ⟨T5, L5, k5, n5⟩, -, X5, ⟨Lc5, hQ5, l5, y5, z5⟩, st5⟩ := X4.virtualBack hx (y := (⟨"com/example/search_suggest/searchsuggest/engine/LineTally", "skipped", "()J"⟩ : MethodName)) (z := (⟨"com/example/search_suggest/searchsuggest/engine/LineTally", "skipped", "()J"⟩ : MethodName)) hown (mvT hZ (hw _ (List.mem_of_getElem? (i := 32) rfl))) (mvT hZ (hw _ (List.mem_of_getElem? (i := 33) rfl))) (notFace_of_selects (args := #[]) (mvT hZ (hw _ (List.mem_of_getElem? (i := 35) rfl)))) (mvT hZ (hw _ (List.mem_of_getElem? (i := 35) rfl))) (mvT hZ (hw _ (List.mem_of_getElem? (i := 34) rfl))) (by decide) (backOf (W := 0) (rm4 l Z a0 hw [] b0 c4 b0_kept c4_k c4_xs h n0 Z0 E_b0 F_b0_skipped F_b0_kept V_c4 ln_c4) hZ (hw _ (List.mem_of_getElem? (i := 36) rfl)) (hw _ (List.mem_of_getElem? (i := 2) rfl)) (by decide) (by decide)) q5a q5c (g := (mkF m 109 #[.val (.int v0), .val (.int v1), .val (.ref b0), .val (.long v3), .second, .val (.long v5), .second, .val (.long (f4_0 b0_kept c4_xs)), .second, .unset, .unset] [(.ref b0)])) rfl (by rw [hml]; rfl) (Steps.refl _) (argsL := []) (rest := []) (lenOf pd_2 rfl) rfl (by show 2 * 0 + _ ≤ _; exact Nat.le_of_eq rfl) (hb hby at_109) (fun _ _ => ⟨rfl, e4, (by decide : 3 + R4.cells ≤ _), (by decide : 10 + R4.slots ≤ _)⟩)
  dsimp only [Pt.U, Pt.locs, Pt.cells, Pt.slots] at X5 l5 y5 z5 st5 hQ5
  subst l5 y5 z5
  obtain ⟨rfl, Nq5, e5⟩ := hQ5
  have N5 := Fr.app N4 Nq5
  refine EndsIn.by (B := T5.setTop (mkF m 112 #[.val (.int v0), .val (.int v1), .val (.ref b0), .val (.long v3), .second, .val (.long v5), .second, .val (.long (f4_0 b0_kept c4_xs)), .second, .unset, .unset] [(.long (f4_0 b0_kept c4_xs))])) (fun t k => st5.trans k) ?_
  refine EndsIn.by (B := T5.setTop (mkF m 117 #[.val (.int v0), .val (.int v1), .val (.ref b0), .val (.long v3), .second, .val (.long v5), .second, .val (.long (f4_0 b0_kept c4_xs)), .second, .val (.long (f4_0 b0_kept c4_xs)), .second] [(.int (lcmpW v3 (0 : Int64)))])) (fun t k => ?_) ?_
  · show Steps p.tables e below (T5.setTop (mkF m 112 #[.val (.int v0), .val (.int v1), .val (.ref b0), .val (.long v3), .second, .val (.long v5), .second, .val (.long (f4_0 b0_kept c4_xs)), .second, .unset, .unset] [(.long (f4_0 b0_kept c4_xs))])) _
    refine XS.lstore X5.here hx rfl (hb hby at_112) rfl (l' := #[.val (.int v0), .val (.int v1), .val (.ref b0), .val (.long v3), .second, .val (.long v5), .second, .val (.long (f4_0 b0_kept c4_xs)), .second, .val (.long (f4_0 b0_kept c4_xs)), .second]) rfl ?_
    show Steps p.tables e below (T5.setTop (mkF m 114 #[.val (.int v0), .val (.int v1), .val (.ref b0), .val (.long v3), .second, .val (.long v5), .second, .val (.long (f4_0 b0_kept c4_xs)), .second, .val (.long (f4_0 b0_kept c4_xs)), .second] [])) _
    refine XS.lloadN X5.here hx rfl (hb hby at_114) rfl  ?_
    show Steps p.tables e below (T5.setTop (mkF m 115 #[.val (.int v0), .val (.int v1), .val (.ref b0), .val (.long v3), .second, .val (.long v5), .second, .val (.long (f4_0 b0_kept c4_xs)), .second, .val (.long (f4_0 b0_kept c4_xs)), .second] [(.long v3)])) _
    refine XS.lconst X5.here hx rfl (hb hby at_115) ?_
    show Steps p.tables e below (T5.setTop (mkF m 116 #[.val (.int v0), .val (.int v1), .val (.ref b0), .val (.long v3), .second, .val (.long v5), .second, .val (.long (f4_0 b0_kept c4_xs)), .second, .val (.long (f4_0 b0_kept c4_xs)), .second] [(.long (0 : Int64)), (.long v3)])) _
    refine XS.lcmp X5.here hx rfl (hb hby at_116) rfl ?_
    exact k
  by_cases hc117 : v3 = (0 : Int64)
  · rw [if_pos hc117] at hr
    refine EndsIn.by (B := T5.setTop (mkF m 120 #[.val (.int v0), .val (.int v1), .val (.ref b0), .val (.long v3), .second, .val (.long v5), .second, .val (.long (f4_0 b0_kept c4_xs)), .second, .val (.long (f4_0 b0_kept c4_xs)), .second] [])) (fun t k => ?_) ?_
    · show Steps p.tables e below (T5.setTop (mkF m 117 #[.val (.int v0), .val (.int v1), .val (.ref b0), .val (.long v3), .second, .val (.long v5), .second, .val (.long (f4_0 b0_kept c4_xs)), .second, .val (.long (f4_0 b0_kept c4_xs)), .second] [(.int (lcmpW v3 (0 : Int64)))])) _
      exact XS.ifNo X5.here hx rfl (hb hby at_117) rfl ((if0 _ _).trans (teq ((lw_eq _ _).mpr hc117)).2) k
    refine EndsIn.by (B := T5.setTop (mkF m 125 #[.val (.int v0), .val (.int v1), .val (.ref b0), .val (.long v3), .second, .val (.long v5), .second, .val (.long (f4_0 b0_kept c4_xs)), .second, .val (.long (f4_0 b0_kept c4_xs)), .second] [(.int (lcmpW (f4_0 b0_kept c4_xs) v5))])) (fun t k => ?_) ?_
    · show Steps p.tables e below (T5.setTop (mkF m 120 #[.val (.int v0), .val (.int v1), .val (.ref b0), .val (.long v3), .second, .val (.long v5), .second, .val (.long (f4_0 b0_kept c4_xs)), .second, .val (.long (f4_0 b0_kept c4_xs)), .second] [])) _
      refine XS.lload X5.here hx rfl (hb hby at_120) rfl  ?_
      show Steps p.tables e below (T5.setTop (mkF m 122 #[.val (.int v0), .val (.int v1), .val (.ref b0), .val (.long v3), .second, .val (.long v5), .second, .val (.long (f4_0 b0_kept c4_xs)), .second, .val (.long (f4_0 b0_kept c4_xs)), .second] [(.long (f4_0 b0_kept c4_xs))])) _
      refine XS.lload X5.here hx rfl (hb hby at_122) rfl  ?_
      show Steps p.tables e below (T5.setTop (mkF m 124 #[.val (.int v0), .val (.int v1), .val (.ref b0), .val (.long v3), .second, .val (.long v5), .second, .val (.long (f4_0 b0_kept c4_xs)), .second, .val (.long (f4_0 b0_kept c4_xs)), .second] [(.long v5), (.long (f4_0 b0_kept c4_xs))])) _
      refine XS.lcmp X5.here hx rfl (hb hby at_124) rfl ?_
      exact k
    by_cases hc125 : (f4_0 b0_kept c4_xs) = v5
    · rw [if_pos hc125] at hr
      refine EndsIn.by (B := T5.setTop (mkF m 128 #[.val (.int v0), .val (.int v1), .val (.ref b0), .val (.long v3), .second, .val (.long v5), .second, .val (.long (f4_0 b0_kept c4_xs)), .second, .val (.long (f4_0 b0_kept c4_xs)), .second] [])) (fun t k => ?_) ?_
      · show Steps p.tables e below (T5.setTop (mkF m 125 #[.val (.int v0), .val (.int v1), .val (.ref b0), .val (.long v3), .second, .val (.long v5), .second, .val (.long (f4_0 b0_kept c4_xs)), .second, .val (.long (f4_0 b0_kept c4_xs)), .second] [(.int (lcmpW (f4_0 b0_kept c4_xs) v5))])) _
        exact XS.ifNo X5.here hx rfl (hb hby at_125) rfl ((if0 _ _).trans (teq ((lw_eq _ _).mpr hc125)).2) k
      refine EndsIn.by (B := T5.setTop (mkF m 133 #[.val (.int v0), .val (.int v1), .val (.ref b0), .val (.long v3), .second, .val (.long v5), .second, .val (.long (f4_0 b0_kept c4_xs)), .second, .val (.long (f4_0 b0_kept c4_xs)), .second] [(.int (lcmpW (f4_0 b0_kept c4_xs) v5))])) (fun t k => ?_) ?_
      · show Steps p.tables e below (T5.setTop (mkF m 128 #[.val (.int v0), .val (.int v1), .val (.ref b0), .val (.long v3), .second, .val (.long v5), .second, .val (.long (f4_0 b0_kept c4_xs)), .second, .val (.long (f4_0 b0_kept c4_xs)), .second] [])) _
        refine XS.lload X5.here hx rfl (hb hby at_128) rfl  ?_
        show Steps p.tables e below (T5.setTop (mkF m 130 #[.val (.int v0), .val (.int v1), .val (.ref b0), .val (.long v3), .second, .val (.long v5), .second, .val (.long (f4_0 b0_kept c4_xs)), .second, .val (.long (f4_0 b0_kept c4_xs)), .second] [(.long (f4_0 b0_kept c4_xs))])) _
        refine XS.lload X5.here hx rfl (hb hby at_130) rfl  ?_
        show Steps p.tables e below (T5.setTop (mkF m 132 #[.val (.int v0), .val (.int v1), .val (.ref b0), .val (.long v3), .second, .val (.long v5), .second, .val (.long (f4_0 b0_kept c4_xs)), .second, .val (.long (f4_0 b0_kept c4_xs)), .second] [(.long v5), (.long (f4_0 b0_kept c4_xs))])) _
        refine XS.lcmp X5.here hx rfl (hb hby at_132) rfl ?_
        exact k
      by_cases hc133 : (f4_0 b0_kept c4_xs) = v5
      · rw [if_pos hc133] at hr
        refine EndsIn.by (B := T5.setTop (mkF m 136 #[.val (.int v0), .val (.int v1), .val (.ref b0), .val (.long v3), .second, .val (.long v5), .second, .val (.long (f4_0 b0_kept c4_xs)), .second, .val (.long (f4_0 b0_kept c4_xs)), .second] [])) (fun t k => ?_) ?_
        · show Steps p.tables e below (T5.setTop (mkF m 133 #[.val (.int v0), .val (.int v1), .val (.ref b0), .val (.long v3), .second, .val (.long v5), .second, .val (.long (f4_0 b0_kept c4_xs)), .second, .val (.long (f4_0 b0_kept c4_xs)), .second] [(.int (lcmpW (f4_0 b0_kept c4_xs) v5))])) _
          exact XS.ifNo X5.here hx rfl (hb hby at_133) rfl ((if0 _ _).trans (teq ((lw_eq _ _).mpr hc133)).2) k
        refine EndsIn.by (B := T5.setTop (mkF m 141 #[.val (.int v0), .val (.int v1), .val (.ref b0), .val (.long v3), .second, .val (.long v5), .second, .val (.long (f4_0 b0_kept c4_xs)), .second, .val (.long (f4_0 b0_kept c4_xs)), .second] [(.int (1 : Int32))])) (fun t k => ?_) ?_
        · show Steps p.tables e below (T5.setTop (mkF m 136 #[.val (.int v0), .val (.int v1), .val (.ref b0), .val (.long v3), .second, .val (.long v5), .second, .val (.long (f4_0 b0_kept c4_xs)), .second, .val (.long (f4_0 b0_kept c4_xs)), .second] [])) _
          refine XS.iconst X5.here hx rfl (hb hby at_136) ?_
          show Steps p.tables e below (T5.setTop (mkF m 137 #[.val (.int v0), .val (.int v1), .val (.ref b0), .val (.long v3), .second, .val (.long v5), .second, .val (.long (f4_0 b0_kept c4_xs)), .second, .val (.long (f4_0 b0_kept c4_xs)), .second] [(.int (1 : Int32))])) _
          refine XS.goto X5.here hx rfl (pc0 := 137) (pc' := 141) rfl (hb hby at_137) (by decide) (by decide) ?_
          exact k
        subst hr
        exact own_retN X5 hx hlk (t := .boolean) hret (by simp) (hb hby at_141) (by decide) (by decide) ⟨rfl, N5⟩
      · rw [if_neg hc133] at hr
        refine EndsIn.by (B := T5.setTop (mkF m 140 #[.val (.int v0), .val (.int v1), .val (.ref b0), .val (.long v3), .second, .val (.long v5), .second, .val (.long (f4_0 b0_kept c4_xs)), .second, .val (.long (f4_0 b0_kept c4_xs)), .second] [])) (fun t k => ?_) ?_
        · show Steps p.tables e below (T5.setTop (mkF m 133 #[.val (.int v0), .val (.int v1), .val (.ref b0), .val (.long v3), .second, .val (.long v5), .second, .val (.long (f4_0 b0_kept c4_xs)), .second, .val (.long (f4_0 b0_kept c4_xs)), .second] [(.int (lcmpW (f4_0 b0_kept c4_xs) v5))])) _
          exact XS.ifYes X5.here hx rfl (pc0 := 133) (pc' := 140) rfl (hb hby at_133) rfl ((if0 _ _).trans (feq (fun q => hc133 ((lw_eq _ _).mp q))).2) (by decide) (by decide) k
        refine EndsIn.by (B := T5.setTop (mkF m 141 #[.val (.int v0), .val (.int v1), .val (.ref b0), .val (.long v3), .second, .val (.long v5), .second, .val (.long (f4_0 b0_kept c4_xs)), .second, .val (.long (f4_0 b0_kept c4_xs)), .second] [(.int (0 : Int32))])) (fun t k => ?_) ?_
        · show Steps p.tables e below (T5.setTop (mkF m 140 #[.val (.int v0), .val (.int v1), .val (.ref b0), .val (.long v3), .second, .val (.long v5), .second, .val (.long (f4_0 b0_kept c4_xs)), .second, .val (.long (f4_0 b0_kept c4_xs)), .second] [])) _
          refine XS.iconst X5.here hx rfl (hb hby at_140) ?_
          exact k
        subst hr
        exact own_retN X5 hx hlk (t := .boolean) hret (by simp) (hb hby at_141) (by decide) (by decide) ⟨rfl, N5⟩
    · rw [if_neg hc125] at hr
      refine EndsIn.by (B := T5.setTop (mkF m 140 #[.val (.int v0), .val (.int v1), .val (.ref b0), .val (.long v3), .second, .val (.long v5), .second, .val (.long (f4_0 b0_kept c4_xs)), .second, .val (.long (f4_0 b0_kept c4_xs)), .second] [])) (fun t k => ?_) ?_
      · show Steps p.tables e below (T5.setTop (mkF m 125 #[.val (.int v0), .val (.int v1), .val (.ref b0), .val (.long v3), .second, .val (.long v5), .second, .val (.long (f4_0 b0_kept c4_xs)), .second, .val (.long (f4_0 b0_kept c4_xs)), .second] [(.int (lcmpW (f4_0 b0_kept c4_xs) v5))])) _
        exact XS.ifYes X5.here hx rfl (pc0 := 125) (pc' := 140) rfl (hb hby at_125) rfl ((if0 _ _).trans (feq (fun q => hc125 ((lw_eq _ _).mp q))).2) (by decide) (by decide) k
      refine EndsIn.by (B := T5.setTop (mkF m 141 #[.val (.int v0), .val (.int v1), .val (.ref b0), .val (.long v3), .second, .val (.long v5), .second, .val (.long (f4_0 b0_kept c4_xs)), .second, .val (.long (f4_0 b0_kept c4_xs)), .second] [(.int (0 : Int32))])) (fun t k => ?_) ?_
      · show Steps p.tables e below (T5.setTop (mkF m 140 #[.val (.int v0), .val (.int v1), .val (.ref b0), .val (.long v3), .second, .val (.long v5), .second, .val (.long (f4_0 b0_kept c4_xs)), .second, .val (.long (f4_0 b0_kept c4_xs)), .second] [])) _
        refine XS.iconst X5.here hx rfl (hb hby at_140) ?_
        exact k
      subst hr
      exact own_retN X5 hx hlk (t := .boolean) hret (by simp) (hb hby at_141) (by decide) (by decide) ⟨rfl, N5⟩
  · rw [if_neg hc117] at hr
    refine EndsIn.by (B := T5.setTop (mkF m 140 #[.val (.int v0), .val (.int v1), .val (.ref b0), .val (.long v3), .second, .val (.long v5), .second, .val (.long (f4_0 b0_kept c4_xs)), .second, .val (.long (f4_0 b0_kept c4_xs)), .second] [])) (fun t k => ?_) ?_
    · show Steps p.tables e below (T5.setTop (mkF m 117 #[.val (.int v0), .val (.int v1), .val (.ref b0), .val (.long v3), .second, .val (.long v5), .second, .val (.long (f4_0 b0_kept c4_xs)), .second, .val (.long (f4_0 b0_kept c4_xs)), .second] [(.int (lcmpW v3 (0 : Int64)))])) _
      exact XS.ifYes X5.here hx rfl (pc0 := 117) (pc' := 140) rfl (hb hby at_117) rfl ((if0 _ _).trans (feq (fun q => hc117 ((lw_eq _ _).mp q))).2) (by decide) (by decide) k
    refine EndsIn.by (B := T5.setTop (mkF m 141 #[.val (.int v0), .val (.int v1), .val (.ref b0), .val (.long v3), .second, .val (.long v5), .second, .val (.long (f4_0 b0_kept c4_xs)), .second, .val (.long (f4_0 b0_kept c4_xs)), .second] [(.int (0 : Int32))])) (fun t k => ?_) ?_
    · show Steps p.tables e below (T5.setTop (mkF m 140 #[.val (.int v0), .val (.int v1), .val (.ref b0), .val (.long v3), .second, .val (.long v5), .second, .val (.long (f4_0 b0_kept c4_xs)), .second, .val (.long (f4_0 b0_kept c4_xs)), .second] [])) _
      refine XS.iconst X5.here hx rfl (hb hby at_140) ?_
      exact k
    subst hr
    exact own_retN X5 hx hlk (t := .boolean) hret (by simp) (hb hby at_141) (by decide) (by decide) ⟨rfl, N5⟩
def f0_91 (v0 : Int32) (v1 : Int32) (v3 : Int64) (v5 : Int64) (b0_kept : Int64) (c4_xs : List Int64) : Int32 := (if (v0 &&& (16 : Int32)) = (0 : Int32) then (f0_102 v0 v1 v3 v5 b0_kept c4_xs) else (f0_102 v0 v1 v3 v5 (f5_0 b0_kept) c4_xs))
set_option maxRecDepth 65536 in
set_option maxHeartbeats 40000000 in
theorem b0_91 {p : Program} {l : Launch} {e : Env} {s : State} {m : MethodId} {args : Array Value} {below : List Frame} {meth : Method} {c : Code} {Z : State} {a0 : Array Value} (B : Ctx p Z s a0 m meth c "com/example/search_suggest/searchsuggest/engine/LineTallySkippedPinLaw" "law" code 11 (some .boolean)) {T0 : State} {locs : List Loc} {h : Heap} (h0 : Heap) (n0 : Nat) (v0 : Int32) (v1 : Int32) (b0 : Addr) (v3 : Int64) (v5 : Int64) (bl : Addr) (en : Addr) (ma : Addr) (tl : Addr) (vals : Addr) (c4 : Addr) (b0_kept : Int64) (vals_k : ClassId) (vals_xs : List Value) (c4_k : ClassId) (c4_xs : List Int64) (X0 : Stand p l e room_1 s m args below meth c T0 locs 3 10) (e0 : T0.heap = h) (N0 : Fr n0 locs) (Z0 : n0 ≤ h.size) (E_bl : Exa Z h bl "com/example/search_suggest/searchsuggest/engine/SkipReason") (F_bl_ordinal : Fld Z h bl "java/lang/Enum" "ordinal" "I" (.int (0 : Int32))) (E_en : Exa Z h en "com/example/search_suggest/searchsuggest/engine/SkipReason") (F_en_ordinal : Fld Z h en "java/lang/Enum" "ordinal" "I" (.int (1 : Int32))) (E_ma : Exa Z h ma "com/example/search_suggest/searchsuggest/engine/SkipReason") (F_ma_ordinal : Fld Z h ma "java/lang/Enum" "ordinal" "I" (.int (2 : Int32))) (E_tl : Exa Z h tl "com/example/search_suggest/searchsuggest/engine/SkipReason") (F_tl_ordinal : Fld Z h tl "java/lang/Enum" "ordinal" "I" (.int (3 : Int32))) (E_b0 : Exa Z h b0 "com/example/search_suggest/searchsuggest/engine/LineTally") (F_b0_skipped : Fld Z h b0 "com/example/search_suggest/searchsuggest/engine/LineTally" "skipped" "[J" (.ref c4)) (F_b0_kept : Fld Z h b0 "com/example/search_suggest/searchsuggest/engine/LineTally" "kept" "J" (.long b0_kept)) (g_b0 : n0 ≤ b0) (V_vals : Arv Z h vals vals_k (.object "com/example/search_suggest/searchsuggest/engine/SkipReason") (4 : Int32) vals_xs .null) (E_vals : Exa Z h vals "[Lcom/example/search_suggest/searchsuggest/engine/SkipReason;") (V_c4 : Arv Z h c4 c4_k .long (4 : Int32) (c4_xs.map Value.long) (.long 0)) (ln_c4 : c4_xs.length = (4 : Int32).toNatClampNeg) (g_c4 : n0 ≤ c4) (ne_bl_b0 : bl ≠ b0) (ne_en_b0 : en ≠ b0) (ne_ma_b0 : ma ≠ b0) (ne_tl_b0 : tl ≠ b0) (ne_vals_b0 : vals ≠ b0) (ne_bl_c4 : bl ≠ c4) (ne_en_c4 : en ≠ c4) (ne_ma_c4 : ma ≠ c4) (ne_tl_c4 : tl ≠ c4) (ne_b0_c4 : b0 ≠ c4) (ne_vals_c4 : vals ≠ c4) (O : Old Z n0 h) (S_vals : Sta Z Z.heap "com/example/search_suggest/searchsuggest/engine/SkipReason" "$VALUES" "[Lcom/example/search_suggest/searchsuggest/engine/SkipReason;" (.ref vals)) (lt_vals : vals < n0) (S_bl : Sta Z Z.heap "com/example/search_suggest/searchsuggest/engine/SkipReason" "BLANK" "Lcom/example/search_suggest/searchsuggest/engine/SkipReason;" (.ref bl)) (S_en : Sta Z Z.heap "com/example/search_suggest/searchsuggest/engine/SkipReason" "ENCODING" "Lcom/example/search_suggest/searchsuggest/engine/SkipReason;" (.ref en)) (S_ma : Sta Z Z.heap "com/example/search_suggest/searchsuggest/engine/SkipReason" "MALFORMED" "Lcom/example/search_suggest/searchsuggest/engine/SkipReason;" (.ref ma)) (S_tl : Sta Z Z.heap "com/example/search_suggest/searchsuggest/engine/SkipReason" "TOO_LONG" "Lcom/example/search_suggest/searchsuggest/engine/SkipReason;" (.ref tl)) (lt_bl : bl < n0) (lt_en : en < n0) (lt_ma : ma < n0) (lt_tl : tl < n0) (r : Int32) (hr : f0_91 v0 v1 v3 v5 b0_kept c4_xs = r) :
    EndsIn p e below s 3 10 (Q0 n0 r) (T0.setTop (mkF m 91 #[.val (.int v0), .val (.int v1), .val (.ref b0), .val (.long v3), .second, .val (.long v5), .second, .unset, .unset, .unset, .unset] [])) := by
  obtain ⟨hx, hZ, hw, hby, hml, hret, hown, hnm, hlk⟩ := B
  unfold f0_91 at hr
  refine EndsIn.by (B := T0.setTop (mkF m 95 #[.val (.int v0), .val (.int v1), .val (.ref b0), .val (.long v3), .second, .val (.long v5), .second, .unset, .unset, .unset, .unset] [(.int (v0 &&& (16 : Int32)))])) (fun t k => ?_) ?_
  · show Steps p.tables e below (T0.setTop (mkF m 91 #[.val (.int v0), .val (.int v1), .val (.ref b0), .val (.long v3), .second, .val (.long v5), .second, .unset, .unset, .unset, .unset] [])) _
    refine XS.iloadN X0.here hx rfl (hb hby at_91) rfl  ?_
    show Steps p.tables e below (T0.setTop (mkF m 92 #[.val (.int v0), .val (.int v1), .val (.ref b0), .val (.long v3), .second, .val (.long v5), .second, .unset, .unset, .unset, .unset] [(.int v0)])) _
    refine XS.bipush X0.here hx rfl (hb hby at_92) ?_
    show Steps p.tables e below (T0.setTop (mkF m 94 #[.val (.int v0), .val (.int v1), .val (.ref b0), .val (.long v3), .second, .val (.long v5), .second, .unset, .unset, .unset, .unset] [(.int (16 : Int32)), (.int v0)])) _
    refine XS.iand X0.here hx rfl (hb hby at_94) rfl ?_
    exact k
  by_cases hc95 : (v0 &&& (16 : Int32)) = (0 : Int32)
  · rw [if_pos hc95] at hr
    refine EndsIn.by (B := T0.setTop (mkF m 102 #[.val (.int v0), .val (.int v1), .val (.ref b0), .val (.long v3), .second, .val (.long v5), .second, .unset, .unset, .unset, .unset] [])) (fun t k => ?_) ?_
    · show Steps p.tables e below (T0.setTop (mkF m 95 #[.val (.int v0), .val (.int v1), .val (.ref b0), .val (.long v3), .second, .val (.long v5), .second, .unset, .unset, .unset, .unset] [(.int (v0 &&& (16 : Int32)))])) _
      exact XS.ifYes X0.here hx rfl (pc0 := 95) (pc' := 102) rfl (hb hby at_95) rfl ((if0 _ _).trans (teq hc95).1) (by decide) (by decide) k
    exact b0_102 ⟨hx, hZ, hw, hby, hml, hret, hown, hnm, hlk⟩ h0 n0 v0 v1 b0 v3 v5 bl en ma tl vals c4 b0_kept vals_k vals_xs c4_k c4_xs X0 e0 N0 Z0 E_bl F_bl_ordinal E_en F_en_ordinal E_ma F_ma_ordinal E_tl F_tl_ordinal E_b0 F_b0_skipped F_b0_kept g_b0 V_vals E_vals V_c4 ln_c4 g_c4 ne_bl_b0 ne_en_b0 ne_ma_b0 ne_tl_b0 ne_vals_b0 ne_bl_c4 ne_en_c4 ne_ma_c4 ne_tl_c4 ne_b0_c4 ne_vals_c4 O S_vals lt_vals S_bl S_en S_ma S_tl lt_bl lt_en lt_ma lt_tl _ hr
  · rw [if_neg hc95] at hr
    refine EndsIn.by (B := T0.setTop (mkF m 98 #[.val (.int v0), .val (.int v1), .val (.ref b0), .val (.long v3), .second, .val (.long v5), .second, .unset, .unset, .unset, .unset] [])) (fun t k => ?_) ?_
    · show Steps p.tables e below (T0.setTop (mkF m 95 #[.val (.int v0), .val (.int v1), .val (.ref b0), .val (.long v3), .second, .val (.long v5), .second, .unset, .unset, .unset, .unset] [(.int (v0 &&& (16 : Int32)))])) _
      exact XS.ifNo X0.here hx rfl (hb hby at_95) rfl ((if0 _ _).trans (feq hc95).1) k
    refine EndsIn.by (B := T0.setTop (mkF m 99 #[.val (.int v0), .val (.int v1), .val (.ref b0), .val (.long v3), .second, .val (.long v5), .second, .unset, .unset, .unset, .unset] [(.ref b0)])) (fun t k => ?_) ?_
    · show Steps p.tables e below (T0.setTop (mkF m 98 #[.val (.int v0), .val (.int v1), .val (.ref b0), .val (.long v3), .second, .val (.long v5), .second, .unset, .unset, .unset, .unset] [])) _
      refine XS.aloadN X0.here hx rfl (hb hby at_98) rfl rfl ?_
      exact k
    -- pc 99: com/example/search_suggest/searchsuggest/engine/LineTally.countKept
    obtain ⟨cq6, kq6, q6a, q6b, q6c⟩ := isOf hZ e0 E_b0
    obtain ⟨_, _, ⟨T6, L6, k6, n6⟩, -, X6, ⟨Lc6, hQ6, l6, y6, z6⟩, st6⟩ := X0.virtualBack hx (y := (⟨"com/example/search_suggest/searchsuggest/engine/LineTally", "countKept", "()V"⟩ : MethodName)) (z := (⟨"com/example/search_suggest/searchsuggest/engine/LineTally", "countKept", "()V"⟩ : MethodName)) hown (mvT hZ (hw _ (List.mem_of_getElem? (i := 37) rfl))) (mvT hZ (hw _ (List.mem_of_getElem? (i := 38) rfl))) (notFace_of_selects (args := #[]) (mvT hZ (hw _ (List.mem_of_getElem? (i := 40) rfl)))) (mvT hZ (hw _ (List.mem_of_getElem? (i := 40) rfl))) (mvT hZ (hw _ (List.mem_of_getElem? (i := 39) rfl))) (by decide) (backOf (W := 0) (rm5 l Z a0 hw [] b0 (.ref c4) b0_kept h n0 Z0 E_b0 F_b0_skipped F_b0_kept g_b0) hZ (hw _ (List.mem_of_getElem? (i := 41) rfl)) (hw _ (List.mem_of_getElem? (i := 2) rfl)) (by decide) (by decide)) q6a q6c (g := (mkF m 99 #[.val (.int v0), .val (.int v1), .val (.ref b0), .val (.long v3), .second, .val (.long v5), .second, .unset, .unset, .unset, .unset] [(.ref b0)])) rfl (by rw [hml]; rfl) (Steps.refl _) (argsL := []) (rest := []) (lenOf pd_1 rfl) rfl (by show 2 * 0 + _ ≤ _; exact Nat.le_of_eq rfl) (hb hby at_99) (fun _ _ => ⟨rfl, e0, (by decide : 3 + R5.cells ≤ _), (by decide : 10 + R5.slots ≤ _)⟩)
    dsimp only [Pt.U, Pt.locs, Pt.cells, Pt.slots] at X6 l6 y6 z6 st6 hQ6
    subst l6 y6 z6
    obtain ⟨rfl, Nq6, Kq6, E_b0_6, F_b0_skipped_6, F_b0_kept_6⟩ := hQ6
    obtain ⟨h6, e6⟩ : ∃ z, T6.heap = z := ⟨_, rfl⟩
    rw [e6] at Kq6 E_b0_6 F_b0_skipped_6 F_b0_kept_6
    have N6 := Fr.app N0 Nq6
    have Z6 : n0 ≤ h6.size := Nat.le_trans Z0 Kq6.1
    have E_bl_6 := E_bl.keep Kq6
    have F_bl_ordinal_6 := F_bl_ordinal.keep Kq6 (ninS ne_bl_b0 nin0)
    have E_en_6 := E_en.keep Kq6
    have F_en_ordinal_6 := F_en_ordinal.keep Kq6 (ninS ne_en_b0 nin0)
    have E_ma_6 := E_ma.keep Kq6
    have F_ma_ordinal_6 := F_ma_ordinal.keep Kq6 (ninS ne_ma_b0 nin0)
    have E_tl_6 := E_tl.keep Kq6
    have F_tl_ordinal_6 := F_tl_ordinal.keep Kq6 (ninS ne_tl_b0 nin0)
    have V_vals_6 := V_vals.keep Kq6 (ninS ne_vals_b0 nin0)
    have E_vals_6 := E_vals.keep Kq6
    have V_c4_6 := V_c4.keep Kq6 (ninS (Ne.symm ne_b0_c4) nin0)
    have O6 := O.keep Kq6 (allS g_b0 all0)
    refine EndsIn.by (B := T6.setTop (mkF m 102 #[.val (.int v0), .val (.int v1), .val (.ref b0), .val (.long v3), .second, .val (.long v5), .second, .unset, .unset, .unset, .unset] [])) (fun t k => st6.trans k) ?_
    exact b0_102 ⟨hx, hZ, hw, hby, hml, hret, hown, hnm, hlk⟩ h0 n0 v0 v1 b0 v3 v5 bl en ma tl vals c4 (f5_0 b0_kept) vals_k vals_xs c4_k c4_xs X6 e6 N6 Z6 E_bl_6 F_bl_ordinal_6 E_en_6 F_en_ordinal_6 E_ma_6 F_ma_ordinal_6 E_tl_6 F_tl_ordinal_6 E_b0_6 F_b0_skipped_6 F_b0_kept_6 g_b0 V_vals_6 E_vals_6 V_c4_6 ln_c4 g_c4 ne_bl_b0 ne_en_b0 ne_ma_b0 ne_tl_b0 ne_vals_b0 ne_bl_c4 ne_en_c4 ne_ma_c4 ne_tl_c4 ne_b0_c4 ne_vals_c4 O6 S_vals lt_vals S_bl S_en S_ma S_tl lt_bl lt_en lt_ma lt_tl _ hr
def f0_85 (v0 : Int32) (v1 : Int32) (v3 : Int64) (v5 : Int64) (b0_kept : Int64) (c4_xs : List Int64) : Int32 := (f0_91 v0 v1 v3 (v5 + (1 : Int64)) b0_kept c4_xs)
set_option maxRecDepth 65536 in
set_option maxHeartbeats 40000000 in
theorem b0_85 {p : Program} {l : Launch} {e : Env} {s : State} {m : MethodId} {args : Array Value} {below : List Frame} {meth : Method} {c : Code} {Z : State} {a0 : Array Value} (B : Ctx p Z s a0 m meth c "com/example/search_suggest/searchsuggest/engine/LineTallySkippedPinLaw" "law" code 11 (some .boolean)) {T0 : State} {locs : List Loc} {h : Heap} (h0 : Heap) (n0 : Nat) (v0 : Int32) (v1 : Int32) (b0 : Addr) (v3 : Int64) (v5 : Int64) (bl : Addr) (en : Addr) (ma : Addr) (tl : Addr) (vals : Addr) (c4 : Addr) (b0_kept : Int64) (vals_k : ClassId) (vals_xs : List Value) (c4_k : ClassId) (c4_xs : List Int64) (X0 : Stand p l e room_1 s m args below meth c T0 locs 3 10) (e0 : T0.heap = h) (N0 : Fr n0 locs) (Z0 : n0 ≤ h.size) (E_bl : Exa Z h bl "com/example/search_suggest/searchsuggest/engine/SkipReason") (F_bl_ordinal : Fld Z h bl "java/lang/Enum" "ordinal" "I" (.int (0 : Int32))) (E_en : Exa Z h en "com/example/search_suggest/searchsuggest/engine/SkipReason") (F_en_ordinal : Fld Z h en "java/lang/Enum" "ordinal" "I" (.int (1 : Int32))) (E_ma : Exa Z h ma "com/example/search_suggest/searchsuggest/engine/SkipReason") (F_ma_ordinal : Fld Z h ma "java/lang/Enum" "ordinal" "I" (.int (2 : Int32))) (E_tl : Exa Z h tl "com/example/search_suggest/searchsuggest/engine/SkipReason") (F_tl_ordinal : Fld Z h tl "java/lang/Enum" "ordinal" "I" (.int (3 : Int32))) (E_b0 : Exa Z h b0 "com/example/search_suggest/searchsuggest/engine/LineTally") (F_b0_skipped : Fld Z h b0 "com/example/search_suggest/searchsuggest/engine/LineTally" "skipped" "[J" (.ref c4)) (F_b0_kept : Fld Z h b0 "com/example/search_suggest/searchsuggest/engine/LineTally" "kept" "J" (.long b0_kept)) (g_b0 : n0 ≤ b0) (V_vals : Arv Z h vals vals_k (.object "com/example/search_suggest/searchsuggest/engine/SkipReason") (4 : Int32) vals_xs .null) (E_vals : Exa Z h vals "[Lcom/example/search_suggest/searchsuggest/engine/SkipReason;") (V_c4 : Arv Z h c4 c4_k .long (4 : Int32) (c4_xs.map Value.long) (.long 0)) (ln_c4 : c4_xs.length = (4 : Int32).toNatClampNeg) (g_c4 : n0 ≤ c4) (ne_bl_b0 : bl ≠ b0) (ne_en_b0 : en ≠ b0) (ne_ma_b0 : ma ≠ b0) (ne_tl_b0 : tl ≠ b0) (ne_vals_b0 : vals ≠ b0) (ne_bl_c4 : bl ≠ c4) (ne_en_c4 : en ≠ c4) (ne_ma_c4 : ma ≠ c4) (ne_tl_c4 : tl ≠ c4) (ne_b0_c4 : b0 ≠ c4) (ne_vals_c4 : vals ≠ c4) (O : Old Z n0 h) (S_vals : Sta Z Z.heap "com/example/search_suggest/searchsuggest/engine/SkipReason" "$VALUES" "[Lcom/example/search_suggest/searchsuggest/engine/SkipReason;" (.ref vals)) (lt_vals : vals < n0) (S_bl : Sta Z Z.heap "com/example/search_suggest/searchsuggest/engine/SkipReason" "BLANK" "Lcom/example/search_suggest/searchsuggest/engine/SkipReason;" (.ref bl)) (S_en : Sta Z Z.heap "com/example/search_suggest/searchsuggest/engine/SkipReason" "ENCODING" "Lcom/example/search_suggest/searchsuggest/engine/SkipReason;" (.ref en)) (S_ma : Sta Z Z.heap "com/example/search_suggest/searchsuggest/engine/SkipReason" "MALFORMED" "Lcom/example/search_suggest/searchsuggest/engine/SkipReason;" (.ref ma)) (S_tl : Sta Z Z.heap "com/example/search_suggest/searchsuggest/engine/SkipReason" "TOO_LONG" "Lcom/example/search_suggest/searchsuggest/engine/SkipReason;" (.ref tl)) (lt_bl : bl < n0) (lt_en : en < n0) (lt_ma : ma < n0) (lt_tl : tl < n0) (r : Int32) (hr : f0_85 v0 v1 v3 v5 b0_kept c4_xs = r) :
    EndsIn p e below s 3 10 (Q0 n0 r) (T0.setTop (mkF m 85 #[.val (.int v0), .val (.int v1), .val (.ref b0), .val (.long v3), .second, .val (.long v5), .second, .unset, .unset, .unset, .unset] [])) := by
  obtain ⟨hx, hZ, hw, hby, hml, hret, hown, hnm, hlk⟩ := B
  unfold f0_85 at hr
  refine EndsIn.by (B := T0.setTop (mkF m 91 #[.val (.int v0), .val (.int v1), .val (.ref b0), .val (.long v3), .second, .val (.long (v5 + (1 : Int64))), .second, .unset, .unset, .unset, .unset] [])) (fun t k => ?_) ?_
  · show Steps p.tables e below (T0.setTop (mkF m 85 #[.val (.int v0), .val (.int v1), .val (.ref b0), .val (.long v3), .second, .val (.long v5), .second, .unset, .unset, .unset, .unset] [])) _
    refine XS.lload X0.here hx rfl (hb hby at_85) rfl  ?_
    show Steps p.tables e below (T0.setTop (mkF m 87 #[.val (.int v0), .val (.int v1), .val (.ref b0), .val (.long v3), .second, .val (.long v5), .second, .unset, .unset, .unset, .unset] [(.long v5)])) _
    refine XS.lconst X0.here hx rfl (hb hby at_87) ?_
    show Steps p.tables e below (T0.setTop (mkF m 88 #[.val (.int v0), .val (.int v1), .val (.ref b0), .val (.long v3), .second, .val (.long v5), .second, .unset, .unset, .unset, .unset] [(.long (1 : Int64)), (.long v5)])) _
    refine XS.ladd X0.here hx rfl (hb hby at_88) rfl ?_
    show Steps p.tables e below (T0.setTop (mkF m 89 #[.val (.int v0), .val (.int v1), .val (.ref b0), .val (.long v3), .second, .val (.long v5), .second, .unset, .unset, .unset, .unset] [(.long (v5 + (1 : Int64)))])) _
    refine XS.lstore X0.here hx rfl (hb hby at_89) rfl (l' := #[.val (.int v0), .val (.int v1), .val (.ref b0), .val (.long v3), .second, .val (.long (v5 + (1 : Int64))), .second, .unset, .unset, .unset, .unset]) rfl ?_
    exact k
  exact b0_91 ⟨hx, hZ, hw, hby, hml, hret, hown, hnm, hlk⟩ h0 n0 v0 v1 b0 v3 (v5 + (1 : Int64)) bl en ma tl vals c4 b0_kept vals_k vals_xs c4_k c4_xs X0 e0 N0 Z0 E_bl F_bl_ordinal E_en F_en_ordinal E_ma F_ma_ordinal E_tl F_tl_ordinal E_b0 F_b0_skipped F_b0_kept g_b0 V_vals E_vals V_c4 ln_c4 g_c4 ne_bl_b0 ne_en_b0 ne_ma_b0 ne_tl_b0 ne_vals_b0 ne_bl_c4 ne_en_c4 ne_ma_c4 ne_tl_c4 ne_b0_c4 ne_vals_c4 O S_vals lt_vals S_bl S_en S_ma S_tl lt_bl lt_en lt_ma lt_tl _ hr
def f0_68 (v0 : Int32) (v1 : Int32) (v3 : Int64) (v5 : Int64) (b0_kept : Int64) (c4_xs : List Int64) : Int32 := (if (v0 &&& (8 : Int32)) = (0 : Int32) then (f0_91 v0 v1 v3 v5 b0_kept c4_xs) else (f0_85 v0 v1 v3 v5 b0_kept (f7_0 b0_kept (f6_0 ((v1.toUInt32 >>> ((4 : Int32) &&& 31).toUInt32).toInt32)) c4_xs)))
set_option maxRecDepth 65536 in
set_option maxHeartbeats 40000000 in
theorem b0_68 {p : Program} {l : Launch} {e : Env} {s : State} {m : MethodId} {args : Array Value} {below : List Frame} {meth : Method} {c : Code} {Z : State} {a0 : Array Value} (B : Ctx p Z s a0 m meth c "com/example/search_suggest/searchsuggest/engine/LineTallySkippedPinLaw" "law" code 11 (some .boolean)) {T0 : State} {locs : List Loc} {h : Heap} (h0 : Heap) (n0 : Nat) (v0 : Int32) (v1 : Int32) (b0 : Addr) (v3 : Int64) (v5 : Int64) (bl : Addr) (en : Addr) (ma : Addr) (tl : Addr) (vals : Addr) (c4 : Addr) (b0_kept : Int64) (vals_k : ClassId) (vals_xs : List Value) (c4_k : ClassId) (c4_xs : List Int64) (X0 : Stand p l e room_1 s m args below meth c T0 locs 3 10) (e0 : T0.heap = h) (N0 : Fr n0 locs) (Z0 : n0 ≤ h.size) (E_bl : Exa Z h bl "com/example/search_suggest/searchsuggest/engine/SkipReason") (F_bl_ordinal : Fld Z h bl "java/lang/Enum" "ordinal" "I" (.int (0 : Int32))) (E_en : Exa Z h en "com/example/search_suggest/searchsuggest/engine/SkipReason") (F_en_ordinal : Fld Z h en "java/lang/Enum" "ordinal" "I" (.int (1 : Int32))) (E_ma : Exa Z h ma "com/example/search_suggest/searchsuggest/engine/SkipReason") (F_ma_ordinal : Fld Z h ma "java/lang/Enum" "ordinal" "I" (.int (2 : Int32))) (E_tl : Exa Z h tl "com/example/search_suggest/searchsuggest/engine/SkipReason") (F_tl_ordinal : Fld Z h tl "java/lang/Enum" "ordinal" "I" (.int (3 : Int32))) (E_b0 : Exa Z h b0 "com/example/search_suggest/searchsuggest/engine/LineTally") (F_b0_skipped : Fld Z h b0 "com/example/search_suggest/searchsuggest/engine/LineTally" "skipped" "[J" (.ref c4)) (F_b0_kept : Fld Z h b0 "com/example/search_suggest/searchsuggest/engine/LineTally" "kept" "J" (.long b0_kept)) (g_b0 : n0 ≤ b0) (V_vals : Arv Z h vals vals_k (.object "com/example/search_suggest/searchsuggest/engine/SkipReason") (4 : Int32) vals_xs .null) (E_vals : Exa Z h vals "[Lcom/example/search_suggest/searchsuggest/engine/SkipReason;") (V_c4 : Arv Z h c4 c4_k .long (4 : Int32) (c4_xs.map Value.long) (.long 0)) (ln_c4 : c4_xs.length = (4 : Int32).toNatClampNeg) (g_c4 : n0 ≤ c4) (ne_bl_b0 : bl ≠ b0) (ne_en_b0 : en ≠ b0) (ne_ma_b0 : ma ≠ b0) (ne_tl_b0 : tl ≠ b0) (ne_vals_b0 : vals ≠ b0) (ne_bl_c4 : bl ≠ c4) (ne_en_c4 : en ≠ c4) (ne_ma_c4 : ma ≠ c4) (ne_tl_c4 : tl ≠ c4) (ne_b0_c4 : b0 ≠ c4) (ne_vals_c4 : vals ≠ c4) (O : Old Z n0 h) (S_vals : Sta Z Z.heap "com/example/search_suggest/searchsuggest/engine/SkipReason" "$VALUES" "[Lcom/example/search_suggest/searchsuggest/engine/SkipReason;" (.ref vals)) (lt_vals : vals < n0) (S_bl : Sta Z Z.heap "com/example/search_suggest/searchsuggest/engine/SkipReason" "BLANK" "Lcom/example/search_suggest/searchsuggest/engine/SkipReason;" (.ref bl)) (S_en : Sta Z Z.heap "com/example/search_suggest/searchsuggest/engine/SkipReason" "ENCODING" "Lcom/example/search_suggest/searchsuggest/engine/SkipReason;" (.ref en)) (S_ma : Sta Z Z.heap "com/example/search_suggest/searchsuggest/engine/SkipReason" "MALFORMED" "Lcom/example/search_suggest/searchsuggest/engine/SkipReason;" (.ref ma)) (S_tl : Sta Z Z.heap "com/example/search_suggest/searchsuggest/engine/SkipReason" "TOO_LONG" "Lcom/example/search_suggest/searchsuggest/engine/SkipReason;" (.ref tl)) (lt_bl : bl < n0) (lt_en : en < n0) (lt_ma : ma < n0) (lt_tl : tl < n0) (r : Int32) (hr : f0_68 v0 v1 v3 v5 b0_kept c4_xs = r) :
    EndsIn p e below s 3 10 (Q0 n0 r) (T0.setTop (mkF m 68 #[.val (.int v0), .val (.int v1), .val (.ref b0), .val (.long v3), .second, .val (.long v5), .second, .unset, .unset, .unset, .unset] [])) := by
  obtain ⟨hx, hZ, hw, hby, hml, hret, hown, hnm, hlk⟩ := B
  unfold f0_68 at hr
  refine EndsIn.by (B := T0.setTop (mkF m 72 #[.val (.int v0), .val (.int v1), .val (.ref b0), .val (.long v3), .second, .val (.long v5), .second, .unset, .unset, .unset, .unset] [(.int (v0 &&& (8 : Int32)))])) (fun t k => ?_) ?_
  · show Steps p.tables e below (T0.setTop (mkF m 68 #[.val (.int v0), .val (.int v1), .val (.ref b0), .val (.long v3), .second, .val (.long v5), .second, .unset, .unset, .unset, .unset] [])) _
    refine XS.iloadN X0.here hx rfl (hb hby at_68) rfl  ?_
    show Steps p.tables e below (T0.setTop (mkF m 69 #[.val (.int v0), .val (.int v1), .val (.ref b0), .val (.long v3), .second, .val (.long v5), .second, .unset, .unset, .unset, .unset] [(.int v0)])) _
    refine XS.bipush X0.here hx rfl (hb hby at_69) ?_
    show Steps p.tables e below (T0.setTop (mkF m 71 #[.val (.int v0), .val (.int v1), .val (.ref b0), .val (.long v3), .second, .val (.long v5), .second, .unset, .unset, .unset, .unset] [(.int (8 : Int32)), (.int v0)])) _
    refine XS.iand X0.here hx rfl (hb hby at_71) rfl ?_
    exact k
  by_cases hc72 : (v0 &&& (8 : Int32)) = (0 : Int32)
  · rw [if_pos hc72] at hr
    refine EndsIn.by (B := T0.setTop (mkF m 91 #[.val (.int v0), .val (.int v1), .val (.ref b0), .val (.long v3), .second, .val (.long v5), .second, .unset, .unset, .unset, .unset] [])) (fun t k => ?_) ?_
    · show Steps p.tables e below (T0.setTop (mkF m 72 #[.val (.int v0), .val (.int v1), .val (.ref b0), .val (.long v3), .second, .val (.long v5), .second, .unset, .unset, .unset, .unset] [(.int (v0 &&& (8 : Int32)))])) _
      exact XS.ifYes X0.here hx rfl (pc0 := 72) (pc' := 91) rfl (hb hby at_72) rfl ((if0 _ _).trans (teq hc72).1) (by decide) (by decide) k
    exact b0_91 ⟨hx, hZ, hw, hby, hml, hret, hown, hnm, hlk⟩ h0 n0 v0 v1 b0 v3 v5 bl en ma tl vals c4 b0_kept vals_k vals_xs c4_k c4_xs X0 e0 N0 Z0 E_bl F_bl_ordinal E_en F_en_ordinal E_ma F_ma_ordinal E_tl F_tl_ordinal E_b0 F_b0_skipped F_b0_kept g_b0 V_vals E_vals V_c4 ln_c4 g_c4 ne_bl_b0 ne_en_b0 ne_ma_b0 ne_tl_b0 ne_vals_b0 ne_bl_c4 ne_en_c4 ne_ma_c4 ne_tl_c4 ne_b0_c4 ne_vals_c4 O S_vals lt_vals S_bl S_en S_ma S_tl lt_bl lt_en lt_ma lt_tl _ hr
  · rw [if_neg hc72] at hr
    refine EndsIn.by (B := T0.setTop (mkF m 75 #[.val (.int v0), .val (.int v1), .val (.ref b0), .val (.long v3), .second, .val (.long v5), .second, .unset, .unset, .unset, .unset] [])) (fun t k => ?_) ?_
    · show Steps p.tables e below (T0.setTop (mkF m 72 #[.val (.int v0), .val (.int v1), .val (.ref b0), .val (.long v3), .second, .val (.long v5), .second, .unset, .unset, .unset, .unset] [(.int (v0 &&& (8 : Int32)))])) _
      exact XS.ifNo X0.here hx rfl (hb hby at_72) rfl ((if0 _ _).trans (feq hc72).1) k
    refine EndsIn.by (B := T0.setTop (mkF m 79 #[.val (.int v0), .val (.int v1), .val (.ref b0), .val (.long v3), .second, .val (.long v5), .second, .unset, .unset, .unset, .unset] [(.int ((v1.toUInt32 >>> ((4 : Int32) &&& 31).toUInt32).toInt32)), (.ref b0)])) (fun t k => ?_) ?_
    · show Steps p.tables e below (T0.setTop (mkF m 75 #[.val (.int v0), .val (.int v1), .val (.ref b0), .val (.long v3), .second, .val (.long v5), .second, .unset, .unset, .unset, .unset] [])) _
      refine XS.aloadN X0.here hx rfl (hb hby at_75) rfl rfl ?_
      show Steps p.tables e below (T0.setTop (mkF m 76 #[.val (.int v0), .val (.int v1), .val (.ref b0), .val (.long v3), .second, .val (.long v5), .second, .unset, .unset, .unset, .unset] [(.ref b0)])) _
      refine XS.iloadN X0.here hx rfl (hb hby at_76) rfl  ?_
      show Steps p.tables e below (T0.setTop (mkF m 77 #[.val (.int v0), .val (.int v1), .val (.ref b0), .val (.long v3), .second, .val (.long v5), .second, .unset, .unset, .unset, .unset] [(.int v1), (.ref b0)])) _
      refine XS.iconst X0.here hx rfl (hb hby at_77) ?_
      show Steps p.tables e below (T0.setTop (mkF m 78 #[.val (.int v0), .val (.int v1), .val (.ref b0), .val (.long v3), .second, .val (.long v5), .second, .unset, .unset, .unset, .unset] [(.int (4 : Int32)), (.int v1), (.ref b0)])) _
      refine XS.iushr X0.here hx rfl (hb hby at_78) rfl ?_
      exact k
    -- pc 79: com/example/search_suggest/searchsuggest/engine/LineTallySkippedPinLaw.pick
    obtain ⟨_, _, ⟨T7, L7, k7, n7⟩, -, X7, ⟨Lc7, hQ7, l7, y7, z7⟩, st7⟩ := Jvm.LawKit.callS X0 hx (y := (⟨"com/example/search_suggest/searchsuggest/engine/LineTallySkippedPinLaw", "pick", "(I)Lcom/example/search_suggest/searchsuggest/engine/SkipReason;"⟩ : MethodName)) hown (mvT hZ (hw _ (List.mem_of_getElem? (i := 44) rfl))) (mvT hZ (hw _ (List.mem_of_getElem? (i := 45) rfl))) (mvT hZ (hw _ (List.mem_of_getElem? (i := 46) rfl))) (mvT hZ (hw _ (List.mem_of_getElem? (i := 47) rfl))) (by decide) (backOf (W := 1) (rm6 l Z a0 hw [] ((v1.toUInt32 >>> ((4 : Int32) &&& 31).toUInt32).toInt32) bl en ma tl h n0 Z0 E_bl F_bl_ordinal E_en F_en_ordinal E_ma F_ma_ordinal E_tl F_tl_ordinal O S_bl S_en S_ma S_tl lt_bl lt_en lt_ma lt_tl) hZ (hw _ (List.mem_of_getElem? (i := 47) rfl)) (hw _ (List.mem_of_getElem? (i := 46) rfl)) (by decide) (by decide)) (g := (mkF m 79 #[.val (.int v0), .val (.int v1), .val (.ref b0), .val (.long v3), .second, .val (.long v5), .second, .unset, .unset, .unset, .unset] [(.int ((v1.toUInt32 >>> ((4 : Int32) &&& 31).toUInt32).toInt32)), (.ref b0)])) rfl (by rw [hml]; rfl) (argsL := [(.int ((v1.toUInt32 >>> ((4 : Int32) &&& 31).toUInt32).toInt32))]) (rest := [(.ref b0)]) (lenOf pd_3 rfl) rfl (by show 2 * 0 + _ ≤ _; exact Nat.le_of_eq rfl) (hb hby at_79) (fun _ _ => ⟨rfl, e0, (by decide : 3 + R6.cells ≤ _), (by decide : 10 + R6.slots ≤ _)⟩)
    dsimp only [Pt.U, Pt.locs, Pt.cells, Pt.slots] at X7 l7 y7 z7 st7 hQ7
    subst l7 y7 z7
    obtain ⟨c79, rfl, Nq7, e7, Eb_7, Fb_7, ltb_7⟩ := hQ7
    have N7 := Fr.app N0 Nq7
    rw [e7] at Eb_7 Fb_7
    have ne_c79_b0 : c79 ≠ b0 := Nat.ne_of_lt (Nat.lt_of_lt_of_le ltb_7 g_b0)
    have ne_c79_c4 : c79 ≠ c4 := Nat.ne_of_lt (Nat.lt_of_lt_of_le ltb_7 g_c4)
    refine EndsIn.by (B := T7.setTop (mkF m 82 #[.val (.int v0), .val (.int v1), .val (.ref b0), .val (.long v3), .second, .val (.long v5), .second, .unset, .unset, .unset, .unset] [(.ref c79), (.ref b0)])) (fun t k => st7 t k) ?_
    have hp8_hi : ¬ ((f6_0 ((v1.toUInt32 >>> ((4 : Int32) &&& 31).toUInt32).toInt32)) < (0 : Int32)) ∧ (f6_0 ((v1.toUInt32 >>> ((4 : Int32) &&& 31).toUInt32).toInt32)) < (4 : Int32) := own_ord _
    -- pc 82: com/example/search_suggest/searchsuggest/engine/LineTally.countSkipped
    obtain ⟨cq8, kq8, q8a, q8b, q8c⟩ := isOf hZ e7 E_b0
    obtain ⟨_, _, ⟨T8, L8, k8, n8⟩, -, X8, ⟨Lc8, hQ8, l8, y8, z8⟩, st8⟩ := X7.virtualBack hx (y := (⟨"com/example/search_suggest/searchsuggest/engine/LineTally", "countSkipped", "(Lcom/example/search_suggest/searchsuggest/engine/SkipReason;)V"⟩ : MethodName)) (z := (⟨"com/example/search_suggest/searchsuggest/engine/LineTally", "countSkipped", "(Lcom/example/search_suggest/searchsuggest/engine/SkipReason;)V"⟩ : MethodName)) hown (mvT hZ (hw _ (List.mem_of_getElem? (i := 49) rfl))) (mvT hZ (hw _ (List.mem_of_getElem? (i := 50) rfl))) (notFace_of_selects (args := #[]) (mvT hZ (hw _ (List.mem_of_getElem? (i := 52) rfl)))) (mvT hZ (hw _ (List.mem_of_getElem? (i := 52) rfl))) (mvT hZ (hw _ (List.mem_of_getElem? (i := 51) rfl))) (by decide) (backOf (W := 0) (rm7 l Z a0 hw [] b0 c79 c4 b0_kept (f6_0 ((v1.toUInt32 >>> ((4 : Int32) &&& 31).toUInt32).toInt32)) c4_k c4_xs h n0 Z0 E_b0 F_b0_skipped F_b0_kept Eb_7 Fb_7 V_c4 ln_c4 g_c4 ne_b0_c4 ne_c79_c4 hp8_hi) hZ (hw _ (List.mem_of_getElem? (i := 53) rfl)) (hw _ (List.mem_of_getElem? (i := 2) rfl)) (by decide) (by decide)) q8a q8c (g := (mkF m 82 #[.val (.int v0), .val (.int v1), .val (.ref b0), .val (.long v3), .second, .val (.long v5), .second, .unset, .unset, .unset, .unset] [(.ref c79), (.ref b0)])) rfl (by rw [hml]; rfl) (Steps.refl _) (argsL := [(.ref c79)]) (rest := []) (lenOf pd_5 rfl) rfl (by show 2 * 0 + _ ≤ _; exact Nat.le_of_eq rfl) (hb hby at_82) (fun _ _ => ⟨rfl, e7, (by decide : 3 + R7.cells ≤ _), (by decide : 10 + R7.slots ≤ _)⟩)
    dsimp only [Pt.U, Pt.locs, Pt.cells, Pt.slots] at X8 l8 y8 z8 st8 hQ8
    subst l8 y8 z8
    obtain ⟨rfl, Nq8, Kq8, V_c4_8, ln_c4_8⟩ := hQ8
    obtain ⟨h8, e8⟩ : ∃ z, T8.heap = z := ⟨_, rfl⟩
    rw [e8] at Kq8 V_c4_8
    have N8 := Fr.app N7 Nq8
    have Z8 : n0 ≤ h8.size := Nat.le_trans Z0 Kq8.1
    have E_bl_8 := E_bl.keep Kq8
    have F_bl_ordinal_8 := F_bl_ordinal.keep Kq8 (ninS ne_bl_c4 nin0)
    have E_en_8 := E_en.keep Kq8
    have F_en_ordinal_8 := F_en_ordinal.keep Kq8 (ninS ne_en_c4 nin0)
    have E_ma_8 := E_ma.keep Kq8
    have F_ma_ordinal_8 := F_ma_ordinal.keep Kq8 (ninS ne_ma_c4 nin0)
    have E_tl_8 := E_tl.keep Kq8
    have F_tl_ordinal_8 := F_tl_ordinal.keep Kq8 (ninS ne_tl_c4 nin0)
    have E_b0_8 := E_b0.keep Kq8
    have F_b0_skipped_8 := F_b0_skipped.keep Kq8 (ninS ne_b0_c4 nin0)
    have F_b0_kept_8 := F_b0_kept.keep Kq8 (ninS ne_b0_c4 nin0)
    have E_c79_8 := Eb_7.keep Kq8
    have F_c79_ordinal_8 := Fb_7.keep Kq8 (ninS ne_c79_c4 nin0)
    have V_vals_8 := V_vals.keep Kq8 (ninS ne_vals_c4 nin0)
    have E_vals_8 := E_vals.keep Kq8
    have O8 := O.keep Kq8 (allS g_c4 all0)
    refine EndsIn.by (B := T8.setTop (mkF m 85 #[.val (.int v0), .val (.int v1), .val (.ref b0), .val (.long v3), .second, .val (.long v5), .second, .unset, .unset, .unset, .unset] [])) (fun t k => st8.trans k) ?_
    exact b0_85 ⟨hx, hZ, hw, hby, hml, hret, hown, hnm, hlk⟩ h0 n0 v0 v1 b0 v3 v5 bl en ma tl vals c4 b0_kept vals_k vals_xs c4_k (f7_0 b0_kept (f6_0 ((v1.toUInt32 >>> ((4 : Int32) &&& 31).toUInt32).toInt32)) c4_xs) (X8.more (by decide) (by decide)) e8 N8 Z8 E_bl_8 F_bl_ordinal_8 E_en_8 F_en_ordinal_8 E_ma_8 F_ma_ordinal_8 E_tl_8 F_tl_ordinal_8 E_b0_8 F_b0_skipped_8 F_b0_kept_8 g_b0 V_vals_8 E_vals_8 V_c4_8 ln_c4_8 g_c4 ne_bl_b0 ne_en_b0 ne_ma_b0 ne_tl_b0 ne_vals_b0 ne_bl_c4 ne_en_c4 ne_ma_c4 ne_tl_c4 ne_b0_c4 ne_vals_c4 O8 S_vals lt_vals S_bl S_en S_ma S_tl lt_bl lt_en lt_ma lt_tl _ hr
def f0_62 (v0 : Int32) (v1 : Int32) (v3 : Int64) (v5 : Int64) (b0_kept : Int64) (c4_xs : List Int64) : Int32 := (f0_68 v0 v1 v3 (v5 + (1 : Int64)) b0_kept c4_xs)
set_option maxRecDepth 65536 in
set_option maxHeartbeats 40000000 in
theorem b0_62 {p : Program} {l : Launch} {e : Env} {s : State} {m : MethodId} {args : Array Value} {below : List Frame} {meth : Method} {c : Code} {Z : State} {a0 : Array Value} (B : Ctx p Z s a0 m meth c "com/example/search_suggest/searchsuggest/engine/LineTallySkippedPinLaw" "law" code 11 (some .boolean)) {T0 : State} {locs : List Loc} {h : Heap} (h0 : Heap) (n0 : Nat) (v0 : Int32) (v1 : Int32) (b0 : Addr) (v3 : Int64) (v5 : Int64) (bl : Addr) (en : Addr) (ma : Addr) (tl : Addr) (vals : Addr) (c4 : Addr) (b0_kept : Int64) (vals_k : ClassId) (vals_xs : List Value) (c4_k : ClassId) (c4_xs : List Int64) (X0 : Stand p l e room_1 s m args below meth c T0 locs 3 10) (e0 : T0.heap = h) (N0 : Fr n0 locs) (Z0 : n0 ≤ h.size) (E_bl : Exa Z h bl "com/example/search_suggest/searchsuggest/engine/SkipReason") (F_bl_ordinal : Fld Z h bl "java/lang/Enum" "ordinal" "I" (.int (0 : Int32))) (E_en : Exa Z h en "com/example/search_suggest/searchsuggest/engine/SkipReason") (F_en_ordinal : Fld Z h en "java/lang/Enum" "ordinal" "I" (.int (1 : Int32))) (E_ma : Exa Z h ma "com/example/search_suggest/searchsuggest/engine/SkipReason") (F_ma_ordinal : Fld Z h ma "java/lang/Enum" "ordinal" "I" (.int (2 : Int32))) (E_tl : Exa Z h tl "com/example/search_suggest/searchsuggest/engine/SkipReason") (F_tl_ordinal : Fld Z h tl "java/lang/Enum" "ordinal" "I" (.int (3 : Int32))) (E_b0 : Exa Z h b0 "com/example/search_suggest/searchsuggest/engine/LineTally") (F_b0_skipped : Fld Z h b0 "com/example/search_suggest/searchsuggest/engine/LineTally" "skipped" "[J" (.ref c4)) (F_b0_kept : Fld Z h b0 "com/example/search_suggest/searchsuggest/engine/LineTally" "kept" "J" (.long b0_kept)) (g_b0 : n0 ≤ b0) (V_vals : Arv Z h vals vals_k (.object "com/example/search_suggest/searchsuggest/engine/SkipReason") (4 : Int32) vals_xs .null) (E_vals : Exa Z h vals "[Lcom/example/search_suggest/searchsuggest/engine/SkipReason;") (V_c4 : Arv Z h c4 c4_k .long (4 : Int32) (c4_xs.map Value.long) (.long 0)) (ln_c4 : c4_xs.length = (4 : Int32).toNatClampNeg) (g_c4 : n0 ≤ c4) (ne_bl_b0 : bl ≠ b0) (ne_en_b0 : en ≠ b0) (ne_ma_b0 : ma ≠ b0) (ne_tl_b0 : tl ≠ b0) (ne_vals_b0 : vals ≠ b0) (ne_bl_c4 : bl ≠ c4) (ne_en_c4 : en ≠ c4) (ne_ma_c4 : ma ≠ c4) (ne_tl_c4 : tl ≠ c4) (ne_b0_c4 : b0 ≠ c4) (ne_vals_c4 : vals ≠ c4) (O : Old Z n0 h) (S_vals : Sta Z Z.heap "com/example/search_suggest/searchsuggest/engine/SkipReason" "$VALUES" "[Lcom/example/search_suggest/searchsuggest/engine/SkipReason;" (.ref vals)) (lt_vals : vals < n0) (S_bl : Sta Z Z.heap "com/example/search_suggest/searchsuggest/engine/SkipReason" "BLANK" "Lcom/example/search_suggest/searchsuggest/engine/SkipReason;" (.ref bl)) (S_en : Sta Z Z.heap "com/example/search_suggest/searchsuggest/engine/SkipReason" "ENCODING" "Lcom/example/search_suggest/searchsuggest/engine/SkipReason;" (.ref en)) (S_ma : Sta Z Z.heap "com/example/search_suggest/searchsuggest/engine/SkipReason" "MALFORMED" "Lcom/example/search_suggest/searchsuggest/engine/SkipReason;" (.ref ma)) (S_tl : Sta Z Z.heap "com/example/search_suggest/searchsuggest/engine/SkipReason" "TOO_LONG" "Lcom/example/search_suggest/searchsuggest/engine/SkipReason;" (.ref tl)) (lt_bl : bl < n0) (lt_en : en < n0) (lt_ma : ma < n0) (lt_tl : tl < n0) (r : Int32) (hr : f0_62 v0 v1 v3 v5 b0_kept c4_xs = r) :
    EndsIn p e below s 3 10 (Q0 n0 r) (T0.setTop (mkF m 62 #[.val (.int v0), .val (.int v1), .val (.ref b0), .val (.long v3), .second, .val (.long v5), .second, .unset, .unset, .unset, .unset] [])) := by
  obtain ⟨hx, hZ, hw, hby, hml, hret, hown, hnm, hlk⟩ := B
  unfold f0_62 at hr
  refine EndsIn.by (B := T0.setTop (mkF m 68 #[.val (.int v0), .val (.int v1), .val (.ref b0), .val (.long v3), .second, .val (.long (v5 + (1 : Int64))), .second, .unset, .unset, .unset, .unset] [])) (fun t k => ?_) ?_
  · show Steps p.tables e below (T0.setTop (mkF m 62 #[.val (.int v0), .val (.int v1), .val (.ref b0), .val (.long v3), .second, .val (.long v5), .second, .unset, .unset, .unset, .unset] [])) _
    refine XS.lload X0.here hx rfl (hb hby at_62) rfl  ?_
    show Steps p.tables e below (T0.setTop (mkF m 64 #[.val (.int v0), .val (.int v1), .val (.ref b0), .val (.long v3), .second, .val (.long v5), .second, .unset, .unset, .unset, .unset] [(.long v5)])) _
    refine XS.lconst X0.here hx rfl (hb hby at_64) ?_
    show Steps p.tables e below (T0.setTop (mkF m 65 #[.val (.int v0), .val (.int v1), .val (.ref b0), .val (.long v3), .second, .val (.long v5), .second, .unset, .unset, .unset, .unset] [(.long (1 : Int64)), (.long v5)])) _
    refine XS.ladd X0.here hx rfl (hb hby at_65) rfl ?_
    show Steps p.tables e below (T0.setTop (mkF m 66 #[.val (.int v0), .val (.int v1), .val (.ref b0), .val (.long v3), .second, .val (.long v5), .second, .unset, .unset, .unset, .unset] [(.long (v5 + (1 : Int64)))])) _
    refine XS.lstore X0.here hx rfl (hb hby at_66) rfl (l' := #[.val (.int v0), .val (.int v1), .val (.ref b0), .val (.long v3), .second, .val (.long (v5 + (1 : Int64))), .second, .unset, .unset, .unset, .unset]) rfl ?_
    exact k
  exact b0_68 ⟨hx, hZ, hw, hby, hml, hret, hown, hnm, hlk⟩ h0 n0 v0 v1 b0 v3 (v5 + (1 : Int64)) bl en ma tl vals c4 b0_kept vals_k vals_xs c4_k c4_xs X0 e0 N0 Z0 E_bl F_bl_ordinal E_en F_en_ordinal E_ma F_ma_ordinal E_tl F_tl_ordinal E_b0 F_b0_skipped F_b0_kept g_b0 V_vals E_vals V_c4 ln_c4 g_c4 ne_bl_b0 ne_en_b0 ne_ma_b0 ne_tl_b0 ne_vals_b0 ne_bl_c4 ne_en_c4 ne_ma_c4 ne_tl_c4 ne_b0_c4 ne_vals_c4 O S_vals lt_vals S_bl S_en S_ma S_tl lt_bl lt_en lt_ma lt_tl _ hr
def f0_46 (v0 : Int32) (v1 : Int32) (v3 : Int64) (v5 : Int64) (b0_kept : Int64) (c4_xs : List Int64) : Int32 := (if (v0 &&& (4 : Int32)) = (0 : Int32) then (f0_68 v0 v1 v3 v5 b0_kept c4_xs) else (f0_62 v0 v1 v3 v5 b0_kept (f7_0 b0_kept (f6_0 ((v1.toUInt32 >>> ((2 : Int32) &&& 31).toUInt32).toInt32)) c4_xs)))
set_option maxRecDepth 65536 in
set_option maxHeartbeats 40000000 in
theorem b0_46 {p : Program} {l : Launch} {e : Env} {s : State} {m : MethodId} {args : Array Value} {below : List Frame} {meth : Method} {c : Code} {Z : State} {a0 : Array Value} (B : Ctx p Z s a0 m meth c "com/example/search_suggest/searchsuggest/engine/LineTallySkippedPinLaw" "law" code 11 (some .boolean)) {T0 : State} {locs : List Loc} {h : Heap} (h0 : Heap) (n0 : Nat) (v0 : Int32) (v1 : Int32) (b0 : Addr) (v3 : Int64) (v5 : Int64) (bl : Addr) (en : Addr) (ma : Addr) (tl : Addr) (vals : Addr) (c4 : Addr) (b0_kept : Int64) (vals_k : ClassId) (vals_xs : List Value) (c4_k : ClassId) (c4_xs : List Int64) (X0 : Stand p l e room_1 s m args below meth c T0 locs 3 10) (e0 : T0.heap = h) (N0 : Fr n0 locs) (Z0 : n0 ≤ h.size) (E_bl : Exa Z h bl "com/example/search_suggest/searchsuggest/engine/SkipReason") (F_bl_ordinal : Fld Z h bl "java/lang/Enum" "ordinal" "I" (.int (0 : Int32))) (E_en : Exa Z h en "com/example/search_suggest/searchsuggest/engine/SkipReason") (F_en_ordinal : Fld Z h en "java/lang/Enum" "ordinal" "I" (.int (1 : Int32))) (E_ma : Exa Z h ma "com/example/search_suggest/searchsuggest/engine/SkipReason") (F_ma_ordinal : Fld Z h ma "java/lang/Enum" "ordinal" "I" (.int (2 : Int32))) (E_tl : Exa Z h tl "com/example/search_suggest/searchsuggest/engine/SkipReason") (F_tl_ordinal : Fld Z h tl "java/lang/Enum" "ordinal" "I" (.int (3 : Int32))) (E_b0 : Exa Z h b0 "com/example/search_suggest/searchsuggest/engine/LineTally") (F_b0_skipped : Fld Z h b0 "com/example/search_suggest/searchsuggest/engine/LineTally" "skipped" "[J" (.ref c4)) (F_b0_kept : Fld Z h b0 "com/example/search_suggest/searchsuggest/engine/LineTally" "kept" "J" (.long b0_kept)) (g_b0 : n0 ≤ b0) (V_vals : Arv Z h vals vals_k (.object "com/example/search_suggest/searchsuggest/engine/SkipReason") (4 : Int32) vals_xs .null) (E_vals : Exa Z h vals "[Lcom/example/search_suggest/searchsuggest/engine/SkipReason;") (V_c4 : Arv Z h c4 c4_k .long (4 : Int32) (c4_xs.map Value.long) (.long 0)) (ln_c4 : c4_xs.length = (4 : Int32).toNatClampNeg) (g_c4 : n0 ≤ c4) (ne_bl_b0 : bl ≠ b0) (ne_en_b0 : en ≠ b0) (ne_ma_b0 : ma ≠ b0) (ne_tl_b0 : tl ≠ b0) (ne_vals_b0 : vals ≠ b0) (ne_bl_c4 : bl ≠ c4) (ne_en_c4 : en ≠ c4) (ne_ma_c4 : ma ≠ c4) (ne_tl_c4 : tl ≠ c4) (ne_b0_c4 : b0 ≠ c4) (ne_vals_c4 : vals ≠ c4) (O : Old Z n0 h) (S_vals : Sta Z Z.heap "com/example/search_suggest/searchsuggest/engine/SkipReason" "$VALUES" "[Lcom/example/search_suggest/searchsuggest/engine/SkipReason;" (.ref vals)) (lt_vals : vals < n0) (S_bl : Sta Z Z.heap "com/example/search_suggest/searchsuggest/engine/SkipReason" "BLANK" "Lcom/example/search_suggest/searchsuggest/engine/SkipReason;" (.ref bl)) (S_en : Sta Z Z.heap "com/example/search_suggest/searchsuggest/engine/SkipReason" "ENCODING" "Lcom/example/search_suggest/searchsuggest/engine/SkipReason;" (.ref en)) (S_ma : Sta Z Z.heap "com/example/search_suggest/searchsuggest/engine/SkipReason" "MALFORMED" "Lcom/example/search_suggest/searchsuggest/engine/SkipReason;" (.ref ma)) (S_tl : Sta Z Z.heap "com/example/search_suggest/searchsuggest/engine/SkipReason" "TOO_LONG" "Lcom/example/search_suggest/searchsuggest/engine/SkipReason;" (.ref tl)) (lt_bl : bl < n0) (lt_en : en < n0) (lt_ma : ma < n0) (lt_tl : tl < n0) (r : Int32) (hr : f0_46 v0 v1 v3 v5 b0_kept c4_xs = r) :
    EndsIn p e below s 3 10 (Q0 n0 r) (T0.setTop (mkF m 46 #[.val (.int v0), .val (.int v1), .val (.ref b0), .val (.long v3), .second, .val (.long v5), .second, .unset, .unset, .unset, .unset] [])) := by
  obtain ⟨hx, hZ, hw, hby, hml, hret, hown, hnm, hlk⟩ := B
  unfold f0_46 at hr
  refine EndsIn.by (B := T0.setTop (mkF m 49 #[.val (.int v0), .val (.int v1), .val (.ref b0), .val (.long v3), .second, .val (.long v5), .second, .unset, .unset, .unset, .unset] [(.int (v0 &&& (4 : Int32)))])) (fun t k => ?_) ?_
  · show Steps p.tables e below (T0.setTop (mkF m 46 #[.val (.int v0), .val (.int v1), .val (.ref b0), .val (.long v3), .second, .val (.long v5), .second, .unset, .unset, .unset, .unset] [])) _
    refine XS.iloadN X0.here hx rfl (hb hby at_46) rfl  ?_
    show Steps p.tables e below (T0.setTop (mkF m 47 #[.val (.int v0), .val (.int v1), .val (.ref b0), .val (.long v3), .second, .val (.long v5), .second, .unset, .unset, .unset, .unset] [(.int v0)])) _
    refine XS.iconst X0.here hx rfl (hb hby at_47) ?_
    show Steps p.tables e below (T0.setTop (mkF m 48 #[.val (.int v0), .val (.int v1), .val (.ref b0), .val (.long v3), .second, .val (.long v5), .second, .unset, .unset, .unset, .unset] [(.int (4 : Int32)), (.int v0)])) _
    refine XS.iand X0.here hx rfl (hb hby at_48) rfl ?_
    exact k
  by_cases hc49 : (v0 &&& (4 : Int32)) = (0 : Int32)
  · rw [if_pos hc49] at hr
    refine EndsIn.by (B := T0.setTop (mkF m 68 #[.val (.int v0), .val (.int v1), .val (.ref b0), .val (.long v3), .second, .val (.long v5), .second, .unset, .unset, .unset, .unset] [])) (fun t k => ?_) ?_
    · show Steps p.tables e below (T0.setTop (mkF m 49 #[.val (.int v0), .val (.int v1), .val (.ref b0), .val (.long v3), .second, .val (.long v5), .second, .unset, .unset, .unset, .unset] [(.int (v0 &&& (4 : Int32)))])) _
      exact XS.ifYes X0.here hx rfl (pc0 := 49) (pc' := 68) rfl (hb hby at_49) rfl ((if0 _ _).trans (teq hc49).1) (by decide) (by decide) k
    exact b0_68 ⟨hx, hZ, hw, hby, hml, hret, hown, hnm, hlk⟩ h0 n0 v0 v1 b0 v3 v5 bl en ma tl vals c4 b0_kept vals_k vals_xs c4_k c4_xs X0 e0 N0 Z0 E_bl F_bl_ordinal E_en F_en_ordinal E_ma F_ma_ordinal E_tl F_tl_ordinal E_b0 F_b0_skipped F_b0_kept g_b0 V_vals E_vals V_c4 ln_c4 g_c4 ne_bl_b0 ne_en_b0 ne_ma_b0 ne_tl_b0 ne_vals_b0 ne_bl_c4 ne_en_c4 ne_ma_c4 ne_tl_c4 ne_b0_c4 ne_vals_c4 O S_vals lt_vals S_bl S_en S_ma S_tl lt_bl lt_en lt_ma lt_tl _ hr
  · rw [if_neg hc49] at hr
    refine EndsIn.by (B := T0.setTop (mkF m 52 #[.val (.int v0), .val (.int v1), .val (.ref b0), .val (.long v3), .second, .val (.long v5), .second, .unset, .unset, .unset, .unset] [])) (fun t k => ?_) ?_
    · show Steps p.tables e below (T0.setTop (mkF m 49 #[.val (.int v0), .val (.int v1), .val (.ref b0), .val (.long v3), .second, .val (.long v5), .second, .unset, .unset, .unset, .unset] [(.int (v0 &&& (4 : Int32)))])) _
      exact XS.ifNo X0.here hx rfl (hb hby at_49) rfl ((if0 _ _).trans (feq hc49).1) k
    refine EndsIn.by (B := T0.setTop (mkF m 56 #[.val (.int v0), .val (.int v1), .val (.ref b0), .val (.long v3), .second, .val (.long v5), .second, .unset, .unset, .unset, .unset] [(.int ((v1.toUInt32 >>> ((2 : Int32) &&& 31).toUInt32).toInt32)), (.ref b0)])) (fun t k => ?_) ?_
    · show Steps p.tables e below (T0.setTop (mkF m 52 #[.val (.int v0), .val (.int v1), .val (.ref b0), .val (.long v3), .second, .val (.long v5), .second, .unset, .unset, .unset, .unset] [])) _
      refine XS.aloadN X0.here hx rfl (hb hby at_52) rfl rfl ?_
      show Steps p.tables e below (T0.setTop (mkF m 53 #[.val (.int v0), .val (.int v1), .val (.ref b0), .val (.long v3), .second, .val (.long v5), .second, .unset, .unset, .unset, .unset] [(.ref b0)])) _
      refine XS.iloadN X0.here hx rfl (hb hby at_53) rfl  ?_
      show Steps p.tables e below (T0.setTop (mkF m 54 #[.val (.int v0), .val (.int v1), .val (.ref b0), .val (.long v3), .second, .val (.long v5), .second, .unset, .unset, .unset, .unset] [(.int v1), (.ref b0)])) _
      refine XS.iconst X0.here hx rfl (hb hby at_54) ?_
      show Steps p.tables e below (T0.setTop (mkF m 55 #[.val (.int v0), .val (.int v1), .val (.ref b0), .val (.long v3), .second, .val (.long v5), .second, .unset, .unset, .unset, .unset] [(.int (2 : Int32)), (.int v1), (.ref b0)])) _
      refine XS.iushr X0.here hx rfl (hb hby at_55) rfl ?_
      exact k
    -- pc 56: com/example/search_suggest/searchsuggest/engine/LineTallySkippedPinLaw.pick
    obtain ⟨_, _, ⟨T9, L9, k9, n9⟩, -, X9, ⟨Lc9, hQ9, l9, y9, z9⟩, st9⟩ := Jvm.LawKit.callS X0 hx (y := (⟨"com/example/search_suggest/searchsuggest/engine/LineTallySkippedPinLaw", "pick", "(I)Lcom/example/search_suggest/searchsuggest/engine/SkipReason;"⟩ : MethodName)) hown (mvT hZ (hw _ (List.mem_of_getElem? (i := 44) rfl))) (mvT hZ (hw _ (List.mem_of_getElem? (i := 45) rfl))) (mvT hZ (hw _ (List.mem_of_getElem? (i := 46) rfl))) (mvT hZ (hw _ (List.mem_of_getElem? (i := 47) rfl))) (by decide) (backOf (W := 1) (rm6 l Z a0 hw [] ((v1.toUInt32 >>> ((2 : Int32) &&& 31).toUInt32).toInt32) bl en ma tl h n0 Z0 E_bl F_bl_ordinal E_en F_en_ordinal E_ma F_ma_ordinal E_tl F_tl_ordinal O S_bl S_en S_ma S_tl lt_bl lt_en lt_ma lt_tl) hZ (hw _ (List.mem_of_getElem? (i := 47) rfl)) (hw _ (List.mem_of_getElem? (i := 46) rfl)) (by decide) (by decide)) (g := (mkF m 56 #[.val (.int v0), .val (.int v1), .val (.ref b0), .val (.long v3), .second, .val (.long v5), .second, .unset, .unset, .unset, .unset] [(.int ((v1.toUInt32 >>> ((2 : Int32) &&& 31).toUInt32).toInt32)), (.ref b0)])) rfl (by rw [hml]; rfl) (argsL := [(.int ((v1.toUInt32 >>> ((2 : Int32) &&& 31).toUInt32).toInt32))]) (rest := [(.ref b0)]) (lenOf pd_3 rfl) rfl (by show 2 * 0 + _ ≤ _; exact Nat.le_of_eq rfl) (hb hby at_56) (fun _ _ => ⟨rfl, e0, (by decide : 3 + R6.cells ≤ _), (by decide : 10 + R6.slots ≤ _)⟩)
    dsimp only [Pt.U, Pt.locs, Pt.cells, Pt.slots] at X9 l9 y9 z9 st9 hQ9
    subst l9 y9 z9
    obtain ⟨c56, rfl, Nq9, e9, Eb_9, Fb_9, ltb_9⟩ := hQ9
    have N9 := Fr.app N0 Nq9
    rw [e9] at Eb_9 Fb_9
    have ne_c56_b0 : c56 ≠ b0 := Nat.ne_of_lt (Nat.lt_of_lt_of_le ltb_9 g_b0)
    have ne_c56_c4 : c56 ≠ c4 := Nat.ne_of_lt (Nat.lt_of_lt_of_le ltb_9 g_c4)
    refine EndsIn.by (B := T9.setTop (mkF m 59 #[.val (.int v0), .val (.int v1), .val (.ref b0), .val (.long v3), .second, .val (.long v5), .second, .unset, .unset, .unset, .unset] [(.ref c56), (.ref b0)])) (fun t k => st9 t k) ?_
    have hp10_hi : ¬ ((f6_0 ((v1.toUInt32 >>> ((2 : Int32) &&& 31).toUInt32).toInt32)) < (0 : Int32)) ∧ (f6_0 ((v1.toUInt32 >>> ((2 : Int32) &&& 31).toUInt32).toInt32)) < (4 : Int32) := own_ord _
    -- pc 59: com/example/search_suggest/searchsuggest/engine/LineTally.countSkipped
    obtain ⟨cq10, kq10, q10a, q10b, q10c⟩ := isOf hZ e9 E_b0
    obtain ⟨_, _, ⟨T10, L10, k10, n10⟩, -, X10, ⟨Lc10, hQ10, l10, y10, z10⟩, st10⟩ := X9.virtualBack hx (y := (⟨"com/example/search_suggest/searchsuggest/engine/LineTally", "countSkipped", "(Lcom/example/search_suggest/searchsuggest/engine/SkipReason;)V"⟩ : MethodName)) (z := (⟨"com/example/search_suggest/searchsuggest/engine/LineTally", "countSkipped", "(Lcom/example/search_suggest/searchsuggest/engine/SkipReason;)V"⟩ : MethodName)) hown (mvT hZ (hw _ (List.mem_of_getElem? (i := 49) rfl))) (mvT hZ (hw _ (List.mem_of_getElem? (i := 50) rfl))) (notFace_of_selects (args := #[]) (mvT hZ (hw _ (List.mem_of_getElem? (i := 52) rfl)))) (mvT hZ (hw _ (List.mem_of_getElem? (i := 52) rfl))) (mvT hZ (hw _ (List.mem_of_getElem? (i := 51) rfl))) (by decide) (backOf (W := 0) (rm7 l Z a0 hw [] b0 c56 c4 b0_kept (f6_0 ((v1.toUInt32 >>> ((2 : Int32) &&& 31).toUInt32).toInt32)) c4_k c4_xs h n0 Z0 E_b0 F_b0_skipped F_b0_kept Eb_9 Fb_9 V_c4 ln_c4 g_c4 ne_b0_c4 ne_c56_c4 hp10_hi) hZ (hw _ (List.mem_of_getElem? (i := 53) rfl)) (hw _ (List.mem_of_getElem? (i := 2) rfl)) (by decide) (by decide)) q10a q10c (g := (mkF m 59 #[.val (.int v0), .val (.int v1), .val (.ref b0), .val (.long v3), .second, .val (.long v5), .second, .unset, .unset, .unset, .unset] [(.ref c56), (.ref b0)])) rfl (by rw [hml]; rfl) (Steps.refl _) (argsL := [(.ref c56)]) (rest := []) (lenOf pd_5 rfl) rfl (by show 2 * 0 + _ ≤ _; exact Nat.le_of_eq rfl) (hb hby at_59) (fun _ _ => ⟨rfl, e9, (by decide : 3 + R7.cells ≤ _), (by decide : 10 + R7.slots ≤ _)⟩)
    dsimp only [Pt.U, Pt.locs, Pt.cells, Pt.slots] at X10 l10 y10 z10 st10 hQ10
    subst l10 y10 z10
    obtain ⟨rfl, Nq10, Kq10, V_c4_10, ln_c4_10⟩ := hQ10
    obtain ⟨h10, e10⟩ : ∃ z, T10.heap = z := ⟨_, rfl⟩
    rw [e10] at Kq10 V_c4_10
    have N10 := Fr.app N9 Nq10
    have Z10 : n0 ≤ h10.size := Nat.le_trans Z0 Kq10.1
    have E_bl_10 := E_bl.keep Kq10
    have F_bl_ordinal_10 := F_bl_ordinal.keep Kq10 (ninS ne_bl_c4 nin0)
    have E_en_10 := E_en.keep Kq10
    have F_en_ordinal_10 := F_en_ordinal.keep Kq10 (ninS ne_en_c4 nin0)
    have E_ma_10 := E_ma.keep Kq10
    have F_ma_ordinal_10 := F_ma_ordinal.keep Kq10 (ninS ne_ma_c4 nin0)
    have E_tl_10 := E_tl.keep Kq10
    have F_tl_ordinal_10 := F_tl_ordinal.keep Kq10 (ninS ne_tl_c4 nin0)
    have E_b0_10 := E_b0.keep Kq10
    have F_b0_skipped_10 := F_b0_skipped.keep Kq10 (ninS ne_b0_c4 nin0)
    have F_b0_kept_10 := F_b0_kept.keep Kq10 (ninS ne_b0_c4 nin0)
    have E_c56_10 := Eb_9.keep Kq10
    have F_c56_ordinal_10 := Fb_9.keep Kq10 (ninS ne_c56_c4 nin0)
    have V_vals_10 := V_vals.keep Kq10 (ninS ne_vals_c4 nin0)
    have E_vals_10 := E_vals.keep Kq10
    have O10 := O.keep Kq10 (allS g_c4 all0)
    refine EndsIn.by (B := T10.setTop (mkF m 62 #[.val (.int v0), .val (.int v1), .val (.ref b0), .val (.long v3), .second, .val (.long v5), .second, .unset, .unset, .unset, .unset] [])) (fun t k => st10.trans k) ?_
    exact b0_62 ⟨hx, hZ, hw, hby, hml, hret, hown, hnm, hlk⟩ h0 n0 v0 v1 b0 v3 v5 bl en ma tl vals c4 b0_kept vals_k vals_xs c4_k (f7_0 b0_kept (f6_0 ((v1.toUInt32 >>> ((2 : Int32) &&& 31).toUInt32).toInt32)) c4_xs) (X10.more (by decide) (by decide)) e10 N10 Z10 E_bl_10 F_bl_ordinal_10 E_en_10 F_en_ordinal_10 E_ma_10 F_ma_ordinal_10 E_tl_10 F_tl_ordinal_10 E_b0_10 F_b0_skipped_10 F_b0_kept_10 g_b0 V_vals_10 E_vals_10 V_c4_10 ln_c4_10 g_c4 ne_bl_b0 ne_en_b0 ne_ma_b0 ne_tl_b0 ne_vals_b0 ne_bl_c4 ne_en_c4 ne_ma_c4 ne_tl_c4 ne_b0_c4 ne_vals_c4 O10 S_vals lt_vals S_bl S_en S_ma S_tl lt_bl lt_en lt_ma lt_tl _ hr
def f0_36 (v0 : Int32) (v1 : Int32) (v3 : Int64) (v5 : Int64) (b0_kept : Int64) (c4_xs : List Int64) : Int32 := (if (v0 &&& (2 : Int32)) = (0 : Int32) then (f0_46 v0 v1 v3 v5 b0_kept c4_xs) else (f0_46 v0 v1 v3 v5 (f5_0 b0_kept) c4_xs))
set_option maxRecDepth 65536 in
set_option maxHeartbeats 40000000 in
theorem b0_36 {p : Program} {l : Launch} {e : Env} {s : State} {m : MethodId} {args : Array Value} {below : List Frame} {meth : Method} {c : Code} {Z : State} {a0 : Array Value} (B : Ctx p Z s a0 m meth c "com/example/search_suggest/searchsuggest/engine/LineTallySkippedPinLaw" "law" code 11 (some .boolean)) {T0 : State} {locs : List Loc} {h : Heap} (h0 : Heap) (n0 : Nat) (v0 : Int32) (v1 : Int32) (b0 : Addr) (v3 : Int64) (v5 : Int64) (bl : Addr) (en : Addr) (ma : Addr) (tl : Addr) (vals : Addr) (c4 : Addr) (b0_kept : Int64) (vals_k : ClassId) (vals_xs : List Value) (c4_k : ClassId) (c4_xs : List Int64) (X0 : Stand p l e room_1 s m args below meth c T0 locs 3 10) (e0 : T0.heap = h) (N0 : Fr n0 locs) (Z0 : n0 ≤ h.size) (E_bl : Exa Z h bl "com/example/search_suggest/searchsuggest/engine/SkipReason") (F_bl_ordinal : Fld Z h bl "java/lang/Enum" "ordinal" "I" (.int (0 : Int32))) (E_en : Exa Z h en "com/example/search_suggest/searchsuggest/engine/SkipReason") (F_en_ordinal : Fld Z h en "java/lang/Enum" "ordinal" "I" (.int (1 : Int32))) (E_ma : Exa Z h ma "com/example/search_suggest/searchsuggest/engine/SkipReason") (F_ma_ordinal : Fld Z h ma "java/lang/Enum" "ordinal" "I" (.int (2 : Int32))) (E_tl : Exa Z h tl "com/example/search_suggest/searchsuggest/engine/SkipReason") (F_tl_ordinal : Fld Z h tl "java/lang/Enum" "ordinal" "I" (.int (3 : Int32))) (E_b0 : Exa Z h b0 "com/example/search_suggest/searchsuggest/engine/LineTally") (F_b0_skipped : Fld Z h b0 "com/example/search_suggest/searchsuggest/engine/LineTally" "skipped" "[J" (.ref c4)) (F_b0_kept : Fld Z h b0 "com/example/search_suggest/searchsuggest/engine/LineTally" "kept" "J" (.long b0_kept)) (g_b0 : n0 ≤ b0) (V_vals : Arv Z h vals vals_k (.object "com/example/search_suggest/searchsuggest/engine/SkipReason") (4 : Int32) vals_xs .null) (E_vals : Exa Z h vals "[Lcom/example/search_suggest/searchsuggest/engine/SkipReason;") (V_c4 : Arv Z h c4 c4_k .long (4 : Int32) (c4_xs.map Value.long) (.long 0)) (ln_c4 : c4_xs.length = (4 : Int32).toNatClampNeg) (g_c4 : n0 ≤ c4) (ne_bl_b0 : bl ≠ b0) (ne_en_b0 : en ≠ b0) (ne_ma_b0 : ma ≠ b0) (ne_tl_b0 : tl ≠ b0) (ne_vals_b0 : vals ≠ b0) (ne_bl_c4 : bl ≠ c4) (ne_en_c4 : en ≠ c4) (ne_ma_c4 : ma ≠ c4) (ne_tl_c4 : tl ≠ c4) (ne_b0_c4 : b0 ≠ c4) (ne_vals_c4 : vals ≠ c4) (O : Old Z n0 h) (S_vals : Sta Z Z.heap "com/example/search_suggest/searchsuggest/engine/SkipReason" "$VALUES" "[Lcom/example/search_suggest/searchsuggest/engine/SkipReason;" (.ref vals)) (lt_vals : vals < n0) (S_bl : Sta Z Z.heap "com/example/search_suggest/searchsuggest/engine/SkipReason" "BLANK" "Lcom/example/search_suggest/searchsuggest/engine/SkipReason;" (.ref bl)) (S_en : Sta Z Z.heap "com/example/search_suggest/searchsuggest/engine/SkipReason" "ENCODING" "Lcom/example/search_suggest/searchsuggest/engine/SkipReason;" (.ref en)) (S_ma : Sta Z Z.heap "com/example/search_suggest/searchsuggest/engine/SkipReason" "MALFORMED" "Lcom/example/search_suggest/searchsuggest/engine/SkipReason;" (.ref ma)) (S_tl : Sta Z Z.heap "com/example/search_suggest/searchsuggest/engine/SkipReason" "TOO_LONG" "Lcom/example/search_suggest/searchsuggest/engine/SkipReason;" (.ref tl)) (lt_bl : bl < n0) (lt_en : en < n0) (lt_ma : ma < n0) (lt_tl : tl < n0) (r : Int32) (hr : f0_36 v0 v1 v3 v5 b0_kept c4_xs = r) :
    EndsIn p e below s 3 10 (Q0 n0 r) (T0.setTop (mkF m 36 #[.val (.int v0), .val (.int v1), .val (.ref b0), .val (.long v3), .second, .val (.long v5), .second, .unset, .unset, .unset, .unset] [])) := by
  obtain ⟨hx, hZ, hw, hby, hml, hret, hown, hnm, hlk⟩ := B
  unfold f0_36 at hr
  refine EndsIn.by (B := T0.setTop (mkF m 39 #[.val (.int v0), .val (.int v1), .val (.ref b0), .val (.long v3), .second, .val (.long v5), .second, .unset, .unset, .unset, .unset] [(.int (v0 &&& (2 : Int32)))])) (fun t k => ?_) ?_
  · show Steps p.tables e below (T0.setTop (mkF m 36 #[.val (.int v0), .val (.int v1), .val (.ref b0), .val (.long v3), .second, .val (.long v5), .second, .unset, .unset, .unset, .unset] [])) _
    refine XS.iloadN X0.here hx rfl (hb hby at_36) rfl  ?_
    show Steps p.tables e below (T0.setTop (mkF m 37 #[.val (.int v0), .val (.int v1), .val (.ref b0), .val (.long v3), .second, .val (.long v5), .second, .unset, .unset, .unset, .unset] [(.int v0)])) _
    refine XS.iconst X0.here hx rfl (hb hby at_37) ?_
    show Steps p.tables e below (T0.setTop (mkF m 38 #[.val (.int v0), .val (.int v1), .val (.ref b0), .val (.long v3), .second, .val (.long v5), .second, .unset, .unset, .unset, .unset] [(.int (2 : Int32)), (.int v0)])) _
    refine XS.iand X0.here hx rfl (hb hby at_38) rfl ?_
    exact k
  by_cases hc39 : (v0 &&& (2 : Int32)) = (0 : Int32)
  · rw [if_pos hc39] at hr
    refine EndsIn.by (B := T0.setTop (mkF m 46 #[.val (.int v0), .val (.int v1), .val (.ref b0), .val (.long v3), .second, .val (.long v5), .second, .unset, .unset, .unset, .unset] [])) (fun t k => ?_) ?_
    · show Steps p.tables e below (T0.setTop (mkF m 39 #[.val (.int v0), .val (.int v1), .val (.ref b0), .val (.long v3), .second, .val (.long v5), .second, .unset, .unset, .unset, .unset] [(.int (v0 &&& (2 : Int32)))])) _
      exact XS.ifYes X0.here hx rfl (pc0 := 39) (pc' := 46) rfl (hb hby at_39) rfl ((if0 _ _).trans (teq hc39).1) (by decide) (by decide) k
    exact b0_46 ⟨hx, hZ, hw, hby, hml, hret, hown, hnm, hlk⟩ h0 n0 v0 v1 b0 v3 v5 bl en ma tl vals c4 b0_kept vals_k vals_xs c4_k c4_xs X0 e0 N0 Z0 E_bl F_bl_ordinal E_en F_en_ordinal E_ma F_ma_ordinal E_tl F_tl_ordinal E_b0 F_b0_skipped F_b0_kept g_b0 V_vals E_vals V_c4 ln_c4 g_c4 ne_bl_b0 ne_en_b0 ne_ma_b0 ne_tl_b0 ne_vals_b0 ne_bl_c4 ne_en_c4 ne_ma_c4 ne_tl_c4 ne_b0_c4 ne_vals_c4 O S_vals lt_vals S_bl S_en S_ma S_tl lt_bl lt_en lt_ma lt_tl _ hr
  · rw [if_neg hc39] at hr
    refine EndsIn.by (B := T0.setTop (mkF m 42 #[.val (.int v0), .val (.int v1), .val (.ref b0), .val (.long v3), .second, .val (.long v5), .second, .unset, .unset, .unset, .unset] [])) (fun t k => ?_) ?_
    · show Steps p.tables e below (T0.setTop (mkF m 39 #[.val (.int v0), .val (.int v1), .val (.ref b0), .val (.long v3), .second, .val (.long v5), .second, .unset, .unset, .unset, .unset] [(.int (v0 &&& (2 : Int32)))])) _
      exact XS.ifNo X0.here hx rfl (hb hby at_39) rfl ((if0 _ _).trans (feq hc39).1) k
    refine EndsIn.by (B := T0.setTop (mkF m 43 #[.val (.int v0), .val (.int v1), .val (.ref b0), .val (.long v3), .second, .val (.long v5), .second, .unset, .unset, .unset, .unset] [(.ref b0)])) (fun t k => ?_) ?_
    · show Steps p.tables e below (T0.setTop (mkF m 42 #[.val (.int v0), .val (.int v1), .val (.ref b0), .val (.long v3), .second, .val (.long v5), .second, .unset, .unset, .unset, .unset] [])) _
      refine XS.aloadN X0.here hx rfl (hb hby at_42) rfl rfl ?_
      exact k
    -- pc 43: com/example/search_suggest/searchsuggest/engine/LineTally.countKept
    obtain ⟨cq11, kq11, q11a, q11b, q11c⟩ := isOf hZ e0 E_b0
    obtain ⟨_, _, ⟨T11, L11, k11, n11⟩, -, X11, ⟨Lc11, hQ11, l11, y11, z11⟩, st11⟩ := X0.virtualBack hx (y := (⟨"com/example/search_suggest/searchsuggest/engine/LineTally", "countKept", "()V"⟩ : MethodName)) (z := (⟨"com/example/search_suggest/searchsuggest/engine/LineTally", "countKept", "()V"⟩ : MethodName)) hown (mvT hZ (hw _ (List.mem_of_getElem? (i := 37) rfl))) (mvT hZ (hw _ (List.mem_of_getElem? (i := 38) rfl))) (notFace_of_selects (args := #[]) (mvT hZ (hw _ (List.mem_of_getElem? (i := 40) rfl)))) (mvT hZ (hw _ (List.mem_of_getElem? (i := 40) rfl))) (mvT hZ (hw _ (List.mem_of_getElem? (i := 39) rfl))) (by decide) (backOf (W := 0) (rm5 l Z a0 hw [] b0 (.ref c4) b0_kept h n0 Z0 E_b0 F_b0_skipped F_b0_kept g_b0) hZ (hw _ (List.mem_of_getElem? (i := 41) rfl)) (hw _ (List.mem_of_getElem? (i := 2) rfl)) (by decide) (by decide)) q11a q11c (g := (mkF m 43 #[.val (.int v0), .val (.int v1), .val (.ref b0), .val (.long v3), .second, .val (.long v5), .second, .unset, .unset, .unset, .unset] [(.ref b0)])) rfl (by rw [hml]; rfl) (Steps.refl _) (argsL := []) (rest := []) (lenOf pd_1 rfl) rfl (by show 2 * 0 + _ ≤ _; exact Nat.le_of_eq rfl) (hb hby at_43) (fun _ _ => ⟨rfl, e0, (by decide : 3 + R5.cells ≤ _), (by decide : 10 + R5.slots ≤ _)⟩)
    dsimp only [Pt.U, Pt.locs, Pt.cells, Pt.slots] at X11 l11 y11 z11 st11 hQ11
    subst l11 y11 z11
    obtain ⟨rfl, Nq11, Kq11, E_b0_11, F_b0_skipped_11, F_b0_kept_11⟩ := hQ11
    obtain ⟨h11, e11⟩ : ∃ z, T11.heap = z := ⟨_, rfl⟩
    rw [e11] at Kq11 E_b0_11 F_b0_skipped_11 F_b0_kept_11
    have N11 := Fr.app N0 Nq11
    have Z11 : n0 ≤ h11.size := Nat.le_trans Z0 Kq11.1
    have E_bl_11 := E_bl.keep Kq11
    have F_bl_ordinal_11 := F_bl_ordinal.keep Kq11 (ninS ne_bl_b0 nin0)
    have E_en_11 := E_en.keep Kq11
    have F_en_ordinal_11 := F_en_ordinal.keep Kq11 (ninS ne_en_b0 nin0)
    have E_ma_11 := E_ma.keep Kq11
    have F_ma_ordinal_11 := F_ma_ordinal.keep Kq11 (ninS ne_ma_b0 nin0)
    have E_tl_11 := E_tl.keep Kq11
    have F_tl_ordinal_11 := F_tl_ordinal.keep Kq11 (ninS ne_tl_b0 nin0)
    have V_vals_11 := V_vals.keep Kq11 (ninS ne_vals_b0 nin0)
    have E_vals_11 := E_vals.keep Kq11
    have V_c4_11 := V_c4.keep Kq11 (ninS (Ne.symm ne_b0_c4) nin0)
    have O11 := O.keep Kq11 (allS g_b0 all0)
    refine EndsIn.by (B := T11.setTop (mkF m 46 #[.val (.int v0), .val (.int v1), .val (.ref b0), .val (.long v3), .second, .val (.long v5), .second, .unset, .unset, .unset, .unset] [])) (fun t k => st11.trans k) ?_
    exact b0_46 ⟨hx, hZ, hw, hby, hml, hret, hown, hnm, hlk⟩ h0 n0 v0 v1 b0 v3 v5 bl en ma tl vals c4 (f5_0 b0_kept) vals_k vals_xs c4_k c4_xs X11 e11 N11 Z11 E_bl_11 F_bl_ordinal_11 E_en_11 F_en_ordinal_11 E_ma_11 F_ma_ordinal_11 E_tl_11 F_tl_ordinal_11 E_b0_11 F_b0_skipped_11 F_b0_kept_11 g_b0 V_vals_11 E_vals_11 V_c4_11 ln_c4 g_c4 ne_bl_b0 ne_en_b0 ne_ma_b0 ne_tl_b0 ne_vals_b0 ne_bl_c4 ne_en_c4 ne_ma_c4 ne_tl_c4 ne_b0_c4 ne_vals_c4 O11 S_vals lt_vals S_bl S_en S_ma S_tl lt_bl lt_en lt_ma lt_tl _ hr
def f0_30 (v0 : Int32) (v1 : Int32) (v3 : Int64) (v5 : Int64) (b0_kept : Int64) (c4_xs : List Int64) : Int32 := (f0_36 v0 v1 v3 (v5 + (1 : Int64)) b0_kept c4_xs)
set_option maxRecDepth 65536 in
set_option maxHeartbeats 40000000 in
theorem b0_30 {p : Program} {l : Launch} {e : Env} {s : State} {m : MethodId} {args : Array Value} {below : List Frame} {meth : Method} {c : Code} {Z : State} {a0 : Array Value} (B : Ctx p Z s a0 m meth c "com/example/search_suggest/searchsuggest/engine/LineTallySkippedPinLaw" "law" code 11 (some .boolean)) {T0 : State} {locs : List Loc} {h : Heap} (h0 : Heap) (n0 : Nat) (v0 : Int32) (v1 : Int32) (b0 : Addr) (v3 : Int64) (v5 : Int64) (bl : Addr) (en : Addr) (ma : Addr) (tl : Addr) (vals : Addr) (c4 : Addr) (b0_kept : Int64) (vals_k : ClassId) (vals_xs : List Value) (c4_k : ClassId) (c4_xs : List Int64) (X0 : Stand p l e room_1 s m args below meth c T0 locs 3 10) (e0 : T0.heap = h) (N0 : Fr n0 locs) (Z0 : n0 ≤ h.size) (E_bl : Exa Z h bl "com/example/search_suggest/searchsuggest/engine/SkipReason") (F_bl_ordinal : Fld Z h bl "java/lang/Enum" "ordinal" "I" (.int (0 : Int32))) (E_en : Exa Z h en "com/example/search_suggest/searchsuggest/engine/SkipReason") (F_en_ordinal : Fld Z h en "java/lang/Enum" "ordinal" "I" (.int (1 : Int32))) (E_ma : Exa Z h ma "com/example/search_suggest/searchsuggest/engine/SkipReason") (F_ma_ordinal : Fld Z h ma "java/lang/Enum" "ordinal" "I" (.int (2 : Int32))) (E_tl : Exa Z h tl "com/example/search_suggest/searchsuggest/engine/SkipReason") (F_tl_ordinal : Fld Z h tl "java/lang/Enum" "ordinal" "I" (.int (3 : Int32))) (E_b0 : Exa Z h b0 "com/example/search_suggest/searchsuggest/engine/LineTally") (F_b0_skipped : Fld Z h b0 "com/example/search_suggest/searchsuggest/engine/LineTally" "skipped" "[J" (.ref c4)) (F_b0_kept : Fld Z h b0 "com/example/search_suggest/searchsuggest/engine/LineTally" "kept" "J" (.long b0_kept)) (g_b0 : n0 ≤ b0) (V_vals : Arv Z h vals vals_k (.object "com/example/search_suggest/searchsuggest/engine/SkipReason") (4 : Int32) vals_xs .null) (E_vals : Exa Z h vals "[Lcom/example/search_suggest/searchsuggest/engine/SkipReason;") (V_c4 : Arv Z h c4 c4_k .long (4 : Int32) (c4_xs.map Value.long) (.long 0)) (ln_c4 : c4_xs.length = (4 : Int32).toNatClampNeg) (g_c4 : n0 ≤ c4) (ne_bl_b0 : bl ≠ b0) (ne_en_b0 : en ≠ b0) (ne_ma_b0 : ma ≠ b0) (ne_tl_b0 : tl ≠ b0) (ne_vals_b0 : vals ≠ b0) (ne_bl_c4 : bl ≠ c4) (ne_en_c4 : en ≠ c4) (ne_ma_c4 : ma ≠ c4) (ne_tl_c4 : tl ≠ c4) (ne_b0_c4 : b0 ≠ c4) (ne_vals_c4 : vals ≠ c4) (O : Old Z n0 h) (S_vals : Sta Z Z.heap "com/example/search_suggest/searchsuggest/engine/SkipReason" "$VALUES" "[Lcom/example/search_suggest/searchsuggest/engine/SkipReason;" (.ref vals)) (lt_vals : vals < n0) (S_bl : Sta Z Z.heap "com/example/search_suggest/searchsuggest/engine/SkipReason" "BLANK" "Lcom/example/search_suggest/searchsuggest/engine/SkipReason;" (.ref bl)) (S_en : Sta Z Z.heap "com/example/search_suggest/searchsuggest/engine/SkipReason" "ENCODING" "Lcom/example/search_suggest/searchsuggest/engine/SkipReason;" (.ref en)) (S_ma : Sta Z Z.heap "com/example/search_suggest/searchsuggest/engine/SkipReason" "MALFORMED" "Lcom/example/search_suggest/searchsuggest/engine/SkipReason;" (.ref ma)) (S_tl : Sta Z Z.heap "com/example/search_suggest/searchsuggest/engine/SkipReason" "TOO_LONG" "Lcom/example/search_suggest/searchsuggest/engine/SkipReason;" (.ref tl)) (lt_bl : bl < n0) (lt_en : en < n0) (lt_ma : ma < n0) (lt_tl : tl < n0) (r : Int32) (hr : f0_30 v0 v1 v3 v5 b0_kept c4_xs = r) :
    EndsIn p e below s 3 10 (Q0 n0 r) (T0.setTop (mkF m 30 #[.val (.int v0), .val (.int v1), .val (.ref b0), .val (.long v3), .second, .val (.long v5), .second, .unset, .unset, .unset, .unset] [])) := by
  obtain ⟨hx, hZ, hw, hby, hml, hret, hown, hnm, hlk⟩ := B
  unfold f0_30 at hr
  refine EndsIn.by (B := T0.setTop (mkF m 36 #[.val (.int v0), .val (.int v1), .val (.ref b0), .val (.long v3), .second, .val (.long (v5 + (1 : Int64))), .second, .unset, .unset, .unset, .unset] [])) (fun t k => ?_) ?_
  · show Steps p.tables e below (T0.setTop (mkF m 30 #[.val (.int v0), .val (.int v1), .val (.ref b0), .val (.long v3), .second, .val (.long v5), .second, .unset, .unset, .unset, .unset] [])) _
    refine XS.lload X0.here hx rfl (hb hby at_30) rfl  ?_
    show Steps p.tables e below (T0.setTop (mkF m 32 #[.val (.int v0), .val (.int v1), .val (.ref b0), .val (.long v3), .second, .val (.long v5), .second, .unset, .unset, .unset, .unset] [(.long v5)])) _
    refine XS.lconst X0.here hx rfl (hb hby at_32) ?_
    show Steps p.tables e below (T0.setTop (mkF m 33 #[.val (.int v0), .val (.int v1), .val (.ref b0), .val (.long v3), .second, .val (.long v5), .second, .unset, .unset, .unset, .unset] [(.long (1 : Int64)), (.long v5)])) _
    refine XS.ladd X0.here hx rfl (hb hby at_33) rfl ?_
    show Steps p.tables e below (T0.setTop (mkF m 34 #[.val (.int v0), .val (.int v1), .val (.ref b0), .val (.long v3), .second, .val (.long v5), .second, .unset, .unset, .unset, .unset] [(.long (v5 + (1 : Int64)))])) _
    refine XS.lstore X0.here hx rfl (hb hby at_34) rfl (l' := #[.val (.int v0), .val (.int v1), .val (.ref b0), .val (.long v3), .second, .val (.long (v5 + (1 : Int64))), .second, .unset, .unset, .unset, .unset]) rfl ?_
    exact k
  exact b0_36 ⟨hx, hZ, hw, hby, hml, hret, hown, hnm, hlk⟩ h0 n0 v0 v1 b0 v3 (v5 + (1 : Int64)) bl en ma tl vals c4 b0_kept vals_k vals_xs c4_k c4_xs X0 e0 N0 Z0 E_bl F_bl_ordinal E_en F_en_ordinal E_ma F_ma_ordinal E_tl F_tl_ordinal E_b0 F_b0_skipped F_b0_kept g_b0 V_vals E_vals V_c4 ln_c4 g_c4 ne_bl_b0 ne_en_b0 ne_ma_b0 ne_tl_b0 ne_vals_b0 ne_bl_c4 ne_en_c4 ne_ma_c4 ne_tl_c4 ne_b0_c4 ne_vals_c4 O S_vals lt_vals S_bl S_en S_ma S_tl lt_bl lt_en lt_ma lt_tl _ hr
def f0_7 (v0 : Int32) (v1 : Int32) (b0_kept : Int64) (c4_xs : List Int64) : Int32 := (if (v0 &&& (1 : Int32)) = (0 : Int32) then (f0_36 v0 v1 (f4_0 b0_kept c4_xs) (0 : Int64) b0_kept c4_xs) else (f0_30 v0 v1 (f4_0 b0_kept c4_xs) (0 : Int64) b0_kept (f7_0 b0_kept (f6_0 v1) c4_xs)))
set_option maxRecDepth 65536 in
set_option maxHeartbeats 40000000 in
theorem b0_7 {p : Program} {l : Launch} {e : Env} {s : State} {m : MethodId} {args : Array Value} {below : List Frame} {meth : Method} {c : Code} {Z : State} {a0 : Array Value} (B : Ctx p Z s a0 m meth c "com/example/search_suggest/searchsuggest/engine/LineTallySkippedPinLaw" "law" code 11 (some .boolean)) {T0 : State} {locs : List Loc} {h : Heap} (h0 : Heap) (n0 : Nat) (v0 : Int32) (v1 : Int32) (b0 : Addr) (bl : Addr) (en : Addr) (ma : Addr) (tl : Addr) (vals : Addr) (c4 : Addr) (b0_kept : Int64) (vals_k : ClassId) (vals_xs : List Value) (c4_k : ClassId) (c4_xs : List Int64) (X0 : Stand p l e room_1 s m args below meth c T0 locs 3 10) (e0 : T0.heap = h) (N0 : Fr n0 locs) (Z0 : n0 ≤ h.size) (E_bl : Exa Z h bl "com/example/search_suggest/searchsuggest/engine/SkipReason") (F_bl_ordinal : Fld Z h bl "java/lang/Enum" "ordinal" "I" (.int (0 : Int32))) (E_en : Exa Z h en "com/example/search_suggest/searchsuggest/engine/SkipReason") (F_en_ordinal : Fld Z h en "java/lang/Enum" "ordinal" "I" (.int (1 : Int32))) (E_ma : Exa Z h ma "com/example/search_suggest/searchsuggest/engine/SkipReason") (F_ma_ordinal : Fld Z h ma "java/lang/Enum" "ordinal" "I" (.int (2 : Int32))) (E_tl : Exa Z h tl "com/example/search_suggest/searchsuggest/engine/SkipReason") (F_tl_ordinal : Fld Z h tl "java/lang/Enum" "ordinal" "I" (.int (3 : Int32))) (E_b0 : Exa Z h b0 "com/example/search_suggest/searchsuggest/engine/LineTally") (F_b0_skipped : Fld Z h b0 "com/example/search_suggest/searchsuggest/engine/LineTally" "skipped" "[J" (.ref c4)) (F_b0_kept : Fld Z h b0 "com/example/search_suggest/searchsuggest/engine/LineTally" "kept" "J" (.long b0_kept)) (g_b0 : n0 ≤ b0) (V_vals : Arv Z h vals vals_k (.object "com/example/search_suggest/searchsuggest/engine/SkipReason") (4 : Int32) vals_xs .null) (E_vals : Exa Z h vals "[Lcom/example/search_suggest/searchsuggest/engine/SkipReason;") (V_c4 : Arv Z h c4 c4_k .long (4 : Int32) (c4_xs.map Value.long) (.long 0)) (ln_c4 : c4_xs.length = (4 : Int32).toNatClampNeg) (g_c4 : n0 ≤ c4) (ne_bl_b0 : bl ≠ b0) (ne_en_b0 : en ≠ b0) (ne_ma_b0 : ma ≠ b0) (ne_tl_b0 : tl ≠ b0) (ne_vals_b0 : vals ≠ b0) (ne_bl_c4 : bl ≠ c4) (ne_en_c4 : en ≠ c4) (ne_ma_c4 : ma ≠ c4) (ne_tl_c4 : tl ≠ c4) (ne_b0_c4 : b0 ≠ c4) (ne_vals_c4 : vals ≠ c4) (O : Old Z n0 h) (S_vals : Sta Z Z.heap "com/example/search_suggest/searchsuggest/engine/SkipReason" "$VALUES" "[Lcom/example/search_suggest/searchsuggest/engine/SkipReason;" (.ref vals)) (lt_vals : vals < n0) (S_bl : Sta Z Z.heap "com/example/search_suggest/searchsuggest/engine/SkipReason" "BLANK" "Lcom/example/search_suggest/searchsuggest/engine/SkipReason;" (.ref bl)) (S_en : Sta Z Z.heap "com/example/search_suggest/searchsuggest/engine/SkipReason" "ENCODING" "Lcom/example/search_suggest/searchsuggest/engine/SkipReason;" (.ref en)) (S_ma : Sta Z Z.heap "com/example/search_suggest/searchsuggest/engine/SkipReason" "MALFORMED" "Lcom/example/search_suggest/searchsuggest/engine/SkipReason;" (.ref ma)) (S_tl : Sta Z Z.heap "com/example/search_suggest/searchsuggest/engine/SkipReason" "TOO_LONG" "Lcom/example/search_suggest/searchsuggest/engine/SkipReason;" (.ref tl)) (lt_bl : bl < n0) (lt_en : en < n0) (lt_ma : ma < n0) (lt_tl : tl < n0) (r : Int32) (hr : f0_7 v0 v1 b0_kept c4_xs = r) :
    EndsIn p e below s 3 10 (Q0 n0 r) (T0.setTop (mkF m 7 #[.val (.int v0), .val (.int v1), .unset, .unset, .unset, .unset, .unset, .unset, .unset, .unset, .unset] [(.ref b0)])) := by
  obtain ⟨hx, hZ, hw, hby, hml, hret, hown, hnm, hlk⟩ := B
  unfold f0_7 at hr
  refine EndsIn.by (B := T0.setTop (mkF m 9 #[.val (.int v0), .val (.int v1), .val (.ref b0), .unset, .unset, .unset, .unset, .unset, .unset, .unset, .unset] [(.ref b0)])) (fun t k => ?_) ?_
  · show Steps p.tables e below (T0.setTop (mkF m 7 #[.val (.int v0), .val (.int v1), .unset, .unset, .unset, .unset, .unset, .unset, .unset, .unset, .unset] [(.ref b0)])) _
    refine XS.astoreN X0.here hx rfl (hb hby at_7) rfl rfl (l' := #[.val (.int v0), .val (.int v1), .val (.ref b0), .unset, .unset, .unset, .unset, .unset, .unset, .unset, .unset]) rfl ?_
    show Steps p.tables e below (T0.setTop (mkF m 8 #[.val (.int v0), .val (.int v1), .val (.ref b0), .unset, .unset, .unset, .unset, .unset, .unset, .unset, .unset] [])) _
    refine XS.aloadN X0.here hx rfl (hb hby at_8) rfl rfl ?_
    exact k
  -- pc 9: com/example/search_suggest/searchsuggest/engine/LineTally.skipped
  obtain ⟨cq3, kq3, q3a, q3b, q3c⟩ := isOf hZ e0 E_b0
  obtain ⟨_, _, ⟨T3, L3, k3, n3⟩, -, X3, ⟨Lc3, hQ3, l3, y3, z3⟩, st3⟩ := X0.virtualBack hx (y := (⟨"com/example/search_suggest/searchsuggest/engine/LineTally", "skipped", "()J"⟩ : MethodName)) (z := (⟨"com/example/search_suggest/searchsuggest/engine/LineTally", "skipped", "()J"⟩ : MethodName)) hown (mvT hZ (hw _ (List.mem_of_getElem? (i := 32) rfl))) (mvT hZ (hw _ (List.mem_of_getElem? (i := 33) rfl))) (notFace_of_selects (args := #[]) (mvT hZ (hw _ (List.mem_of_getElem? (i := 35) rfl)))) (mvT hZ (hw _ (List.mem_of_getElem? (i := 35) rfl))) (mvT hZ (hw _ (List.mem_of_getElem? (i := 34) rfl))) (by decide) (backOf (W := 0) (rm4 l Z a0 hw [] b0 c4 b0_kept c4_k c4_xs h n0 Z0 E_b0 F_b0_skipped F_b0_kept V_c4 ln_c4) hZ (hw _ (List.mem_of_getElem? (i := 36) rfl)) (hw _ (List.mem_of_getElem? (i := 2) rfl)) (by decide) (by decide)) q3a q3c (g := (mkF m 9 #[.val (.int v0), .val (.int v1), .val (.ref b0), .unset, .unset, .unset, .unset, .unset, .unset, .unset, .unset] [(.ref b0)])) rfl (by rw [hml]; rfl) (Steps.refl _) (argsL := []) (rest := []) (lenOf pd_2 rfl) rfl (by show 2 * 0 + _ ≤ _; exact Nat.le_of_eq rfl) (hb hby at_9) (fun _ _ => ⟨rfl, e0, (by decide : 3 + R4.cells ≤ _), (by decide : 10 + R4.slots ≤ _)⟩)
  dsimp only [Pt.U, Pt.locs, Pt.cells, Pt.slots] at X3 l3 y3 z3 st3 hQ3
  subst l3 y3 z3
  obtain ⟨rfl, Nq3, e3⟩ := hQ3
  have N3 := Fr.app N0 Nq3
  refine EndsIn.by (B := T3.setTop (mkF m 12 #[.val (.int v0), .val (.int v1), .val (.ref b0), .unset, .unset, .unset, .unset, .unset, .unset, .unset, .unset] [(.long (f4_0 b0_kept c4_xs))])) (fun t k => st3.trans k) ?_
  refine EndsIn.by (B := T3.setTop (mkF m 19 #[.val (.int v0), .val (.int v1), .val (.ref b0), .val (.long (f4_0 b0_kept c4_xs)), .second, .val (.long (0 : Int64)), .second, .unset, .unset, .unset, .unset] [(.int (v0 &&& (1 : Int32)))])) (fun t k => ?_) ?_
  · show Steps p.tables e below (T3.setTop (mkF m 12 #[.val (.int v0), .val (.int v1), .val (.ref b0), .unset, .unset, .unset, .unset, .unset, .unset, .unset, .unset] [(.long (f4_0 b0_kept c4_xs))])) _
    refine XS.lstoreN X3.here hx rfl (hb hby at_12) rfl (l' := #[.val (.int v0), .val (.int v1), .val (.ref b0), .val (.long (f4_0 b0_kept c4_xs)), .second, .unset, .unset, .unset, .unset, .unset, .unset]) rfl ?_
    show Steps p.tables e below (T3.setTop (mkF m 13 #[.val (.int v0), .val (.int v1), .val (.ref b0), .val (.long (f4_0 b0_kept c4_xs)), .second, .unset, .unset, .unset, .unset, .unset, .unset] [])) _
    refine XS.lconst X3.here hx rfl (hb hby at_13) ?_
    show Steps p.tables e below (T3.setTop (mkF m 14 #[.val (.int v0), .val (.int v1), .val (.ref b0), .val (.long (f4_0 b0_kept c4_xs)), .second, .unset, .unset, .unset, .unset, .unset, .unset] [(.long (0 : Int64))])) _
    refine XS.lstore X3.here hx rfl (hb hby at_14) rfl (l' := #[.val (.int v0), .val (.int v1), .val (.ref b0), .val (.long (f4_0 b0_kept c4_xs)), .second, .val (.long (0 : Int64)), .second, .unset, .unset, .unset, .unset]) rfl ?_
    show Steps p.tables e below (T3.setTop (mkF m 16 #[.val (.int v0), .val (.int v1), .val (.ref b0), .val (.long (f4_0 b0_kept c4_xs)), .second, .val (.long (0 : Int64)), .second, .unset, .unset, .unset, .unset] [])) _
    refine XS.iloadN X3.here hx rfl (hb hby at_16) rfl  ?_
    show Steps p.tables e below (T3.setTop (mkF m 17 #[.val (.int v0), .val (.int v1), .val (.ref b0), .val (.long (f4_0 b0_kept c4_xs)), .second, .val (.long (0 : Int64)), .second, .unset, .unset, .unset, .unset] [(.int v0)])) _
    refine XS.iconst X3.here hx rfl (hb hby at_17) ?_
    show Steps p.tables e below (T3.setTop (mkF m 18 #[.val (.int v0), .val (.int v1), .val (.ref b0), .val (.long (f4_0 b0_kept c4_xs)), .second, .val (.long (0 : Int64)), .second, .unset, .unset, .unset, .unset] [(.int (1 : Int32)), (.int v0)])) _
    refine XS.iand X3.here hx rfl (hb hby at_18) rfl ?_
    exact k
  by_cases hc19 : (v0 &&& (1 : Int32)) = (0 : Int32)
  · rw [if_pos hc19] at hr
    refine EndsIn.by (B := T3.setTop (mkF m 36 #[.val (.int v0), .val (.int v1), .val (.ref b0), .val (.long (f4_0 b0_kept c4_xs)), .second, .val (.long (0 : Int64)), .second, .unset, .unset, .unset, .unset] [])) (fun t k => ?_) ?_
    · show Steps p.tables e below (T3.setTop (mkF m 19 #[.val (.int v0), .val (.int v1), .val (.ref b0), .val (.long (f4_0 b0_kept c4_xs)), .second, .val (.long (0 : Int64)), .second, .unset, .unset, .unset, .unset] [(.int (v0 &&& (1 : Int32)))])) _
      exact XS.ifYes X3.here hx rfl (pc0 := 19) (pc' := 36) rfl (hb hby at_19) rfl ((if0 _ _).trans (teq hc19).1) (by decide) (by decide) k
    exact b0_36 ⟨hx, hZ, hw, hby, hml, hret, hown, hnm, hlk⟩ h0 n0 v0 v1 b0 (f4_0 b0_kept c4_xs) (0 : Int64) bl en ma tl vals c4 b0_kept vals_k vals_xs c4_k c4_xs X3 e3 N3 Z0 E_bl F_bl_ordinal E_en F_en_ordinal E_ma F_ma_ordinal E_tl F_tl_ordinal E_b0 F_b0_skipped F_b0_kept g_b0 V_vals E_vals V_c4 ln_c4 g_c4 ne_bl_b0 ne_en_b0 ne_ma_b0 ne_tl_b0 ne_vals_b0 ne_bl_c4 ne_en_c4 ne_ma_c4 ne_tl_c4 ne_b0_c4 ne_vals_c4 O S_vals lt_vals S_bl S_en S_ma S_tl lt_bl lt_en lt_ma lt_tl _ hr
  · rw [if_neg hc19] at hr
    refine EndsIn.by (B := T3.setTop (mkF m 22 #[.val (.int v0), .val (.int v1), .val (.ref b0), .val (.long (f4_0 b0_kept c4_xs)), .second, .val (.long (0 : Int64)), .second, .unset, .unset, .unset, .unset] [])) (fun t k => ?_) ?_
    · show Steps p.tables e below (T3.setTop (mkF m 19 #[.val (.int v0), .val (.int v1), .val (.ref b0), .val (.long (f4_0 b0_kept c4_xs)), .second, .val (.long (0 : Int64)), .second, .unset, .unset, .unset, .unset] [(.int (v0 &&& (1 : Int32)))])) _
      exact XS.ifNo X3.here hx rfl (hb hby at_19) rfl ((if0 _ _).trans (feq hc19).1) k
    refine EndsIn.by (B := T3.setTop (mkF m 24 #[.val (.int v0), .val (.int v1), .val (.ref b0), .val (.long (f4_0 b0_kept c4_xs)), .second, .val (.long (0 : Int64)), .second, .unset, .unset, .unset, .unset] [(.int v1), (.ref b0)])) (fun t k => ?_) ?_
    · show Steps p.tables e below (T3.setTop (mkF m 22 #[.val (.int v0), .val (.int v1), .val (.ref b0), .val (.long (f4_0 b0_kept c4_xs)), .second, .val (.long (0 : Int64)), .second, .unset, .unset, .unset, .unset] [])) _
      refine XS.aloadN X3.here hx rfl (hb hby at_22) rfl rfl ?_
      show Steps p.tables e below (T3.setTop (mkF m 23 #[.val (.int v0), .val (.int v1), .val (.ref b0), .val (.long (f4_0 b0_kept c4_xs)), .second, .val (.long (0 : Int64)), .second, .unset, .unset, .unset, .unset] [(.ref b0)])) _
      refine XS.iloadN X3.here hx rfl (hb hby at_23) rfl  ?_
      exact k
    -- pc 24: com/example/search_suggest/searchsuggest/engine/LineTallySkippedPinLaw.pick
    obtain ⟨_, _, ⟨T12, L12, k12, n12⟩, -, X12, ⟨Lc12, hQ12, l12, y12, z12⟩, st12⟩ := Jvm.LawKit.callS X3 hx (y := (⟨"com/example/search_suggest/searchsuggest/engine/LineTallySkippedPinLaw", "pick", "(I)Lcom/example/search_suggest/searchsuggest/engine/SkipReason;"⟩ : MethodName)) hown (mvT hZ (hw _ (List.mem_of_getElem? (i := 44) rfl))) (mvT hZ (hw _ (List.mem_of_getElem? (i := 45) rfl))) (mvT hZ (hw _ (List.mem_of_getElem? (i := 46) rfl))) (mvT hZ (hw _ (List.mem_of_getElem? (i := 47) rfl))) (by decide) (backOf (W := 1) (rm6 l Z a0 hw [] v1 bl en ma tl h n0 Z0 E_bl F_bl_ordinal E_en F_en_ordinal E_ma F_ma_ordinal E_tl F_tl_ordinal O S_bl S_en S_ma S_tl lt_bl lt_en lt_ma lt_tl) hZ (hw _ (List.mem_of_getElem? (i := 47) rfl)) (hw _ (List.mem_of_getElem? (i := 46) rfl)) (by decide) (by decide)) (g := (mkF m 24 #[.val (.int v0), .val (.int v1), .val (.ref b0), .val (.long (f4_0 b0_kept c4_xs)), .second, .val (.long (0 : Int64)), .second, .unset, .unset, .unset, .unset] [(.int v1), (.ref b0)])) rfl (by rw [hml]; rfl) (argsL := [(.int v1)]) (rest := [(.ref b0)]) (lenOf pd_3 rfl) rfl (by show 2 * 0 + _ ≤ _; exact Nat.le_of_eq rfl) (hb hby at_24) (fun _ _ => ⟨rfl, e3, (by decide : 3 + R6.cells ≤ _), (by decide : 10 + R6.slots ≤ _)⟩)
    dsimp only [Pt.U, Pt.locs, Pt.cells, Pt.slots] at X12 l12 y12 z12 st12 hQ12
    subst l12 y12 z12
    obtain ⟨c24, rfl, Nq12, e12, Eb_12, Fb_12, ltb_12⟩ := hQ12
    have N12 := Fr.app N3 Nq12
    rw [e12] at Eb_12 Fb_12
    have ne_c24_b0 : c24 ≠ b0 := Nat.ne_of_lt (Nat.lt_of_lt_of_le ltb_12 g_b0)
    have ne_c24_c4 : c24 ≠ c4 := Nat.ne_of_lt (Nat.lt_of_lt_of_le ltb_12 g_c4)
    refine EndsIn.by (B := T12.setTop (mkF m 27 #[.val (.int v0), .val (.int v1), .val (.ref b0), .val (.long (f4_0 b0_kept c4_xs)), .second, .val (.long (0 : Int64)), .second, .unset, .unset, .unset, .unset] [(.ref c24), (.ref b0)])) (fun t k => st12 t k) ?_
    have hp13_hi : ¬ ((f6_0 v1) < (0 : Int32)) ∧ (f6_0 v1) < (4 : Int32) := own_ord _
    -- pc 27: com/example/search_suggest/searchsuggest/engine/LineTally.countSkipped
    obtain ⟨cq13, kq13, q13a, q13b, q13c⟩ := isOf hZ e12 E_b0
    obtain ⟨_, _, ⟨T13, L13, k13, n13⟩, -, X13, ⟨Lc13, hQ13, l13, y13, z13⟩, st13⟩ := X12.virtualBack hx (y := (⟨"com/example/search_suggest/searchsuggest/engine/LineTally", "countSkipped", "(Lcom/example/search_suggest/searchsuggest/engine/SkipReason;)V"⟩ : MethodName)) (z := (⟨"com/example/search_suggest/searchsuggest/engine/LineTally", "countSkipped", "(Lcom/example/search_suggest/searchsuggest/engine/SkipReason;)V"⟩ : MethodName)) hown (mvT hZ (hw _ (List.mem_of_getElem? (i := 49) rfl))) (mvT hZ (hw _ (List.mem_of_getElem? (i := 50) rfl))) (notFace_of_selects (args := #[]) (mvT hZ (hw _ (List.mem_of_getElem? (i := 52) rfl)))) (mvT hZ (hw _ (List.mem_of_getElem? (i := 52) rfl))) (mvT hZ (hw _ (List.mem_of_getElem? (i := 51) rfl))) (by decide) (backOf (W := 0) (rm7 l Z a0 hw [] b0 c24 c4 b0_kept (f6_0 v1) c4_k c4_xs h n0 Z0 E_b0 F_b0_skipped F_b0_kept Eb_12 Fb_12 V_c4 ln_c4 g_c4 ne_b0_c4 ne_c24_c4 hp13_hi) hZ (hw _ (List.mem_of_getElem? (i := 53) rfl)) (hw _ (List.mem_of_getElem? (i := 2) rfl)) (by decide) (by decide)) q13a q13c (g := (mkF m 27 #[.val (.int v0), .val (.int v1), .val (.ref b0), .val (.long (f4_0 b0_kept c4_xs)), .second, .val (.long (0 : Int64)), .second, .unset, .unset, .unset, .unset] [(.ref c24), (.ref b0)])) rfl (by rw [hml]; rfl) (Steps.refl _) (argsL := [(.ref c24)]) (rest := []) (lenOf pd_5 rfl) rfl (by show 2 * 0 + _ ≤ _; exact Nat.le_of_eq rfl) (hb hby at_27) (fun _ _ => ⟨rfl, e12, (by decide : 3 + R7.cells ≤ _), (by decide : 10 + R7.slots ≤ _)⟩)
    dsimp only [Pt.U, Pt.locs, Pt.cells, Pt.slots] at X13 l13 y13 z13 st13 hQ13
    subst l13 y13 z13
    obtain ⟨rfl, Nq13, Kq13, V_c4_13, ln_c4_13⟩ := hQ13
    obtain ⟨h13, e13⟩ : ∃ z, T13.heap = z := ⟨_, rfl⟩
    rw [e13] at Kq13 V_c4_13
    have N13 := Fr.app N12 Nq13
    have Z13 : n0 ≤ h13.size := Nat.le_trans Z0 Kq13.1
    have E_bl_13 := E_bl.keep Kq13
    have F_bl_ordinal_13 := F_bl_ordinal.keep Kq13 (ninS ne_bl_c4 nin0)
    have E_en_13 := E_en.keep Kq13
    have F_en_ordinal_13 := F_en_ordinal.keep Kq13 (ninS ne_en_c4 nin0)
    have E_ma_13 := E_ma.keep Kq13
    have F_ma_ordinal_13 := F_ma_ordinal.keep Kq13 (ninS ne_ma_c4 nin0)
    have E_tl_13 := E_tl.keep Kq13
    have F_tl_ordinal_13 := F_tl_ordinal.keep Kq13 (ninS ne_tl_c4 nin0)
    have E_b0_13 := E_b0.keep Kq13
    have F_b0_skipped_13 := F_b0_skipped.keep Kq13 (ninS ne_b0_c4 nin0)
    have F_b0_kept_13 := F_b0_kept.keep Kq13 (ninS ne_b0_c4 nin0)
    have E_c24_13 := Eb_12.keep Kq13
    have F_c24_ordinal_13 := Fb_12.keep Kq13 (ninS ne_c24_c4 nin0)
    have V_vals_13 := V_vals.keep Kq13 (ninS ne_vals_c4 nin0)
    have E_vals_13 := E_vals.keep Kq13
    have O13 := O.keep Kq13 (allS g_c4 all0)
    refine EndsIn.by (B := T13.setTop (mkF m 30 #[.val (.int v0), .val (.int v1), .val (.ref b0), .val (.long (f4_0 b0_kept c4_xs)), .second, .val (.long (0 : Int64)), .second, .unset, .unset, .unset, .unset] [])) (fun t k => st13.trans k) ?_
    exact b0_30 ⟨hx, hZ, hw, hby, hml, hret, hown, hnm, hlk⟩ h0 n0 v0 v1 b0 (f4_0 b0_kept c4_xs) (0 : Int64) bl en ma tl vals c4 b0_kept vals_k vals_xs c4_k (f7_0 b0_kept (f6_0 v1) c4_xs) (X13.more (by decide) (by decide)) e13 N13 Z13 E_bl_13 F_bl_ordinal_13 E_en_13 F_en_ordinal_13 E_ma_13 F_ma_ordinal_13 E_tl_13 F_tl_ordinal_13 E_b0_13 F_b0_skipped_13 F_b0_kept_13 g_b0 V_vals_13 E_vals_13 V_c4_13 ln_c4_13 g_c4 ne_bl_b0 ne_en_b0 ne_ma_b0 ne_tl_b0 ne_vals_b0 ne_bl_c4 ne_en_c4 ne_ma_c4 ne_tl_c4 ne_b0_c4 ne_vals_c4 O13 S_vals lt_vals S_bl S_en S_ma S_tl lt_bl lt_en lt_ma lt_tl _ hr
def f0_0 (v0 : Int32) (v1 : Int32) : Int32 := (f0_7 v0 v1 ((f1_0 (0 : Int64)).1) ((f1_0 (0 : Int64)).2))
set_option maxRecDepth 65536 in
set_option maxHeartbeats 40000000 in
theorem b0_0 {p : Program} {l : Launch} {e : Env} {s : State} {m : MethodId} {args : Array Value} {below : List Frame} {meth : Method} {c : Code} {Z : State} {a0 : Array Value} (B : Ctx p Z s a0 m meth c "com/example/search_suggest/searchsuggest/engine/LineTallySkippedPinLaw" "law" code 11 (some .boolean)) {T0 : State} {locs : List Loc} {h : Heap} (h0 : Heap) (n0 : Nat) (v0 : Int32) (v1 : Int32) (bl : Addr) (en : Addr) (ma : Addr) (tl : Addr) (vals : Addr) (vals_k : ClassId) (vals_xs : List Value) (X0 : Stand p l e room_1 s m args below meth c T0 locs 0 0) (e0 : T0.heap = h) (N0 : Fr n0 locs) (Z0 : n0 ≤ h.size) (E_bl : Exa Z h bl "com/example/search_suggest/searchsuggest/engine/SkipReason") (F_bl_ordinal : Fld Z h bl "java/lang/Enum" "ordinal" "I" (.int (0 : Int32))) (E_en : Exa Z h en "com/example/search_suggest/searchsuggest/engine/SkipReason") (F_en_ordinal : Fld Z h en "java/lang/Enum" "ordinal" "I" (.int (1 : Int32))) (E_ma : Exa Z h ma "com/example/search_suggest/searchsuggest/engine/SkipReason") (F_ma_ordinal : Fld Z h ma "java/lang/Enum" "ordinal" "I" (.int (2 : Int32))) (E_tl : Exa Z h tl "com/example/search_suggest/searchsuggest/engine/SkipReason") (F_tl_ordinal : Fld Z h tl "java/lang/Enum" "ordinal" "I" (.int (3 : Int32))) (V_vals : Arv Z h vals vals_k (.object "com/example/search_suggest/searchsuggest/engine/SkipReason") (4 : Int32) vals_xs .null) (E_vals : Exa Z h vals "[Lcom/example/search_suggest/searchsuggest/engine/SkipReason;") (O : Old Z n0 h) (S_vals : Sta Z Z.heap "com/example/search_suggest/searchsuggest/engine/SkipReason" "$VALUES" "[Lcom/example/search_suggest/searchsuggest/engine/SkipReason;" (.ref vals)) (lt_vals : vals < n0) (S_bl : Sta Z Z.heap "com/example/search_suggest/searchsuggest/engine/SkipReason" "BLANK" "Lcom/example/search_suggest/searchsuggest/engine/SkipReason;" (.ref bl)) (S_en : Sta Z Z.heap "com/example/search_suggest/searchsuggest/engine/SkipReason" "ENCODING" "Lcom/example/search_suggest/searchsuggest/engine/SkipReason;" (.ref en)) (S_ma : Sta Z Z.heap "com/example/search_suggest/searchsuggest/engine/SkipReason" "MALFORMED" "Lcom/example/search_suggest/searchsuggest/engine/SkipReason;" (.ref ma)) (S_tl : Sta Z Z.heap "com/example/search_suggest/searchsuggest/engine/SkipReason" "TOO_LONG" "Lcom/example/search_suggest/searchsuggest/engine/SkipReason;" (.ref tl)) (lt_bl : bl < n0) (lt_en : en < n0) (lt_ma : ma < n0) (lt_tl : tl < n0) (r : Int32) (hr : f0_0 v0 v1 = r) :
    EndsIn p e below s 3 10 (Q0 n0 r) (T0.setTop (mkF m 0 #[.val (.int v0), .val (.int v1), .unset, .unset, .unset, .unset, .unset, .unset, .unset, .unset, .unset] [])) := by
  obtain ⟨hx, hZ, hw, hby, hml, hret, hown, hnm, hlk⟩ := B
  unfold f0_0 at hr
  obtain ⟨T1, h1, X1, e1, X1e, A1, D1, -, st1⟩ := newO X0 hx hZ hown (hw _ (List.mem_of_getElem? (i := 0) rfl)) (hw _ (List.mem_of_getElem? (i := 1) rfl)) (hw _ (List.mem_of_getElem? (i := 2) rfl)) e0 (g := (mkF m 0 #[.val (.int v0), .val (.int v1), .unset, .unset, .unset, .unset, .unset, .unset, .unset, .unset, .unset] [])) rfl (hb hby at_0) (by decide) (by decide)
  obtain ⟨b0, g1⟩ : ∃ z, z = h.size := ⟨_, rfl⟩
  rw [← g1] at A1 D1 st1
  have g_b0 : n0 ≤ b0 := Nat.le_trans Z0 (Nat.le_of_eq g1.symm)
  have ne_bl_b0 : bl ≠ b0 := Nat.ne_of_lt (Nat.lt_of_lt_of_le E_bl.lt (Nat.le_of_eq g1.symm))
  have ne_en_b0 : en ≠ b0 := Nat.ne_of_lt (Nat.lt_of_lt_of_le E_en.lt (Nat.le_of_eq g1.symm))
  have ne_ma_b0 : ma ≠ b0 := Nat.ne_of_lt (Nat.lt_of_lt_of_le E_ma.lt (Nat.le_of_eq g1.symm))
  have ne_tl_b0 : tl ≠ b0 := Nat.ne_of_lt (Nat.lt_of_lt_of_le E_tl.lt (Nat.le_of_eq g1.symm))
  have ne_vals_b0 : vals ≠ b0 := Nat.ne_of_lt (Nat.lt_of_lt_of_le V_vals.lt (Nat.le_of_eq g1.symm))
  have E_bl_1 := E_bl.ext X1e
  have F_bl_ordinal_1 := F_bl_ordinal.ext X1e
  have E_en_1 := E_en.ext X1e
  have F_en_ordinal_1 := F_en_ordinal.ext X1e
  have E_ma_1 := E_ma.ext X1e
  have F_ma_ordinal_1 := F_ma_ordinal.ext X1e
  have E_tl_1 := E_tl.ext X1e
  have F_tl_ordinal_1 := F_tl_ordinal.ext X1e
  have V_vals_1 := V_vals.ext X1e
  have E_vals_1 := E_vals.ext X1e
  have Z1 : n0 ≤ h1.size := Nat.le_trans Z0 X1e.1
  have O1 := O.ext X1e
  have E_b0_1 := A1
  have F_b0_skipped_1 : Fld Z h1 b0 "com/example/search_suggest/searchsuggest/engine/LineTally" "skipped" "[J" .null := D1 (Or.inr (hw _ (List.mem_of_getElem? (i := 31) rfl))) (ty := (.array .long)) (by decide)
  have F_b0_kept_1 : Fld Z h1 b0 "com/example/search_suggest/searchsuggest/engine/LineTally" "kept" "J" (.long (0 : Int64)) := D1 (Or.inl (hw _ (List.mem_of_getElem? (i := 43) rfl))) (ty := .long) (by decide)
  refine EndsIn.by (B := T1.setTop (mkF m 3 #[.val (.int v0), .val (.int v1), .unset, .unset, .unset, .unset, .unset, .unset, .unset, .unset, .unset] [(.ref b0)])) (fun t k => st1 t k) ?_
  refine EndsIn.by (B := T1.setTop (mkF m 4 #[.val (.int v0), .val (.int v1), .unset, .unset, .unset, .unset, .unset, .unset, .unset, .unset, .unset] [(.ref b0), (.ref b0)])) (fun t k => ?_) ?_
  · show Steps p.tables e below (T1.setTop (mkF m 3 #[.val (.int v0), .val (.int v1), .unset, .unset, .unset, .unset, .unset, .unset, .unset, .unset, .unset] [(.ref b0)])) _
    refine XS.dup X1.here hx rfl (hb hby at_3) rfl rfl ?_
    exact k
  -- pc 4: com/example/search_suggest/searchsuggest/engine/LineTally.<init>
  obtain ⟨_, _, ⟨T2, L2, k2, n2⟩, -, X2, ⟨Lc2, hQ2, l2, y2, z2⟩, st2⟩ := X1.specialBack hx (y := (⟨"com/example/search_suggest/searchsuggest/engine/LineTally", "<init>", "()V"⟩ : MethodName)) rfl hown (mvT hZ (hw _ (List.mem_of_getElem? (i := 3) rfl))) (mvT hZ (hw _ (List.mem_of_getElem? (i := 4) rfl))) (mvT hZ (hw _ (List.mem_of_getElem? (i := 5) rfl))) (by decide) (backOf (W := 1) (rm1 l Z a0 hw [] b0 vals .null (0 : Int64) vals_k vals_xs h1 n0 Z1 E_b0_1 F_b0_skipped_1 F_b0_kept_1 g_b0 V_vals_1 E_vals_1 O1 S_vals lt_vals) hZ (hw _ (List.mem_of_getElem? (i := 5) rfl)) (hw _ (List.mem_of_getElem? (i := 2) rfl)) (by decide) (by decide)) (g := (mkF m 4 #[.val (.int v0), .val (.int v1), .unset, .unset, .unset, .unset, .unset, .unset, .unset, .unset, .unset] [(.ref b0), (.ref b0)])) rfl (by rw [hml]; rfl) (Steps.refl _) (a := b0) (argsL := []) (rest := [(.ref b0)]) (lenOf pd_1 rfl) rfl (by show 2 * 0 + _ ≤ _; exact Nat.le_of_eq rfl) (hb hby at_4) (fun _ _ => ⟨rfl, e1, (by decide : 1 + R1.cells ≤ _), (by decide : 2 + R1.slots ≤ _)⟩)
  dsimp only [Pt.U, Pt.locs, Pt.cells, Pt.slots] at X2 l2 y2 z2 st2 hQ2
  subst l2 y2 z2
  obtain ⟨c4, kb_2, rfl, Nq2, g_c4, szq2, Kq2, E_b0_2, F_b0_skipped_2, F_b0_kept_2, Vb_2, lnb_2, neb_2⟩ := hQ2
  obtain ⟨h2, e2⟩ : ∃ z, T2.heap = z := ⟨_, rfl⟩
  rw [e2] at Kq2 E_b0_2 F_b0_skipped_2 F_b0_kept_2 Vb_2
  have N2 := Fr.app N0 Nq2
  have Z2 : n0 ≤ h2.size := Nat.le_trans Z1 Kq2.1
  have ne_bl_c4 : bl ≠ c4 := Nat.ne_of_lt (Nat.lt_of_lt_of_le E_bl_1.lt szq2)
  have ne_en_c4 : en ≠ c4 := Nat.ne_of_lt (Nat.lt_of_lt_of_le E_en_1.lt szq2)
  have ne_ma_c4 : ma ≠ c4 := Nat.ne_of_lt (Nat.lt_of_lt_of_le E_ma_1.lt szq2)
  have ne_tl_c4 : tl ≠ c4 := Nat.ne_of_lt (Nat.lt_of_lt_of_le E_tl_1.lt szq2)
  have ne_b0_c4 : b0 ≠ c4 := Nat.ne_of_lt (Nat.lt_of_lt_of_le E_b0_1.lt szq2)
  have ne_vals_c4 : vals ≠ c4 := Nat.ne_of_lt (Nat.lt_of_lt_of_le V_vals_1.lt szq2)
  have E_bl_2 := E_bl_1.keep Kq2
  have F_bl_ordinal_2 := F_bl_ordinal_1.keep Kq2 (ninS ne_bl_b0 nin0)
  have E_en_2 := E_en_1.keep Kq2
  have F_en_ordinal_2 := F_en_ordinal_1.keep Kq2 (ninS ne_en_b0 nin0)
  have E_ma_2 := E_ma_1.keep Kq2
  have F_ma_ordinal_2 := F_ma_ordinal_1.keep Kq2 (ninS ne_ma_b0 nin0)
  have E_tl_2 := E_tl_1.keep Kq2
  have F_tl_ordinal_2 := F_tl_ordinal_1.keep Kq2 (ninS ne_tl_b0 nin0)
  have V_vals_2 := V_vals_1.keep Kq2 (ninS ne_vals_b0 nin0)
  have E_vals_2 := E_vals_1.keep Kq2
  have O2 := O1.keep Kq2 (allS g_b0 all0)
  refine EndsIn.by (B := T2.setTop (mkF m 7 #[.val (.int v0), .val (.int v1), .unset, .unset, .unset, .unset, .unset, .unset, .unset, .unset, .unset] [(.ref b0)])) (fun t k => st2.trans k) ?_
  exact b0_7 ⟨hx, hZ, hw, hby, hml, hret, hown, hnm, hlk⟩ h0 n0 v0 v1 b0 bl en ma tl vals c4 ((f1_0 (0 : Int64)).1) vals_k vals_xs kb_2 ((f1_0 (0 : Int64)).2) X2 e2 N2 Z2 E_bl_2 F_bl_ordinal_2 E_en_2 F_en_ordinal_2 E_ma_2 F_ma_ordinal_2 E_tl_2 F_tl_ordinal_2 E_b0_2 F_b0_skipped_2 F_b0_kept_2 g_b0 V_vals_2 E_vals_2 Vb_2 lnb_2 g_c4 ne_bl_b0 ne_en_b0 ne_ma_b0 ne_tl_b0 ne_vals_b0 ne_bl_c4 ne_en_c4 ne_ma_c4 ne_tl_c4 neb_2 ne_vals_c4 O2 S_vals lt_vals S_bl S_en S_ma S_tl lt_bl lt_en lt_ma lt_tl _ hr
theorem ef_0 (m : MethodId) (v0 : Int32) (v1 : Int32) : entryFrame m #[(.int v0), (.int v1)] maxLocals = (mkF m 0 #[.val (.int v0), .val (.int v1), .unset, .unset, .unset, .unset, .unset, .unset, .unset, .unset, .unset] []) := by first | (simp [entryFrame, mkF, argsToLocals, Value.category, maxLocals]; done) | rfl
set_option maxRecDepth 65536 in
set_option maxHeartbeats 40000000 in
theorem rm0 (l : Launch) (Z : State) (a0 : Array Value) (hw : ∀ d ∈ tables_1, d.before a0 Z = true) (ws : List Jvm.Cond) (v0 : Int32) (v1 : Int32) (bl : Addr) (en : Addr) (ma : Addr) (tl : Addr) (vals : Addr) (vals_k : ClassId) (vals_xs : List Value) (h0 : Heap) (n0 : Nat) (Z0 : n0 ≤ h0.size) (E_bl : Exa Z h0 bl "com/example/search_suggest/searchsuggest/engine/SkipReason") (F_bl_ordinal : Fld Z h0 bl "java/lang/Enum" "ordinal" "I" (.int (0 : Int32))) (E_en : Exa Z h0 en "com/example/search_suggest/searchsuggest/engine/SkipReason") (F_en_ordinal : Fld Z h0 en "java/lang/Enum" "ordinal" "I" (.int (1 : Int32))) (E_ma : Exa Z h0 ma "com/example/search_suggest/searchsuggest/engine/SkipReason") (F_ma_ordinal : Fld Z h0 ma "java/lang/Enum" "ordinal" "I" (.int (2 : Int32))) (E_tl : Exa Z h0 tl "com/example/search_suggest/searchsuggest/engine/SkipReason") (F_tl_ordinal : Fld Z h0 tl "java/lang/Enum" "ordinal" "I" (.int (3 : Int32))) (V_vals : Arv Z h0 vals vals_k (.object "com/example/search_suggest/searchsuggest/engine/SkipReason") (4 : Int32) vals_xs .null) (E_vals : Exa Z h0 vals "[Lcom/example/search_suggest/searchsuggest/engine/SkipReason;") (O : Old Z n0 h0) (S_vals : Sta Z Z.heap "com/example/search_suggest/searchsuggest/engine/SkipReason" "$VALUES" "[Lcom/example/search_suggest/searchsuggest/engine/SkipReason;" (.ref vals)) (lt_vals : vals < n0) (S_bl : Sta Z Z.heap "com/example/search_suggest/searchsuggest/engine/SkipReason" "BLANK" "Lcom/example/search_suggest/searchsuggest/engine/SkipReason;" (.ref bl)) (S_en : Sta Z Z.heap "com/example/search_suggest/searchsuggest/engine/SkipReason" "ENCODING" "Lcom/example/search_suggest/searchsuggest/engine/SkipReason;" (.ref en)) (S_ma : Sta Z Z.heap "com/example/search_suggest/searchsuggest/engine/SkipReason" "MALFORMED" "Lcom/example/search_suggest/searchsuggest/engine/SkipReason;" (.ref ma)) (S_tl : Sta Z Z.heap "com/example/search_suggest/searchsuggest/engine/SkipReason" "TOO_LONG" "Lcom/example/search_suggest/searchsuggest/engine/SkipReason;" (.ref tl)) (lt_bl : bl < n0) (lt_en : en < n0) (lt_ma : ma < n0) (lt_tl : tl < n0) :
    MetFree l x (head1 (Jvm.Cond.code x code maxLocals ret :: ws) room_1) (fun a U => a = #[(.int v0), (.int v1)] ∧ Z.Warmed39 U.vm ∧ U.heap = h0) (fun _ _ _ _ _ => True) (fun _ U o U' => ∃ v L, o = .returned v ∧ (Q0 n0 (f0_0 v0 v1)) v U'.heap L ∧ FrameEnd U o U' L 3 10) := by
  refine MetFree.of_bodySF (plainFor_of_name pn_0) hisR ?_
  intro p e s m args below meth c s₁ Bd hml0 hP hK
  obtain ⟨rfl, hZ, hh⟩ := hP
  have B : Ctx p Z s a0 m meth c "com/example/search_suggest/searchsuggest/engine/LineTallySkippedPinLaw" "law" code 11 (some .boolean) := ⟨Bd.exec, hZ, hw, Bd.bytes, hml0, Bd.returns, findClass_of_methodNamed Bd.named, (name_of_methodNamed Bd.named Bd.method).1, Bd.notSynchronized⟩
  have X0 : Stand p l e room_1 s m #[(.int v0), (.int v1)] below meth c s₁ [] 0 0 := Stand.of_body Bd
  have e0 : s₁.heap = h0 := by rw [← hh, Bd.state]; rfl
  have K := Keep.refl h0 []
  show EndsIn p e below s 3 10 (Q0 n0 (f0_0 v0 v1)) (s₁.setTop (entryFrame m #[(.int v0), (.int v1)] maxLocals))
  refine EndsIn.by (fun t k => castTop (ef_0 m v0 v1) k) ?_
  exact b0_0 B h0 n0 v0 v1 bl en ma tl vals vals_k vals_xs X0 e0 (Fr.nil n0) Z0 E_bl F_bl_ordinal E_en F_en_ordinal E_ma F_ma_ordinal E_tl F_tl_ordinal V_vals E_vals O S_vals lt_vals S_bl S_en S_ma S_tl lt_bl lt_en lt_ma lt_tl _ rfl

theorem own_S (k a b c d : Int64) : f4_0 k [a, b, c, d] = a + b + c + d := by
  unfold f4_0 f4_14
  rw [if_pos (by decide)]
  have n1 : (0 : Int32) + 1 = 1 := by decide
  have n2 : (1 : Int32) + 1 = 2 := by decide
  have n3 : (2 : Int32) + 1 = 3 := by decide
  have n4 : (3 : Int32) + 1 = 4 := by decide
  unfold f4_14_1; rw [n1, if_pos (by decide)]
  unfold f4_14_1; rw [n2, if_pos (by decide)]
  unfold f4_14_1; rw [n3, if_pos (by decide)]
  unfold f4_14_1; rw [n4, if_neg (by decide)]
  show 0 + a + b + c + d = a + b + c + d
  rw [Int64.zero_add]
/-- one more in one of the four places: the sum is one more -/
theorem own_inc (k : Int64) (v : Int32) (a b c d n : Int64) (h : a + b + c + d = n) : ∃ a' b' c' d', f7_0 k (f6_0 v) [a, b, c, d] = [a', b', c', d'] ∧ a' + b' + c' + d' = n + 1 := by
  unfold f7_0 f8_0 f6_0
  split
  · exact ⟨a + 1, b, c, d, rfl, by rw [← h]; ac_rfl⟩
  · split
    · exact ⟨a, b + 1, c, d, rfl, by rw [← h]; ac_rfl⟩
    · split
      · exact ⟨a, b, c + 1, d, rfl, by rw [← h]; ac_rfl⟩
      · exact ⟨a, b, c, d + 1, rfl, by rw [← h]; ac_rfl⟩
theorem own_102 (v0 v1 : Int32) (n k a b c d : Int64) (h : a + b + c + d = n) : f0_102 v0 v1 0 n k [a, b, c, d] = 1 := by
  unfold f0_102
  rw [if_pos rfl, own_S, if_pos h, if_pos h]
theorem own_91 (v0 v1 : Int32) (n k a b c d : Int64) (h : a + b + c + d = n) : f0_91 v0 v1 0 n k [a, b, c, d] = 1 := by
  unfold f0_91
  split <;> exact own_102 _ _ _ _ _ _ _ _ h
theorem own_68 (v0 v1 : Int32) (n k a b c d : Int64) (h : a + b + c + d = n) : f0_68 v0 v1 0 n k [a, b, c, d] = 1 := by
  unfold f0_68 f0_85
  split
  · exact own_91 _ _ _ _ _ _ _ _ h
  · obtain ⟨a', b', c', d', e, h'⟩ := own_inc k ((v1.toUInt32 >>> ((4 : Int32) &&& 31).toUInt32).toInt32) a b c d n h
    rw [e]; exact own_91 _ _ _ _ _ _ _ _ h'
theorem own_46 (v0 v1 : Int32) (n k a b c d : Int64) (h : a + b + c + d = n) : f0_46 v0 v1 0 n k [a, b, c, d] = 1 := by
  unfold f0_46 f0_62
  split
  · exact own_68 _ _ _ _ _ _ _ _ h
  · obtain ⟨a', b', c', d', e, h'⟩ := own_inc k ((v1.toUInt32 >>> ((2 : Int32) &&& 31).toUInt32).toInt32) a b c d n h
    rw [e]; exact own_68 _ _ _ _ _ _ _ _ h'
theorem own_36 (v0 v1 : Int32) (n k a b c d : Int64) (h : a + b + c + d = n) : f0_36 v0 v1 0 n k [a, b, c, d] = 1 := by
  unfold f0_36
  split <;> exact own_46 _ _ _ _ _ _ _ _ h
theorem own_law (v0 v1 : Int32) : f0_0 v0 v1 = 1 := by
  show f0_7 v0 v1 0 [0, 0, 0, 0] = 1
  unfold f0_7 f0_30
  rw [own_S, show (0 : Int64) + 0 + 0 + 0 = 0 from by decide]
  split
  · exact own_36 _ _ _ _ _ _ _ _ (by decide)
  · obtain ⟨a', b', c', d', e, h'⟩ := own_inc 0 v1 0 0 0 0 0 (by decide)
    rw [e]; exact own_36 _ _ _ _ _ _ _ _ h'

set_option maxRecDepth 65536 in
set_option maxHeartbeats 40000000 in
theorem comes_1 {Post : Tables → Env → Array Value → State → Outcome → State → Prop} (hpost : ∀ tb e args s v u, (limb_1_1.after args s (.returned v) u = true ∧ limb_1_2.after args s (.returned v) u = true ∧ True) → FrameEnd s (.returned v) u (Jvm.fieldLocs frame_1_writes args s ++ Jvm.arrayLocs frame_1_arrays args s ++ Jvm.staticLocs frame_1_statics s) 16 128 → Post tb e args s (.returned v) u) :
    ArmFor flags0 classFile x code maxLocals ret World_1 tables_1 room_1 Calls_1 rest_1 Pre_1 Post := by
  intro l hfl _ _ p e ha hc hk s m args below hf hA hF happ hP
  obtain ⟨hcalls, hrest, hpre⟩ := hP
  obtain ⟨-, -, -, hnamed, -, -, -, hat⟩ := (Spec.applies_iff hf).mp happ
  obtain ⟨hg, hn⟩ := and_e (Cond.before_iff.mp (show (Jvm.Cond.and given_1 narrow_1).before args s = true from hpre))
  obtain ⟨gg1, gg2⟩ := and_e hg
  obtain ⟨gg3, gg4⟩ := and_e gg2
  obtain ⟨w0, w1, rfl⟩ : ∃ w0 w1 : Value, args = #[w0, w1] := by
    have hs : args.size = 2 := by simpa [Cond.value, given_1] using gg1
    obtain ⟨L⟩ := args
    match L, hs with
    | [w0, w1], _ => exact ⟨w0, w1, rfl⟩
  have hw := fun d (hd : d ∈ tables_1) => atoms_spec (ws := Jvm.Cond.code x code maxLocals ret :: tables_1) hat d (List.mem_cons_of_mem _ hd)
  have hfit : Fit s := fun {y c} hc i hi => by
    obtain ⟨ha, rfl⟩ := Array.getElem?_eq_some_iff.mp hc
    have q := List.all_eq_true.mp ((Array.all_eq_true_iff_forall_mem.mp hF) _ (Array.getElem_mem ha)) i (List.mem_range.mpr hi)
    simpa [Array.getElem?_eq_getElem hi] using q
  obtain ⟨i0, ei0⟩ := is_v gg3
  obtain rfl : w0 = (.int i0) := Option.some.inj ei0
  obtain ⟨i1, ei1⟩ := is_v gg4
  obtain rfl : w1 = (.int i1) := Option.some.inj ei1
  obtain ⟨m1, q⟩ := and_e hn
  obtain ⟨m2, q⟩ := and_e q
  obtain ⟨m3, q⟩ := and_e q
  obtain ⟨m4, q⟩ := and_e q
  obtain ⟨m5, q⟩ := and_e q
  obtain ⟨m6, q⟩ := and_e q
  obtain ⟨m7, q⟩ := and_e q
  obtain ⟨m8, q⟩ := and_e q
  obtain ⟨m9, q⟩ := and_e q
  obtain ⟨m10, q⟩ := and_e q
  obtain ⟨m11, q⟩ := and_e q
  obtain ⟨m12, q⟩ := and_e q
  obtain ⟨m13, q⟩ := and_e q
  obtain ⟨m14, q⟩ := and_e q
  obtain ⟨vals, ev⟩ := arr_v m1
  obtain ⟨cv, Av⟩ := Arr.start ev m1
  have Ev := Exa.start ev m2
  have Lv := own_lenI m3 ev (Arr.fin (Vm.Alike.refl _) Av)
  have Sv := Sta.start ev (Or.inl (hw _ (List.mem_of_getElem? (i := 26) rfl)))
  have Vv := own_arv (d := .null) hfit Av Lv.1 Lv.2 (by decide)
  obtain ⟨bl, e_bl⟩ := exa_v m4
  have E_bl := Exa.start e_bl m4
  have S_bl := Sta.start e_bl (Or.inr ⟨hw _ (List.mem_of_getElem? (i := 11) rfl), hw _ (List.mem_of_getElem? (i := 22) rfl)⟩)
  have F_bl := Fld.start ((fld_at e_bl).symm.trans (own_eqI m12))
  obtain ⟨en, e_en⟩ := exa_v m6
  have E_en := Exa.start e_en m6
  have S_en := Sta.start e_en (Or.inr ⟨hw _ (List.mem_of_getElem? (i := 11) rfl), hw _ (List.mem_of_getElem? (i := 23) rfl)⟩)
  have F_en := Fld.start ((fld_at e_en).symm.trans (own_eqI m13))
  obtain ⟨ma, e_ma⟩ := exa_v m8
  have E_ma := Exa.start e_ma m8
  have S_ma := Sta.start e_ma (Or.inr ⟨hw _ (List.mem_of_getElem? (i := 11) rfl), hw _ (List.mem_of_getElem? (i := 24) rfl)⟩)
  have F_ma := Fld.start ((fld_at e_ma).symm.trans (own_eqI q))
  obtain ⟨tl, e_tl⟩ := exa_v m10
  have E_tl := Exa.start e_tl m10
  have S_tl := Sta.start e_tl (Or.inr ⟨hw _ (List.mem_of_getElem? (i := 11) rfl), hw _ (List.mem_of_getElem? (i := 25) rfl)⟩)
  have F_tl := Fld.start ((fld_at e_tl).symm.trans (own_eqI m14))
  obtain ⟨n, o, h1, h2, h3, _, L, rfl, ⟨rfl, N⟩, hq⟩ := rm0 l s _ hw tables_1 i0 i1 bl en ma tl vals cv.cls cv.slots.toList s.heap s.heap.size (Nat.le_refl _) E_bl F_bl E_en F_en E_ma F_ma E_tl F_tl Vv Ev (Old.start s) Sv Av.lt S_bl S_en S_ma S_tl E_bl.lt E_en.lt E_ma.lt E_tl.lt p e ha hc hk s m _ below hf ((Spec.applies_iff_loose hf).mp happ).1 ⟨rfl, State.Warmed39.refl s, rfl⟩ trivial
  refine ⟨n, _, h1, h2, h3, hpost _ _ _ _ _ _ ⟨Cond.after_iff.mpr rfl, Cond.after_iff.mpr (eq_i res_at (Term.int_eval (1)) (congrArg Value.int (own_law i0 i1))), trivial⟩ ⟨hq.1, hq.2.1, (hq.2.2.sift fun y hy => Or.inr (N y hy)).mono (by decide) (by decide)⟩⟩
theorem main_1_1 : Claimed_1_1 := comes_1 fun _ _ _ _ _ _ h hF => ⟨h.1, hF⟩
theorem main_1_2 : Claimed_1_2 := comes_1 fun _ _ _ _ _ _ h hF => ⟨h.2.1, hF⟩
end Jvm.Pilot.@@N@@
namespace Jvm.Pilot.@@N@@
open Jvm Jvm.ClassFile Sem Op Lib Jvm.Free Jvm.Stand Jvm.Pilot.@@N@@.Jvm.D
/-! MADE BY PROGRAM (witnessworld.py) out of the Statement's table words and the real class files: 16 classes; the members and pool entries that the words name. The judged class is class 1, her method 2. -/
namespace start1
open Jvm.ClassFile
def u (s : String) : CpInfo := .utf8 (stringToUtf16 s)
/-- a pool by its gaps: so many unusable entries, then the entry; so many at the end -/
def gap : Nat → List CpInfo → List CpInfo
  | 0, r => r
  | n + 1, r => .unusable :: gap n r
def poolList (es : List (Nat × CpInfo)) (last : Nat) : List CpInfo := es.foldr (fun e r => gap e.1 (e.2 :: r)) (gap last [])
def pool (es : List (Nat × CpInfo)) (last : Nat) : Array CpInfo := ⟨poolList es last⟩
def fileOf (pool : Array CpInfo) (this : Nat) (attrs : Array Attribute := #[]) (ms : Array MethodInfo := #[]) (fl : Nat := 33) (sup : Nat := 0) (ifs : Array Nat := #[]) (fds : Array FieldInfo := #[]) : ClassFile where
  minorVersion := 0
  majorVersion := 65
  constantPool := pool
  accessFlags := fl
  thisClass := this
  superClass := sup
  interfaces := ifs
  fields := fds
  methods := ms
  attributes := attrs
def plain (name : String) (sup : Option ClassId) : Class where
  name := name
  kind := .ordinary
  loader := none
  accessFlags := 33
  super := sup
  interfaces := #[]
  cf := none
  fields := #[]
  methods := #[]
  instanceTypes := #[]
  staticTypes := #[]
  resolved := #[]
  callSites := []
  init := .initialized
  statics := none
  mirror := none

def pool0 : Array CpInfo := pool [(5, u "<init>"), (0, u "()V"), (1, .class_ 10), (1, u "java/lang/Object"), (85, u "clone"), (0, u "()Ljava/lang/Object;")] 26

def k0c0 : Code := { maxStack := 0, maxLocals := 1, code := object_method_1_code, exceptionTable := #[], attributes := #[] }
def k0m0 : Method := { name := "<init>", desc := "()V", sig := { parameters := [], returnType := none }, accessFlags := 1, code := some k0c0 }
def k0m1 : Method := { name := "clone", desc := "()Ljava/lang/Object;", sig := { parameters := [], returnType := some (.object "java/lang/Object") }, accessFlags := 260, code := none }
/-- java/lang/Object -/
def k0 : Class := { plain "java/lang/Object" none with
  accessFlags := 33
  interfaces := #[]
  cf := some (fileOf pool0 8 #[] #[{ accessFlags := 1, nameIndex := 5, descriptorIndex := 6, attributes := #[] }, { accessFlags := 260, nameIndex := 96, descriptorIndex := 97, attributes := #[] }] 33 0 #[] #[])
  fields := #[]
  methods := #[k0m0, k0m1]
  instanceTypes := #[]
  staticTypes := #[]
  resolved := Array.replicate 124 none
  statics := none }

def pool1 : Array CpInfo := pool [(2, .class_ 4), (0, .nameAndType 5 6), (0, u "java/lang/Object"), (0, u "<init>"), (0, u "()V"), (0, .fieldref 8 9), (0, .class_ 10), (0, .nameAndType 11 12), (0, u "com/example/search_suggest/searchsuggest/engine/SkipReason"), (0, u "BLANK"), (0, u "Lcom/example/search_suggest/searchsuggest/engine/SkipReason;"), (0, .fieldref 8 14), (0, .nameAndType 15 12), (0, u "ENCODING"), (0, .fieldref 8 17), (0, .nameAndType 18 12), (0, u "MALFORMED"), (0, .fieldref 8 20), (0, .nameAndType 21 12), (0, u "TOO_LONG"), (0, .class_ 23), (0, u "com/example/search_suggest/searchsuggest/engine/LineTally"), (0, .methodref 22 3), (0, .methodref 22 26), (0, .nameAndType 27 28), (0, u "skipped"), (0, u "()J"), (0, .methodref 30 31), (0, .class_ 32), (0, .nameAndType 33 34), (0, u "com/example/search_suggest/searchsuggest/engine/LineTallySkippedPinLaw"), (0, u "pick"), (0, u "(I)Lcom/example/search_suggest/searchsuggest/engine/SkipReason;"), (0, .methodref 22 36), (0, .nameAndType 37 38), (0, u "countSkipped"), (0, u "(Lcom/example/search_suggest/searchsuggest/engine/SkipReason;)V"), (0, .methodref 22 40), (0, .nameAndType 41 6), (0, u "countKept"), (3, u "law"), (0, u "(II)Z")] 2

def k1m0 : Method := { name := "<init>", desc := "()V", sig := { parameters := [], returnType := none }, accessFlags := 1, code := none }
def k1c1 : Code := { maxStack := 2, maxLocals := 2, code := method_2_code, exceptionTable := #[], attributes := #[] }
def k1m1 : Method := { name := "pick", desc := "(I)Lcom/example/search_suggest/searchsuggest/engine/SkipReason;", sig := { parameters := [.int], returnType := some (.object "com/example/search_suggest/searchsuggest/engine/SkipReason") }, accessFlags := 10, code := some k1c1 }
def k1c2 : Code := { maxStack := 4, maxLocals := 11, code := code, exceptionTable := #[], attributes := #[] }
def k1m2 : Method := { name := "law", desc := "(II)Z", sig := { parameters := [.int, .int], returnType := some .boolean }, accessFlags := 9, code := some k1c2 }
/-- com/example/search_suggest/searchsuggest/engine/LineTallySkippedPinLaw -/
def k1 : Class := { plain "com/example/search_suggest/searchsuggest/engine/LineTallySkippedPinLaw" (some 0) with
  accessFlags := 49
  interfaces := #[]
  cf := some (fileOf pool1 30 #[] #[{ accessFlags := 1, nameIndex := 5, descriptorIndex := 6, attributes := #[] }, { accessFlags := 10, nameIndex := 33, descriptorIndex := 34, attributes := #[] }, { accessFlags := 9, nameIndex := 45, descriptorIndex := 46, attributes := #[] }] 49 2 #[] #[])
  fields := #[]
  methods := #[k1m0, k1m1, k1m2]
  instanceTypes := #[]
  staticTypes := #[]
  resolved := Array.replicate 49 none
  statics := none }

def pool2 : Array CpInfo := pool [(1, .methodref 2 3), (0, .class_ 4), (0, .nameAndType 5 6), (0, u "java/lang/Object"), (0, u "<init>"), (0, u "()V"), (0, .methodref 8 9), (0, .class_ 10), (0, .nameAndType 11 12), (0, u "com/example/search_suggest/searchsuggest/engine/SkipReason"), (0, u "values"), (0, u "()[Lcom/example/search_suggest/searchsuggest/engine/SkipReason;"), (0, .fieldref 14 15), (0, .class_ 16), (0, .nameAndType 17 18), (0, u "com/example/search_suggest/searchsuggest/engine/LineTally"), (0, u "skipped"), (0, u "[J"), (0, .fieldref 14 20), (0, .nameAndType 21 22), (0, u "kept"), (0, u "J"), (0, .methodref 8 24), (0, .nameAndType 25 26), (0, u "ordinal"), (0, u "()I"), (2, u "()J"), (38, u "countKept"), (0, u "countSkipped"), (0, u "(Lcom/example/search_suggest/searchsuggest/engine/SkipReason;)V")] 7

def k2c0 : Code := { maxStack := 2, maxLocals := 1, code := prog_6_method_1_code, exceptionTable := #[], attributes := #[] }
def k2m0 : Method := { name := "<init>", desc := "()V", sig := { parameters := [], returnType := none }, accessFlags := 1, code := some k2c0 }
def k2c1 : Code := { maxStack := 5, maxLocals := 1, code := prog_6_method_2_code, exceptionTable := #[], attributes := #[] }
def k2m1 : Method := { name := "countKept", desc := "()V", sig := { parameters := [], returnType := none }, accessFlags := 0, code := some k2c1 }
def k2c2 : Code := { maxStack := 6, maxLocals := 2, code := prog_6_method_3_code, exceptionTable := #[], attributes := #[] }
def k2m2 : Method := { name := "countSkipped", desc := "(Lcom/example/search_suggest/searchsuggest/engine/SkipReason;)V", sig := { parameters := [(.object "com/example/search_suggest/searchsuggest/engine/SkipReason")], returnType := none }, accessFlags := 0, code := some k2c2 }
def k2c3 : Code := { maxStack := 4, maxLocals := 8, code := prog_6_method_6_code, exceptionTable := #[], attributes := #[] }
def k2m3 : Method := { name := "skipped", desc := "()J", sig := { parameters := [], returnType := some .long }, accessFlags := 1, code := some k2c3 }
/-- com/example/search_suggest/searchsuggest/engine/LineTally -/
def k2 : Class := { plain "com/example/search_suggest/searchsuggest/engine/LineTally" (some 0) with
  accessFlags := 49
  interfaces := #[]
  cf := some (fileOf pool2 14 #[] #[{ accessFlags := 1, nameIndex := 5, descriptorIndex := 6, attributes := #[] }, { accessFlags := 0, nameIndex := 68, descriptorIndex := 6, attributes := #[] }, { accessFlags := 0, nameIndex := 69, descriptorIndex := 70, attributes := #[] }, { accessFlags := 1, nameIndex := 17, descriptorIndex := 29, attributes := #[] }] 49 2 #[] #[{ accessFlags := 2, nameIndex := 21, descriptorIndex := 22, attributes := #[] }, { accessFlags := 18, nameIndex := 17, descriptorIndex := 18, attributes := #[] }])
  fields := #[{ name := "kept", type := .long, accessFlags := 2, slot := 0, constantValue := 0 }, { name := "skipped", type := (.array .long), accessFlags := 18, slot := 1, constantValue := 0 }]
  methods := #[k2m0, k2m1, k2m2, k2m3]
  instanceTypes := #[.long, (.array .long)]
  staticTypes := #[]
  resolved := Array.replicate 78 none
  statics := none }

def pool3 : Array CpInfo := pool [(1, .class_ 2), (0, u "java/lang/constant/Constable"), (0, .class_ 4), (0, u "java/lang/Object")] 6

/-- java/lang/constant/Constable -/
def k3 : Class := { plain "java/lang/constant/Constable" (some 0) with
  accessFlags := 1537
  interfaces := #[]
  cf := some (fileOf pool3 1 #[] #[] 1537 3 #[] #[])
  fields := #[]
  methods := #[]
  instanceTypes := #[]
  staticTypes := #[]
  resolved := Array.replicate 11 none
  statics := none }

def pool4 : Array CpInfo := pool [(1, .class_ 2), (0, u "java/lang/Comparable"), (0, .class_ 4), (0, u "java/lang/Object")] 7

/-- java/lang/Comparable -/
def k4 : Class := { plain "java/lang/Comparable" (some 0) with
  accessFlags := 1537
  interfaces := #[]
  cf := some (fileOf pool4 1 #[] #[] 1537 3 #[] #[])
  fields := #[]
  methods := #[]
  instanceTypes := #[]
  staticTypes := #[]
  resolved := Array.replicate 12 none
  statics := none }

def pool5 : Array CpInfo := pool [(1, .class_ 2), (0, u "java/io/Serializable"), (0, .class_ 4), (0, u "java/lang/Object")] 2

/-- java/io/Serializable -/
def k5 : Class := { plain "java/io/Serializable" (some 0) with
  accessFlags := 1537
  interfaces := #[]
  cf := some (fileOf pool5 1 #[] #[] 1537 3 #[] #[])
  fields := #[]
  methods := #[]
  instanceTypes := #[]
  staticTypes := #[]
  resolved := Array.replicate 7 none
  statics := none }

def pool6 : Array CpInfo := pool [(2, .class_ 4), (1, u "java/lang/Enum"), (0, u "name"), (0, u "Ljava/lang/String;"), (0, .fieldref 2 8), (0, .nameAndType 9 10), (0, u "ordinal"), (0, u "I"), (1, .class_ 14), (1, u "java/lang/Object"), (4, u "hash"), (86, .class_ 108), (1, u "java/lang/Enum$EnumDesc"), (2, .class_ 112), (0, u "java/lang/constant/Constable"), (0, .class_ 114), (0, u "java/lang/Comparable"), (0, .class_ 116), (0, u "java/io/Serializable"), (9, u "()I")] 77

def k6c0 : Code := { maxStack := 1, maxLocals := 1, code := jdk_37_method_2_code, exceptionTable := #[], attributes := #[] }
def k6m0 : Method := { name := "ordinal", desc := "()I", sig := { parameters := [], returnType := some .int }, accessFlags := 17, code := some k6c0 }
/-- java/lang/Enum -/
def k6 : Class := { plain "java/lang/Enum" (some 0) with
  accessFlags := 1057
  interfaces := #[3, 4, 5]
  cf := some (fileOf pool6 2 #[.nestMembers #[106]] #[{ accessFlags := 17, nameIndex := 9, descriptorIndex := 126, attributes := #[] }] 1057 12 #[111, 113, 115] #[{ accessFlags := 18, nameIndex := 5, descriptorIndex := 6, attributes := #[] }, { accessFlags := 18, nameIndex := 9, descriptorIndex := 10, attributes := #[] }, { accessFlags := 2, nameIndex := 19, descriptorIndex := 10, attributes := #[] }])
  fields := #[{ name := "name", type := (.object "java/lang/String"), accessFlags := 18, slot := 0, constantValue := 0 }, { name := "ordinal", type := .int, accessFlags := 18, slot := 1, constantValue := 0 }, { name := "hash", type := .int, accessFlags := 2, slot := 2, constantValue := 0 }]
  methods := #[k6m0]
  instanceTypes := #[(.object "java/lang/String"), .int, .int]
  staticTypes := #[]
  resolved := Array.replicate 204 none
  statics := none }

def pool7 : Array CpInfo := pool [(1, .class_ 2), (0, u "com/example/search_suggest/searchsuggest/engine/SkipReason"), (2, u "BLANK"), (0, u "Lcom/example/search_suggest/searchsuggest/engine/SkipReason;"), (2, u "ENCODING"), (2, u "MALFORMED"), (2, u "TOO_LONG"), (0, .fieldref 1 17), (0, .nameAndType 18 19), (0, u "$VALUES"), (0, u "[Lcom/example/search_suggest/searchsuggest/engine/SkipReason;"), (0, .methodref 21 22), (0, .class_ 19), (0, .nameAndType 23 24), (0, u "clone"), (0, u "()Ljava/lang/Object;"), (1, .class_ 28), (1, u "java/lang/Enum"), (8, u "label"), (0, u "Ljava/lang/String;"), (18, u "()[Lcom/example/search_suggest/searchsuggest/engine/SkipReason;"), (0, u "values")] 12

def k7c0 : Code := { maxStack := 1, maxLocals := 0, code := prog_28_method_1_code, exceptionTable := #[], attributes := #[] }
def k7m0 : Method := { name := "values", desc := "()[Lcom/example/search_suggest/searchsuggest/engine/SkipReason;", sig := { parameters := [], returnType := some (.array (.object "com/example/search_suggest/searchsuggest/engine/SkipReason")) }, accessFlags := 9, code := some k7c0 }
/-- com/example/search_suggest/searchsuggest/engine/SkipReason -/
def k7 : Class := { plain "com/example/search_suggest/searchsuggest/engine/SkipReason" (some 6) with
  accessFlags := 16433
  interfaces := #[]
  cf := some (fileOf pool7 1 #[] #[{ accessFlags := 9, nameIndex := 58, descriptorIndex := 57, attributes := #[] }] 16433 26 #[] #[{ accessFlags := 16409, nameIndex := 5, descriptorIndex := 6, attributes := #[] }, { accessFlags := 16409, nameIndex := 9, descriptorIndex := 6, attributes := #[] }, { accessFlags := 16409, nameIndex := 12, descriptorIndex := 6, attributes := #[] }, { accessFlags := 16409, nameIndex := 15, descriptorIndex := 6, attributes := #[] }, { accessFlags := 18, nameIndex := 37, descriptorIndex := 38, attributes := #[] }, { accessFlags := 4122, nameIndex := 18, descriptorIndex := 19, attributes := #[] }])
  fields := #[{ name := "BLANK", type := (.object "com/example/search_suggest/searchsuggest/engine/SkipReason"), accessFlags := 16409, slot := 0, constantValue := 0 }, { name := "ENCODING", type := (.object "com/example/search_suggest/searchsuggest/engine/SkipReason"), accessFlags := 16409, slot := 1, constantValue := 0 }, { name := "MALFORMED", type := (.object "com/example/search_suggest/searchsuggest/engine/SkipReason"), accessFlags := 16409, slot := 2, constantValue := 0 }, { name := "TOO_LONG", type := (.object "com/example/search_suggest/searchsuggest/engine/SkipReason"), accessFlags := 16409, slot := 3, constantValue := 0 }, { name := "label", type := (.object "java/lang/String"), accessFlags := 18, slot := 3, constantValue := 0 }, { name := "$VALUES", type := (.array (.object "com/example/search_suggest/searchsuggest/engine/SkipReason")), accessFlags := 4122, slot := 4, constantValue := 0 }]
  methods := #[k7m0]
  instanceTypes := #[(.object "java/lang/String"), .int, .int, (.object "java/lang/String")]
  staticTypes := #[(.object "com/example/search_suggest/searchsuggest/engine/SkipReason"), (.object "com/example/search_suggest/searchsuggest/engine/SkipReason"), (.object "com/example/search_suggest/searchsuggest/engine/SkipReason"), (.object "com/example/search_suggest/searchsuggest/engine/SkipReason"), (.array (.object "com/example/search_suggest/searchsuggest/engine/SkipReason"))]
  resolved := Array.replicate 71 none
  statics := some 0 }

def pool8 : Array CpInfo := pool [(1, .class_ 2), (0, u "java/lang/Cloneable"), (0, .class_ 4), (0, u "java/lang/Object")] 2

/-- java/lang/Cloneable -/
def k8 : Class := { plain "java/lang/Cloneable" (some 0) with
  accessFlags := 1537
  interfaces := #[]
  cf := some (fileOf pool8 1 #[] #[] 1537 3 #[] #[])
  fields := #[]
  methods := #[]
  instanceTypes := #[]
  staticTypes := #[]
  resolved := Array.replicate 7 none
  statics := none }

/-- the primitive byte -/
def k9 : Class := { plain "byte" none with kind := .primitive 'B', accessFlags := 0x411 }
/-- [B -/
def k10 : Class := { plain "[B" (some 0) with kind := .array 9 .byte, interfaces := #[8, 5], accessFlags := 1041 }

/-- the primitive int -/
def k11 : Class := { plain "int" none with kind := .primitive 'I', accessFlags := 0x411 }
/-- [I -/
def k12 : Class := { plain "[I" (some 0) with kind := .array 11 .int, interfaces := #[8, 5], accessFlags := 1041 }

/-- the primitive long -/
def k13 : Class := { plain "long" none with kind := .primitive 'J', accessFlags := 0x411 }
/-- [J -/
def k14 : Class := { plain "[J" (some 0) with kind := .array 13 .long, interfaces := #[8, 5], accessFlags := 1041 }

/-- [Lcom/example/search_suggest/searchsuggest/engine/SkipReason; -/
def k15 : Class := { plain "[Lcom/example/search_suggest/searchsuggest/engine/SkipReason;" (some 0) with kind := .array 7 (.object "com/example/search_suggest/searchsuggest/engine/SkipReason"), interfaces := #[8, 5], accessFlags := 1041 }

def heap : Heap := #[{ cls := 7, slots := #[.ref 2, .ref 3, .ref 4, .ref 5, .ref 1], vm := .statics 7 },
  { cls := 15, slots := #[.ref 2, .ref 3, .ref 4, .ref 5], vm := .none },
  { cls := 7, slots := #[.null, .int 0, .int 0, .null], vm := .none },
  { cls := 7, slots := #[.null, .int 1, .int 0, .null], vm := .none },
  { cls := 7, slots := #[.null, .int 2, .int 0, .null], vm := .none },
  { cls := 7, slots := #[.null, .int 3, .int 0, .null], vm := .none }]
def classes : Array Class := #[k0, k1, k2, k3, k4, k5, k6, k7, k8, k9, k10, k11, k12, k13, k14, k15]
def interned : List (Array UInt16 × Addr) := []
def slotsUsed : Nat := 25
def theMethod : MethodId := ⟨1, 2⟩
def args0 : Array Value := #[.int 31, .int 27]
def aboutOver (below : List Frame) : State where
  vm := { classes := classes, interned := interned.toArray }
  heap := heap
  slotsUsed := slotsUsed
  threads := #[{ frames := .invoking theMethod args0 :: below }]
def below0 : List Frame := [.native { method := ⟨0, 0⟩, args := #[] }]
def about1 : State := aboutOver below0
def p0 : Program := .bare "" "" ""
def e0 : Env := launch0.env 0 0 0
theorem w_frames : about1.frames = Frame.invoking theMethod args0 :: below0 := rfl
set_option maxRecDepth 65536 in
theorem w_args : argsFit about1.vm theMethod args0 = true := by decide +kernel
set_option maxRecDepth 65536 in
theorem w_heap : heapFits about1 = true := by decide +kernel
set_option maxRecDepth 65536 in
theorem w_runnable : about1.curStatus? = some .runnable := by decide +kernel
set_option maxRecDepth 65536 in
theorem w_alone : about1.alone = true := by decide +kernel
set_option maxRecDepth 65536 in
theorem w_named : about1.methodNamed? x = some theMethod := by decide +kernel
set_option maxRecDepth 65536 in
theorem w_hears : about1.hears theMethod below0 = true := by decide +kernel
set_option maxRecDepth 65536 in
theorem w_ripe : about1.ripe theMethod args0 below0 = true := by decide +kernel
theorem w_running : about1.status = .running := rfl
set_option maxRecDepth 65536 in
theorem w_room : about1.hasRoom e0.platform room_1 = true :=
  launch0.hasRoom_least _ room_1 (by decide +kernel) (by decide +kernel) (by decide +kernel) (by decide +kernel) (by decide +kernel) (by decide +kernel)
theorem allAtoms_all (ts : List Jvm.Cond) (a : Array Jvm.Value) (st : Jvm.State) : (allAtoms ts).before a st = ts.all (fun c => c.before a st) := by
  induction ts with
  | nil => rfl
  | cons c t ih =>
    show (Jvm.Cond.and c (allAtoms t)).before a st = _
    rw [Jvm.Cond.before_and, ih, List.all_cons]
def words1 : List Jvm.Cond := Jvm.Cond.code x code maxLocals ret :: tables_1
/-- a 'code' word, met by the world's own term for the bytes: nothing is compared byte by byte -/
theorem code_word {y : MethodName} {bytes : ByteArray} {mx : Nat} {rt : Option FieldType} {a : Array Value} {s : State} {m : MethodId} {meth : Method} {c : Code} (h1 : s.methodNamed? y = some m) (h2 : s.vm.method? m = some meth) (h3 : meth.code = some c) (h4 : c.code = bytes)
    (h5 : (c.maxLocals == mx && c.exceptionTable.isEmpty && decide (c.maxStack ≤ mostOperands) && decide (meth.sig.returnType = rt) && !meth.locks && decide (parseMethodDescriptor y.desc = some meth.sig)) = true) : (Jvm.Cond.code y bytes mx rt).before a s = true := by
  simp only [Bool.and_eq_true, beq_iff_eq, Bool.not_eq_true', decide_eq_true_eq] at h5
  obtain ⟨⟨⟨⟨⟨g1, g2⟩, g3⟩, g4⟩, g5⟩, g6⟩ := h5
  simp [Cond.before, Cond.holds, Cond.value, h1, h2, h3, h4, g1, g2, g3, g4, g5, g6]
def isCode : Jvm.Cond → Bool
  | .code _ _ _ _ => true
  | _ => false
theorem all_split {L : List Jvm.Cond} {P : Jvm.Cond → Bool} (h1 : L.all (fun c => isCode c || P c) = true) (h2 : ∀ c ∈ L.filter isCode, P c = true) : L.all P = true := by
  refine List.all_eq_true.mpr fun c hc => ?_
  have h := List.all_eq_true.mp h1 c hc
  rcases Bool.eq_false_or_eq_true (isCode c) with hi | hi
  · exact h2 c (List.mem_filter.mpr ⟨hc, hi⟩)
  · simpa [hi] using h
set_option maxRecDepth 65536 in
theorem w_c0 : (Jvm.Cond.code x code maxLocals ret).before args0 about1 = true := code_word (m := ⟨1, 2⟩) (meth := k1m2) (c := k1c2) (by decide +kernel) rfl rfl rfl (by decide +kernel)
set_option maxRecDepth 65536 in
theorem w_c1 : (Jvm.Cond.code ({ cls := "com/example/search_suggest/searchsuggest/engine/LineTally", name := "<init>", desc := "()V" } : Jvm.MethodName) prog_6_method_1_code (1 : Nat) (Option.none : Option Jvm.ClassFile.FieldType)).before args0 about1 = true := code_word (m := ⟨2, 0⟩) (meth := k2m0) (c := k2c0) (by decide +kernel) rfl rfl rfl (by decide +kernel)
set_option maxRecDepth 65536 in
theorem w_c2 : (Jvm.Cond.code ({ cls := "java/lang/Object", name := "<init>", desc := "()V" } : Jvm.MethodName) object_method_1_code (1 : Nat) (Option.none : Option Jvm.ClassFile.FieldType)).before args0 about1 = true := code_word (m := ⟨0, 0⟩) (meth := k0m0) (c := k0c0) (by decide +kernel) rfl rfl rfl (by decide +kernel)
set_option maxRecDepth 65536 in
theorem w_c3 : (Jvm.Cond.code ({ cls := "com/example/search_suggest/searchsuggest/engine/SkipReason", name := "values", desc := "()[Lcom/example/search_suggest/searchsuggest/engine/SkipReason;" } : Jvm.MethodName) prog_28_method_1_code (0 : Nat) (Option.some (Jvm.ClassFile.FieldType.array (Jvm.ClassFile.FieldType.object "com/example/search_suggest/searchsuggest/engine/SkipReason")))).before args0 about1 = true := code_word (m := ⟨7, 0⟩) (meth := k7m0) (c := k7c0) (by decide +kernel) rfl rfl rfl (by decide +kernel)
set_option maxRecDepth 65536 in
theorem w_c4 : (Jvm.Cond.code ({ cls := "com/example/search_suggest/searchsuggest/engine/LineTally", name := "skipped", desc := "()J" } : Jvm.MethodName) prog_6_method_6_code (8 : Nat) (Option.some Jvm.ClassFile.FieldType.long)).before args0 about1 = true := code_word (m := ⟨2, 3⟩) (meth := k2m3) (c := k2c3) (by decide +kernel) rfl rfl rfl (by decide +kernel)
set_option maxRecDepth 65536 in
theorem w_c5 : (Jvm.Cond.code ({ cls := "com/example/search_suggest/searchsuggest/engine/LineTally", name := "countKept", desc := "()V" } : Jvm.MethodName) prog_6_method_2_code (1 : Nat) (Option.none : Option Jvm.ClassFile.FieldType)).before args0 about1 = true := code_word (m := ⟨2, 1⟩) (meth := k2m1) (c := k2c1) (by decide +kernel) rfl rfl rfl (by decide +kernel)
set_option maxRecDepth 65536 in
theorem w_c6 : (Jvm.Cond.code ({ cls := "com/example/search_suggest/searchsuggest/engine/LineTallySkippedPinLaw", name := "pick", desc := "(I)Lcom/example/search_suggest/searchsuggest/engine/SkipReason;" } : Jvm.MethodName) method_2_code (2 : Nat) (Option.some (Jvm.ClassFile.FieldType.object "com/example/search_suggest/searchsuggest/engine/SkipReason"))).before args0 about1 = true := code_word (m := ⟨1, 1⟩) (meth := k1m1) (c := k1c1) (by decide +kernel) rfl rfl rfl (by decide +kernel)
set_option maxRecDepth 65536 in
theorem w_c7 : (Jvm.Cond.code ({ cls := "com/example/search_suggest/searchsuggest/engine/LineTally", name := "countSkipped", desc := "(Lcom/example/search_suggest/searchsuggest/engine/SkipReason;)V" } : Jvm.MethodName) prog_6_method_3_code (2 : Nat) (Option.none : Option Jvm.ClassFile.FieldType)).before args0 about1 = true := code_word (m := ⟨2, 2⟩) (meth := k2m2) (c := k2c2) (by decide +kernel) rfl rfl rfl (by decide +kernel)
set_option maxRecDepth 65536 in
theorem w_c8 : (Jvm.Cond.code ({ cls := "java/lang/Enum", name := "ordinal", desc := "()I" } : Jvm.MethodName) jdk_37_method_2_code (1 : Nat) (Option.some Jvm.ClassFile.FieldType.int)).before args0 about1 = true := code_word (m := ⟨6, 0⟩) (meth := k6m0) (c := k6c0) (by decide +kernel) rfl rfl rfl (by decide +kernel)
def codes1 : List Jvm.Cond := [Jvm.Cond.code x code maxLocals ret, Jvm.Cond.code ({ cls := "com/example/search_suggest/searchsuggest/engine/LineTally", name := "<init>", desc := "()V" } : Jvm.MethodName) prog_6_method_1_code (1 : Nat) (Option.none : Option Jvm.ClassFile.FieldType), Jvm.Cond.code ({ cls := "java/lang/Object", name := "<init>", desc := "()V" } : Jvm.MethodName) object_method_1_code (1 : Nat) (Option.none : Option Jvm.ClassFile.FieldType), Jvm.Cond.code ({ cls := "com/example/search_suggest/searchsuggest/engine/SkipReason", name := "values", desc := "()[Lcom/example/search_suggest/searchsuggest/engine/SkipReason;" } : Jvm.MethodName) prog_28_method_1_code (0 : Nat) (Option.some (Jvm.ClassFile.FieldType.array (Jvm.ClassFile.FieldType.object "com/example/search_suggest/searchsuggest/engine/SkipReason"))), Jvm.Cond.code ({ cls := "com/example/search_suggest/searchsuggest/engine/LineTally", name := "skipped", desc := "()J" } : Jvm.MethodName) prog_6_method_6_code (8 : Nat) (Option.some Jvm.ClassFile.FieldType.long), Jvm.Cond.code ({ cls := "com/example/search_suggest/searchsuggest/engine/LineTally", name := "countKept", desc := "()V" } : Jvm.MethodName) prog_6_method_2_code (1 : Nat) (Option.none : Option Jvm.ClassFile.FieldType), Jvm.Cond.code ({ cls := "com/example/search_suggest/searchsuggest/engine/LineTallySkippedPinLaw", name := "pick", desc := "(I)Lcom/example/search_suggest/searchsuggest/engine/SkipReason;" } : Jvm.MethodName) method_2_code (2 : Nat) (Option.some (Jvm.ClassFile.FieldType.object "com/example/search_suggest/searchsuggest/engine/SkipReason")), Jvm.Cond.code ({ cls := "com/example/search_suggest/searchsuggest/engine/LineTally", name := "countSkipped", desc := "(Lcom/example/search_suggest/searchsuggest/engine/SkipReason;)V" } : Jvm.MethodName) prog_6_method_3_code (2 : Nat) (Option.none : Option Jvm.ClassFile.FieldType), Jvm.Cond.code ({ cls := "java/lang/Enum", name := "ordinal", desc := "()I" } : Jvm.MethodName) jdk_37_method_2_code (1 : Nat) (Option.some Jvm.ClassFile.FieldType.int)]
set_option maxRecDepth 65536 in
theorem codes_eq : words1.filter isCode = codes1 := rfl
theorem w_codes : ∀ c ∈ words1.filter isCode, c.before args0 about1 = true := by
  rw [codes_eq]
  intro c hc
  simp only [codes1, List.mem_cons, List.not_mem_nil, or_false] at hc
  rcases hc with rfl | rfl | rfl | rfl | rfl | rfl | rfl | rfl | rfl
  · exact w_c0
  · exact w_c1
  · exact w_c2
  · exact w_c3
  · exact w_c4
  · exact w_c5
  · exact w_c6
  · exact w_c7
  · exact w_c8
set_option maxRecDepth 65536 in
theorem w_t1 : (words1.take 24).all (fun c => isCode c || c.before args0 about1) = true := by decide +kernel
set_option maxRecDepth 65536 in
theorem w_t2 : ((words1.drop 24).take 24).all (fun c => isCode c || c.before args0 about1) = true := by decide +kernel
set_option maxRecDepth 65536 in
theorem w_t3 : ((words1.drop 24).drop 24).all (fun c => isCode c || c.before args0 about1) = true := by decide +kernel
theorem w_tables : (allAtoms (Jvm.Cond.code x code maxLocals ret :: tables_1)).before args0 about1 = true := by
  rw [allAtoms_all]
  show words1.all (fun c => c.before args0 about1) = true
  refine all_split ?_ w_codes
  rw [← List.take_append_drop 24 words1, List.all_append, w_t1, ← List.take_append_drop 24 (words1.drop 24), List.all_append, w_t2, w_t3]
  rfl
set_option maxRecDepth 65536 in
theorem w_case : (Jvm.Cond.and given_1 narrow_1).before args0 about1 = true := by decide +kernel
theorem w_applies : (headSpec (Jvm.Cond.code x code maxLocals ret :: tables_1) room_1).applies x e0.platform about1 = true :=
  (Spec.applies_iff w_frames).mpr ⟨w_running, w_runnable, w_alone, w_named, w_hears, w_ripe, w_room, w_tables⟩
theorem atStart : AtStart classFile x code maxLocals ret World_1 tables_1 room_1 Calls_1 rest_1 Pre_1 launch0 p0 e0 about1 theMethod args0 below0 :=
  ⟨lists_1, trivial, launch0.admits_env _ _ _, launch0.least_env, fairChoices_fair.cas, fairChoices_fair.clock, w_frames, w_args, w_heap, w_applies, trivial, trivial, w_case⟩
end start1
theorem witness_1 : WitnessClaimed_1 := ⟨start1.p0, start1.e0, start1.about1, start1.theMethod, start1.args0, start1.below0, start1.atStart⟩
end Jvm.Pilot.@@N@@
