import JvmDerived
import JvmDerived.Pilot.@@N@@Statement
import JvmDerived.Pilot.@@N@@Code
set_option linter.unusedVariables false
set_option linter.unusedSimpArgs false
namespace Jvm.RoadKit
open Sem ClassFile Op Lib Jvm.Stand Jvm.Free Jvm.LawKit
section New
variable {p : Program} {l : Launch} {e : Env} {R : Room} {s : State} {m : MethodId} {args : Array Value} {below : List Frame} {meth : Method} {c : Code} {T : State} {locs : List Loc} {cells slots : Nat}
theorem retI (X : Stand p l e R s m args below meth c T locs cells slots) (hx : p.tables.exec = Jvm.exec) {pc : Nat} {Ls : Array Slot} {z : Int32} {rest : List Value} (hret : meth.sig.returnType = some .int) (hd : decode c.code pc = .ok (.ireturn, 1)) {fs : List Frame}
    (hl : ∀ (f : JFrame) (acts : List Action), f.method = m → f.locked = none → f.entered = [] → (doReturn e (T.setTop f) acts (some (.int z))).1 = T.setFrames fs) : Steps p.tables e below (T.setTop (mkF m pc Ls (.int z :: rest))) (T.setFrames fs) := by
  have hm' : T.vm.method? m = some meth := X.method'
  have hn : narrow .int (.int z) = .int z := rfl
  show Steps p.tables e below (T.setTop { method := m, pc := pc, locals := Ls, stack := _ :: rest, locked := none }) _
  jvm_step X.here [X.here.top, hx, hd, hm', hret, hn]
  first | (intro acts; rw [hl _ acts rfl rfl rfl]) | rw [hl _ _ rfl rfl rfl]
  exact Steps.refl _
end New
end Jvm.RoadKit
namespace Jvm.Pilot.@@N@@
open Jvm Jvm.ClassFile Sem Op Lib Jvm.Free Jvm.Stand Jvm.LawKit Jvm.RoadKit Bundle Jvm.Pilot.@@N@@.Jvm.D
/-! what every block of a body's walk is given -/
def Ctx (p : Program) (Z s : State) (a0 : Array Value) (m : MethodId) (meth : Method) (c : Code) (own nm : String) (bytes : ByteArray) (maxl : Nat) (rt : Option FieldType) : Prop :=
  p.tables.exec = Jvm.exec ∧ Z.Warmed39 s.vm ∧ (∀ d ∈ tables_1, d.before a0 Z = true) ∧ c.code = bytes ∧ c.maxLocals = maxl ∧ meth.sig.returnType = rt ∧ s.vm.findClass own = some m.cls ∧ meth.name = nm ∧ meth.locks = false
/-- from the state A the body's run ends, returns, and leaves what Q says -/
def Fin (p : Program) (e : Env) (below : List Frame) (s : State) (cells slots : Nat) (Q : Option Value → Heap → List Loc → Prop) (A : State) : Prop :=
  ∃ s₂ o, Steps p.tables e below A s₂ ∧ s₂.status = .running ∧ Ended s₂ below o ∧ ∃ v L, o = .returned v ∧ Q v s₂.heap L ∧ FrameEnd s o s₂ L cells slots
section Ends
variable {p : Program} {l : Launch} {e : Env} {R : Room} {s : State} {m : MethodId} {args : Array Value} {below : List Frame} {meth : Method} {c : Code} {T : State} {locs : List Loc} {cells slots : Nat} {C S : Nat} {Q : Option Value → Heap → List Loc → Prop}
theorem Fin.by {A B : State} (h : ∀ t, Steps p.tables e below B t → Steps p.tables e below A t) (k : Fin p e below s C S Q B) : Fin p e below s C S Q A := by
  obtain ⟨s₂, o, h1, r⟩ := k
  exact ⟨s₂, o, h _ h1, r⟩
theorem own_retI (X : Stand p l e R s m args below meth c T locs cells slots) (hx : p.tables.exec = Jvm.exec) (hlk : meth.locks = false) {pc : Nat} {Ls : Array Slot} {z : Int32} {rest : List Value} (hret : meth.sig.returnType = some .int) (hd : decode c.code pc = .ok (.ireturn, 1)) (hc : cells ≤ C) (hs : slots ≤ S)
    (hq : Q (some (.int z)) T.heap locs) : Fin p e below s C S Q (T.setTop (mkF m pc Ls (.int z :: rest))) := by
  obtain ⟨fs, hr, hrun, hended, hW, hsame⟩ := X.leave (v := some (.int z)) (fun h => by rw [hret] at h; cases h) hlk
  exact ⟨_, _, retI X hx hret hd hr, hrun, hended, _, _, rfl, hq, ⟨_, rfl⟩, hW, hsame.mono hc hs⟩
theorem own_retN (X : Stand p l e R s m args below meth c T locs cells slots) (hx : p.tables.exec = Jvm.exec) (hlk : meth.locks = false) {pc : Nat} {Ls : Array Slot} {z : Int32} {rest : List Value} {t : FieldType} (hret : meth.sig.returnType = some t) (ht : t = .boolean ∨ t = .byte ∨ t = .char ∨ t = .short) (hd : decode c.code pc = .ok (.ireturn, 1)) (hc : cells ≤ C) (hs : slots ≤ S)
    (hq : Q (some (.int (nar t z))) T.heap locs) : Fin p e below s C S Q (T.setTop (mkF m pc Ls (.int z :: rest))) := by
  obtain ⟨fs, hr, hrun, hended, hW, hsame⟩ := X.leave (v := some (.int (nar t z))) (fun h => by rw [hret] at h; cases h) hlk
  exact ⟨_, _, retN X hx hret ht hd hr, hrun, hended, _, _, rfl, hq, ⟨_, rfl⟩, hW, hsame.mono hc hs⟩
theorem own_retJ (X : Stand p l e R s m args below meth c T locs cells slots) (hx : p.tables.exec = Jvm.exec) (hlk : meth.locks = false) {pc : Nat} {Ls : Array Slot} {z : Int64} (hret : meth.sig.returnType = some .long) (hd : decode c.code pc = .ok (.lreturn, 1)) (hc : cells ≤ C) (hs : slots ≤ S)
    (hq : Q (some (.long z)) T.heap locs) : Fin p e below s C S Q (T.setTop (mkF m pc Ls [.long z])) := by
  obtain ⟨fs, hr, hrun, hended, hW, hsame⟩ := X.leave (v := some (.long z)) (fun h => by rw [hret] at h; cases h) hlk
  exact ⟨_, _, X.lreturnOut hx hret hd hr, hrun, hended, _, _, rfl, hq, ⟨_, rfl⟩, hW, hsame.mono hc hs⟩
theorem own_retR (X : Stand p l e R s m args below meth c T locs cells slots) (hx : p.tables.exec = Jvm.exec) (hlk : meth.locks = false) {pc : Nat} {Ls : Array Slot} {z : Addr} {t : FieldType} (hret : meth.sig.returnType = some t) (ht : t.isReference = true) (hd : decode c.code pc = .ok (.areturn, 1)) (hc : cells ≤ C) (hs : slots ≤ S)
    (hq : Q (some (.ref z)) T.heap locs) : Fin p e below s C S Q (T.setTop (mkF m pc Ls [.ref z])) := by
  obtain ⟨fs, hr, hrun, hended, hW, hsame⟩ := X.leave (v := some (.ref z)) (fun h => by rw [hret] at h; cases h) hlk
  exact ⟨_, _, X.areturnOut hx rfl hret ht hd hr, hrun, hended, _, _, rfl, hq, ⟨_, rfl⟩, hW, hsame.mono hc hs⟩
theorem own_ret0 (X : Stand p l e R s m args below meth c T locs cells slots) (hx : p.tables.exec = Jvm.exec) (hlk : meth.locks = false) {pc : Nat} {Ls : Array Slot} (hret : meth.sig.returnType = none) (hd : decode c.code pc = .ok (.return_, 1)) (hc : cells ≤ C) (hs : slots ≤ S)
    (hq : Q none T.heap locs) : Fin p e below s C S Q (T.setTop (mkF m pc Ls [])) := by
  obtain ⟨fs, hr, hrun, hended, hW, hsame⟩ := X.leave (v := none) (fun _ => rfl) hlk
  exact ⟨_, _, X.returnOut hx hret hd hr, hrun, hended, _, _, rfl, hq, ⟨_, rfl⟩, hW, hsame.mono hc hs⟩
end Ends
section Arrays
variable {Z : State} {h h' : Heap} {a : Addr} {k : ClassId} {ty : FieldType} {n j : Int32} {vs : List Value} {d : Value}
/-- what an array of ints holds at the place j -/
def own_at (xs : List Int32) (j : Int32) : Int32 := xs.getD j.toNatClampNeg 0
def own_atJ (xs : List Int64) (j : Int32) : Int64 := xs.getD j.toNatClampNeg 0
theorem own_mapD (xs : List Int32) (i : Nat) : (xs.map Value.int).getD i (.int 0) = .int (xs.getD i 0) := by
  rw [List.getD_eq_getElem?_getD, List.getD_eq_getElem?_getD, List.getElem?_map]; cases xs[i]? <;> rfl
theorem own_mapDJ (xs : List Int64) (i : Nat) : (xs.map Value.long).getD i (.long 0) = .long (xs.getD i 0) := by
  rw [List.getD_eq_getElem?_getD, List.getD_eq_getElem?_getD, List.getElem?_map]; cases xs[i]? <;> rfl
theorem own_open (V : Arv Z h a k ty n vs d) (hj : ¬ (j < 0) ∧ j < n) : ∃ cl, Arr Z h a cl ty ∧ ¬ (j < 0 ∨ cl.slots.size ≤ j.toNatClampNeg) ∧ True := by
  obtain ⟨cl, Ar, -, S, -, -, -⟩ := V
  exact ⟨cl, Ar, inb_of S hj, trivial⟩
theorem own_readI {xs : List Int32} (V : Arv Z h a k ty n (xs.map Value.int) (.int 0)) (hj : ¬ (j < 0) ∧ j < n) (i : Nat) (hi : j.toNatClampNeg = i) : ∃ cl, Arr Z h a cl ty ∧ ¬ (j < 0 ∨ cl.slots.size ≤ j.toNatClampNeg) ∧ cl.slots[j.toNatClampNeg]? = some (.int (xs.getD i 0)) := by
  obtain ⟨cl, Ar, -, S, -, H, -⟩ := V
  have q := inb_of S hj
  refine ⟨cl, Ar, q, ?_⟩
  rw [H _ (Nat.lt_of_not_le fun y => q (Or.inr y)), own_mapD, hi]
theorem own_readJ {xs : List Int64} (V : Arv Z h a k ty n (xs.map Value.long) (.long 0)) (hj : ¬ (j < 0) ∧ j < n) (i : Nat) (hi : j.toNatClampNeg = i) : ∃ cl, Arr Z h a cl ty ∧ ¬ (j < 0 ∨ cl.slots.size ≤ j.toNatClampNeg) ∧ cl.slots[j.toNatClampNeg]? = some (.long (xs.getD i 0)) := by
  obtain ⟨cl, Ar, -, S, -, H, -⟩ := V
  have q := inb_of S hj
  refine ⟨cl, Ar, q, ?_⟩
  rw [H _ (Nat.lt_of_not_le fun y => q (Or.inr y)), own_mapDJ, hi]
theorem own_setI {xs : List Int32} {v : Int32} (V : Arv Z h a k ty n (xs.map Value.int) (.int 0)) (ln : xs.length = n.toNatClampNeg) (hj : ¬ (j < 0) ∧ j < n) (W : Wr h h' a j.toNatClampNeg (.int v)) (hf : fits ty (.int v) = true) (i : Nat) (hi : j.toNatClampNeg = i) :
    Arv Z h' a k ty n ((xs.set i v).map Value.int) (.int 0) ∧ (xs.set i v).length = n.toNatClampNeg := by
  subst hi
  obtain ⟨cl, Ar, q1, S, q3, H, G⟩ := V
  have q := inb_of S hj
  have W2 := Arv.set Ar q1 S q3 H G hf W j.toNatClampNeg rfl (by rw [List.length_map, ln, ← S]; exact Nat.lt_of_not_le fun y => q (Or.inr y))
  rw [List.map_set]
  exact ⟨W2, by rw [List.length_set]; exact ln⟩
theorem own_setJ {xs : List Int64} {v : Int64} (V : Arv Z h a k ty n (xs.map Value.long) (.long 0)) (ln : xs.length = n.toNatClampNeg) (hj : ¬ (j < 0) ∧ j < n) (W : Wr h h' a j.toNatClampNeg (.long v)) (hf : fits ty (.long v) = true) (i : Nat) (hi : j.toNatClampNeg = i) :
    Arv Z h' a k ty n ((xs.set i v).map Value.long) (.long 0) ∧ (xs.set i v).length = n.toNatClampNeg := by
  subst hi
  obtain ⟨cl, Ar, q1, S, q3, H, G⟩ := V
  have q := inb_of S hj
  have W2 := Arv.set Ar q1 S q3 H G hf W j.toNatClampNeg rfl (by rw [List.length_map, ln, ← S]; exact Nat.lt_of_not_le fun y => q (Or.inr y))
  rw [List.map_set]
  exact ⟨W2, by rw [List.length_set]; exact ln⟩
theorem own_newI (A : Arr Z h a (newA k ty n) ty) (hd : defaultValue ty = .int 0) (q : ¬ n < 0) {xs : List Int32} (hxs : xs = List.replicate n.toNatClampNeg 0) : Arv Z h a k ty n (xs.map Value.int) (.int 0) ∧ xs.length = n.toNatClampNeg := by
  subst hxs
  have V := Arv.new A q
  rw [hd] at V
  have V2 := V.pad (pad_rep [] (.int 0) n.toNatClampNeg)
  rw [List.map_replicate]
  exact ⟨V2, by rw [List.length_replicate]⟩
theorem own_newJ (A : Arr Z h a (newA k ty n) ty) (hd : defaultValue ty = .long 0) (q : ¬ n < 0) {xs : List Int64} (hxs : xs = List.replicate n.toNatClampNeg 0) : Arv Z h a k ty n (xs.map Value.long) (.long 0) ∧ xs.length = n.toNatClampNeg := by
  subst hxs
  have V := Arv.new A q
  rw [hd] at V
  have V2 := V.pad (pad_rep [] (.long 0) n.toNatClampNeg)
  rw [List.map_replicate]
  exact ⟨V2, by rw [List.length_replicate]⟩
end Arrays
theorem d1_0 : decode prog_116_method_1_code 0 = .ok (.aload_n 0, 1) := by decide +kernel
theorem d1_1 : decode prog_116_method_1_code 1 = .ok (.invokespecial 1, 3) := by decide +kernel
theorem d1_4 : decode prog_116_method_1_code 4 = .ok (.aload_n 0, 1) := by decide +kernel
theorem d1_5 : decode prog_116_method_1_code 5 = .ok (.lload_n 1, 1) := by decide +kernel
theorem d1_6 : decode prog_116_method_1_code 6 = .ok (.putfield 7, 3) := by decide +kernel
theorem d1_9 : decode prog_116_method_1_code 9 = .ok (.aload_n 0, 1) := by decide +kernel
theorem d1_10 : decode prog_116_method_1_code 10 = .ok (.lload_n 1, 1) := by decide +kernel
theorem d1_11 : decode prog_116_method_1_code 11 = .ok (.lload_n 1, 1) := by decide +kernel
theorem d1_12 : decode prog_116_method_1_code 12 = .ok (.ldc2_w 13, 3) := by decide +kernel
theorem d1_15 : decode prog_116_method_1_code 15 = .ok (.ldiv, 1) := by decide +kernel
theorem d1_16 : decode prog_116_method_1_code 16 = .ok (.lsub, 1) := by decide +kernel
theorem d1_17 : decode prog_116_method_1_code 17 = .ok (.putfield 15, 3) := by decide +kernel
theorem d1_20 : decode prog_116_method_1_code 20 = .ok (.aload_n 0, 1) := by decide +kernel
theorem d1_21 : decode prog_116_method_1_code 21 = .ok (.lload_n 3, 1) := by decide +kernel
theorem d1_22 : decode prog_116_method_1_code 22 = .ok (.putfield 18, 3) := by decide +kernel
theorem d1_25 : decode prog_116_method_1_code 25 = .ok (.aload_n 0, 1) := by decide +kernel
theorem d1_26 : decode prog_116_method_1_code 26 = .ok (.lload_n 3, 1) := by decide +kernel
theorem d1_27 : decode prog_116_method_1_code 27 = .ok (.putfield 21, 3) := by decide +kernel
theorem d1_30 : decode prog_116_method_1_code 30 = .ok (.return_, 1) := by decide +kernel
theorem pn_1 : plainName "com/example/quietwire/quietwire/transport/TickSchedule" = true := by first | (simp [plainName, overriddenIn]; done) | decide +kernel
def R1 : Room := { frames := 1, cells := 0, slots := 0, locals := 12 }
def Q1 (Z : State) (o0 : Addr) (h0 : Heap) (n0 : Nat) (r : Int64 × Int64 × Int64 × Int64) (v : Option Value) (h : Heap) (L : List Loc) : Prop := v = none ∧ Fr n0 L ∧ Keep h0 h [o0] ∧ Exa Z h o0 "com/example/quietwire/quietwire/transport/TickSchedule" ∧ Fld Z h o0 "com/example/quietwire/quietwire/transport/TickSchedule" "period" "J" (.long r.1) ∧ Fld Z h o0 "com/example/quietwire/quietwire/transport/TickSchedule" "shortest" "J" (.long r.2.1) ∧ Fld Z h o0 "com/example/quietwire/quietwire/transport/TickSchedule" "scheduled" "J" (.long r.2.2.1) ∧ Fld Z h o0 "com/example/quietwire/quietwire/transport/TickSchedule" "soonest" "J" (.long r.2.2.2)
def f1_0 (v1 : Int64) (v3 : Int64) (o0_period : Int64) (o0_shortest : Int64) (o0_scheduled : Int64) (o0_soonest : Int64) : Int64 × Int64 × Int64 × Int64 := (v1, (v1 - (v1 / (10 : Int64))), v3, v3)
set_option maxRecDepth 65536 in
set_option maxHeartbeats 40000000 in
theorem b1_0 {p : Program} {l : Launch} {e : Env} {s : State} {m : MethodId} {args : Array Value} {below : List Frame} {meth : Method} {c : Code} {Z : State} {a0 : Array Value} (B : Ctx p Z s a0 m meth c "com/example/quietwire/quietwire/transport/TickSchedule" "<init>" prog_116_method_1_code 5 none) {T0 : State} {locs : List Loc} {h : Heap} (h0 : Heap) (n0 : Nat) (o0 : Addr) (v1 : Int64) (v3 : Int64) (o0_period : Int64) (o0_shortest : Int64) (o0_scheduled : Int64) (o0_soonest : Int64) (X0 : Stand p l e R1 s m args below meth c T0 locs 0 0) (e0 : T0.heap = h) (N0 : Fr n0 locs) (Z0 : n0 ≤ h.size) (K : Keep h0 h [o0]) (E_o0 : Exa Z h o0 "com/example/quietwire/quietwire/transport/TickSchedule") (F_o0_period : Fld Z h o0 "com/example/quietwire/quietwire/transport/TickSchedule" "period" "J" (.long o0_period)) (F_o0_shortest : Fld Z h o0 "com/example/quietwire/quietwire/transport/TickSchedule" "shortest" "J" (.long o0_shortest)) (F_o0_scheduled : Fld Z h o0 "com/example/quietwire/quietwire/transport/TickSchedule" "scheduled" "J" (.long o0_scheduled)) (F_o0_soonest : Fld Z h o0 "com/example/quietwire/quietwire/transport/TickSchedule" "soonest" "J" (.long o0_soonest)) (g_o0 : n0 ≤ o0) (r : Int64 × Int64 × Int64 × Int64) (hr : f1_0 v1 v3 o0_period o0_shortest o0_scheduled o0_soonest = r) :
    Fin p e below s R1.cells R1.slots (Q1 Z o0 h0 n0 r) (T0.setTop (mkF m 0 #[.val (.ref o0), .val (.long v1), .second, .val (.long v3), .second] [])) := by
  obtain ⟨hx, hZ, hw, hby, hml, hret, hown, hnm, hlk⟩ := B
  unfold f1_0 at hr
  refine Fin.by (B := T0.setTop (mkF m 1 #[.val (.ref o0), .val (.long v1), .second, .val (.long v3), .second] [(.ref o0)])) (fun t k => ?_) ?_
  · show Steps p.tables e below (T0.setTop (mkF m 0 #[.val (.ref o0), .val (.long v1), .second, .val (.long v3), .second] [])) _
    refine XS.aloadN X0.here hx rfl (hb hby d1_0) rfl rfl ?_
    exact k
  obtain ⟨T1, X1, e1, st1⟩ := initO X0 hx hZ hown (hw _ (List.mem_of_getElem? (i := 7) rfl)) (hw _ (List.mem_of_getElem? (i := 8) rfl)) (hw _ (List.mem_of_getElem? (i := 9) rfl)) e0 (g := (mkF m 1 #[.val (.ref o0), .val (.long v1), .second, .val (.long v3), .second] [(.ref o0)])) rfl (by rw [hml]; rfl) rfl (hb hby d1_1) (by decide) (W := 0) (by show 2 * 0 + _ ≤ _; exact Nat.le_of_eq rfl) (by decide)
  refine Fin.by (B := T1.setTop (mkF m 4 #[.val (.ref o0), .val (.long v1), .second, .val (.long v3), .second] [])) (fun t k => st1 t k) ?_
  refine Fin.by (B := T1.setTop (mkF m 6 #[.val (.ref o0), .val (.long v1), .second, .val (.long v3), .second] [(.long v1), (.ref o0)])) (fun t k => ?_) ?_
  · show Steps p.tables e below (T1.setTop (mkF m 4 #[.val (.ref o0), .val (.long v1), .second, .val (.long v3), .second] [])) _
    refine XS.aloadN X1.here hx rfl (hb hby d1_4) rfl rfl ?_
    show Steps p.tables e below (T1.setTop (mkF m 5 #[.val (.ref o0), .val (.long v1), .second, .val (.long v3), .second] [(.ref o0)])) _
    refine XS.lloadN X1.here hx rfl (hb hby d1_5) rfl  ?_
    exact k
  obtain ⟨T2, h2, X2, e2, W2, st2⟩ := putF X1 hx hZ hown (host := "") (Or.inl (hw _ (List.mem_of_getElem? (i := 10) rfl))) Via.refl e1 F_o0_period E_o0 (Or.inr ⟨(hw _ (List.mem_of_getElem? (i := 11) rfl)), rfl, hnm⟩) (hw _ (List.mem_of_getElem? (i := 2) rfl)) (ty := .long) (by decide) rfl rfl (g := (mkF m 6 #[.val (.ref o0), .val (.long v1), .second, .val (.long v3), .second] [(.long v1), (.ref o0)])) rfl rfl (hb hby d1_6)
  have E_o0_2 := E_o0.wr W2
  have F_o0_period_2 := F_o0_period.same W2
  have F_o0_shortest_2 := F_o0_shortest.other W2 (Or.inr (slot_ne (Or.inr (hw _ (List.mem_of_getElem? (i := 14) rfl))) (Or.inr (hw _ (List.mem_of_getElem? (i := 11) rfl))) (by decide) (t := .long) (t' := .long) (by decide) (by decide)))
  have F_o0_scheduled_2 := F_o0_scheduled.other W2 (Or.inr (slot_ne (Or.inl (hw _ (List.mem_of_getElem? (i := 16) rfl))) (Or.inr (hw _ (List.mem_of_getElem? (i := 11) rfl))) (by decide) (t := .long) (t' := .long) (by decide) (by decide)))
  have F_o0_soonest_2 := F_o0_soonest.other W2 (Or.inr (slot_ne (Or.inl (hw _ (List.mem_of_getElem? (i := 18) rfl))) (Or.inr (hw _ (List.mem_of_getElem? (i := 11) rfl))) (by decide) (t := .long) (t' := .long) (by decide) (by decide)))
  have N2 := Fr.snoc X2 N0 g_o0
  have Z2 : n0 ≤ h2.size := Nat.le_trans Z0 (Nat.le_of_eq W2.size.symm)
  have K2 := K.wr W2 (Or.inl (by simp))
  refine Fin.by (B := T2.setTop (mkF m 9 #[.val (.ref o0), .val (.long v1), .second, .val (.long v3), .second] [])) (fun t k => st2 t k) ?_
  refine Fin.by (B := T2.setTop (mkF m 15 #[.val (.ref o0), .val (.long v1), .second, .val (.long v3), .second] [(.long (10 : Int64)), (.long v1), (.long v1), (.ref o0)])) (fun t k => ?_) ?_
  · show Steps p.tables e below (T2.setTop (mkF m 9 #[.val (.ref o0), .val (.long v1), .second, .val (.long v3), .second] [])) _
    refine XS.aloadN X2.here hx rfl (hb hby d1_9) rfl rfl ?_
    show Steps p.tables e below (T2.setTop (mkF m 10 #[.val (.ref o0), .val (.long v1), .second, .val (.long v3), .second] [(.ref o0)])) _
    refine XS.lloadN X2.here hx rfl (hb hby d1_10) rfl  ?_
    show Steps p.tables e below (T2.setTop (mkF m 11 #[.val (.ref o0), .val (.long v1), .second, .val (.long v3), .second] [(.long v1), (.ref o0)])) _
    refine XS.lloadN X2.here hx rfl (hb hby d1_11) rfl  ?_
    show Steps p.tables e below (T2.setTop (mkF m 12 #[.val (.ref o0), .val (.long v1), .second, .val (.long v3), .second] [(.long v1), (.long v1), (.ref o0)])) _
    refine X2.ldc2Long hx hown (mvT hZ (hw _ (List.mem_of_getElem? (i := 12) rfl))) (g := (mkF m 12 #[.val (.ref o0), .val (.long v1), .second, .val (.long v3), .second] [(.long v1), (.long v1), (.ref o0)])) rfl (hb hby d1_12) _ ?_
    exact k
  have hnz15 : ¬ ((10 : Int64) = (0 : Int64)) := by decide
  refine Fin.by (B := T2.setTop (mkF m 17 #[.val (.ref o0), .val (.long v1), .second, .val (.long v3), .second] [(.long (v1 - (v1 / (10 : Int64)))), (.ref o0)])) (fun t k => ?_) ?_
  · show Steps p.tables e below (T2.setTop (mkF m 15 #[.val (.ref o0), .val (.long v1), .second, .val (.long v3), .second] [(.long (10 : Int64)), (.long v1), (.long v1), (.ref o0)])) _
    refine XS.ldiv X2.here hx rfl (hb hby d1_15) rfl hnz15 ?_
    show Steps p.tables e below (T2.setTop (mkF m 16 #[.val (.ref o0), .val (.long v1), .second, .val (.long v3), .second] [(.long (v1 / (10 : Int64))), (.long v1), (.ref o0)])) _
    refine XS.lsub X2.here hx rfl (hb hby d1_16) rfl ?_
    exact k
  obtain ⟨T3, h3, X3, e3, W3, st3⟩ := putF X2 hx hZ hown (host := "") (Or.inl (hw _ (List.mem_of_getElem? (i := 13) rfl))) Via.refl e2 F_o0_shortest_2 E_o0_2 (Or.inr ⟨(hw _ (List.mem_of_getElem? (i := 14) rfl)), rfl, hnm⟩) (hw _ (List.mem_of_getElem? (i := 2) rfl)) (ty := .long) (by decide) rfl rfl (g := (mkF m 17 #[.val (.ref o0), .val (.long v1), .second, .val (.long v3), .second] [(.long (v1 - (v1 / (10 : Int64)))), (.ref o0)])) rfl rfl (hb hby d1_17)
  have E_o0_3 := E_o0_2.wr W3
  have F_o0_period_3 := F_o0_period_2.other W3 (Or.inr (slot_ne (Or.inr (hw _ (List.mem_of_getElem? (i := 11) rfl))) (Or.inr (hw _ (List.mem_of_getElem? (i := 14) rfl))) (by decide) (t := .long) (t' := .long) (by decide) (by decide)))
  have F_o0_shortest_3 := F_o0_shortest_2.same W3
  have F_o0_scheduled_3 := F_o0_scheduled_2.other W3 (Or.inr (slot_ne (Or.inl (hw _ (List.mem_of_getElem? (i := 16) rfl))) (Or.inr (hw _ (List.mem_of_getElem? (i := 14) rfl))) (by decide) (t := .long) (t' := .long) (by decide) (by decide)))
  have F_o0_soonest_3 := F_o0_soonest_2.other W3 (Or.inr (slot_ne (Or.inl (hw _ (List.mem_of_getElem? (i := 18) rfl))) (Or.inr (hw _ (List.mem_of_getElem? (i := 14) rfl))) (by decide) (t := .long) (t' := .long) (by decide) (by decide)))
  have N3 := Fr.snoc X3 N2 g_o0
  have Z3 : n0 ≤ h3.size := Nat.le_trans Z2 (Nat.le_of_eq W3.size.symm)
  have K3 := K2.wr W3 (Or.inl (by simp))
  refine Fin.by (B := T3.setTop (mkF m 20 #[.val (.ref o0), .val (.long v1), .second, .val (.long v3), .second] [])) (fun t k => st3 t k) ?_
  refine Fin.by (B := T3.setTop (mkF m 22 #[.val (.ref o0), .val (.long v1), .second, .val (.long v3), .second] [(.long v3), (.ref o0)])) (fun t k => ?_) ?_
  · show Steps p.tables e below (T3.setTop (mkF m 20 #[.val (.ref o0), .val (.long v1), .second, .val (.long v3), .second] [])) _
    refine XS.aloadN X3.here hx rfl (hb hby d1_20) rfl rfl ?_
    show Steps p.tables e below (T3.setTop (mkF m 21 #[.val (.ref o0), .val (.long v1), .second, .val (.long v3), .second] [(.ref o0)])) _
    refine XS.lloadN X3.here hx rfl (hb hby d1_21) rfl  ?_
    exact k
  obtain ⟨T4, h4, X4, e4, W4, st4⟩ := putF X3 hx hZ hown (host := "") (Or.inl (hw _ (List.mem_of_getElem? (i := 15) rfl))) Via.refl e3 F_o0_scheduled_3 E_o0_3 (Or.inl (hw _ (List.mem_of_getElem? (i := 16) rfl))) (hw _ (List.mem_of_getElem? (i := 2) rfl)) (ty := .long) (by decide) rfl rfl (g := (mkF m 22 #[.val (.ref o0), .val (.long v1), .second, .val (.long v3), .second] [(.long v3), (.ref o0)])) rfl rfl (hb hby d1_22)
  have E_o0_4 := E_o0_3.wr W4
  have F_o0_period_4 := F_o0_period_3.other W4 (Or.inr (slot_ne (Or.inr (hw _ (List.mem_of_getElem? (i := 11) rfl))) (Or.inl (hw _ (List.mem_of_getElem? (i := 16) rfl))) (by decide) (t := .long) (t' := .long) (by decide) (by decide)))
  have F_o0_shortest_4 := F_o0_shortest_3.other W4 (Or.inr (slot_ne (Or.inr (hw _ (List.mem_of_getElem? (i := 14) rfl))) (Or.inl (hw _ (List.mem_of_getElem? (i := 16) rfl))) (by decide) (t := .long) (t' := .long) (by decide) (by decide)))
  have F_o0_scheduled_4 := F_o0_scheduled_3.same W4
  have F_o0_soonest_4 := F_o0_soonest_3.other W4 (Or.inr (slot_ne (Or.inl (hw _ (List.mem_of_getElem? (i := 18) rfl))) (Or.inl (hw _ (List.mem_of_getElem? (i := 16) rfl))) (by decide) (t := .long) (t' := .long) (by decide) (by decide)))
  have N4 := Fr.snoc X4 N3 g_o0
  have Z4 : n0 ≤ h4.size := Nat.le_trans Z3 (Nat.le_of_eq W4.size.symm)
  have K4 := K3.wr W4 (Or.inl (by simp))
  refine Fin.by (B := T4.setTop (mkF m 25 #[.val (.ref o0), .val (.long v1), .second, .val (.long v3), .second] [])) (fun t k => st4 t k) ?_
  refine Fin.by (B := T4.setTop (mkF m 27 #[.val (.ref o0), .val (.long v1), .second, .val (.long v3), .second] [(.long v3), (.ref o0)])) (fun t k => ?_) ?_
  · show Steps p.tables e below (T4.setTop (mkF m 25 #[.val (.ref o0), .val (.long v1), .second, .val (.long v3), .second] [])) _
    refine XS.aloadN X4.here hx rfl (hb hby d1_25) rfl rfl ?_
    show Steps p.tables e below (T4.setTop (mkF m 26 #[.val (.ref o0), .val (.long v1), .second, .val (.long v3), .second] [(.ref o0)])) _
    refine XS.lloadN X4.here hx rfl (hb hby d1_26) rfl  ?_
    exact k
  obtain ⟨T5, h5, X5, e5, W5, st5⟩ := putF X4 hx hZ hown (host := "") (Or.inl (hw _ (List.mem_of_getElem? (i := 17) rfl))) Via.refl e4 F_o0_soonest_4 E_o0_4 (Or.inl (hw _ (List.mem_of_getElem? (i := 18) rfl))) (hw _ (List.mem_of_getElem? (i := 2) rfl)) (ty := .long) (by decide) rfl rfl (g := (mkF m 27 #[.val (.ref o0), .val (.long v1), .second, .val (.long v3), .second] [(.long v3), (.ref o0)])) rfl rfl (hb hby d1_27)
  have E_o0_5 := E_o0_4.wr W5
  have F_o0_period_5 := F_o0_period_4.other W5 (Or.inr (slot_ne (Or.inr (hw _ (List.mem_of_getElem? (i := 11) rfl))) (Or.inl (hw _ (List.mem_of_getElem? (i := 18) rfl))) (by decide) (t := .long) (t' := .long) (by decide) (by decide)))
  have F_o0_shortest_5 := F_o0_shortest_4.other W5 (Or.inr (slot_ne (Or.inr (hw _ (List.mem_of_getElem? (i := 14) rfl))) (Or.inl (hw _ (List.mem_of_getElem? (i := 18) rfl))) (by decide) (t := .long) (t' := .long) (by decide) (by decide)))
  have F_o0_scheduled_5 := F_o0_scheduled_4.other W5 (Or.inr (slot_ne (Or.inl (hw _ (List.mem_of_getElem? (i := 16) rfl))) (Or.inl (hw _ (List.mem_of_getElem? (i := 18) rfl))) (by decide) (t := .long) (t' := .long) (by decide) (by decide)))
  have F_o0_soonest_5 := F_o0_soonest_4.same W5
  have N5 := Fr.snoc X5 N4 g_o0
  have Z5 : n0 ≤ h5.size := Nat.le_trans Z4 (Nat.le_of_eq W5.size.symm)
  have K5 := K4.wr W5 (Or.inl (by simp))
  refine Fin.by (B := T5.setTop (mkF m 30 #[.val (.ref o0), .val (.long v1), .second, .val (.long v3), .second] [])) (fun t k => st5 t k) ?_
  subst hr
  exact own_ret0 X5 hx hlk hret (hb hby d1_30) (by decide) (by decide) ⟨rfl, N5, (by rw [e5]; exact K5), (by rw [e5]; exact E_o0_5), (by rw [e5]; exact F_o0_period_5), (by rw [e5]; exact F_o0_shortest_5), (by rw [e5]; exact F_o0_scheduled_5), (by rw [e5]; exact F_o0_soonest_5)⟩
theorem ef_1 (m : MethodId) (o0 : Addr) (v1 : Int64) (v3 : Int64) : entryFrame m #[(.ref o0), (.long v1), (.long v3)] 5 = (mkF m 0 #[.val (.ref o0), .val (.long v1), .second, .val (.long v3), .second] []) := by first | (simp [entryFrame, mkF, argsToLocals, Value.category]; done) | rfl
set_option maxRecDepth 65536 in
set_option maxHeartbeats 40000000 in
theorem rm1 (l : Launch) (Z : State) (a0 : Array Value) (hw : ∀ d ∈ tables_1, d.before a0 Z = true) (ws : List Jvm.Cond) (o0 : Addr) (v1 : Int64) (v3 : Int64) (o0_period : Int64) (o0_shortest : Int64) (o0_scheduled : Int64) (o0_soonest : Int64) (h0 : Heap) (n0 : Nat) (Z0 : n0 ≤ h0.size) (E_o0 : Exa Z h0 o0 "com/example/quietwire/quietwire/transport/TickSchedule") (F_o0_period : Fld Z h0 o0 "com/example/quietwire/quietwire/transport/TickSchedule" "period" "J" (.long o0_period)) (F_o0_shortest : Fld Z h0 o0 "com/example/quietwire/quietwire/transport/TickSchedule" "shortest" "J" (.long o0_shortest)) (F_o0_scheduled : Fld Z h0 o0 "com/example/quietwire/quietwire/transport/TickSchedule" "scheduled" "J" (.long o0_scheduled)) (F_o0_soonest : Fld Z h0 o0 "com/example/quietwire/quietwire/transport/TickSchedule" "soonest" "J" (.long o0_soonest)) (g_o0 : n0 ≤ o0) :
    MetFree l (⟨"com/example/quietwire/quietwire/transport/TickSchedule", "<init>", "(JJ)V"⟩ : MethodName) (head1 (Jvm.Cond.code (⟨"com/example/quietwire/quietwire/transport/TickSchedule", "<init>", "(JJ)V"⟩ : MethodName) prog_116_method_1_code 5 none :: ws) R1) (fun a U => a = #[(.ref o0), (.long v1), (.long v3)] ∧ Z.Warmed39 U.vm ∧ U.heap = h0) (fun _ _ _ _ _ => True) (fun _ U o U' => ∃ v L, o = .returned v ∧ (Q1 Z o0 h0 n0 (f1_0 v1 v3 o0_period o0_shortest o0_scheduled o0_soonest)) v U'.heap L ∧ FrameEnd U o U' L R1.cells R1.slots) := by
  refine MetFree.of_bodySF (plainFor_of_name pn_1) hisR ?_
  intro p e s m args below meth c s₁ Bd hml0 hP hK
  obtain ⟨rfl, hZ, hh⟩ := hP
  have B : Ctx p Z s a0 m meth c "com/example/quietwire/quietwire/transport/TickSchedule" "<init>" prog_116_method_1_code 5 none := ⟨Bd.exec, hZ, hw, Bd.bytes, hml0, Bd.returns, findClass_of_methodNamed Bd.named, (name_of_methodNamed Bd.named Bd.method).1, Bd.notSynchronized⟩
  have X0 : Stand p l e R1 s m #[(.ref o0), (.long v1), (.long v3)] below meth c s₁ [] 0 0 := Stand.of_body Bd
  have e0 : s₁.heap = h0 := by rw [← hh, Bd.state]; rfl
  have K := Keep.refl h0 [o0]
  show Fin p e below s R1.cells R1.slots (Q1 Z o0 h0 n0 (f1_0 v1 v3 o0_period o0_shortest o0_scheduled o0_soonest)) (s₁.setTop (entryFrame m #[(.ref o0), (.long v1), (.long v3)] 5))
  refine Fin.by (fun t k => castTop (ef_1 m o0 v1 v3) k) ?_
  exact b1_0 B h0 n0 o0 v1 v3 o0_period o0_shortest o0_scheduled o0_soonest X0 e0 (Fr.nil n0) Z0 K E_o0 F_o0_period F_o0_shortest F_o0_scheduled F_o0_soonest g_o0 _ rfl
theorem pd_0 : parseMethodDescriptor "(JJ)V" = some ⟨[.long, .long], none⟩ := by decide +kernel
theorem d3_0 : decode prog_116_method_2_code 0 = .ok (.aload_n 0, 1) := by decide +kernel
theorem d3_1 : decode prog_116_method_2_code 1 = .ok (.getfield 18, 3) := by decide +kernel
theorem d3_4 : decode prog_116_method_2_code 4 = .ok (.aload_n 0, 1) := by decide +kernel
theorem d3_5 : decode prog_116_method_2_code 5 = .ok (.getfield 21, 3) := by decide +kernel
theorem d3_8 : decode prog_116_method_2_code 8 = .ok (.lsub, 1) := by decide +kernel
theorem d3_9 : decode prog_116_method_2_code 9 = .ok (.lconst 0, 1) := by decide +kernel
theorem d3_10 : decode prog_116_method_2_code 10 = .ok (.lcmp, 1) := by decide +kernel
theorem d3_11 : decode prog_116_method_2_code 11 = .ok (.ifCond .lt 10, 3) := by decide +kernel
theorem d3_14 : decode prog_116_method_2_code 14 = .ok (.aload_n 0, 1) := by decide +kernel
theorem d3_15 : decode prog_116_method_2_code 15 = .ok (.getfield 18, 3) := by decide +kernel
theorem d3_18 : decode prog_116_method_2_code 18 = .ok (.goto 7, 3) := by decide +kernel
theorem d3_21 : decode prog_116_method_2_code 21 = .ok (.aload_n 0, 1) := by decide +kernel
theorem d3_22 : decode prog_116_method_2_code 22 = .ok (.getfield 21, 3) := by decide +kernel
theorem d3_25 : decode prog_116_method_2_code 25 = .ok (.lreturn, 1) := by decide +kernel
theorem pn_3 : plainName "com/example/quietwire/quietwire/transport/TickSchedule" = true := by first | (simp [plainName, overriddenIn]; done) | decide +kernel
def R3 : Room := { frames := 0, cells := 0, slots := 0, locals := 0 }
def Q3 (Z : State)  (h0 : Heap) (n0 : Nat) (r : Int64) (v : Option Value) (h : Heap) (L : List Loc) : Prop := v = some (.long r) ∧ Fr n0 L ∧ h = h0
def f3_0 (o0_period : Int64) (o0_shortest : Int64) (o0_scheduled : Int64) (o0_soonest : Int64) : Int64 := (if (o0_scheduled - o0_soonest) < (0 : Int64) then o0_soonest else o0_scheduled)
set_option maxRecDepth 65536 in
set_option maxHeartbeats 40000000 in
theorem b3_0 {p : Program} {l : Launch} {e : Env} {s : State} {m : MethodId} {args : Array Value} {below : List Frame} {meth : Method} {c : Code} {Z : State} {a0 : Array Value} (B : Ctx p Z s a0 m meth c "com/example/quietwire/quietwire/transport/TickSchedule" "due" prog_116_method_2_code 1 (some .long)) {T0 : State} {locs : List Loc} {h : Heap} (h0 : Heap) (n0 : Nat) (o0 : Addr) (o0_period : Int64) (o0_shortest : Int64) (o0_scheduled : Int64) (o0_soonest : Int64) (X0 : Stand p l e R3 s m args below meth c T0 locs 0 0) (e0 : T0.heap = h) (N0 : Fr n0 locs) (Z0 : n0 ≤ h.size) (hh0 : h = h0) (E_o0 : Exa Z h o0 "com/example/quietwire/quietwire/transport/TickSchedule") (F_o0_period : Fld Z h o0 "com/example/quietwire/quietwire/transport/TickSchedule" "period" "J" (.long o0_period)) (F_o0_shortest : Fld Z h o0 "com/example/quietwire/quietwire/transport/TickSchedule" "shortest" "J" (.long o0_shortest)) (F_o0_scheduled : Fld Z h o0 "com/example/quietwire/quietwire/transport/TickSchedule" "scheduled" "J" (.long o0_scheduled)) (F_o0_soonest : Fld Z h o0 "com/example/quietwire/quietwire/transport/TickSchedule" "soonest" "J" (.long o0_soonest)) (r : Int64) (hr : f3_0 o0_period o0_shortest o0_scheduled o0_soonest = r) :
    Fin p e below s R3.cells R3.slots (Q3 Z  h0 n0 r) (T0.setTop (mkF m 0 #[.val (.ref o0)] [])) := by
  obtain ⟨hx, hZ, hw, hby, hml, hret, hown, hnm, hlk⟩ := B
  unfold f3_0 at hr
  refine Fin.by (B := T0.setTop (mkF m 1 #[.val (.ref o0)] [(.ref o0)])) (fun t k => ?_) ?_
  · show Steps p.tables e below (T0.setTop (mkF m 0 #[.val (.ref o0)] [])) _
    refine XS.aloadN X0.here hx rfl (hb hby d3_0) rfl rfl ?_
    exact k
  obtain ⟨T1, X1, e1, st1⟩ := getF X0 hx hZ hown (host := "") (Or.inl (hw _ (List.mem_of_getElem? (i := 15) rfl))) Via.refl e0 F_o0_scheduled (g := (mkF m 1 #[.val (.ref o0)] [(.ref o0)])) rfl rfl (hb hby d3_1)
  refine Fin.by (B := T1.setTop (mkF m 4 #[.val (.ref o0)] [(.long o0_scheduled)])) (fun t k => st1 t k) ?_
  refine Fin.by (B := T1.setTop (mkF m 5 #[.val (.ref o0)] [(.ref o0), (.long o0_scheduled)])) (fun t k => ?_) ?_
  · show Steps p.tables e below (T1.setTop (mkF m 4 #[.val (.ref o0)] [(.long o0_scheduled)])) _
    refine XS.aloadN X1.here hx rfl (hb hby d3_4) rfl rfl ?_
    exact k
  obtain ⟨T2, X2, e2, st2⟩ := getF X1 hx hZ hown (host := "") (Or.inl (hw _ (List.mem_of_getElem? (i := 17) rfl))) Via.refl e1 F_o0_soonest (g := (mkF m 5 #[.val (.ref o0)] [(.ref o0), (.long o0_scheduled)])) rfl rfl (hb hby d3_5)
  refine Fin.by (B := T2.setTop (mkF m 8 #[.val (.ref o0)] [(.long o0_soonest), (.long o0_scheduled)])) (fun t k => st2 t k) ?_
  refine Fin.by (B := T2.setTop (mkF m 11 #[.val (.ref o0)] [(.int (lcmpW (o0_scheduled - o0_soonest) (0 : Int64)))])) (fun t k => ?_) ?_
  · show Steps p.tables e below (T2.setTop (mkF m 8 #[.val (.ref o0)] [(.long o0_soonest), (.long o0_scheduled)])) _
    refine XS.lsub X2.here hx rfl (hb hby d3_8) rfl ?_
    show Steps p.tables e below (T2.setTop (mkF m 9 #[.val (.ref o0)] [(.long (o0_scheduled - o0_soonest))])) _
    refine XS.lconst X2.here hx rfl (hb hby d3_9) ?_
    show Steps p.tables e below (T2.setTop (mkF m 10 #[.val (.ref o0)] [(.long (0 : Int64)), (.long (o0_scheduled - o0_soonest))])) _
    refine XS.lcmp X2.here hx rfl (hb hby d3_10) rfl ?_
    exact k
  by_cases hc11 : (o0_scheduled - o0_soonest) < (0 : Int64)
  · rw [if_pos hc11] at hr
    refine Fin.by (B := T2.setTop (mkF m 21 #[.val (.ref o0)] [])) (fun t k => ?_) ?_
    · show Steps p.tables e below (T2.setTop (mkF m 11 #[.val (.ref o0)] [(.int (lcmpW (o0_scheduled - o0_soonest) (0 : Int64)))])) _
      exact XS.ifYes X2.here hx rfl (pc0 := 11) (pc' := 21) rfl (hb hby d3_11) rfl ((if0 _ _).trans (tlt ((lw_lt _ _).mpr hc11)).1) (by decide) (by decide) k
    refine Fin.by (B := T2.setTop (mkF m 22 #[.val (.ref o0)] [(.ref o0)])) (fun t k => ?_) ?_
    · show Steps p.tables e below (T2.setTop (mkF m 21 #[.val (.ref o0)] [])) _
      refine XS.aloadN X2.here hx rfl (hb hby d3_21) rfl rfl ?_
      exact k
    obtain ⟨T3, X3, e3, st3⟩ := getF X2 hx hZ hown (host := "") (Or.inl (hw _ (List.mem_of_getElem? (i := 17) rfl))) Via.refl e2 F_o0_soonest (g := (mkF m 22 #[.val (.ref o0)] [(.ref o0)])) rfl rfl (hb hby d3_22)
    refine Fin.by (B := T3.setTop (mkF m 25 #[.val (.ref o0)] [(.long o0_soonest)])) (fun t k => st3 t k) ?_
    subst hr
    exact own_retJ X3 hx hlk hret (hb hby d3_25) (by decide) (by decide) ⟨rfl, N0, (e3.trans hh0)⟩
  · rw [if_neg hc11] at hr
    refine Fin.by (B := T2.setTop (mkF m 14 #[.val (.ref o0)] [])) (fun t k => ?_) ?_
    · show Steps p.tables e below (T2.setTop (mkF m 11 #[.val (.ref o0)] [(.int (lcmpW (o0_scheduled - o0_soonest) (0 : Int64)))])) _
      exact XS.ifNo X2.here hx rfl (hb hby d3_11) rfl ((if0 _ _).trans (flt (fun q => hc11 ((lw_lt _ _).mp q))).1) k
    refine Fin.by (B := T2.setTop (mkF m 15 #[.val (.ref o0)] [(.ref o0)])) (fun t k => ?_) ?_
    · show Steps p.tables e below (T2.setTop (mkF m 14 #[.val (.ref o0)] [])) _
      refine XS.aloadN X2.here hx rfl (hb hby d3_14) rfl rfl ?_
      exact k
    obtain ⟨T4, X4, e4, st4⟩ := getF X2 hx hZ hown (host := "") (Or.inl (hw _ (List.mem_of_getElem? (i := 15) rfl))) Via.refl e2 F_o0_scheduled (g := (mkF m 15 #[.val (.ref o0)] [(.ref o0)])) rfl rfl (hb hby d3_15)
    refine Fin.by (B := T4.setTop (mkF m 18 #[.val (.ref o0)] [(.long o0_scheduled)])) (fun t k => st4 t k) ?_
    refine Fin.by (B := T4.setTop (mkF m 25 #[.val (.ref o0)] [(.long o0_scheduled)])) (fun t k => ?_) ?_
    · show Steps p.tables e below (T4.setTop (mkF m 18 #[.val (.ref o0)] [(.long o0_scheduled)])) _
      refine XS.goto X4.here hx rfl (pc0 := 18) (pc' := 25) rfl (hb hby d3_18) (by decide) (by decide) ?_
      exact k
    subst hr
    exact own_retJ X4 hx hlk hret (hb hby d3_25) (by decide) (by decide) ⟨rfl, N0, (e4.trans hh0)⟩
theorem ef_3 (m : MethodId) (o0 : Addr) : entryFrame m #[(.ref o0)] 1 = (mkF m 0 #[.val (.ref o0)] []) := by first | (simp [entryFrame, mkF, argsToLocals, Value.category]; done) | rfl
set_option maxRecDepth 65536 in
set_option maxHeartbeats 40000000 in
theorem rm3 (l : Launch) (Z : State) (a0 : Array Value) (hw : ∀ d ∈ tables_1, d.before a0 Z = true) (ws : List Jvm.Cond) (o0 : Addr) (o0_period : Int64) (o0_shortest : Int64) (o0_scheduled : Int64) (o0_soonest : Int64) (h0 : Heap) (n0 : Nat) (Z0 : n0 ≤ h0.size) (E_o0 : Exa Z h0 o0 "com/example/quietwire/quietwire/transport/TickSchedule") (F_o0_period : Fld Z h0 o0 "com/example/quietwire/quietwire/transport/TickSchedule" "period" "J" (.long o0_period)) (F_o0_shortest : Fld Z h0 o0 "com/example/quietwire/quietwire/transport/TickSchedule" "shortest" "J" (.long o0_shortest)) (F_o0_scheduled : Fld Z h0 o0 "com/example/quietwire/quietwire/transport/TickSchedule" "scheduled" "J" (.long o0_scheduled)) (F_o0_soonest : Fld Z h0 o0 "com/example/quietwire/quietwire/transport/TickSchedule" "soonest" "J" (.long o0_soonest)) :
    MetFree l (⟨"com/example/quietwire/quietwire/transport/TickSchedule", "due", "()J"⟩ : MethodName) (head1 (Jvm.Cond.code (⟨"com/example/quietwire/quietwire/transport/TickSchedule", "due", "()J"⟩ : MethodName) prog_116_method_2_code 1 (some .long) :: ws) R3) (fun a U => a = #[(.ref o0)] ∧ Z.Warmed39 U.vm ∧ U.heap = h0) (fun _ _ _ _ _ => True) (fun _ U o U' => ∃ v L, o = .returned v ∧ (Q3 Z  h0 n0 (f3_0 o0_period o0_shortest o0_scheduled o0_soonest)) v U'.heap L ∧ FrameEnd U o U' L R3.cells R3.slots) := by
  refine MetFree.of_bodySF (plainFor_of_name pn_3) hisR ?_
  intro p e s m args below meth c s₁ Bd hml0 hP hK
  obtain ⟨rfl, hZ, hh⟩ := hP
  have B : Ctx p Z s a0 m meth c "com/example/quietwire/quietwire/transport/TickSchedule" "due" prog_116_method_2_code 1 (some .long) := ⟨Bd.exec, hZ, hw, Bd.bytes, hml0, Bd.returns, findClass_of_methodNamed Bd.named, (name_of_methodNamed Bd.named Bd.method).1, Bd.notSynchronized⟩
  have X0 : Stand p l e R3 s m #[(.ref o0)] below meth c s₁ [] 0 0 := Stand.of_body Bd
  have e0 : s₁.heap = h0 := by rw [← hh, Bd.state]; rfl
  have K := Keep.refl h0 []
  show Fin p e below s R3.cells R3.slots (Q3 Z  h0 n0 (f3_0 o0_period o0_shortest o0_scheduled o0_soonest)) (s₁.setTop (entryFrame m #[(.ref o0)] 1))
  refine Fin.by (fun t k => castTop (ef_3 m o0) k) ?_
  exact b3_0 B h0 n0 o0 o0_period o0_shortest o0_scheduled o0_soonest X0 e0 (Fr.nil n0) Z0 rfl E_o0 F_o0_period F_o0_shortest F_o0_scheduled F_o0_soonest _ rfl
theorem pd_1 : parseMethodDescriptor "()J" = some ⟨[], some .long⟩ := by decide +kernel
theorem d4_0 : decode prog_116_method_4_code 0 = .ok (.lload_n 1, 1) := by decide +kernel
theorem d4_1 : decode prog_116_method_4_code 1 = .ok (.aload_n 0, 1) := by decide +kernel
theorem d4_2 : decode prog_116_method_4_code 2 = .ok (.getfield 18, 3) := by decide +kernel
theorem d4_5 : decode prog_116_method_4_code 5 = .ok (.lsub, 1) := by decide +kernel
theorem d4_6 : decode prog_116_method_4_code 6 = .ok (.aload_n 0, 1) := by decide +kernel
theorem d4_7 : decode prog_116_method_4_code 7 = .ok (.getfield 7, 3) := by decide +kernel
theorem d4_10 : decode prog_116_method_4_code 10 = .ok (.lcmp, 1) := by decide +kernel
theorem d4_11 : decode prog_116_method_4_code 11 = .ok (.ifCond .lt 7, 3) := by decide +kernel
theorem d4_14 : decode prog_116_method_4_code 14 = .ok (.iconst 1, 1) := by decide +kernel
theorem d4_15 : decode prog_116_method_4_code 15 = .ok (.goto 4, 3) := by decide +kernel
theorem d4_18 : decode prog_116_method_4_code 18 = .ok (.iconst 0, 1) := by decide +kernel
theorem d4_19 : decode prog_116_method_4_code 19 = .ok (.istore_n 3, 1) := by decide +kernel
theorem d4_20 : decode prog_116_method_4_code 20 = .ok (.aload_n 0, 1) := by decide +kernel
theorem d4_21 : decode prog_116_method_4_code 21 = .ok (.iload_n 3, 1) := by decide +kernel
theorem d4_22 : decode prog_116_method_4_code 22 = .ok (.ifCond .eq 12, 3) := by decide +kernel
theorem d4_25 : decode prog_116_method_4_code 25 = .ok (.lload_n 1, 1) := by decide +kernel
theorem d4_26 : decode prog_116_method_4_code 26 = .ok (.aload_n 0, 1) := by decide +kernel
theorem d4_27 : decode prog_116_method_4_code 27 = .ok (.getfield 7, 3) := by decide +kernel
theorem d4_30 : decode prog_116_method_4_code 30 = .ok (.ladd, 1) := by decide +kernel
theorem d4_31 : decode prog_116_method_4_code 31 = .ok (.goto 12, 3) := by decide +kernel
theorem d4_34 : decode prog_116_method_4_code 34 = .ok (.aload_n 0, 1) := by decide +kernel
theorem d4_35 : decode prog_116_method_4_code 35 = .ok (.getfield 18, 3) := by decide +kernel
theorem d4_38 : decode prog_116_method_4_code 38 = .ok (.aload_n 0, 1) := by decide +kernel
theorem d4_39 : decode prog_116_method_4_code 39 = .ok (.getfield 7, 3) := by decide +kernel
theorem d4_42 : decode prog_116_method_4_code 42 = .ok (.ladd, 1) := by decide +kernel
theorem d4_43 : decode prog_116_method_4_code 43 = .ok (.putfield 18, 3) := by decide +kernel
theorem d4_46 : decode prog_116_method_4_code 46 = .ok (.aload_n 0, 1) := by decide +kernel
theorem d4_47 : decode prog_116_method_4_code 47 = .ok (.lload_n 1, 1) := by decide +kernel
theorem d4_48 : decode prog_116_method_4_code 48 = .ok (.aload_n 0, 1) := by decide +kernel
theorem d4_49 : decode prog_116_method_4_code 49 = .ok (.getfield 15, 3) := by decide +kernel
theorem d4_52 : decode prog_116_method_4_code 52 = .ok (.ladd, 1) := by decide +kernel
theorem d4_53 : decode prog_116_method_4_code 53 = .ok (.putfield 21, 3) := by decide +kernel
theorem d4_56 : decode prog_116_method_4_code 56 = .ok (.return_, 1) := by decide +kernel
theorem pn_4 : plainName "com/example/quietwire/quietwire/transport/TickSchedule" = true := by first | (simp [plainName, overriddenIn]; done) | decide +kernel
def R4 : Room := { frames := 0, cells := 0, slots := 0, locals := 0 }
def Q4 (Z : State) (o0 : Addr) (h0 : Heap) (n0 : Nat) (r : Int64 × Int64 × Int64 × Int64) (v : Option Value) (h : Heap) (L : List Loc) : Prop := v = none ∧ Fr n0 L ∧ Keep h0 h [o0] ∧ Exa Z h o0 "com/example/quietwire/quietwire/transport/TickSchedule" ∧ Fld Z h o0 "com/example/quietwire/quietwire/transport/TickSchedule" "period" "J" (.long r.1) ∧ Fld Z h o0 "com/example/quietwire/quietwire/transport/TickSchedule" "shortest" "J" (.long r.2.1) ∧ Fld Z h o0 "com/example/quietwire/quietwire/transport/TickSchedule" "scheduled" "J" (.long r.2.2.1) ∧ Fld Z h o0 "com/example/quietwire/quietwire/transport/TickSchedule" "soonest" "J" (.long r.2.2.2)
def f4_43 (v1 : Int64) (v3 : Int32) (t0 : Int64) (o0_period : Int64) (o0_shortest : Int64) (o0_scheduled : Int64) (o0_soonest : Int64) : Int64 × Int64 × Int64 × Int64 := (o0_period, o0_shortest, t0, (v1 + o0_shortest))
set_option maxRecDepth 65536 in
set_option maxHeartbeats 40000000 in
theorem b4_43 {p : Program} {l : Launch} {e : Env} {s : State} {m : MethodId} {args : Array Value} {below : List Frame} {meth : Method} {c : Code} {Z : State} {a0 : Array Value} (B : Ctx p Z s a0 m meth c "com/example/quietwire/quietwire/transport/TickSchedule" "ticked" prog_116_method_4_code 4 none) {T0 : State} {locs : List Loc} {h : Heap} (h0 : Heap) (n0 : Nat) (o0 : Addr) (v1 : Int64) (v3 : Int32) (t0 : Int64) (o0_period : Int64) (o0_shortest : Int64) (o0_scheduled : Int64) (o0_soonest : Int64) (X0 : Stand p l e R4 s m args below meth c T0 locs 0 0) (e0 : T0.heap = h) (N0 : Fr n0 locs) (Z0 : n0 ≤ h.size) (K : Keep h0 h [o0]) (E_o0 : Exa Z h o0 "com/example/quietwire/quietwire/transport/TickSchedule") (F_o0_period : Fld Z h o0 "com/example/quietwire/quietwire/transport/TickSchedule" "period" "J" (.long o0_period)) (F_o0_shortest : Fld Z h o0 "com/example/quietwire/quietwire/transport/TickSchedule" "shortest" "J" (.long o0_shortest)) (F_o0_scheduled : Fld Z h o0 "com/example/quietwire/quietwire/transport/TickSchedule" "scheduled" "J" (.long o0_scheduled)) (F_o0_soonest : Fld Z h o0 "com/example/quietwire/quietwire/transport/TickSchedule" "soonest" "J" (.long o0_soonest)) (g_o0 : n0 ≤ o0) (r : Int64 × Int64 × Int64 × Int64) (hr : f4_43 v1 v3 t0 o0_period o0_shortest o0_scheduled o0_soonest = r) :
    Fin p e below s R4.cells R4.slots (Q4 Z o0 h0 n0 r) (T0.setTop (mkF m 43 #[.val (.ref o0), .val (.long v1), .second, .val (.int v3)] [(.long t0), (.ref o0)])) := by
  obtain ⟨hx, hZ, hw, hby, hml, hret, hown, hnm, hlk⟩ := B
  unfold f4_43 at hr
  obtain ⟨T5, h5, X5, e5, W5, st5⟩ := putF X0 hx hZ hown (host := "") (Or.inl (hw _ (List.mem_of_getElem? (i := 15) rfl))) Via.refl e0 F_o0_scheduled E_o0 (Or.inl (hw _ (List.mem_of_getElem? (i := 16) rfl))) (hw _ (List.mem_of_getElem? (i := 2) rfl)) (ty := .long) (by decide) rfl rfl (g := (mkF m 43 #[.val (.ref o0), .val (.long v1), .second, .val (.int v3)] [(.long t0), (.ref o0)])) rfl rfl (hb hby d4_43)
  have E_o0_5 := E_o0.wr W5
  have F_o0_period_5 := F_o0_period.other W5 (Or.inr (slot_ne (Or.inr (hw _ (List.mem_of_getElem? (i := 11) rfl))) (Or.inl (hw _ (List.mem_of_getElem? (i := 16) rfl))) (by decide) (t := .long) (t' := .long) (by decide) (by decide)))
  have F_o0_shortest_5 := F_o0_shortest.other W5 (Or.inr (slot_ne (Or.inr (hw _ (List.mem_of_getElem? (i := 14) rfl))) (Or.inl (hw _ (List.mem_of_getElem? (i := 16) rfl))) (by decide) (t := .long) (t' := .long) (by decide) (by decide)))
  have F_o0_scheduled_5 := F_o0_scheduled.same W5
  have F_o0_soonest_5 := F_o0_soonest.other W5 (Or.inr (slot_ne (Or.inl (hw _ (List.mem_of_getElem? (i := 18) rfl))) (Or.inl (hw _ (List.mem_of_getElem? (i := 16) rfl))) (by decide) (t := .long) (t' := .long) (by decide) (by decide)))
  have N5 := Fr.snoc X5 N0 g_o0
  have Z5 : n0 ≤ h5.size := Nat.le_trans Z0 (Nat.le_of_eq W5.size.symm)
  have K5 := K.wr W5 (Or.inl (by simp))
  refine Fin.by (B := T5.setTop (mkF m 46 #[.val (.ref o0), .val (.long v1), .second, .val (.int v3)] [])) (fun t k => st5 t k) ?_
  refine Fin.by (B := T5.setTop (mkF m 49 #[.val (.ref o0), .val (.long v1), .second, .val (.int v3)] [(.ref o0), (.long v1), (.ref o0)])) (fun t k => ?_) ?_
  · show Steps p.tables e below (T5.setTop (mkF m 46 #[.val (.ref o0), .val (.long v1), .second, .val (.int v3)] [])) _
    refine XS.aloadN X5.here hx rfl (hb hby d4_46) rfl rfl ?_
    show Steps p.tables e below (T5.setTop (mkF m 47 #[.val (.ref o0), .val (.long v1), .second, .val (.int v3)] [(.ref o0)])) _
    refine XS.lloadN X5.here hx rfl (hb hby d4_47) rfl  ?_
    show Steps p.tables e below (T5.setTop (mkF m 48 #[.val (.ref o0), .val (.long v1), .second, .val (.int v3)] [(.long v1), (.ref o0)])) _
    refine XS.aloadN X5.here hx rfl (hb hby d4_48) rfl rfl ?_
    exact k
  obtain ⟨T6, X6, e6, st6⟩ := getF X5 hx hZ hown (host := "") (Or.inl (hw _ (List.mem_of_getElem? (i := 13) rfl))) Via.refl e5 F_o0_shortest_5 (g := (mkF m 49 #[.val (.ref o0), .val (.long v1), .second, .val (.int v3)] [(.ref o0), (.long v1), (.ref o0)])) rfl rfl (hb hby d4_49)
  refine Fin.by (B := T6.setTop (mkF m 52 #[.val (.ref o0), .val (.long v1), .second, .val (.int v3)] [(.long o0_shortest), (.long v1), (.ref o0)])) (fun t k => st6 t k) ?_
  refine Fin.by (B := T6.setTop (mkF m 53 #[.val (.ref o0), .val (.long v1), .second, .val (.int v3)] [(.long (v1 + o0_shortest)), (.ref o0)])) (fun t k => ?_) ?_
  · show Steps p.tables e below (T6.setTop (mkF m 52 #[.val (.ref o0), .val (.long v1), .second, .val (.int v3)] [(.long o0_shortest), (.long v1), (.ref o0)])) _
    refine XS.ladd X6.here hx rfl (hb hby d4_52) rfl ?_
    exact k
  obtain ⟨T7, h7, X7, e7, W7, st7⟩ := putF X6 hx hZ hown (host := "") (Or.inl (hw _ (List.mem_of_getElem? (i := 17) rfl))) Via.refl e6 F_o0_soonest_5 E_o0_5 (Or.inl (hw _ (List.mem_of_getElem? (i := 18) rfl))) (hw _ (List.mem_of_getElem? (i := 2) rfl)) (ty := .long) (by decide) rfl rfl (g := (mkF m 53 #[.val (.ref o0), .val (.long v1), .second, .val (.int v3)] [(.long (v1 + o0_shortest)), (.ref o0)])) rfl rfl (hb hby d4_53)
  have E_o0_7 := E_o0_5.wr W7
  have F_o0_period_7 := F_o0_period_5.other W7 (Or.inr (slot_ne (Or.inr (hw _ (List.mem_of_getElem? (i := 11) rfl))) (Or.inl (hw _ (List.mem_of_getElem? (i := 18) rfl))) (by decide) (t := .long) (t' := .long) (by decide) (by decide)))
  have F_o0_shortest_7 := F_o0_shortest_5.other W7 (Or.inr (slot_ne (Or.inr (hw _ (List.mem_of_getElem? (i := 14) rfl))) (Or.inl (hw _ (List.mem_of_getElem? (i := 18) rfl))) (by decide) (t := .long) (t' := .long) (by decide) (by decide)))
  have F_o0_scheduled_7 := F_o0_scheduled_5.other W7 (Or.inr (slot_ne (Or.inl (hw _ (List.mem_of_getElem? (i := 16) rfl))) (Or.inl (hw _ (List.mem_of_getElem? (i := 18) rfl))) (by decide) (t := .long) (t' := .long) (by decide) (by decide)))
  have F_o0_soonest_7 := F_o0_soonest_5.same W7
  have N7 := Fr.snoc X7 N5 g_o0
  have Z7 : n0 ≤ h7.size := Nat.le_trans Z5 (Nat.le_of_eq W7.size.symm)
  have K7 := K5.wr W7 (Or.inl (by simp))
  refine Fin.by (B := T7.setTop (mkF m 56 #[.val (.ref o0), .val (.long v1), .second, .val (.int v3)] [])) (fun t k => st7 t k) ?_
  subst hr
  exact own_ret0 X7 hx hlk hret (hb hby d4_56) (by decide) (by decide) ⟨rfl, N7, (by rw [e7]; exact K7), (by rw [e7]; exact E_o0_7), (by rw [e7]; exact F_o0_period_7), (by rw [e7]; exact F_o0_shortest_7), (by rw [e7]; exact F_o0_scheduled_7), (by rw [e7]; exact F_o0_soonest_7)⟩
def f4_19 (v1 : Int64) (t0 : Int32) (o0_period : Int64) (o0_shortest : Int64) (o0_scheduled : Int64) (o0_soonest : Int64) : Int64 × Int64 × Int64 × Int64 := (if t0 = (0 : Int32) then (f4_43 v1 t0 (o0_scheduled + o0_period) o0_period o0_shortest o0_scheduled o0_soonest) else (f4_43 v1 t0 (v1 + o0_period) o0_period o0_shortest o0_scheduled o0_soonest))
set_option maxRecDepth 65536 in
set_option maxHeartbeats 40000000 in
theorem b4_19 {p : Program} {l : Launch} {e : Env} {s : State} {m : MethodId} {args : Array Value} {below : List Frame} {meth : Method} {c : Code} {Z : State} {a0 : Array Value} (B : Ctx p Z s a0 m meth c "com/example/quietwire/quietwire/transport/TickSchedule" "ticked" prog_116_method_4_code 4 none) {T0 : State} {locs : List Loc} {h : Heap} (h0 : Heap) (n0 : Nat) (o0 : Addr) (v1 : Int64) (t0 : Int32) (o0_period : Int64) (o0_shortest : Int64) (o0_scheduled : Int64) (o0_soonest : Int64) (X0 : Stand p l e R4 s m args below meth c T0 locs 0 0) (e0 : T0.heap = h) (N0 : Fr n0 locs) (Z0 : n0 ≤ h.size) (K : Keep h0 h [o0]) (E_o0 : Exa Z h o0 "com/example/quietwire/quietwire/transport/TickSchedule") (F_o0_period : Fld Z h o0 "com/example/quietwire/quietwire/transport/TickSchedule" "period" "J" (.long o0_period)) (F_o0_shortest : Fld Z h o0 "com/example/quietwire/quietwire/transport/TickSchedule" "shortest" "J" (.long o0_shortest)) (F_o0_scheduled : Fld Z h o0 "com/example/quietwire/quietwire/transport/TickSchedule" "scheduled" "J" (.long o0_scheduled)) (F_o0_soonest : Fld Z h o0 "com/example/quietwire/quietwire/transport/TickSchedule" "soonest" "J" (.long o0_soonest)) (g_o0 : n0 ≤ o0) (r : Int64 × Int64 × Int64 × Int64) (hr : f4_19 v1 t0 o0_period o0_shortest o0_scheduled o0_soonest = r) :
    Fin p e below s R4.cells R4.slots (Q4 Z o0 h0 n0 r) (T0.setTop (mkF m 19 #[.val (.ref o0), .val (.long v1), .second, .unset] [(.int t0)])) := by
  obtain ⟨hx, hZ, hw, hby, hml, hret, hown, hnm, hlk⟩ := B
  unfold f4_19 at hr
  refine Fin.by (B := T0.setTop (mkF m 22 #[.val (.ref o0), .val (.long v1), .second, .val (.int t0)] [(.int t0), (.ref o0)])) (fun t k => ?_) ?_
  · show Steps p.tables e below (T0.setTop (mkF m 19 #[.val (.ref o0), .val (.long v1), .second, .unset] [(.int t0)])) _
    refine XS.istoreN X0.here hx rfl (hb hby d4_19) rfl (l' := #[.val (.ref o0), .val (.long v1), .second, .val (.int t0)]) rfl ?_
    show Steps p.tables e below (T0.setTop (mkF m 20 #[.val (.ref o0), .val (.long v1), .second, .val (.int t0)] [])) _
    refine XS.aloadN X0.here hx rfl (hb hby d4_20) rfl rfl ?_
    show Steps p.tables e below (T0.setTop (mkF m 21 #[.val (.ref o0), .val (.long v1), .second, .val (.int t0)] [(.ref o0)])) _
    refine XS.iloadN X0.here hx rfl (hb hby d4_21) rfl  ?_
    exact k
  by_cases hc22 : t0 = (0 : Int32)
  · rw [if_pos hc22] at hr
    refine Fin.by (B := T0.setTop (mkF m 34 #[.val (.ref o0), .val (.long v1), .second, .val (.int t0)] [(.ref o0)])) (fun t k => ?_) ?_
    · show Steps p.tables e below (T0.setTop (mkF m 22 #[.val (.ref o0), .val (.long v1), .second, .val (.int t0)] [(.int t0), (.ref o0)])) _
      exact XS.ifYes X0.here hx rfl (pc0 := 22) (pc' := 34) rfl (hb hby d4_22) rfl ((if0 _ _).trans (teq hc22).1) (by decide) (by decide) k
    refine Fin.by (B := T0.setTop (mkF m 35 #[.val (.ref o0), .val (.long v1), .second, .val (.int t0)] [(.ref o0), (.ref o0)])) (fun t k => ?_) ?_
    · show Steps p.tables e below (T0.setTop (mkF m 34 #[.val (.ref o0), .val (.long v1), .second, .val (.int t0)] [(.ref o0)])) _
      refine XS.aloadN X0.here hx rfl (hb hby d4_34) rfl rfl ?_
      exact k
    obtain ⟨T3, X3, e3, st3⟩ := getF X0 hx hZ hown (host := "") (Or.inl (hw _ (List.mem_of_getElem? (i := 15) rfl))) Via.refl e0 F_o0_scheduled (g := (mkF m 35 #[.val (.ref o0), .val (.long v1), .second, .val (.int t0)] [(.ref o0), (.ref o0)])) rfl rfl (hb hby d4_35)
    refine Fin.by (B := T3.setTop (mkF m 38 #[.val (.ref o0), .val (.long v1), .second, .val (.int t0)] [(.long o0_scheduled), (.ref o0)])) (fun t k => st3 t k) ?_
    refine Fin.by (B := T3.setTop (mkF m 39 #[.val (.ref o0), .val (.long v1), .second, .val (.int t0)] [(.ref o0), (.long o0_scheduled), (.ref o0)])) (fun t k => ?_) ?_
    · show Steps p.tables e below (T3.setTop (mkF m 38 #[.val (.ref o0), .val (.long v1), .second, .val (.int t0)] [(.long o0_scheduled), (.ref o0)])) _
      refine XS.aloadN X3.here hx rfl (hb hby d4_38) rfl rfl ?_
      exact k
    obtain ⟨T4, X4, e4, st4⟩ := getF X3 hx hZ hown (host := "") (Or.inl (hw _ (List.mem_of_getElem? (i := 10) rfl))) Via.refl e3 F_o0_period (g := (mkF m 39 #[.val (.ref o0), .val (.long v1), .second, .val (.int t0)] [(.ref o0), (.long o0_scheduled), (.ref o0)])) rfl rfl (hb hby d4_39)
    refine Fin.by (B := T4.setTop (mkF m 42 #[.val (.ref o0), .val (.long v1), .second, .val (.int t0)] [(.long o0_period), (.long o0_scheduled), (.ref o0)])) (fun t k => st4 t k) ?_
    refine Fin.by (B := T4.setTop (mkF m 43 #[.val (.ref o0), .val (.long v1), .second, .val (.int t0)] [(.long (o0_scheduled + o0_period)), (.ref o0)])) (fun t k => ?_) ?_
    · show Steps p.tables e below (T4.setTop (mkF m 42 #[.val (.ref o0), .val (.long v1), .second, .val (.int t0)] [(.long o0_period), (.long o0_scheduled), (.ref o0)])) _
      refine XS.ladd X4.here hx rfl (hb hby d4_42) rfl ?_
      exact k
    exact b4_43 ⟨hx, hZ, hw, hby, hml, hret, hown, hnm, hlk⟩ h0 n0 o0 v1 t0 (o0_scheduled + o0_period) o0_period o0_shortest o0_scheduled o0_soonest X4 e4 N0 Z0 K E_o0 F_o0_period F_o0_shortest F_o0_scheduled F_o0_soonest g_o0 _ hr
  · rw [if_neg hc22] at hr
    refine Fin.by (B := T0.setTop (mkF m 25 #[.val (.ref o0), .val (.long v1), .second, .val (.int t0)] [(.ref o0)])) (fun t k => ?_) ?_
    · show Steps p.tables e below (T0.setTop (mkF m 22 #[.val (.ref o0), .val (.long v1), .second, .val (.int t0)] [(.int t0), (.ref o0)])) _
      exact XS.ifNo X0.here hx rfl (hb hby d4_22) rfl ((if0 _ _).trans (feq hc22).1) k
    refine Fin.by (B := T0.setTop (mkF m 27 #[.val (.ref o0), .val (.long v1), .second, .val (.int t0)] [(.ref o0), (.long v1), (.ref o0)])) (fun t k => ?_) ?_
    · show Steps p.tables e below (T0.setTop (mkF m 25 #[.val (.ref o0), .val (.long v1), .second, .val (.int t0)] [(.ref o0)])) _
      refine XS.lloadN X0.here hx rfl (hb hby d4_25) rfl  ?_
      show Steps p.tables e below (T0.setTop (mkF m 26 #[.val (.ref o0), .val (.long v1), .second, .val (.int t0)] [(.long v1), (.ref o0)])) _
      refine XS.aloadN X0.here hx rfl (hb hby d4_26) rfl rfl ?_
      exact k
    obtain ⟨T8, X8, e8, st8⟩ := getF X0 hx hZ hown (host := "") (Or.inl (hw _ (List.mem_of_getElem? (i := 10) rfl))) Via.refl e0 F_o0_period (g := (mkF m 27 #[.val (.ref o0), .val (.long v1), .second, .val (.int t0)] [(.ref o0), (.long v1), (.ref o0)])) rfl rfl (hb hby d4_27)
    refine Fin.by (B := T8.setTop (mkF m 30 #[.val (.ref o0), .val (.long v1), .second, .val (.int t0)] [(.long o0_period), (.long v1), (.ref o0)])) (fun t k => st8 t k) ?_
    refine Fin.by (B := T8.setTop (mkF m 43 #[.val (.ref o0), .val (.long v1), .second, .val (.int t0)] [(.long (v1 + o0_period)), (.ref o0)])) (fun t k => ?_) ?_
    · show Steps p.tables e below (T8.setTop (mkF m 30 #[.val (.ref o0), .val (.long v1), .second, .val (.int t0)] [(.long o0_period), (.long v1), (.ref o0)])) _
      refine XS.ladd X8.here hx rfl (hb hby d4_30) rfl ?_
      show Steps p.tables e below (T8.setTop (mkF m 31 #[.val (.ref o0), .val (.long v1), .second, .val (.int t0)] [(.long (v1 + o0_period)), (.ref o0)])) _
      refine XS.goto X8.here hx rfl (pc0 := 31) (pc' := 43) rfl (hb hby d4_31) (by decide) (by decide) ?_
      exact k
    exact b4_43 ⟨hx, hZ, hw, hby, hml, hret, hown, hnm, hlk⟩ h0 n0 o0 v1 t0 (v1 + o0_period) o0_period o0_shortest o0_scheduled o0_soonest X8 e8 N0 Z0 K E_o0 F_o0_period F_o0_shortest F_o0_scheduled F_o0_soonest g_o0 _ hr
def f4_0 (v1 : Int64) (o0_period : Int64) (o0_shortest : Int64) (o0_scheduled : Int64) (o0_soonest : Int64) : Int64 × Int64 × Int64 × Int64 := (if (v1 - o0_scheduled) < o0_period then (f4_19 v1 (0 : Int32) o0_period o0_shortest o0_scheduled o0_soonest) else (f4_19 v1 (1 : Int32) o0_period o0_shortest o0_scheduled o0_soonest))
set_option maxRecDepth 65536 in
set_option maxHeartbeats 40000000 in
theorem b4_0 {p : Program} {l : Launch} {e : Env} {s : State} {m : MethodId} {args : Array Value} {below : List Frame} {meth : Method} {c : Code} {Z : State} {a0 : Array Value} (B : Ctx p Z s a0 m meth c "com/example/quietwire/quietwire/transport/TickSchedule" "ticked" prog_116_method_4_code 4 none) {T0 : State} {locs : List Loc} {h : Heap} (h0 : Heap) (n0 : Nat) (o0 : Addr) (v1 : Int64) (o0_period : Int64) (o0_shortest : Int64) (o0_scheduled : Int64) (o0_soonest : Int64) (X0 : Stand p l e R4 s m args below meth c T0 locs 0 0) (e0 : T0.heap = h) (N0 : Fr n0 locs) (Z0 : n0 ≤ h.size) (K : Keep h0 h [o0]) (E_o0 : Exa Z h o0 "com/example/quietwire/quietwire/transport/TickSchedule") (F_o0_period : Fld Z h o0 "com/example/quietwire/quietwire/transport/TickSchedule" "period" "J" (.long o0_period)) (F_o0_shortest : Fld Z h o0 "com/example/quietwire/quietwire/transport/TickSchedule" "shortest" "J" (.long o0_shortest)) (F_o0_scheduled : Fld Z h o0 "com/example/quietwire/quietwire/transport/TickSchedule" "scheduled" "J" (.long o0_scheduled)) (F_o0_soonest : Fld Z h o0 "com/example/quietwire/quietwire/transport/TickSchedule" "soonest" "J" (.long o0_soonest)) (g_o0 : n0 ≤ o0) (r : Int64 × Int64 × Int64 × Int64) (hr : f4_0 v1 o0_period o0_shortest o0_scheduled o0_soonest = r) :
    Fin p e below s R4.cells R4.slots (Q4 Z o0 h0 n0 r) (T0.setTop (mkF m 0 #[.val (.ref o0), .val (.long v1), .second, .unset] [])) := by
  obtain ⟨hx, hZ, hw, hby, hml, hret, hown, hnm, hlk⟩ := B
  unfold f4_0 at hr
  refine Fin.by (B := T0.setTop (mkF m 2 #[.val (.ref o0), .val (.long v1), .second, .unset] [(.ref o0), (.long v1)])) (fun t k => ?_) ?_
  · show Steps p.tables e below (T0.setTop (mkF m 0 #[.val (.ref o0), .val (.long v1), .second, .unset] [])) _
    refine XS.lloadN X0.here hx rfl (hb hby d4_0) rfl  ?_
    show Steps p.tables e below (T0.setTop (mkF m 1 #[.val (.ref o0), .val (.long v1), .second, .unset] [(.long v1)])) _
    refine XS.aloadN X0.here hx rfl (hb hby d4_1) rfl rfl ?_
    exact k
  obtain ⟨T1, X1, e1, st1⟩ := getF X0 hx hZ hown (host := "") (Or.inl (hw _ (List.mem_of_getElem? (i := 15) rfl))) Via.refl e0 F_o0_scheduled (g := (mkF m 2 #[.val (.ref o0), .val (.long v1), .second, .unset] [(.ref o0), (.long v1)])) rfl rfl (hb hby d4_2)
  refine Fin.by (B := T1.setTop (mkF m 5 #[.val (.ref o0), .val (.long v1), .second, .unset] [(.long o0_scheduled), (.long v1)])) (fun t k => st1 t k) ?_
  refine Fin.by (B := T1.setTop (mkF m 7 #[.val (.ref o0), .val (.long v1), .second, .unset] [(.ref o0), (.long (v1 - o0_scheduled))])) (fun t k => ?_) ?_
  · show Steps p.tables e below (T1.setTop (mkF m 5 #[.val (.ref o0), .val (.long v1), .second, .unset] [(.long o0_scheduled), (.long v1)])) _
    refine XS.lsub X1.here hx rfl (hb hby d4_5) rfl ?_
    show Steps p.tables e below (T1.setTop (mkF m 6 #[.val (.ref o0), .val (.long v1), .second, .unset] [(.long (v1 - o0_scheduled))])) _
    refine XS.aloadN X1.here hx rfl (hb hby d4_6) rfl rfl ?_
    exact k
  obtain ⟨T2, X2, e2, st2⟩ := getF X1 hx hZ hown (host := "") (Or.inl (hw _ (List.mem_of_getElem? (i := 10) rfl))) Via.refl e1 F_o0_period (g := (mkF m 7 #[.val (.ref o0), .val (.long v1), .second, .unset] [(.ref o0), (.long (v1 - o0_scheduled))])) rfl rfl (hb hby d4_7)
  refine Fin.by (B := T2.setTop (mkF m 10 #[.val (.ref o0), .val (.long v1), .second, .unset] [(.long o0_period), (.long (v1 - o0_scheduled))])) (fun t k => st2 t k) ?_
  refine Fin.by (B := T2.setTop (mkF m 11 #[.val (.ref o0), .val (.long v1), .second, .unset] [(.int (lcmpW (v1 - o0_scheduled) o0_period))])) (fun t k => ?_) ?_
  · show Steps p.tables e below (T2.setTop (mkF m 10 #[.val (.ref o0), .val (.long v1), .second, .unset] [(.long o0_period), (.long (v1 - o0_scheduled))])) _
    refine XS.lcmp X2.here hx rfl (hb hby d4_10) rfl ?_
    exact k
  by_cases hc11 : (v1 - o0_scheduled) < o0_period
  · rw [if_pos hc11] at hr
    refine Fin.by (B := T2.setTop (mkF m 18 #[.val (.ref o0), .val (.long v1), .second, .unset] [])) (fun t k => ?_) ?_
    · show Steps p.tables e below (T2.setTop (mkF m 11 #[.val (.ref o0), .val (.long v1), .second, .unset] [(.int (lcmpW (v1 - o0_scheduled) o0_period))])) _
      exact XS.ifYes X2.here hx rfl (pc0 := 11) (pc' := 18) rfl (hb hby d4_11) rfl ((if0 _ _).trans (tlt ((lw_lt _ _).mpr hc11)).1) (by decide) (by decide) k
    refine Fin.by (B := T2.setTop (mkF m 19 #[.val (.ref o0), .val (.long v1), .second, .unset] [(.int (0 : Int32))])) (fun t k => ?_) ?_
    · show Steps p.tables e below (T2.setTop (mkF m 18 #[.val (.ref o0), .val (.long v1), .second, .unset] [])) _
      refine XS.iconst X2.here hx rfl (hb hby d4_18) ?_
      exact k
    exact b4_19 ⟨hx, hZ, hw, hby, hml, hret, hown, hnm, hlk⟩ h0 n0 o0 v1 (0 : Int32) o0_period o0_shortest o0_scheduled o0_soonest X2 e2 N0 Z0 K E_o0 F_o0_period F_o0_shortest F_o0_scheduled F_o0_soonest g_o0 _ hr
  · rw [if_neg hc11] at hr
    refine Fin.by (B := T2.setTop (mkF m 14 #[.val (.ref o0), .val (.long v1), .second, .unset] [])) (fun t k => ?_) ?_
    · show Steps p.tables e below (T2.setTop (mkF m 11 #[.val (.ref o0), .val (.long v1), .second, .unset] [(.int (lcmpW (v1 - o0_scheduled) o0_period))])) _
      exact XS.ifNo X2.here hx rfl (hb hby d4_11) rfl ((if0 _ _).trans (flt (fun q => hc11 ((lw_lt _ _).mp q))).1) k
    refine Fin.by (B := T2.setTop (mkF m 19 #[.val (.ref o0), .val (.long v1), .second, .unset] [(.int (1 : Int32))])) (fun t k => ?_) ?_
    · show Steps p.tables e below (T2.setTop (mkF m 14 #[.val (.ref o0), .val (.long v1), .second, .unset] [])) _
      refine XS.iconst X2.here hx rfl (hb hby d4_14) ?_
      show Steps p.tables e below (T2.setTop (mkF m 15 #[.val (.ref o0), .val (.long v1), .second, .unset] [(.int (1 : Int32))])) _
      refine XS.goto X2.here hx rfl (pc0 := 15) (pc' := 19) rfl (hb hby d4_15) (by decide) (by decide) ?_
      exact k
    exact b4_19 ⟨hx, hZ, hw, hby, hml, hret, hown, hnm, hlk⟩ h0 n0 o0 v1 (1 : Int32) o0_period o0_shortest o0_scheduled o0_soonest X2 e2 N0 Z0 K E_o0 F_o0_period F_o0_shortest F_o0_scheduled F_o0_soonest g_o0 _ hr
theorem ef_4 (m : MethodId) (o0 : Addr) (v1 : Int64) : entryFrame m #[(.ref o0), (.long v1)] 4 = (mkF m 0 #[.val (.ref o0), .val (.long v1), .second, .unset] []) := by first | (simp [entryFrame, mkF, argsToLocals, Value.category]; done) | rfl
set_option maxRecDepth 65536 in
set_option maxHeartbeats 40000000 in
theorem rm4 (l : Launch) (Z : State) (a0 : Array Value) (hw : ∀ d ∈ tables_1, d.before a0 Z = true) (ws : List Jvm.Cond) (o0 : Addr) (v1 : Int64) (o0_period : Int64) (o0_shortest : Int64) (o0_scheduled : Int64) (o0_soonest : Int64) (h0 : Heap) (n0 : Nat) (Z0 : n0 ≤ h0.size) (E_o0 : Exa Z h0 o0 "com/example/quietwire/quietwire/transport/TickSchedule") (F_o0_period : Fld Z h0 o0 "com/example/quietwire/quietwire/transport/TickSchedule" "period" "J" (.long o0_period)) (F_o0_shortest : Fld Z h0 o0 "com/example/quietwire/quietwire/transport/TickSchedule" "shortest" "J" (.long o0_shortest)) (F_o0_scheduled : Fld Z h0 o0 "com/example/quietwire/quietwire/transport/TickSchedule" "scheduled" "J" (.long o0_scheduled)) (F_o0_soonest : Fld Z h0 o0 "com/example/quietwire/quietwire/transport/TickSchedule" "soonest" "J" (.long o0_soonest)) (g_o0 : n0 ≤ o0) :
    MetFree l (⟨"com/example/quietwire/quietwire/transport/TickSchedule", "ticked", "(J)V"⟩ : MethodName) (head1 (Jvm.Cond.code (⟨"com/example/quietwire/quietwire/transport/TickSchedule", "ticked", "(J)V"⟩ : MethodName) prog_116_method_4_code 4 none :: ws) R4) (fun a U => a = #[(.ref o0), (.long v1)] ∧ Z.Warmed39 U.vm ∧ U.heap = h0) (fun _ _ _ _ _ => True) (fun _ U o U' => ∃ v L, o = .returned v ∧ (Q4 Z o0 h0 n0 (f4_0 v1 o0_period o0_shortest o0_scheduled o0_soonest)) v U'.heap L ∧ FrameEnd U o U' L R4.cells R4.slots) := by
  refine MetFree.of_bodySF (plainFor_of_name pn_4) hisR ?_
  intro p e s m args below meth c s₁ Bd hml0 hP hK
  obtain ⟨rfl, hZ, hh⟩ := hP
  have B : Ctx p Z s a0 m meth c "com/example/quietwire/quietwire/transport/TickSchedule" "ticked" prog_116_method_4_code 4 none := ⟨Bd.exec, hZ, hw, Bd.bytes, hml0, Bd.returns, findClass_of_methodNamed Bd.named, (name_of_methodNamed Bd.named Bd.method).1, Bd.notSynchronized⟩
  have X0 : Stand p l e R4 s m #[(.ref o0), (.long v1)] below meth c s₁ [] 0 0 := Stand.of_body Bd
  have e0 : s₁.heap = h0 := by rw [← hh, Bd.state]; rfl
  have K := Keep.refl h0 [o0]
  show Fin p e below s R4.cells R4.slots (Q4 Z o0 h0 n0 (f4_0 v1 o0_period o0_shortest o0_scheduled o0_soonest)) (s₁.setTop (entryFrame m #[(.ref o0), (.long v1)] 4))
  refine Fin.by (fun t k => castTop (ef_4 m o0 v1) k) ?_
  exact b4_0 B h0 n0 o0 v1 o0_period o0_shortest o0_scheduled o0_soonest X0 e0 (Fr.nil n0) Z0 K E_o0 F_o0_period F_o0_shortest F_o0_scheduled F_o0_soonest g_o0 _ rfl
theorem pd_2 : parseMethodDescriptor "(J)V" = some ⟨[.long], none⟩ := by decide +kernel
theorem d6_0 : decode jdk_29_method_66_code 0 = .ok (.lload_n 0, 1) := by decide +kernel
theorem d6_1 : decode jdk_29_method_66_code 1 = .ok (.lload_n 2, 1) := by decide +kernel
theorem d6_2 : decode jdk_29_method_66_code 2 = .ok (.lcmp, 1) := by decide +kernel
theorem d6_3 : decode jdk_29_method_66_code 3 = .ok (.ifCond .lt 7, 3) := by decide +kernel
theorem d6_6 : decode jdk_29_method_66_code 6 = .ok (.lload_n 0, 1) := by decide +kernel
theorem d6_7 : decode jdk_29_method_66_code 7 = .ok (.goto 4, 3) := by decide +kernel
theorem d6_10 : decode jdk_29_method_66_code 10 = .ok (.lload_n 2, 1) := by decide +kernel
theorem d6_11 : decode jdk_29_method_66_code 11 = .ok (.lreturn, 1) := by decide +kernel
def R6 : Room := { frames := 0, cells := 0, slots := 0, locals := 0 }
def Q6 (Z : State)  (h0 : Heap) (n0 : Nat) (r : Int64) (v : Option Value) (h : Heap) (L : List Loc) : Prop := v = some (.long r) ∧ Fr n0 L ∧ h = h0
def f6_0 (v0 : Int64) (v2 : Int64) : Int64 := (if v0 < v2 then v2 else v0)
set_option maxRecDepth 65536 in
set_option maxHeartbeats 40000000 in
theorem b6_0 {p : Program} {l : Launch} {e : Env} {s : State} {m : MethodId} {args : Array Value} {below : List Frame} {meth : Method} {c : Code} {Z : State} {a0 : Array Value} (B : Ctx p Z s a0 m meth c "java/lang/Math" "max" jdk_29_method_66_code 4 (some .long)) {T0 : State} {locs : List Loc} {h : Heap} (h0 : Heap) (n0 : Nat) (v0 : Int64) (v2 : Int64) (X0 : Stand p l e R6 s m args below meth c T0 locs 0 0) (e0 : T0.heap = h) (N0 : Fr n0 locs) (Z0 : n0 ≤ h.size) (hh0 : h = h0) (r : Int64) (hr : f6_0 v0 v2 = r) :
    Fin p e below s R6.cells R6.slots (Q6 Z  h0 n0 r) (T0.setTop (mkF m 0 #[.val (.long v0), .second, .val (.long v2), .second] [])) := by
  obtain ⟨hx, hZ, hw, hby, hml, hret, hown, hnm, hlk⟩ := B
  unfold f6_0 at hr
  refine Fin.by (B := T0.setTop (mkF m 3 #[.val (.long v0), .second, .val (.long v2), .second] [(.int (lcmpW v0 v2))])) (fun t k => ?_) ?_
  · show Steps p.tables e below (T0.setTop (mkF m 0 #[.val (.long v0), .second, .val (.long v2), .second] [])) _
    refine XS.lloadN X0.here hx rfl (hb hby d6_0) rfl  ?_
    show Steps p.tables e below (T0.setTop (mkF m 1 #[.val (.long v0), .second, .val (.long v2), .second] [(.long v0)])) _
    refine XS.lloadN X0.here hx rfl (hb hby d6_1) rfl  ?_
    show Steps p.tables e below (T0.setTop (mkF m 2 #[.val (.long v0), .second, .val (.long v2), .second] [(.long v2), (.long v0)])) _
    refine XS.lcmp X0.here hx rfl (hb hby d6_2) rfl ?_
    exact k
  by_cases hc3 : v0 < v2
  · rw [if_pos hc3] at hr
    refine Fin.by (B := T0.setTop (mkF m 10 #[.val (.long v0), .second, .val (.long v2), .second] [])) (fun t k => ?_) ?_
    · show Steps p.tables e below (T0.setTop (mkF m 3 #[.val (.long v0), .second, .val (.long v2), .second] [(.int (lcmpW v0 v2))])) _
      exact XS.ifYes X0.here hx rfl (pc0 := 3) (pc' := 10) rfl (hb hby d6_3) rfl ((if0 _ _).trans (tlt ((lw_lt _ _).mpr hc3)).1) (by decide) (by decide) k
    refine Fin.by (B := T0.setTop (mkF m 11 #[.val (.long v0), .second, .val (.long v2), .second] [(.long v2)])) (fun t k => ?_) ?_
    · show Steps p.tables e below (T0.setTop (mkF m 10 #[.val (.long v0), .second, .val (.long v2), .second] [])) _
      refine XS.lloadN X0.here hx rfl (hb hby d6_10) rfl  ?_
      exact k
    subst hr
    exact own_retJ X0 hx hlk hret (hb hby d6_11) (by decide) (by decide) ⟨rfl, N0, (e0.trans hh0)⟩
  · rw [if_neg hc3] at hr
    refine Fin.by (B := T0.setTop (mkF m 6 #[.val (.long v0), .second, .val (.long v2), .second] [])) (fun t k => ?_) ?_
    · show Steps p.tables e below (T0.setTop (mkF m 3 #[.val (.long v0), .second, .val (.long v2), .second] [(.int (lcmpW v0 v2))])) _
      exact XS.ifNo X0.here hx rfl (hb hby d6_3) rfl ((if0 _ _).trans (flt (fun q => hc3 ((lw_lt _ _).mp q))).1) k
    refine Fin.by (B := T0.setTop (mkF m 11 #[.val (.long v0), .second, .val (.long v2), .second] [(.long v0)])) (fun t k => ?_) ?_
    · show Steps p.tables e below (T0.setTop (mkF m 6 #[.val (.long v0), .second, .val (.long v2), .second] [])) _
      refine XS.lloadN X0.here hx rfl (hb hby d6_6) rfl  ?_
      show Steps p.tables e below (T0.setTop (mkF m 7 #[.val (.long v0), .second, .val (.long v2), .second] [(.long v0)])) _
      refine XS.goto X0.here hx rfl (pc0 := 7) (pc' := 11) rfl (hb hby d6_7) (by decide) (by decide) ?_
      exact k
    subst hr
    exact own_retJ X0 hx hlk hret (hb hby d6_11) (by decide) (by decide) ⟨rfl, N0, (e0.trans hh0)⟩
theorem ef_6 (m : MethodId) (v0 : Int64) (v2 : Int64) : entryFrame m #[(.long v0), (.long v2)] 4 = (mkF m 0 #[.val (.long v0), .second, .val (.long v2), .second] []) := by first | (simp [entryFrame, mkF, argsToLocals, Value.category]; done) | rfl
set_option maxRecDepth 65536 in
set_option maxHeartbeats 40000000 in
theorem rm6 (l : Launch) (Z : State) (a0 : Array Value) (hw : ∀ d ∈ tables_1, d.before a0 Z = true) (ws : List Jvm.Cond) (v0 : Int64) (v2 : Int64) (h0 : Heap) (n0 : Nat) (Z0 : n0 ≤ h0.size) :
    MetFree l (⟨"java/lang/Math", "max", "(JJ)J"⟩ : MethodName) (head1 (Jvm.Cond.code (⟨"java/lang/Math", "max", "(JJ)J"⟩ : MethodName) jdk_29_method_66_code 4 (some .long) :: ws) R6) (fun a U => a = #[(.long v0), (.long v2)] ∧ Z.Warmed39 U.vm ∧ U.heap = h0) (fun _ _ _ _ _ => True) (fun _ U o U' => ∃ v L, o = .returned v ∧ (Q6 Z  h0 n0 (f6_0 v0 v2)) v U'.heap L ∧ FrameEnd U o U' L R6.cells R6.slots) := by
  refine MetFree.of_bodySF (Jvm.Free.JP.mathPlain rfl (by decide +kernel)) hisR ?_
  intro p e s m args below meth c s₁ Bd hml0 hP hK
  obtain ⟨rfl, hZ, hh⟩ := hP
  have B : Ctx p Z s a0 m meth c "java/lang/Math" "max" jdk_29_method_66_code 4 (some .long) := ⟨Bd.exec, hZ, hw, Bd.bytes, hml0, Bd.returns, findClass_of_methodNamed Bd.named, (name_of_methodNamed Bd.named Bd.method).1, Bd.notSynchronized⟩
  have X0 : Stand p l e R6 s m #[(.long v0), (.long v2)] below meth c s₁ [] 0 0 := Stand.of_body Bd
  have e0 : s₁.heap = h0 := by rw [← hh, Bd.state]; rfl
  have K := Keep.refl h0 []
  show Fin p e below s R6.cells R6.slots (Q6 Z  h0 n0 (f6_0 v0 v2)) (s₁.setTop (entryFrame m #[(.long v0), (.long v2)] 4))
  refine Fin.by (fun t k => castTop (ef_6 m v0 v2) k) ?_
  exact b6_0 B h0 n0 v0 v2 X0 e0 (Fr.nil n0) Z0 rfl  _ rfl
theorem pd_3 : parseMethodDescriptor "(JJ)J" = some ⟨[.long, .long], some .long⟩ := by decide +kernel
theorem d5_0 : decode method_2_code 0 = .ok (.lload_n 0, 1) := by decide +kernel
theorem d5_1 : decode method_2_code 1 = .ok (.lload_n 0, 1) := by decide +kernel
theorem d5_2 : decode method_2_code 2 = .ok (.ldc2_w 7, 3) := by decide +kernel
theorem d5_5 : decode method_2_code 5 = .ok (.ldiv, 1) := by decide +kernel
theorem d5_6 : decode method_2_code 6 = .ok (.lsub, 1) := by decide +kernel
theorem d5_7 : decode method_2_code 7 = .ok (.lstore 4, 2) := by decide +kernel
theorem d5_9 : decode method_2_code 9 = .ok (.lload_n 2, 1) := by decide +kernel
theorem d5_10 : decode method_2_code 10 = .ok (.lload_n 0, 1) := by decide +kernel
theorem d5_11 : decode method_2_code 11 = .ok (.lcmp, 1) := by decide +kernel
theorem d5_12 : decode method_2_code 12 = .ok (.ifCond .lt 5, 3) := by decide +kernel
theorem d5_15 : decode method_2_code 15 = .ok (.lload_n 0, 1) := by decide +kernel
theorem d5_16 : decode method_2_code 16 = .ok (.lreturn, 1) := by decide +kernel
theorem d5_17 : decode method_2_code 17 = .ok (.lload_n 0, 1) := by decide +kernel
theorem d5_18 : decode method_2_code 18 = .ok (.lload_n 2, 1) := by decide +kernel
theorem d5_19 : decode method_2_code 19 = .ok (.lsub, 1) := by decide +kernel
theorem d5_20 : decode method_2_code 20 = .ok (.lload 4, 2) := by decide +kernel
theorem d5_22 : decode method_2_code 22 = .ok (.invokestatic 9, 3) := by decide +kernel
theorem d5_25 : decode method_2_code 25 = .ok (.lreturn, 1) := by decide +kernel
theorem pn_5 : plainName "com/example/quietwire/quietwire/transport/TickScheduleDuePinLaw" = true := by first | (simp [plainName, overriddenIn]; done) | decide +kernel
def R5 : Room := { frames := 1, cells := 0, slots := 0, locals := 15 }
def Q5 (Z : State)  (h0 : Heap) (n0 : Nat) (r : Int64) (v : Option Value) (h : Heap) (L : List Loc) : Prop := v = some (.long r) ∧ Fr n0 L ∧ h = h0
def f5_0 (v0 : Int64) (v2 : Int64) : Int64 := (if v2 < v0 then (f6_0 (v0 - v2) (v0 - (v0 / (10 : Int64)))) else v0)
set_option maxRecDepth 65536 in
set_option maxHeartbeats 40000000 in
theorem b5_0 {p : Program} {l : Launch} {e : Env} {s : State} {m : MethodId} {args : Array Value} {below : List Frame} {meth : Method} {c : Code} {Z : State} {a0 : Array Value} (B : Ctx p Z s a0 m meth c "com/example/quietwire/quietwire/transport/TickScheduleDuePinLaw" "gap" method_2_code 6 (some .long)) {T0 : State} {locs : List Loc} {h : Heap} (h0 : Heap) (n0 : Nat) (v0 : Int64) (v2 : Int64) (X0 : Stand p l e R5 s m args below meth c T0 locs 0 0) (e0 : T0.heap = h) (N0 : Fr n0 locs) (Z0 : n0 ≤ h.size) (hh0 : h = h0) (r : Int64) (hr : f5_0 v0 v2 = r) :
    Fin p e below s R5.cells R5.slots (Q5 Z  h0 n0 r) (T0.setTop (mkF m 0 #[.val (.long v0), .second, .val (.long v2), .second, .unset, .unset] [])) := by
  obtain ⟨hx, hZ, hw, hby, hml, hret, hown, hnm, hlk⟩ := B
  unfold f5_0 at hr
  refine Fin.by (B := T0.setTop (mkF m 5 #[.val (.long v0), .second, .val (.long v2), .second, .unset, .unset] [(.long (10 : Int64)), (.long v0), (.long v0)])) (fun t k => ?_) ?_
  · show Steps p.tables e below (T0.setTop (mkF m 0 #[.val (.long v0), .second, .val (.long v2), .second, .unset, .unset] [])) _
    refine XS.lloadN X0.here hx rfl (hb hby d5_0) rfl  ?_
    show Steps p.tables e below (T0.setTop (mkF m 1 #[.val (.long v0), .second, .val (.long v2), .second, .unset, .unset] [(.long v0)])) _
    refine XS.lloadN X0.here hx rfl (hb hby d5_1) rfl  ?_
    show Steps p.tables e below (T0.setTop (mkF m 2 #[.val (.long v0), .second, .val (.long v2), .second, .unset, .unset] [(.long v0), (.long v0)])) _
    refine X0.ldc2Long hx hown (mvT hZ (hw _ (List.mem_of_getElem? (i := 33) rfl))) (g := (mkF m 2 #[.val (.long v0), .second, .val (.long v2), .second, .unset, .unset] [(.long v0), (.long v0)])) rfl (hb hby d5_2) _ ?_
    exact k
  have hnz5 : ¬ ((10 : Int64) = (0 : Int64)) := by decide
  refine Fin.by (B := T0.setTop (mkF m 12 #[.val (.long v0), .second, .val (.long v2), .second, .val (.long (v0 - (v0 / (10 : Int64)))), .second] [(.int (lcmpW v2 v0))])) (fun t k => ?_) ?_
  · show Steps p.tables e below (T0.setTop (mkF m 5 #[.val (.long v0), .second, .val (.long v2), .second, .unset, .unset] [(.long (10 : Int64)), (.long v0), (.long v0)])) _
    refine XS.ldiv X0.here hx rfl (hb hby d5_5) rfl hnz5 ?_
    show Steps p.tables e below (T0.setTop (mkF m 6 #[.val (.long v0), .second, .val (.long v2), .second, .unset, .unset] [(.long (v0 / (10 : Int64))), (.long v0)])) _
    refine XS.lsub X0.here hx rfl (hb hby d5_6) rfl ?_
    show Steps p.tables e below (T0.setTop (mkF m 7 #[.val (.long v0), .second, .val (.long v2), .second, .unset, .unset] [(.long (v0 - (v0 / (10 : Int64))))])) _
    refine XS.lstore X0.here hx rfl (hb hby d5_7) rfl (l' := #[.val (.long v0), .second, .val (.long v2), .second, .val (.long (v0 - (v0 / (10 : Int64)))), .second]) rfl ?_
    show Steps p.tables e below (T0.setTop (mkF m 9 #[.val (.long v0), .second, .val (.long v2), .second, .val (.long (v0 - (v0 / (10 : Int64)))), .second] [])) _
    refine XS.lloadN X0.here hx rfl (hb hby d5_9) rfl  ?_
    show Steps p.tables e below (T0.setTop (mkF m 10 #[.val (.long v0), .second, .val (.long v2), .second, .val (.long (v0 - (v0 / (10 : Int64)))), .second] [(.long v2)])) _
    refine XS.lloadN X0.here hx rfl (hb hby d5_10) rfl  ?_
    show Steps p.tables e below (T0.setTop (mkF m 11 #[.val (.long v0), .second, .val (.long v2), .second, .val (.long (v0 - (v0 / (10 : Int64)))), .second] [(.long v0), (.long v2)])) _
    refine XS.lcmp X0.here hx rfl (hb hby d5_11) rfl ?_
    exact k
  by_cases hc12 : v2 < v0
  · rw [if_pos hc12] at hr
    refine Fin.by (B := T0.setTop (mkF m 17 #[.val (.long v0), .second, .val (.long v2), .second, .val (.long (v0 - (v0 / (10 : Int64)))), .second] [])) (fun t k => ?_) ?_
    · show Steps p.tables e below (T0.setTop (mkF m 12 #[.val (.long v0), .second, .val (.long v2), .second, .val (.long (v0 - (v0 / (10 : Int64)))), .second] [(.int (lcmpW v2 v0))])) _
      exact XS.ifYes X0.here hx rfl (pc0 := 12) (pc' := 17) rfl (hb hby d5_12) rfl ((if0 _ _).trans (tlt ((lw_lt _ _).mpr hc12)).1) (by decide) (by decide) k
    refine Fin.by (B := T0.setTop (mkF m 22 #[.val (.long v0), .second, .val (.long v2), .second, .val (.long (v0 - (v0 / (10 : Int64)))), .second] [(.long (v0 - (v0 / (10 : Int64)))), (.long (v0 - v2))])) (fun t k => ?_) ?_
    · show Steps p.tables e below (T0.setTop (mkF m 17 #[.val (.long v0), .second, .val (.long v2), .second, .val (.long (v0 - (v0 / (10 : Int64)))), .second] [])) _
      refine XS.lloadN X0.here hx rfl (hb hby d5_17) rfl  ?_
      show Steps p.tables e below (T0.setTop (mkF m 18 #[.val (.long v0), .second, .val (.long v2), .second, .val (.long (v0 - (v0 / (10 : Int64)))), .second] [(.long v0)])) _
      refine XS.lloadN X0.here hx rfl (hb hby d5_18) rfl  ?_
      show Steps p.tables e below (T0.setTop (mkF m 19 #[.val (.long v0), .second, .val (.long v2), .second, .val (.long (v0 - (v0 / (10 : Int64)))), .second] [(.long v2), (.long v0)])) _
      refine XS.lsub X0.here hx rfl (hb hby d5_19) rfl ?_
      show Steps p.tables e below (T0.setTop (mkF m 20 #[.val (.long v0), .second, .val (.long v2), .second, .val (.long (v0 - (v0 / (10 : Int64)))), .second] [(.long (v0 - v2))])) _
      refine XS.lload X0.here hx rfl (hb hby d5_20) rfl  ?_
      exact k
    -- pc 22: java/lang/Math.max
    obtain ⟨_, _, ⟨T1, L1, k1, n1⟩, -, X1, ⟨Lc1, hQ1, l1, y1, z1⟩, st1⟩ := Jvm.LawKit.callS X0 hx (y := (⟨"java/lang/Math", "max", "(JJ)J"⟩ : MethodName)) hown (mvT hZ (hw _ (List.mem_of_getElem? (i := 34) rfl))) (mvT hZ (hw _ (List.mem_of_getElem? (i := 35) rfl))) (mvT hZ (hw _ (List.mem_of_getElem? (i := 36) rfl))) (mvT hZ (hw _ (List.mem_of_getElem? (i := 37) rfl))) (by decide) (backOf (W := 0) (rm6 l Z a0 hw [] (v0 - v2) (v0 - (v0 / (10 : Int64))) h n0 Z0 ) hZ (hw _ (List.mem_of_getElem? (i := 37) rfl)) (hw _ (List.mem_of_getElem? (i := 36) rfl)) (by decide) (by decide)) (g := (mkF m 22 #[.val (.long v0), .second, .val (.long v2), .second, .val (.long (v0 - (v0 / (10 : Int64)))), .second] [(.long (v0 - (v0 / (10 : Int64)))), (.long (v0 - v2))])) rfl (by rw [hml]; rfl) (argsL := [(.long (v0 - v2)), (.long (v0 - (v0 / (10 : Int64))))]) (rest := []) (lenOf pd_3 rfl) rfl (by show 2 * 0 + _ ≤ _; exact Nat.le_of_eq rfl) (hb hby d5_22) (fun _ _ => ⟨rfl, e0, (by decide : 0 + R6.cells ≤ _), (by decide : 0 + R6.slots ≤ _)⟩)
    dsimp only [Pt.U, Pt.locs, Pt.cells, Pt.slots] at X1 l1 y1 z1 st1 hQ1
    subst l1 y1 z1
    obtain ⟨rfl, Nq1, e1⟩ := hQ1
    have N1 := Fr.app N0 Nq1
    refine Fin.by (B := T1.setTop (mkF m 25 #[.val (.long v0), .second, .val (.long v2), .second, .val (.long (v0 - (v0 / (10 : Int64)))), .second] [(.long (f6_0 (v0 - v2) (v0 - (v0 / (10 : Int64)))))])) (fun t k => st1 t k) ?_
    subst hr
    exact own_retJ X1 hx hlk hret (hb hby d5_25) (by decide) (by decide) ⟨rfl, N1, (e1.trans hh0)⟩
  · rw [if_neg hc12] at hr
    refine Fin.by (B := T0.setTop (mkF m 15 #[.val (.long v0), .second, .val (.long v2), .second, .val (.long (v0 - (v0 / (10 : Int64)))), .second] [])) (fun t k => ?_) ?_
    · show Steps p.tables e below (T0.setTop (mkF m 12 #[.val (.long v0), .second, .val (.long v2), .second, .val (.long (v0 - (v0 / (10 : Int64)))), .second] [(.int (lcmpW v2 v0))])) _
      exact XS.ifNo X0.here hx rfl (hb hby d5_12) rfl ((if0 _ _).trans (flt (fun q => hc12 ((lw_lt _ _).mp q))).1) k
    refine Fin.by (B := T0.setTop (mkF m 16 #[.val (.long v0), .second, .val (.long v2), .second, .val (.long (v0 - (v0 / (10 : Int64)))), .second] [(.long v0)])) (fun t k => ?_) ?_
    · show Steps p.tables e below (T0.setTop (mkF m 15 #[.val (.long v0), .second, .val (.long v2), .second, .val (.long (v0 - (v0 / (10 : Int64)))), .second] [])) _
      refine XS.lloadN X0.here hx rfl (hb hby d5_15) rfl  ?_
      exact k
    subst hr
    exact own_retJ X0 hx hlk hret (hb hby d5_16) (by decide) (by decide) ⟨rfl, N0, (e0.trans hh0)⟩
theorem ef_5 (m : MethodId) (v0 : Int64) (v2 : Int64) : entryFrame m #[(.long v0), (.long v2)] 6 = (mkF m 0 #[.val (.long v0), .second, .val (.long v2), .second, .unset, .unset] []) := by first | (simp [entryFrame, mkF, argsToLocals, Value.category]; done) | rfl
set_option maxRecDepth 65536 in
set_option maxHeartbeats 40000000 in
theorem rm5 (l : Launch) (Z : State) (a0 : Array Value) (hw : ∀ d ∈ tables_1, d.before a0 Z = true) (ws : List Jvm.Cond) (v0 : Int64) (v2 : Int64) (h0 : Heap) (n0 : Nat) (Z0 : n0 ≤ h0.size) :
    MetFree l (⟨"com/example/quietwire/quietwire/transport/TickScheduleDuePinLaw", "gap", "(JJ)J"⟩ : MethodName) (head1 (Jvm.Cond.code (⟨"com/example/quietwire/quietwire/transport/TickScheduleDuePinLaw", "gap", "(JJ)J"⟩ : MethodName) method_2_code 6 (some .long) :: ws) R5) (fun a U => a = #[(.long v0), (.long v2)] ∧ Z.Warmed39 U.vm ∧ U.heap = h0) (fun _ _ _ _ _ => True) (fun _ U o U' => ∃ v L, o = .returned v ∧ (Q5 Z  h0 n0 (f5_0 v0 v2)) v U'.heap L ∧ FrameEnd U o U' L R5.cells R5.slots) := by
  refine MetFree.of_bodySF (plainFor_of_name pn_5) hisR ?_
  intro p e s m args below meth c s₁ Bd hml0 hP hK
  obtain ⟨rfl, hZ, hh⟩ := hP
  have B : Ctx p Z s a0 m meth c "com/example/quietwire/quietwire/transport/TickScheduleDuePinLaw" "gap" method_2_code 6 (some .long) := ⟨Bd.exec, hZ, hw, Bd.bytes, hml0, Bd.returns, findClass_of_methodNamed Bd.named, (name_of_methodNamed Bd.named Bd.method).1, Bd.notSynchronized⟩
  have X0 : Stand p l e R5 s m #[(.long v0), (.long v2)] below meth c s₁ [] 0 0 := Stand.of_body Bd
  have e0 : s₁.heap = h0 := by rw [← hh, Bd.state]; rfl
  have K := Keep.refl h0 []
  show Fin p e below s R5.cells R5.slots (Q5 Z  h0 n0 (f5_0 v0 v2)) (s₁.setTop (entryFrame m #[(.long v0), (.long v2)] 6))
  refine Fin.by (fun t k => castTop (ef_5 m v0 v2) k) ?_
  exact b5_0 B h0 n0 v0 v2 X0 e0 (Fr.nil n0) Z0 rfl  _ rfl
theorem pn_0 : plainName "com/example/quietwire/quietwire/transport/TickScheduleDuePinLaw" = true := by first | (simp [plainName, overriddenIn]; done) | decide +kernel
def Q0 (n0 : Nat) (r : Int32) (v : Option Value) (h : Heap) (L : List Loc) : Prop := v = some (.int r) ∧ Fr n0 L
def f0_130 (v0 : Int64) (v2 : Int64) (v4 : Int64) (v6 : Int64) (v8 : Int64) (v10 : Int64) (v12 : Int64) (v15 : Int64) (v17 : Int64) (v19 : Int64) (v21 : Int64) (v23 : Int64) (b25_period : Int64) (b25_shortest : Int64) (b25_scheduled : Int64) (b25_soonest : Int64) : Int32 := (if (f3_0 b25_period b25_shortest b25_scheduled b25_soonest) = (v23 + (f5_0 v8 (v21 - v19))) then (1 : Int32) else (0 : Int32))
set_option maxRecDepth 65536 in
set_option maxHeartbeats 40000000 in
theorem b0_130 {p : Program} {l : Launch} {e : Env} {s : State} {m : MethodId} {args : Array Value} {below : List Frame} {meth : Method} {c : Code} {Z : State} {a0 : Array Value} (B : Ctx p Z s a0 m meth c "com/example/quietwire/quietwire/transport/TickScheduleDuePinLaw" "law" code 27 (some .boolean)) {T0 : State} {locs : List Loc} {h : Heap} (h0 : Heap) (n0 : Nat) (v0 : Int64) (v2 : Int64) (v4 : Int64) (v6 : Int64) (v8 : Int64) (v10 : Int64) (v12 : Int64) (b25 : Addr) (v15 : Int64) (v17 : Int64) (v19 : Int64) (v21 : Int64) (v23 : Int64) (b25_period : Int64) (b25_shortest : Int64) (b25_scheduled : Int64) (b25_soonest : Int64) (X0 : Stand p l e room_1 s m args below meth c T0 locs 1 4) (e0 : T0.heap = h) (N0 : Fr n0 locs) (Z0 : n0 ≤ h.size) (E_b25 : Exa Z h b25 "com/example/quietwire/quietwire/transport/TickSchedule") (F_b25_period : Fld Z h b25 "com/example/quietwire/quietwire/transport/TickSchedule" "period" "J" (.long b25_period)) (F_b25_shortest : Fld Z h b25 "com/example/quietwire/quietwire/transport/TickSchedule" "shortest" "J" (.long b25_shortest)) (F_b25_scheduled : Fld Z h b25 "com/example/quietwire/quietwire/transport/TickSchedule" "scheduled" "J" (.long b25_scheduled)) (F_b25_soonest : Fld Z h b25 "com/example/quietwire/quietwire/transport/TickSchedule" "soonest" "J" (.long b25_soonest)) (g_b25 : n0 ≤ b25) (r : Int32) (hr : f0_130 v0 v2 v4 v6 v8 v10 v12 v15 v17 v19 v21 v23 b25_period b25_shortest b25_scheduled b25_soonest = r) :
    Fin p e below s 1 4 (Q0 n0 r) (T0.setTop (mkF m 130 #[.val (.long v0), .second, .val (.long v2), .second, .val (.long v4), .second, .val (.long v6), .second, .val (.long v8), .second, .val (.long v10), .second, .val (.long v12), .second, .val (.ref b25), .val (.long v15), .second, .val (.long v17), .second, .val (.long v19), .second, .val (.long v21), .second, .val (.long v23), .second, .unset, .unset] [])) := by
  obtain ⟨hx, hZ, hw, hby, hml, hret, hown, hnm, hlk⟩ := B
  unfold f0_130 at hr
  refine Fin.by (B := T0.setTop (mkF m 137 #[.val (.long v0), .second, .val (.long v2), .second, .val (.long v4), .second, .val (.long v6), .second, .val (.long v8), .second, .val (.long v10), .second, .val (.long v12), .second, .val (.ref b25), .val (.long v15), .second, .val (.long v17), .second, .val (.long v19), .second, .val (.long v21), .second, .val (.long v23), .second, .unset, .unset] [(.long (v21 - v19)), (.long v8)])) (fun t k => ?_) ?_
  · show Steps p.tables e below (T0.setTop (mkF m 130 #[.val (.long v0), .second, .val (.long v2), .second, .val (.long v4), .second, .val (.long v6), .second, .val (.long v8), .second, .val (.long v10), .second, .val (.long v12), .second, .val (.ref b25), .val (.long v15), .second, .val (.long v17), .second, .val (.long v19), .second, .val (.long v21), .second, .val (.long v23), .second, .unset, .unset] [])) _
    refine XS.lload X0.here hx rfl (hb hby at_130) rfl  ?_
    show Steps p.tables e below (T0.setTop (mkF m 132 #[.val (.long v0), .second, .val (.long v2), .second, .val (.long v4), .second, .val (.long v6), .second, .val (.long v8), .second, .val (.long v10), .second, .val (.long v12), .second, .val (.ref b25), .val (.long v15), .second, .val (.long v17), .second, .val (.long v19), .second, .val (.long v21), .second, .val (.long v23), .second, .unset, .unset] [(.long v8)])) _
    refine XS.lload X0.here hx rfl (hb hby at_132) rfl  ?_
    show Steps p.tables e below (T0.setTop (mkF m 134 #[.val (.long v0), .second, .val (.long v2), .second, .val (.long v4), .second, .val (.long v6), .second, .val (.long v8), .second, .val (.long v10), .second, .val (.long v12), .second, .val (.ref b25), .val (.long v15), .second, .val (.long v17), .second, .val (.long v19), .second, .val (.long v21), .second, .val (.long v23), .second, .unset, .unset] [(.long v21), (.long v8)])) _
    refine XS.lload X0.here hx rfl (hb hby at_134) rfl  ?_
    show Steps p.tables e below (T0.setTop (mkF m 136 #[.val (.long v0), .second, .val (.long v2), .second, .val (.long v4), .second, .val (.long v6), .second, .val (.long v8), .second, .val (.long v10), .second, .val (.long v12), .second, .val (.ref b25), .val (.long v15), .second, .val (.long v17), .second, .val (.long v19), .second, .val (.long v21), .second, .val (.long v23), .second, .unset, .unset] [(.long v19), (.long v21), (.long v8)])) _
    refine XS.lsub X0.here hx rfl (hb hby at_136) rfl ?_
    exact k
  -- pc 137: com/example/quietwire/quietwire/transport/TickScheduleDuePinLaw.gap
  obtain ⟨_, _, ⟨T8, L8, k8, n8⟩, -, X8, ⟨Lc8, hQ8, l8, y8, z8⟩, st8⟩ := Jvm.LawKit.callS X0 hx (y := (⟨"com/example/quietwire/quietwire/transport/TickScheduleDuePinLaw", "gap", "(JJ)J"⟩ : MethodName)) hown (mvT hZ (hw _ (List.mem_of_getElem? (i := 29) rfl))) (mvT hZ (hw _ (List.mem_of_getElem? (i := 30) rfl))) (mvT hZ (hw _ (List.mem_of_getElem? (i := 31) rfl))) (mvT hZ (hw _ (List.mem_of_getElem? (i := 32) rfl))) (by decide) (backOf (W := 0) (rm5 l Z a0 hw [] v8 (v21 - v19) h n0 Z0 ) hZ (hw _ (List.mem_of_getElem? (i := 32) rfl)) (hw _ (List.mem_of_getElem? (i := 31) rfl)) (by decide) (by decide)) (g := (mkF m 137 #[.val (.long v0), .second, .val (.long v2), .second, .val (.long v4), .second, .val (.long v6), .second, .val (.long v8), .second, .val (.long v10), .second, .val (.long v12), .second, .val (.ref b25), .val (.long v15), .second, .val (.long v17), .second, .val (.long v19), .second, .val (.long v21), .second, .val (.long v23), .second, .unset, .unset] [(.long (v21 - v19)), (.long v8)])) rfl (by rw [hml]; rfl) (argsL := [(.long v8), (.long (v21 - v19))]) (rest := []) (lenOf pd_3 rfl) rfl (by show 2 * 0 + _ ≤ _; exact Nat.le_of_eq rfl) (hb hby at_137) (fun _ _ => ⟨rfl, e0, (by decide : 1 + R5.cells ≤ _), (by decide : 4 + R5.slots ≤ _)⟩)
  dsimp only [Pt.U, Pt.locs, Pt.cells, Pt.slots] at X8 l8 y8 z8 st8 hQ8
  subst l8 y8 z8
  obtain ⟨rfl, Nq8, e8⟩ := hQ8
  have N8 := Fr.app N0 Nq8
  refine Fin.by (B := T8.setTop (mkF m 140 #[.val (.long v0), .second, .val (.long v2), .second, .val (.long v4), .second, .val (.long v6), .second, .val (.long v8), .second, .val (.long v10), .second, .val (.long v12), .second, .val (.ref b25), .val (.long v15), .second, .val (.long v17), .second, .val (.long v19), .second, .val (.long v21), .second, .val (.long v23), .second, .unset, .unset] [(.long (f5_0 v8 (v21 - v19)))])) (fun t k => st8 t k) ?_
  refine Fin.by (B := T8.setTop (mkF m 144 #[.val (.long v0), .second, .val (.long v2), .second, .val (.long v4), .second, .val (.long v6), .second, .val (.long v8), .second, .val (.long v10), .second, .val (.long v12), .second, .val (.ref b25), .val (.long v15), .second, .val (.long v17), .second, .val (.long v19), .second, .val (.long v21), .second, .val (.long v23), .second, .val (.long (f5_0 v8 (v21 - v19))), .second] [(.ref b25)])) (fun t k => ?_) ?_
  · show Steps p.tables e below (T8.setTop (mkF m 140 #[.val (.long v0), .second, .val (.long v2), .second, .val (.long v4), .second, .val (.long v6), .second, .val (.long v8), .second, .val (.long v10), .second, .val (.long v12), .second, .val (.ref b25), .val (.long v15), .second, .val (.long v17), .second, .val (.long v19), .second, .val (.long v21), .second, .val (.long v23), .second, .unset, .unset] [(.long (f5_0 v8 (v21 - v19)))])) _
    refine XS.lstore X8.here hx rfl (hb hby at_140) rfl (l' := #[.val (.long v0), .second, .val (.long v2), .second, .val (.long v4), .second, .val (.long v6), .second, .val (.long v8), .second, .val (.long v10), .second, .val (.long v12), .second, .val (.ref b25), .val (.long v15), .second, .val (.long v17), .second, .val (.long v19), .second, .val (.long v21), .second, .val (.long v23), .second, .val (.long (f5_0 v8 (v21 - v19))), .second]) rfl ?_
    show Steps p.tables e below (T8.setTop (mkF m 142 #[.val (.long v0), .second, .val (.long v2), .second, .val (.long v4), .second, .val (.long v6), .second, .val (.long v8), .second, .val (.long v10), .second, .val (.long v12), .second, .val (.ref b25), .val (.long v15), .second, .val (.long v17), .second, .val (.long v19), .second, .val (.long v21), .second, .val (.long v23), .second, .val (.long (f5_0 v8 (v21 - v19))), .second] [])) _
    refine XS.aload X8.here hx rfl (hb hby at_142) rfl rfl ?_
    exact k
  -- pc 144: com/example/quietwire/quietwire/transport/TickSchedule.due
  obtain ⟨cq9, kq9, q9a, q9b, q9c⟩ := isOf hZ e8 E_b25
  obtain ⟨_, _, ⟨T9, L9, k9, n9⟩, -, X9, ⟨Lc9, hQ9, l9, y9, z9⟩, st9⟩ := X8.virtualBack hx (y := (⟨"com/example/quietwire/quietwire/transport/TickSchedule", "due", "()J"⟩ : MethodName)) (z := (⟨"com/example/quietwire/quietwire/transport/TickSchedule", "due", "()J"⟩ : MethodName)) hown (mvT hZ (hw _ (List.mem_of_getElem? (i := 19) rfl))) (mvT hZ (hw _ (List.mem_of_getElem? (i := 20) rfl))) (notFace_of_selects (args := #[]) (mvT hZ (hw _ (List.mem_of_getElem? (i := 22) rfl)))) (mvT hZ (hw _ (List.mem_of_getElem? (i := 22) rfl))) (mvT hZ (hw _ (List.mem_of_getElem? (i := 21) rfl))) (by decide) (backOf (W := 0) (rm3 l Z a0 hw [] b25 b25_period b25_shortest b25_scheduled b25_soonest h n0 Z0 E_b25 F_b25_period F_b25_shortest F_b25_scheduled F_b25_soonest) hZ (hw _ (List.mem_of_getElem? (i := 23) rfl)) (hw _ (List.mem_of_getElem? (i := 3) rfl)) (by decide) (by decide)) q9a q9c (g := (mkF m 144 #[.val (.long v0), .second, .val (.long v2), .second, .val (.long v4), .second, .val (.long v6), .second, .val (.long v8), .second, .val (.long v10), .second, .val (.long v12), .second, .val (.ref b25), .val (.long v15), .second, .val (.long v17), .second, .val (.long v19), .second, .val (.long v21), .second, .val (.long v23), .second, .val (.long (f5_0 v8 (v21 - v19))), .second] [(.ref b25)])) rfl (by rw [hml]; rfl) (Steps.refl _) (argsL := []) (rest := []) (lenOf pd_1 rfl) rfl (by show 2 * 0 + _ ≤ _; exact Nat.le_of_eq rfl) (hb hby at_144) (fun _ _ => ⟨rfl, e8, (by decide : 1 + R3.cells ≤ _), (by decide : 4 + R3.slots ≤ _)⟩)
  dsimp only [Pt.U, Pt.locs, Pt.cells, Pt.slots] at X9 l9 y9 z9 st9 hQ9
  subst l9 y9 z9
  obtain ⟨rfl, Nq9, e9⟩ := hQ9
  have N9 := Fr.app N8 Nq9
  refine Fin.by (B := T9.setTop (mkF m 147 #[.val (.long v0), .second, .val (.long v2), .second, .val (.long v4), .second, .val (.long v6), .second, .val (.long v8), .second, .val (.long v10), .second, .val (.long v12), .second, .val (.ref b25), .val (.long v15), .second, .val (.long v17), .second, .val (.long v19), .second, .val (.long v21), .second, .val (.long v23), .second, .val (.long (f5_0 v8 (v21 - v19))), .second] [(.long (f3_0 b25_period b25_shortest b25_scheduled b25_soonest))])) (fun t k => st9.trans k) ?_
  refine Fin.by (B := T9.setTop (mkF m 153 #[.val (.long v0), .second, .val (.long v2), .second, .val (.long v4), .second, .val (.long v6), .second, .val (.long v8), .second, .val (.long v10), .second, .val (.long v12), .second, .val (.ref b25), .val (.long v15), .second, .val (.long v17), .second, .val (.long v19), .second, .val (.long v21), .second, .val (.long v23), .second, .val (.long (f5_0 v8 (v21 - v19))), .second] [(.int (lcmpW (f3_0 b25_period b25_shortest b25_scheduled b25_soonest) (v23 + (f5_0 v8 (v21 - v19)))))])) (fun t k => ?_) ?_
  · show Steps p.tables e below (T9.setTop (mkF m 147 #[.val (.long v0), .second, .val (.long v2), .second, .val (.long v4), .second, .val (.long v6), .second, .val (.long v8), .second, .val (.long v10), .second, .val (.long v12), .second, .val (.ref b25), .val (.long v15), .second, .val (.long v17), .second, .val (.long v19), .second, .val (.long v21), .second, .val (.long v23), .second, .val (.long (f5_0 v8 (v21 - v19))), .second] [(.long (f3_0 b25_period b25_shortest b25_scheduled b25_soonest))])) _
    refine XS.lload X9.here hx rfl (hb hby at_147) rfl  ?_
    show Steps p.tables e below (T9.setTop (mkF m 149 #[.val (.long v0), .second, .val (.long v2), .second, .val (.long v4), .second, .val (.long v6), .second, .val (.long v8), .second, .val (.long v10), .second, .val (.long v12), .second, .val (.ref b25), .val (.long v15), .second, .val (.long v17), .second, .val (.long v19), .second, .val (.long v21), .second, .val (.long v23), .second, .val (.long (f5_0 v8 (v21 - v19))), .second] [(.long v23), (.long (f3_0 b25_period b25_shortest b25_scheduled b25_soonest))])) _
    refine XS.lload X9.here hx rfl (hb hby at_149) rfl  ?_
    show Steps p.tables e below (T9.setTop (mkF m 151 #[.val (.long v0), .second, .val (.long v2), .second, .val (.long v4), .second, .val (.long v6), .second, .val (.long v8), .second, .val (.long v10), .second, .val (.long v12), .second, .val (.ref b25), .val (.long v15), .second, .val (.long v17), .second, .val (.long v19), .second, .val (.long v21), .second, .val (.long v23), .second, .val (.long (f5_0 v8 (v21 - v19))), .second] [(.long (f5_0 v8 (v21 - v19))), (.long v23), (.long (f3_0 b25_period b25_shortest b25_scheduled b25_soonest))])) _
    refine XS.ladd X9.here hx rfl (hb hby at_151) rfl ?_
    show Steps p.tables e below (T9.setTop (mkF m 152 #[.val (.long v0), .second, .val (.long v2), .second, .val (.long v4), .second, .val (.long v6), .second, .val (.long v8), .second, .val (.long v10), .second, .val (.long v12), .second, .val (.ref b25), .val (.long v15), .second, .val (.long v17), .second, .val (.long v19), .second, .val (.long v21), .second, .val (.long v23), .second, .val (.long (f5_0 v8 (v21 - v19))), .second] [(.long (v23 + (f5_0 v8 (v21 - v19)))), (.long (f3_0 b25_period b25_shortest b25_scheduled b25_soonest))])) _
    refine XS.lcmp X9.here hx rfl (hb hby at_152) rfl ?_
    exact k
  by_cases hc153 : (f3_0 b25_period b25_shortest b25_scheduled b25_soonest) = (v23 + (f5_0 v8 (v21 - v19)))
  · rw [if_pos hc153] at hr
    refine Fin.by (B := T9.setTop (mkF m 156 #[.val (.long v0), .second, .val (.long v2), .second, .val (.long v4), .second, .val (.long v6), .second, .val (.long v8), .second, .val (.long v10), .second, .val (.long v12), .second, .val (.ref b25), .val (.long v15), .second, .val (.long v17), .second, .val (.long v19), .second, .val (.long v21), .second, .val (.long v23), .second, .val (.long (f5_0 v8 (v21 - v19))), .second] [])) (fun t k => ?_) ?_
    · show Steps p.tables e below (T9.setTop (mkF m 153 #[.val (.long v0), .second, .val (.long v2), .second, .val (.long v4), .second, .val (.long v6), .second, .val (.long v8), .second, .val (.long v10), .second, .val (.long v12), .second, .val (.ref b25), .val (.long v15), .second, .val (.long v17), .second, .val (.long v19), .second, .val (.long v21), .second, .val (.long v23), .second, .val (.long (f5_0 v8 (v21 - v19))), .second] [(.int (lcmpW (f3_0 b25_period b25_shortest b25_scheduled b25_soonest) (v23 + (f5_0 v8 (v21 - v19)))))])) _
      exact XS.ifNo X9.here hx rfl (hb hby at_153) rfl ((if0 _ _).trans (teq ((lw_eq _ _).mpr hc153)).2) k
    refine Fin.by (B := T9.setTop (mkF m 161 #[.val (.long v0), .second, .val (.long v2), .second, .val (.long v4), .second, .val (.long v6), .second, .val (.long v8), .second, .val (.long v10), .second, .val (.long v12), .second, .val (.ref b25), .val (.long v15), .second, .val (.long v17), .second, .val (.long v19), .second, .val (.long v21), .second, .val (.long v23), .second, .val (.long (f5_0 v8 (v21 - v19))), .second] [(.int (1 : Int32))])) (fun t k => ?_) ?_
    · show Steps p.tables e below (T9.setTop (mkF m 156 #[.val (.long v0), .second, .val (.long v2), .second, .val (.long v4), .second, .val (.long v6), .second, .val (.long v8), .second, .val (.long v10), .second, .val (.long v12), .second, .val (.ref b25), .val (.long v15), .second, .val (.long v17), .second, .val (.long v19), .second, .val (.long v21), .second, .val (.long v23), .second, .val (.long (f5_0 v8 (v21 - v19))), .second] [])) _
      refine XS.iconst X9.here hx rfl (hb hby at_156) ?_
      show Steps p.tables e below (T9.setTop (mkF m 157 #[.val (.long v0), .second, .val (.long v2), .second, .val (.long v4), .second, .val (.long v6), .second, .val (.long v8), .second, .val (.long v10), .second, .val (.long v12), .second, .val (.ref b25), .val (.long v15), .second, .val (.long v17), .second, .val (.long v19), .second, .val (.long v21), .second, .val (.long v23), .second, .val (.long (f5_0 v8 (v21 - v19))), .second] [(.int (1 : Int32))])) _
      refine XS.goto X9.here hx rfl (pc0 := 157) (pc' := 161) rfl (hb hby at_157) (by decide) (by decide) ?_
      exact k
    subst hr
    exact own_retN X9 hx hlk (t := .boolean) hret (by simp) (hb hby at_161) (by decide) (by decide) ⟨rfl, N9⟩
  · rw [if_neg hc153] at hr
    refine Fin.by (B := T9.setTop (mkF m 160 #[.val (.long v0), .second, .val (.long v2), .second, .val (.long v4), .second, .val (.long v6), .second, .val (.long v8), .second, .val (.long v10), .second, .val (.long v12), .second, .val (.ref b25), .val (.long v15), .second, .val (.long v17), .second, .val (.long v19), .second, .val (.long v21), .second, .val (.long v23), .second, .val (.long (f5_0 v8 (v21 - v19))), .second] [])) (fun t k => ?_) ?_
    · show Steps p.tables e below (T9.setTop (mkF m 153 #[.val (.long v0), .second, .val (.long v2), .second, .val (.long v4), .second, .val (.long v6), .second, .val (.long v8), .second, .val (.long v10), .second, .val (.long v12), .second, .val (.ref b25), .val (.long v15), .second, .val (.long v17), .second, .val (.long v19), .second, .val (.long v21), .second, .val (.long v23), .second, .val (.long (f5_0 v8 (v21 - v19))), .second] [(.int (lcmpW (f3_0 b25_period b25_shortest b25_scheduled b25_soonest) (v23 + (f5_0 v8 (v21 - v19)))))])) _
      exact XS.ifYes X9.here hx rfl (pc0 := 153) (pc' := 160) rfl (hb hby at_153) rfl ((if0 _ _).trans (feq (fun q => hc153 ((lw_eq _ _).mp q))).2) (by decide) (by decide) k
    refine Fin.by (B := T9.setTop (mkF m 161 #[.val (.long v0), .second, .val (.long v2), .second, .val (.long v4), .second, .val (.long v6), .second, .val (.long v8), .second, .val (.long v10), .second, .val (.long v12), .second, .val (.ref b25), .val (.long v15), .second, .val (.long v17), .second, .val (.long v19), .second, .val (.long v21), .second, .val (.long v23), .second, .val (.long (f5_0 v8 (v21 - v19))), .second] [(.int (0 : Int32))])) (fun t k => ?_) ?_
    · show Steps p.tables e below (T9.setTop (mkF m 160 #[.val (.long v0), .second, .val (.long v2), .second, .val (.long v4), .second, .val (.long v6), .second, .val (.long v8), .second, .val (.long v10), .second, .val (.long v12), .second, .val (.ref b25), .val (.long v15), .second, .val (.long v17), .second, .val (.long v19), .second, .val (.long v21), .second, .val (.long v23), .second, .val (.long (f5_0 v8 (v21 - v19))), .second] [])) _
      refine XS.iconst X9.here hx rfl (hb hby at_160) ?_
      exact k
    subst hr
    exact own_retN X9 hx hlk (t := .boolean) hret (by simp) (hb hby at_161) (by decide) (by decide) ⟨rfl, N9⟩
def f0_105 (v0 : Int64) (v2 : Int64) (v4 : Int64) (v6 : Int64) (v8 : Int64) (v10 : Int64) (v12 : Int64) (v15 : Int64) (v17 : Int64) (t0 : Int64) (b25_period : Int64) (b25_shortest : Int64) (b25_scheduled : Int64) (b25_soonest : Int64) : Int32 := (f0_130 v0 v2 v4 v6 v8 v10 v12 v15 v17 t0 ((v10 + v17) + v12) (v2 + ((v10 + v17) + v12)) ((f4_0 (v2 + ((v10 + v17) + v12)) b25_period b25_shortest b25_scheduled b25_soonest).1) ((f4_0 (v2 + ((v10 + v17) + v12)) b25_period b25_shortest b25_scheduled b25_soonest).2.1) ((f4_0 (v2 + ((v10 + v17) + v12)) b25_period b25_shortest b25_scheduled b25_soonest).2.2.1) ((f4_0 (v2 + ((v10 + v17) + v12)) b25_period b25_shortest b25_scheduled b25_soonest).2.2.2))
set_option maxRecDepth 65536 in
set_option maxHeartbeats 40000000 in
theorem b0_105 {p : Program} {l : Launch} {e : Env} {s : State} {m : MethodId} {args : Array Value} {below : List Frame} {meth : Method} {c : Code} {Z : State} {a0 : Array Value} (B : Ctx p Z s a0 m meth c "com/example/quietwire/quietwire/transport/TickScheduleDuePinLaw" "law" code 27 (some .boolean)) {T0 : State} {locs : List Loc} {h : Heap} (h0 : Heap) (n0 : Nat) (v0 : Int64) (v2 : Int64) (v4 : Int64) (v6 : Int64) (v8 : Int64) (v10 : Int64) (v12 : Int64) (b25 : Addr) (v15 : Int64) (v17 : Int64) (t0 : Int64) (b25_period : Int64) (b25_shortest : Int64) (b25_scheduled : Int64) (b25_soonest : Int64) (X0 : Stand p l e room_1 s m args below meth c T0 locs 1 4) (e0 : T0.heap = h) (N0 : Fr n0 locs) (Z0 : n0 ≤ h.size) (E_b25 : Exa Z h b25 "com/example/quietwire/quietwire/transport/TickSchedule") (F_b25_period : Fld Z h b25 "com/example/quietwire/quietwire/transport/TickSchedule" "period" "J" (.long b25_period)) (F_b25_shortest : Fld Z h b25 "com/example/quietwire/quietwire/transport/TickSchedule" "shortest" "J" (.long b25_shortest)) (F_b25_scheduled : Fld Z h b25 "com/example/quietwire/quietwire/transport/TickSchedule" "scheduled" "J" (.long b25_scheduled)) (F_b25_soonest : Fld Z h b25 "com/example/quietwire/quietwire/transport/TickSchedule" "soonest" "J" (.long b25_soonest)) (g_b25 : n0 ≤ b25) (r : Int32) (hr : f0_105 v0 v2 v4 v6 v8 v10 v12 v15 v17 t0 b25_period b25_shortest b25_scheduled b25_soonest = r) :
    Fin p e below s 1 4 (Q0 n0 r) (T0.setTop (mkF m 105 #[.val (.long v0), .second, .val (.long v2), .second, .val (.long v4), .second, .val (.long v6), .second, .val (.long v8), .second, .val (.long v10), .second, .val (.long v12), .second, .val (.ref b25), .val (.long v15), .second, .val (.long v17), .second, .unset, .unset, .unset, .unset, .unset, .unset, .unset, .unset] [(.long t0)])) := by
  obtain ⟨hx, hZ, hw, hby, hml, hret, hown, hnm, hlk⟩ := B
  unfold f0_105 at hr
  refine Fin.by (B := T0.setTop (mkF m 127 #[.val (.long v0), .second, .val (.long v2), .second, .val (.long v4), .second, .val (.long v6), .second, .val (.long v8), .second, .val (.long v10), .second, .val (.long v12), .second, .val (.ref b25), .val (.long v15), .second, .val (.long v17), .second, .val (.long t0), .second, .val (.long ((v10 + v17) + v12)), .second, .val (.long (v2 + ((v10 + v17) + v12))), .second, .unset, .unset] [(.long (v2 + ((v10 + v17) + v12))), (.ref b25)])) (fun t k => ?_) ?_
  · show Steps p.tables e below (T0.setTop (mkF m 105 #[.val (.long v0), .second, .val (.long v2), .second, .val (.long v4), .second, .val (.long v6), .second, .val (.long v8), .second, .val (.long v10), .second, .val (.long v12), .second, .val (.ref b25), .val (.long v15), .second, .val (.long v17), .second, .unset, .unset, .unset, .unset, .unset, .unset, .unset, .unset] [(.long t0)])) _
    refine XS.lstore X0.here hx rfl (hb hby at_105) rfl (l' := #[.val (.long v0), .second, .val (.long v2), .second, .val (.long v4), .second, .val (.long v6), .second, .val (.long v8), .second, .val (.long v10), .second, .val (.long v12), .second, .val (.ref b25), .val (.long v15), .second, .val (.long v17), .second, .val (.long t0), .second, .unset, .unset, .unset, .unset, .unset, .unset]) rfl ?_
    show Steps p.tables e below (T0.setTop (mkF m 107 #[.val (.long v0), .second, .val (.long v2), .second, .val (.long v4), .second, .val (.long v6), .second, .val (.long v8), .second, .val (.long v10), .second, .val (.long v12), .second, .val (.ref b25), .val (.long v15), .second, .val (.long v17), .second, .val (.long t0), .second, .unset, .unset, .unset, .unset, .unset, .unset] [])) _
    refine XS.lload X0.here hx rfl (hb hby at_107) rfl  ?_
    show Steps p.tables e below (T0.setTop (mkF m 109 #[.val (.long v0), .second, .val (.long v2), .second, .val (.long v4), .second, .val (.long v6), .second, .val (.long v8), .second, .val (.long v10), .second, .val (.long v12), .second, .val (.ref b25), .val (.long v15), .second, .val (.long v17), .second, .val (.long t0), .second, .unset, .unset, .unset, .unset, .unset, .unset] [(.long v10)])) _
    refine XS.lload X0.here hx rfl (hb hby at_109) rfl  ?_
    show Steps p.tables e below (T0.setTop (mkF m 111 #[.val (.long v0), .second, .val (.long v2), .second, .val (.long v4), .second, .val (.long v6), .second, .val (.long v8), .second, .val (.long v10), .second, .val (.long v12), .second, .val (.ref b25), .val (.long v15), .second, .val (.long v17), .second, .val (.long t0), .second, .unset, .unset, .unset, .unset, .unset, .unset] [(.long v17), (.long v10)])) _
    refine XS.ladd X0.here hx rfl (hb hby at_111) rfl ?_
    show Steps p.tables e below (T0.setTop (mkF m 112 #[.val (.long v0), .second, .val (.long v2), .second, .val (.long v4), .second, .val (.long v6), .second, .val (.long v8), .second, .val (.long v10), .second, .val (.long v12), .second, .val (.ref b25), .val (.long v15), .second, .val (.long v17), .second, .val (.long t0), .second, .unset, .unset, .unset, .unset, .unset, .unset] [(.long (v10 + v17))])) _
    refine XS.lload X0.here hx rfl (hb hby at_112) rfl  ?_
    show Steps p.tables e below (T0.setTop (mkF m 114 #[.val (.long v0), .second, .val (.long v2), .second, .val (.long v4), .second, .val (.long v6), .second, .val (.long v8), .second, .val (.long v10), .second, .val (.long v12), .second, .val (.ref b25), .val (.long v15), .second, .val (.long v17), .second, .val (.long t0), .second, .unset, .unset, .unset, .unset, .unset, .unset] [(.long v12), (.long (v10 + v17))])) _
    refine XS.ladd X0.here hx rfl (hb hby at_114) rfl ?_
    show Steps p.tables e below (T0.setTop (mkF m 115 #[.val (.long v0), .second, .val (.long v2), .second, .val (.long v4), .second, .val (.long v6), .second, .val (.long v8), .second, .val (.long v10), .second, .val (.long v12), .second, .val (.ref b25), .val (.long v15), .second, .val (.long v17), .second, .val (.long t0), .second, .unset, .unset, .unset, .unset, .unset, .unset] [(.long ((v10 + v17) + v12))])) _
    refine XS.lstore X0.here hx rfl (hb hby at_115) rfl (l' := #[.val (.long v0), .second, .val (.long v2), .second, .val (.long v4), .second, .val (.long v6), .second, .val (.long v8), .second, .val (.long v10), .second, .val (.long v12), .second, .val (.ref b25), .val (.long v15), .second, .val (.long v17), .second, .val (.long t0), .second, .val (.long ((v10 + v17) + v12)), .second, .unset, .unset, .unset, .unset]) rfl ?_
    show Steps p.tables e below (T0.setTop (mkF m 117 #[.val (.long v0), .second, .val (.long v2), .second, .val (.long v4), .second, .val (.long v6), .second, .val (.long v8), .second, .val (.long v10), .second, .val (.long v12), .second, .val (.ref b25), .val (.long v15), .second, .val (.long v17), .second, .val (.long t0), .second, .val (.long ((v10 + v17) + v12)), .second, .unset, .unset, .unset, .unset] [])) _
    refine XS.lloadN X0.here hx rfl (hb hby at_117) rfl  ?_
    show Steps p.tables e below (T0.setTop (mkF m 118 #[.val (.long v0), .second, .val (.long v2), .second, .val (.long v4), .second, .val (.long v6), .second, .val (.long v8), .second, .val (.long v10), .second, .val (.long v12), .second, .val (.ref b25), .val (.long v15), .second, .val (.long v17), .second, .val (.long t0), .second, .val (.long ((v10 + v17) + v12)), .second, .unset, .unset, .unset, .unset] [(.long v2)])) _
    refine XS.lload X0.here hx rfl (hb hby at_118) rfl  ?_
    show Steps p.tables e below (T0.setTop (mkF m 120 #[.val (.long v0), .second, .val (.long v2), .second, .val (.long v4), .second, .val (.long v6), .second, .val (.long v8), .second, .val (.long v10), .second, .val (.long v12), .second, .val (.ref b25), .val (.long v15), .second, .val (.long v17), .second, .val (.long t0), .second, .val (.long ((v10 + v17) + v12)), .second, .unset, .unset, .unset, .unset] [(.long ((v10 + v17) + v12)), (.long v2)])) _
    refine XS.ladd X0.here hx rfl (hb hby at_120) rfl ?_
    show Steps p.tables e below (T0.setTop (mkF m 121 #[.val (.long v0), .second, .val (.long v2), .second, .val (.long v4), .second, .val (.long v6), .second, .val (.long v8), .second, .val (.long v10), .second, .val (.long v12), .second, .val (.ref b25), .val (.long v15), .second, .val (.long v17), .second, .val (.long t0), .second, .val (.long ((v10 + v17) + v12)), .second, .unset, .unset, .unset, .unset] [(.long (v2 + ((v10 + v17) + v12)))])) _
    refine XS.lstore X0.here hx rfl (hb hby at_121) rfl (l' := #[.val (.long v0), .second, .val (.long v2), .second, .val (.long v4), .second, .val (.long v6), .second, .val (.long v8), .second, .val (.long v10), .second, .val (.long v12), .second, .val (.ref b25), .val (.long v15), .second, .val (.long v17), .second, .val (.long t0), .second, .val (.long ((v10 + v17) + v12)), .second, .val (.long (v2 + ((v10 + v17) + v12))), .second, .unset, .unset]) rfl ?_
    show Steps p.tables e below (T0.setTop (mkF m 123 #[.val (.long v0), .second, .val (.long v2), .second, .val (.long v4), .second, .val (.long v6), .second, .val (.long v8), .second, .val (.long v10), .second, .val (.long v12), .second, .val (.ref b25), .val (.long v15), .second, .val (.long v17), .second, .val (.long t0), .second, .val (.long ((v10 + v17) + v12)), .second, .val (.long (v2 + ((v10 + v17) + v12))), .second, .unset, .unset] [])) _
    refine XS.aload X0.here hx rfl (hb hby at_123) rfl rfl ?_
    show Steps p.tables e below (T0.setTop (mkF m 125 #[.val (.long v0), .second, .val (.long v2), .second, .val (.long v4), .second, .val (.long v6), .second, .val (.long v8), .second, .val (.long v10), .second, .val (.long v12), .second, .val (.ref b25), .val (.long v15), .second, .val (.long v17), .second, .val (.long t0), .second, .val (.long ((v10 + v17) + v12)), .second, .val (.long (v2 + ((v10 + v17) + v12))), .second, .unset, .unset] [(.ref b25)])) _
    refine XS.lload X0.here hx rfl (hb hby at_125) rfl  ?_
    exact k
  -- pc 127: com/example/quietwire/quietwire/transport/TickSchedule.ticked
  obtain ⟨cq7, kq7, q7a, q7b, q7c⟩ := isOf hZ e0 E_b25
  obtain ⟨_, _, ⟨T7, L7, k7, n7⟩, -, X7, ⟨Lc7, hQ7, l7, y7, z7⟩, st7⟩ := X0.virtualBack hx (y := (⟨"com/example/quietwire/quietwire/transport/TickSchedule", "ticked", "(J)V"⟩ : MethodName)) (z := (⟨"com/example/quietwire/quietwire/transport/TickSchedule", "ticked", "(J)V"⟩ : MethodName)) hown (mvT hZ (hw _ (List.mem_of_getElem? (i := 24) rfl))) (mvT hZ (hw _ (List.mem_of_getElem? (i := 25) rfl))) (notFace_of_selects (args := #[]) (mvT hZ (hw _ (List.mem_of_getElem? (i := 27) rfl)))) (mvT hZ (hw _ (List.mem_of_getElem? (i := 27) rfl))) (mvT hZ (hw _ (List.mem_of_getElem? (i := 26) rfl))) (by decide) (backOf (W := 0) (rm4 l Z a0 hw [] b25 (v2 + ((v10 + v17) + v12)) b25_period b25_shortest b25_scheduled b25_soonest h n0 Z0 E_b25 F_b25_period F_b25_shortest F_b25_scheduled F_b25_soonest g_b25) hZ (hw _ (List.mem_of_getElem? (i := 28) rfl)) (hw _ (List.mem_of_getElem? (i := 3) rfl)) (by decide) (by decide)) q7a q7c (g := (mkF m 127 #[.val (.long v0), .second, .val (.long v2), .second, .val (.long v4), .second, .val (.long v6), .second, .val (.long v8), .second, .val (.long v10), .second, .val (.long v12), .second, .val (.ref b25), .val (.long v15), .second, .val (.long v17), .second, .val (.long t0), .second, .val (.long ((v10 + v17) + v12)), .second, .val (.long (v2 + ((v10 + v17) + v12))), .second, .unset, .unset] [(.long (v2 + ((v10 + v17) + v12))), (.ref b25)])) rfl (by rw [hml]; rfl) (Steps.refl _) (argsL := [(.long (v2 + ((v10 + v17) + v12)))]) (rest := []) (lenOf pd_2 rfl) rfl (by show 2 * 0 + _ ≤ _; exact Nat.le_of_eq rfl) (hb hby at_127) (fun _ _ => ⟨rfl, e0, (by decide : 1 + R4.cells ≤ _), (by decide : 4 + R4.slots ≤ _)⟩)
  dsimp only [Pt.U, Pt.locs, Pt.cells, Pt.slots] at X7 l7 y7 z7 st7 hQ7
  subst l7 y7 z7
  obtain ⟨rfl, Nq7, Kq7, E_b25_7, F_b25_period_7, F_b25_shortest_7, F_b25_scheduled_7, F_b25_soonest_7⟩ := hQ7
  obtain ⟨h7, e7⟩ : ∃ z, T7.heap = z := ⟨_, rfl⟩
  rw [e7] at Kq7 E_b25_7 F_b25_period_7 F_b25_shortest_7 F_b25_scheduled_7 F_b25_soonest_7
  have N7 := Fr.app N0 Nq7
  have Z7 : n0 ≤ h7.size := Nat.le_trans Z0 Kq7.1
  refine Fin.by (B := T7.setTop (mkF m 130 #[.val (.long v0), .second, .val (.long v2), .second, .val (.long v4), .second, .val (.long v6), .second, .val (.long v8), .second, .val (.long v10), .second, .val (.long v12), .second, .val (.ref b25), .val (.long v15), .second, .val (.long v17), .second, .val (.long t0), .second, .val (.long ((v10 + v17) + v12)), .second, .val (.long (v2 + ((v10 + v17) + v12))), .second, .unset, .unset] [])) (fun t k => st7.trans k) ?_
  exact b0_130 ⟨hx, hZ, hw, hby, hml, hret, hown, hnm, hlk⟩ h0 n0 v0 v2 v4 v6 v8 v10 v12 b25 v15 v17 t0 ((v10 + v17) + v12) (v2 + ((v10 + v17) + v12)) ((f4_0 (v2 + ((v10 + v17) + v12)) b25_period b25_shortest b25_scheduled b25_soonest).1) ((f4_0 (v2 + ((v10 + v17) + v12)) b25_period b25_shortest b25_scheduled b25_soonest).2.1) ((f4_0 (v2 + ((v10 + v17) + v12)) b25_period b25_shortest b25_scheduled b25_soonest).2.2.1) ((f4_0 (v2 + ((v10 + v17) + v12)) b25_period b25_shortest b25_scheduled b25_soonest).2.2.2) X7 e7 N7 Z7 E_b25_7 F_b25_period_7 F_b25_shortest_7 F_b25_scheduled_7 F_b25_soonest_7 g_b25 _ hr
def f0_62 (v0 : Int64) (v2 : Int64) (v4 : Int64) (v6 : Int64) (v8 : Int64) (v10 : Int64) (v12 : Int64) (v15 : Int64) (b25_period : Int64) (b25_shortest : Int64) (b25_scheduled : Int64) (b25_soonest : Int64) : Int32 := (if (f3_0 b25_period b25_shortest b25_scheduled b25_soonest) = (v15 + (f5_0 v8 v10)) then (if v10 < v8 then (f0_105 v0 v2 v4 v6 v8 v10 v12 v15 (f5_0 v8 v10) v8 b25_period b25_shortest b25_scheduled b25_soonest) else (f0_105 v0 v2 v4 v6 v8 v10 v12 v15 (f5_0 v8 v10) (v10 + v8) b25_period b25_shortest b25_scheduled b25_soonest)) else (0 : Int32))
set_option maxRecDepth 65536 in
set_option maxHeartbeats 40000000 in
theorem b0_62 {p : Program} {l : Launch} {e : Env} {s : State} {m : MethodId} {args : Array Value} {below : List Frame} {meth : Method} {c : Code} {Z : State} {a0 : Array Value} (B : Ctx p Z s a0 m meth c "com/example/quietwire/quietwire/transport/TickScheduleDuePinLaw" "law" code 27 (some .boolean)) {T0 : State} {locs : List Loc} {h : Heap} (h0 : Heap) (n0 : Nat) (v0 : Int64) (v2 : Int64) (v4 : Int64) (v6 : Int64) (v8 : Int64) (v10 : Int64) (v12 : Int64) (b25 : Addr) (v15 : Int64) (b25_period : Int64) (b25_shortest : Int64) (b25_scheduled : Int64) (b25_soonest : Int64) (X0 : Stand p l e room_1 s m args below meth c T0 locs 1 4) (e0 : T0.heap = h) (N0 : Fr n0 locs) (Z0 : n0 ≤ h.size) (E_b25 : Exa Z h b25 "com/example/quietwire/quietwire/transport/TickSchedule") (F_b25_period : Fld Z h b25 "com/example/quietwire/quietwire/transport/TickSchedule" "period" "J" (.long b25_period)) (F_b25_shortest : Fld Z h b25 "com/example/quietwire/quietwire/transport/TickSchedule" "shortest" "J" (.long b25_shortest)) (F_b25_scheduled : Fld Z h b25 "com/example/quietwire/quietwire/transport/TickSchedule" "scheduled" "J" (.long b25_scheduled)) (F_b25_soonest : Fld Z h b25 "com/example/quietwire/quietwire/transport/TickSchedule" "soonest" "J" (.long b25_soonest)) (g_b25 : n0 ≤ b25) (r : Int32) (hr : f0_62 v0 v2 v4 v6 v8 v10 v12 v15 b25_period b25_shortest b25_scheduled b25_soonest = r) :
    Fin p e below s 1 4 (Q0 n0 r) (T0.setTop (mkF m 62 #[.val (.long v0), .second, .val (.long v2), .second, .val (.long v4), .second, .val (.long v6), .second, .val (.long v8), .second, .val (.long v10), .second, .val (.long v12), .second, .val (.ref b25), .val (.long v15), .second, .unset, .unset, .unset, .unset, .unset, .unset, .unset, .unset, .unset, .unset] [])) := by
  obtain ⟨hx, hZ, hw, hby, hml, hret, hown, hnm, hlk⟩ := B
  unfold f0_62 at hr
  refine Fin.by (B := T0.setTop (mkF m 66 #[.val (.long v0), .second, .val (.long v2), .second, .val (.long v4), .second, .val (.long v6), .second, .val (.long v8), .second, .val (.long v10), .second, .val (.long v12), .second, .val (.ref b25), .val (.long v15), .second, .unset, .unset, .unset, .unset, .unset, .unset, .unset, .unset, .unset, .unset] [(.long v10), (.long v8)])) (fun t k => ?_) ?_
  · show Steps p.tables e below (T0.setTop (mkF m 62 #[.val (.long v0), .second, .val (.long v2), .second, .val (.long v4), .second, .val (.long v6), .second, .val (.long v8), .second, .val (.long v10), .second, .val (.long v12), .second, .val (.ref b25), .val (.long v15), .second, .unset, .unset, .unset, .unset, .unset, .unset, .unset, .unset, .unset, .unset] [])) _
    refine XS.lload X0.here hx rfl (hb hby at_62) rfl  ?_
    show Steps p.tables e below (T0.setTop (mkF m 64 #[.val (.long v0), .second, .val (.long v2), .second, .val (.long v4), .second, .val (.long v6), .second, .val (.long v8), .second, .val (.long v10), .second, .val (.long v12), .second, .val (.ref b25), .val (.long v15), .second, .unset, .unset, .unset, .unset, .unset, .unset, .unset, .unset, .unset, .unset] [(.long v8)])) _
    refine XS.lload X0.here hx rfl (hb hby at_64) rfl  ?_
    exact k
  -- pc 66: com/example/quietwire/quietwire/transport/TickScheduleDuePinLaw.gap
  obtain ⟨_, _, ⟨T5, L5, k5, n5⟩, -, X5, ⟨Lc5, hQ5, l5, y5, z5⟩, st5⟩ := Jvm.LawKit.callS X0 hx (y := (⟨"com/example/quietwire/quietwire/transport/TickScheduleDuePinLaw", "gap", "(JJ)J"⟩ : MethodName)) hown (mvT hZ (hw _ (List.mem_of_getElem? (i := 29) rfl))) (mvT hZ (hw _ (List.mem_of_getElem? (i := 30) rfl))) (mvT hZ (hw _ (List.mem_of_getElem? (i := 31) rfl))) (mvT hZ (hw _ (List.mem_of_getElem? (i := 32) rfl))) (by decide) (backOf (W := 0) (rm5 l Z a0 hw [] v8 v10 h n0 Z0 ) hZ (hw _ (List.mem_of_getElem? (i := 32) rfl)) (hw _ (List.mem_of_getElem? (i := 31) rfl)) (by decide) (by decide)) (g := (mkF m 66 #[.val (.long v0), .second, .val (.long v2), .second, .val (.long v4), .second, .val (.long v6), .second, .val (.long v8), .second, .val (.long v10), .second, .val (.long v12), .second, .val (.ref b25), .val (.long v15), .second, .unset, .unset, .unset, .unset, .unset, .unset, .unset, .unset, .unset, .unset] [(.long v10), (.long v8)])) rfl (by rw [hml]; rfl) (argsL := [(.long v8), (.long v10)]) (rest := []) (lenOf pd_3 rfl) rfl (by show 2 * 0 + _ ≤ _; exact Nat.le_of_eq rfl) (hb hby at_66) (fun _ _ => ⟨rfl, e0, (by decide : 1 + R5.cells ≤ _), (by decide : 4 + R5.slots ≤ _)⟩)
  dsimp only [Pt.U, Pt.locs, Pt.cells, Pt.slots] at X5 l5 y5 z5 st5 hQ5
  subst l5 y5 z5
  obtain ⟨rfl, Nq5, e5⟩ := hQ5
  have N5 := Fr.app N0 Nq5
  refine Fin.by (B := T5.setTop (mkF m 69 #[.val (.long v0), .second, .val (.long v2), .second, .val (.long v4), .second, .val (.long v6), .second, .val (.long v8), .second, .val (.long v10), .second, .val (.long v12), .second, .val (.ref b25), .val (.long v15), .second, .unset, .unset, .unset, .unset, .unset, .unset, .unset, .unset, .unset, .unset] [(.long (f5_0 v8 v10))])) (fun t k => st5 t k) ?_
  refine Fin.by (B := T5.setTop (mkF m 73 #[.val (.long v0), .second, .val (.long v2), .second, .val (.long v4), .second, .val (.long v6), .second, .val (.long v8), .second, .val (.long v10), .second, .val (.long v12), .second, .val (.ref b25), .val (.long v15), .second, .val (.long (f5_0 v8 v10)), .second, .unset, .unset, .unset, .unset, .unset, .unset, .unset, .unset] [(.ref b25)])) (fun t k => ?_) ?_
  · show Steps p.tables e below (T5.setTop (mkF m 69 #[.val (.long v0), .second, .val (.long v2), .second, .val (.long v4), .second, .val (.long v6), .second, .val (.long v8), .second, .val (.long v10), .second, .val (.long v12), .second, .val (.ref b25), .val (.long v15), .second, .unset, .unset, .unset, .unset, .unset, .unset, .unset, .unset, .unset, .unset] [(.long (f5_0 v8 v10))])) _
    refine XS.lstore X5.here hx rfl (hb hby at_69) rfl (l' := #[.val (.long v0), .second, .val (.long v2), .second, .val (.long v4), .second, .val (.long v6), .second, .val (.long v8), .second, .val (.long v10), .second, .val (.long v12), .second, .val (.ref b25), .val (.long v15), .second, .val (.long (f5_0 v8 v10)), .second, .unset, .unset, .unset, .unset, .unset, .unset, .unset, .unset]) rfl ?_
    show Steps p.tables e below (T5.setTop (mkF m 71 #[.val (.long v0), .second, .val (.long v2), .second, .val (.long v4), .second, .val (.long v6), .second, .val (.long v8), .second, .val (.long v10), .second, .val (.long v12), .second, .val (.ref b25), .val (.long v15), .second, .val (.long (f5_0 v8 v10)), .second, .unset, .unset, .unset, .unset, .unset, .unset, .unset, .unset] [])) _
    refine XS.aload X5.here hx rfl (hb hby at_71) rfl rfl ?_
    exact k
  -- pc 73: com/example/quietwire/quietwire/transport/TickSchedule.due
  obtain ⟨cq6, kq6, q6a, q6b, q6c⟩ := isOf hZ e5 E_b25
  obtain ⟨_, _, ⟨T6, L6, k6, n6⟩, -, X6, ⟨Lc6, hQ6, l6, y6, z6⟩, st6⟩ := X5.virtualBack hx (y := (⟨"com/example/quietwire/quietwire/transport/TickSchedule", "due", "()J"⟩ : MethodName)) (z := (⟨"com/example/quietwire/quietwire/transport/TickSchedule", "due", "()J"⟩ : MethodName)) hown (mvT hZ (hw _ (List.mem_of_getElem? (i := 19) rfl))) (mvT hZ (hw _ (List.mem_of_getElem? (i := 20) rfl))) (notFace_of_selects (args := #[]) (mvT hZ (hw _ (List.mem_of_getElem? (i := 22) rfl)))) (mvT hZ (hw _ (List.mem_of_getElem? (i := 22) rfl))) (mvT hZ (hw _ (List.mem_of_getElem? (i := 21) rfl))) (by decide) (backOf (W := 0) (rm3 l Z a0 hw [] b25 b25_period b25_shortest b25_scheduled b25_soonest h n0 Z0 E_b25 F_b25_period F_b25_shortest F_b25_scheduled F_b25_soonest) hZ (hw _ (List.mem_of_getElem? (i := 23) rfl)) (hw _ (List.mem_of_getElem? (i := 3) rfl)) (by decide) (by decide)) q6a q6c (g := (mkF m 73 #[.val (.long v0), .second, .val (.long v2), .second, .val (.long v4), .second, .val (.long v6), .second, .val (.long v8), .second, .val (.long v10), .second, .val (.long v12), .second, .val (.ref b25), .val (.long v15), .second, .val (.long (f5_0 v8 v10)), .second, .unset, .unset, .unset, .unset, .unset, .unset, .unset, .unset] [(.ref b25)])) rfl (by rw [hml]; rfl) (Steps.refl _) (argsL := []) (rest := []) (lenOf pd_1 rfl) rfl (by show 2 * 0 + _ ≤ _; exact Nat.le_of_eq rfl) (hb hby at_73) (fun _ _ => ⟨rfl, e5, (by decide : 1 + R3.cells ≤ _), (by decide : 4 + R3.slots ≤ _)⟩)
  dsimp only [Pt.U, Pt.locs, Pt.cells, Pt.slots] at X6 l6 y6 z6 st6 hQ6
  subst l6 y6 z6
  obtain ⟨rfl, Nq6, e6⟩ := hQ6
  have N6 := Fr.app N5 Nq6
  refine Fin.by (B := T6.setTop (mkF m 76 #[.val (.long v0), .second, .val (.long v2), .second, .val (.long v4), .second, .val (.long v6), .second, .val (.long v8), .second, .val (.long v10), .second, .val (.long v12), .second, .val (.ref b25), .val (.long v15), .second, .val (.long (f5_0 v8 v10)), .second, .unset, .unset, .unset, .unset, .unset, .unset, .unset, .unset] [(.long (f3_0 b25_period b25_shortest b25_scheduled b25_soonest))])) (fun t k => st6.trans k) ?_
  refine Fin.by (B := T6.setTop (mkF m 82 #[.val (.long v0), .second, .val (.long v2), .second, .val (.long v4), .second, .val (.long v6), .second, .val (.long v8), .second, .val (.long v10), .second, .val (.long v12), .second, .val (.ref b25), .val (.long v15), .second, .val (.long (f5_0 v8 v10)), .second, .unset, .unset, .unset, .unset, .unset, .unset, .unset, .unset] [(.int (lcmpW (f3_0 b25_period b25_shortest b25_scheduled b25_soonest) (v15 + (f5_0 v8 v10))))])) (fun t k => ?_) ?_
  · show Steps p.tables e below (T6.setTop (mkF m 76 #[.val (.long v0), .second, .val (.long v2), .second, .val (.long v4), .second, .val (.long v6), .second, .val (.long v8), .second, .val (.long v10), .second, .val (.long v12), .second, .val (.ref b25), .val (.long v15), .second, .val (.long (f5_0 v8 v10)), .second, .unset, .unset, .unset, .unset, .unset, .unset, .unset, .unset] [(.long (f3_0 b25_period b25_shortest b25_scheduled b25_soonest))])) _
    refine XS.lload X6.here hx rfl (hb hby at_76) rfl  ?_
    show Steps p.tables e below (T6.setTop (mkF m 78 #[.val (.long v0), .second, .val (.long v2), .second, .val (.long v4), .second, .val (.long v6), .second, .val (.long v8), .second, .val (.long v10), .second, .val (.long v12), .second, .val (.ref b25), .val (.long v15), .second, .val (.long (f5_0 v8 v10)), .second, .unset, .unset, .unset, .unset, .unset, .unset, .unset, .unset] [(.long v15), (.long (f3_0 b25_period b25_shortest b25_scheduled b25_soonest))])) _
    refine XS.lload X6.here hx rfl (hb hby at_78) rfl  ?_
    show Steps p.tables e below (T6.setTop (mkF m 80 #[.val (.long v0), .second, .val (.long v2), .second, .val (.long v4), .second, .val (.long v6), .second, .val (.long v8), .second, .val (.long v10), .second, .val (.long v12), .second, .val (.ref b25), .val (.long v15), .second, .val (.long (f5_0 v8 v10)), .second, .unset, .unset, .unset, .unset, .unset, .unset, .unset, .unset] [(.long (f5_0 v8 v10)), (.long v15), (.long (f3_0 b25_period b25_shortest b25_scheduled b25_soonest))])) _
    refine XS.ladd X6.here hx rfl (hb hby at_80) rfl ?_
    show Steps p.tables e below (T6.setTop (mkF m 81 #[.val (.long v0), .second, .val (.long v2), .second, .val (.long v4), .second, .val (.long v6), .second, .val (.long v8), .second, .val (.long v10), .second, .val (.long v12), .second, .val (.ref b25), .val (.long v15), .second, .val (.long (f5_0 v8 v10)), .second, .unset, .unset, .unset, .unset, .unset, .unset, .unset, .unset] [(.long (v15 + (f5_0 v8 v10))), (.long (f3_0 b25_period b25_shortest b25_scheduled b25_soonest))])) _
    refine XS.lcmp X6.here hx rfl (hb hby at_81) rfl ?_
    exact k
  by_cases hc82 : (f3_0 b25_period b25_shortest b25_scheduled b25_soonest) = (v15 + (f5_0 v8 v10))
  · rw [if_pos hc82] at hr
    refine Fin.by (B := T6.setTop (mkF m 87 #[.val (.long v0), .second, .val (.long v2), .second, .val (.long v4), .second, .val (.long v6), .second, .val (.long v8), .second, .val (.long v10), .second, .val (.long v12), .second, .val (.ref b25), .val (.long v15), .second, .val (.long (f5_0 v8 v10)), .second, .unset, .unset, .unset, .unset, .unset, .unset, .unset, .unset] [])) (fun t k => ?_) ?_
    · show Steps p.tables e below (T6.setTop (mkF m 82 #[.val (.long v0), .second, .val (.long v2), .second, .val (.long v4), .second, .val (.long v6), .second, .val (.long v8), .second, .val (.long v10), .second, .val (.long v12), .second, .val (.ref b25), .val (.long v15), .second, .val (.long (f5_0 v8 v10)), .second, .unset, .unset, .unset, .unset, .unset, .unset, .unset, .unset] [(.int (lcmpW (f3_0 b25_period b25_shortest b25_scheduled b25_soonest) (v15 + (f5_0 v8 v10))))])) _
      exact XS.ifYes X6.here hx rfl (pc0 := 82) (pc' := 87) rfl (hb hby at_82) rfl ((if0 _ _).trans (teq ((lw_eq _ _).mpr hc82)).1) (by decide) (by decide) k
    refine Fin.by (B := T6.setTop (mkF m 92 #[.val (.long v0), .second, .val (.long v2), .second, .val (.long v4), .second, .val (.long v6), .second, .val (.long v8), .second, .val (.long v10), .second, .val (.long v12), .second, .val (.ref b25), .val (.long v15), .second, .val (.long (f5_0 v8 v10)), .second, .unset, .unset, .unset, .unset, .unset, .unset, .unset, .unset] [(.int (lcmpW v10 v8))])) (fun t k => ?_) ?_
    · show Steps p.tables e below (T6.setTop (mkF m 87 #[.val (.long v0), .second, .val (.long v2), .second, .val (.long v4), .second, .val (.long v6), .second, .val (.long v8), .second, .val (.long v10), .second, .val (.long v12), .second, .val (.ref b25), .val (.long v15), .second, .val (.long (f5_0 v8 v10)), .second, .unset, .unset, .unset, .unset, .unset, .unset, .unset, .unset] [])) _
      refine XS.lload X6.here hx rfl (hb hby at_87) rfl  ?_
      show Steps p.tables e below (T6.setTop (mkF m 89 #[.val (.long v0), .second, .val (.long v2), .second, .val (.long v4), .second, .val (.long v6), .second, .val (.long v8), .second, .val (.long v10), .second, .val (.long v12), .second, .val (.ref b25), .val (.long v15), .second, .val (.long (f5_0 v8 v10)), .second, .unset, .unset, .unset, .unset, .unset, .unset, .unset, .unset] [(.long v10)])) _
      refine XS.lload X6.here hx rfl (hb hby at_89) rfl  ?_
      show Steps p.tables e below (T6.setTop (mkF m 91 #[.val (.long v0), .second, .val (.long v2), .second, .val (.long v4), .second, .val (.long v6), .second, .val (.long v8), .second, .val (.long v10), .second, .val (.long v12), .second, .val (.ref b25), .val (.long v15), .second, .val (.long (f5_0 v8 v10)), .second, .unset, .unset, .unset, .unset, .unset, .unset, .unset, .unset] [(.long v8), (.long v10)])) _
      refine XS.lcmp X6.here hx rfl (hb hby at_91) rfl ?_
      exact k
    by_cases hc92 : v10 < v8
    · rw [if_pos hc92] at hr
      refine Fin.by (B := T6.setTop (mkF m 103 #[.val (.long v0), .second, .val (.long v2), .second, .val (.long v4), .second, .val (.long v6), .second, .val (.long v8), .second, .val (.long v10), .second, .val (.long v12), .second, .val (.ref b25), .val (.long v15), .second, .val (.long (f5_0 v8 v10)), .second, .unset, .unset, .unset, .unset, .unset, .unset, .unset, .unset] [])) (fun t k => ?_) ?_
      · show Steps p.tables e below (T6.setTop (mkF m 92 #[.val (.long v0), .second, .val (.long v2), .second, .val (.long v4), .second, .val (.long v6), .second, .val (.long v8), .second, .val (.long v10), .second, .val (.long v12), .second, .val (.ref b25), .val (.long v15), .second, .val (.long (f5_0 v8 v10)), .second, .unset, .unset, .unset, .unset, .unset, .unset, .unset, .unset] [(.int (lcmpW v10 v8))])) _
        exact XS.ifYes X6.here hx rfl (pc0 := 92) (pc' := 103) rfl (hb hby at_92) rfl ((if0 _ _).trans (tlt ((lw_lt _ _).mpr hc92)).1) (by decide) (by decide) k
      refine Fin.by (B := T6.setTop (mkF m 105 #[.val (.long v0), .second, .val (.long v2), .second, .val (.long v4), .second, .val (.long v6), .second, .val (.long v8), .second, .val (.long v10), .second, .val (.long v12), .second, .val (.ref b25), .val (.long v15), .second, .val (.long (f5_0 v8 v10)), .second, .unset, .unset, .unset, .unset, .unset, .unset, .unset, .unset] [(.long v8)])) (fun t k => ?_) ?_
      · show Steps p.tables e below (T6.setTop (mkF m 103 #[.val (.long v0), .second, .val (.long v2), .second, .val (.long v4), .second, .val (.long v6), .second, .val (.long v8), .second, .val (.long v10), .second, .val (.long v12), .second, .val (.ref b25), .val (.long v15), .second, .val (.long (f5_0 v8 v10)), .second, .unset, .unset, .unset, .unset, .unset, .unset, .unset, .unset] [])) _
        refine XS.lload X6.here hx rfl (hb hby at_103) rfl  ?_
        exact k
      exact b0_105 ⟨hx, hZ, hw, hby, hml, hret, hown, hnm, hlk⟩ h0 n0 v0 v2 v4 v6 v8 v10 v12 b25 v15 (f5_0 v8 v10) v8 b25_period b25_shortest b25_scheduled b25_soonest X6 e6 N6 Z0 E_b25 F_b25_period F_b25_shortest F_b25_scheduled F_b25_soonest g_b25 _ hr
    · rw [if_neg hc92] at hr
      refine Fin.by (B := T6.setTop (mkF m 95 #[.val (.long v0), .second, .val (.long v2), .second, .val (.long v4), .second, .val (.long v6), .second, .val (.long v8), .second, .val (.long v10), .second, .val (.long v12), .second, .val (.ref b25), .val (.long v15), .second, .val (.long (f5_0 v8 v10)), .second, .unset, .unset, .unset, .unset, .unset, .unset, .unset, .unset] [])) (fun t k => ?_) ?_
      · show Steps p.tables e below (T6.setTop (mkF m 92 #[.val (.long v0), .second, .val (.long v2), .second, .val (.long v4), .second, .val (.long v6), .second, .val (.long v8), .second, .val (.long v10), .second, .val (.long v12), .second, .val (.ref b25), .val (.long v15), .second, .val (.long (f5_0 v8 v10)), .second, .unset, .unset, .unset, .unset, .unset, .unset, .unset, .unset] [(.int (lcmpW v10 v8))])) _
        exact XS.ifNo X6.here hx rfl (hb hby at_92) rfl ((if0 _ _).trans (flt (fun q => hc92 ((lw_lt _ _).mp q))).1) k
      refine Fin.by (B := T6.setTop (mkF m 105 #[.val (.long v0), .second, .val (.long v2), .second, .val (.long v4), .second, .val (.long v6), .second, .val (.long v8), .second, .val (.long v10), .second, .val (.long v12), .second, .val (.ref b25), .val (.long v15), .second, .val (.long (f5_0 v8 v10)), .second, .unset, .unset, .unset, .unset, .unset, .unset, .unset, .unset] [(.long (v10 + v8))])) (fun t k => ?_) ?_
      · show Steps p.tables e below (T6.setTop (mkF m 95 #[.val (.long v0), .second, .val (.long v2), .second, .val (.long v4), .second, .val (.long v6), .second, .val (.long v8), .second, .val (.long v10), .second, .val (.long v12), .second, .val (.ref b25), .val (.long v15), .second, .val (.long (f5_0 v8 v10)), .second, .unset, .unset, .unset, .unset, .unset, .unset, .unset, .unset] [])) _
        refine XS.lload X6.here hx rfl (hb hby at_95) rfl  ?_
        show Steps p.tables e below (T6.setTop (mkF m 97 #[.val (.long v0), .second, .val (.long v2), .second, .val (.long v4), .second, .val (.long v6), .second, .val (.long v8), .second, .val (.long v10), .second, .val (.long v12), .second, .val (.ref b25), .val (.long v15), .second, .val (.long (f5_0 v8 v10)), .second, .unset, .unset, .unset, .unset, .unset, .unset, .unset, .unset] [(.long v10)])) _
        refine XS.lload X6.here hx rfl (hb hby at_97) rfl  ?_
        show Steps p.tables e below (T6.setTop (mkF m 99 #[.val (.long v0), .second, .val (.long v2), .second, .val (.long v4), .second, .val (.long v6), .second, .val (.long v8), .second, .val (.long v10), .second, .val (.long v12), .second, .val (.ref b25), .val (.long v15), .second, .val (.long (f5_0 v8 v10)), .second, .unset, .unset, .unset, .unset, .unset, .unset, .unset, .unset] [(.long v8), (.long v10)])) _
        refine XS.ladd X6.here hx rfl (hb hby at_99) rfl ?_
        show Steps p.tables e below (T6.setTop (mkF m 100 #[.val (.long v0), .second, .val (.long v2), .second, .val (.long v4), .second, .val (.long v6), .second, .val (.long v8), .second, .val (.long v10), .second, .val (.long v12), .second, .val (.ref b25), .val (.long v15), .second, .val (.long (f5_0 v8 v10)), .second, .unset, .unset, .unset, .unset, .unset, .unset, .unset, .unset] [(.long (v10 + v8))])) _
        refine XS.goto X6.here hx rfl (pc0 := 100) (pc' := 105) rfl (hb hby at_100) (by decide) (by decide) ?_
        exact k
      exact b0_105 ⟨hx, hZ, hw, hby, hml, hret, hown, hnm, hlk⟩ h0 n0 v0 v2 v4 v6 v8 v10 v12 b25 v15 (f5_0 v8 v10) (v10 + v8) b25_period b25_shortest b25_scheduled b25_soonest X6 e6 N6 Z0 E_b25 F_b25_period F_b25_shortest F_b25_scheduled F_b25_soonest g_b25 _ hr
  · rw [if_neg hc82] at hr
    refine Fin.by (B := T6.setTop (mkF m 85 #[.val (.long v0), .second, .val (.long v2), .second, .val (.long v4), .second, .val (.long v6), .second, .val (.long v8), .second, .val (.long v10), .second, .val (.long v12), .second, .val (.ref b25), .val (.long v15), .second, .val (.long (f5_0 v8 v10)), .second, .unset, .unset, .unset, .unset, .unset, .unset, .unset, .unset] [])) (fun t k => ?_) ?_
    · show Steps p.tables e below (T6.setTop (mkF m 82 #[.val (.long v0), .second, .val (.long v2), .second, .val (.long v4), .second, .val (.long v6), .second, .val (.long v8), .second, .val (.long v10), .second, .val (.long v12), .second, .val (.ref b25), .val (.long v15), .second, .val (.long (f5_0 v8 v10)), .second, .unset, .unset, .unset, .unset, .unset, .unset, .unset, .unset] [(.int (lcmpW (f3_0 b25_period b25_shortest b25_scheduled b25_soonest) (v15 + (f5_0 v8 v10))))])) _
      exact XS.ifNo X6.here hx rfl (hb hby at_82) rfl ((if0 _ _).trans (feq (fun q => hc82 ((lw_eq _ _).mp q))).1) k
    refine Fin.by (B := T6.setTop (mkF m 86 #[.val (.long v0), .second, .val (.long v2), .second, .val (.long v4), .second, .val (.long v6), .second, .val (.long v8), .second, .val (.long v10), .second, .val (.long v12), .second, .val (.ref b25), .val (.long v15), .second, .val (.long (f5_0 v8 v10)), .second, .unset, .unset, .unset, .unset, .unset, .unset, .unset, .unset] [(.int (0 : Int32))])) (fun t k => ?_) ?_
    · show Steps p.tables e below (T6.setTop (mkF m 85 #[.val (.long v0), .second, .val (.long v2), .second, .val (.long v4), .second, .val (.long v6), .second, .val (.long v8), .second, .val (.long v10), .second, .val (.long v12), .second, .val (.ref b25), .val (.long v15), .second, .val (.long (f5_0 v8 v10)), .second, .unset, .unset, .unset, .unset, .unset, .unset, .unset, .unset] [])) _
      refine XS.iconst X6.here hx rfl (hb hby at_85) ?_
      exact k
    subst hr
    exact own_retN X6 hx hlk (t := .boolean) hret (by simp) (hb hby at_86) (by decide) (by decide) ⟨rfl, N6⟩
def f0_35 (v0 : Int64) (v2 : Int64) (v4 : Int64) (v6 : Int64) (v8 : Int64) (v10 : Int64) (v12 : Int64) (b25_period : Int64) (b25_shortest : Int64) (b25_scheduled : Int64) (b25_soonest : Int64) : Int32 := (if (f3_0 b25_period b25_shortest b25_scheduled b25_soonest) = v2 then (f0_62 v0 v2 v4 v6 v8 v10 v12 (v2 + v10) ((f4_0 (v2 + v10) b25_period b25_shortest b25_scheduled b25_soonest).1) ((f4_0 (v2 + v10) b25_period b25_shortest b25_scheduled b25_soonest).2.1) ((f4_0 (v2 + v10) b25_period b25_shortest b25_scheduled b25_soonest).2.2.1) ((f4_0 (v2 + v10) b25_period b25_shortest b25_scheduled b25_soonest).2.2.2)) else (0 : Int32))
set_option maxRecDepth 65536 in
set_option maxHeartbeats 40000000 in
theorem b0_35 {p : Program} {l : Launch} {e : Env} {s : State} {m : MethodId} {args : Array Value} {below : List Frame} {meth : Method} {c : Code} {Z : State} {a0 : Array Value} (B : Ctx p Z s a0 m meth c "com/example/quietwire/quietwire/transport/TickScheduleDuePinLaw" "law" code 27 (some .boolean)) {T0 : State} {locs : List Loc} {h : Heap} (h0 : Heap) (n0 : Nat) (v0 : Int64) (v2 : Int64) (v4 : Int64) (v6 : Int64) (v8 : Int64) (v10 : Int64) (v12 : Int64) (b25 : Addr) (b25_period : Int64) (b25_shortest : Int64) (b25_scheduled : Int64) (b25_soonest : Int64) (X0 : Stand p l e room_1 s m args below meth c T0 locs 1 4) (e0 : T0.heap = h) (N0 : Fr n0 locs) (Z0 : n0 ≤ h.size) (E_b25 : Exa Z h b25 "com/example/quietwire/quietwire/transport/TickSchedule") (F_b25_period : Fld Z h b25 "com/example/quietwire/quietwire/transport/TickSchedule" "period" "J" (.long b25_period)) (F_b25_shortest : Fld Z h b25 "com/example/quietwire/quietwire/transport/TickSchedule" "shortest" "J" (.long b25_shortest)) (F_b25_scheduled : Fld Z h b25 "com/example/quietwire/quietwire/transport/TickSchedule" "scheduled" "J" (.long b25_scheduled)) (F_b25_soonest : Fld Z h b25 "com/example/quietwire/quietwire/transport/TickSchedule" "soonest" "J" (.long b25_soonest)) (g_b25 : n0 ≤ b25) (r : Int32) (hr : f0_35 v0 v2 v4 v6 v8 v10 v12 b25_period b25_shortest b25_scheduled b25_soonest = r) :
    Fin p e below s 1 4 (Q0 n0 r) (T0.setTop (mkF m 35 #[.val (.long v0), .second, .val (.long v2), .second, .val (.long v4), .second, .val (.long v6), .second, .val (.long v8), .second, .val (.long v10), .second, .val (.long v12), .second, .unset, .unset, .unset, .unset, .unset, .unset, .unset, .unset, .unset, .unset, .unset, .unset, .unset] [(.ref b25)])) := by
  obtain ⟨hx, hZ, hw, hby, hml, hret, hown, hnm, hlk⟩ := B
  unfold f0_35 at hr
  refine Fin.by (B := T0.setTop (mkF m 39 #[.val (.long v0), .second, .val (.long v2), .second, .val (.long v4), .second, .val (.long v6), .second, .val (.long v8), .second, .val (.long v10), .second, .val (.long v12), .second, .val (.ref b25), .unset, .unset, .unset, .unset, .unset, .unset, .unset, .unset, .unset, .unset, .unset, .unset] [(.ref b25)])) (fun t k => ?_) ?_
  · show Steps p.tables e below (T0.setTop (mkF m 35 #[.val (.long v0), .second, .val (.long v2), .second, .val (.long v4), .second, .val (.long v6), .second, .val (.long v8), .second, .val (.long v10), .second, .val (.long v12), .second, .unset, .unset, .unset, .unset, .unset, .unset, .unset, .unset, .unset, .unset, .unset, .unset, .unset] [(.ref b25)])) _
    refine XS.astore X0.here hx rfl (hb hby at_35) rfl rfl (l' := #[.val (.long v0), .second, .val (.long v2), .second, .val (.long v4), .second, .val (.long v6), .second, .val (.long v8), .second, .val (.long v10), .second, .val (.long v12), .second, .val (.ref b25), .unset, .unset, .unset, .unset, .unset, .unset, .unset, .unset, .unset, .unset, .unset, .unset]) rfl ?_
    show Steps p.tables e below (T0.setTop (mkF m 37 #[.val (.long v0), .second, .val (.long v2), .second, .val (.long v4), .second, .val (.long v6), .second, .val (.long v8), .second, .val (.long v10), .second, .val (.long v12), .second, .val (.ref b25), .unset, .unset, .unset, .unset, .unset, .unset, .unset, .unset, .unset, .unset, .unset, .unset] [])) _
    refine XS.aload X0.here hx rfl (hb hby at_37) rfl rfl ?_
    exact k
  -- pc 39: com/example/quietwire/quietwire/transport/TickSchedule.due
  obtain ⟨cq3, kq3, q3a, q3b, q3c⟩ := isOf hZ e0 E_b25
  obtain ⟨_, _, ⟨T3, L3, k3, n3⟩, -, X3, ⟨Lc3, hQ3, l3, y3, z3⟩, st3⟩ := X0.virtualBack hx (y := (⟨"com/example/quietwire/quietwire/transport/TickSchedule", "due", "()J"⟩ : MethodName)) (z := (⟨"com/example/quietwire/quietwire/transport/TickSchedule", "due", "()J"⟩ : MethodName)) hown (mvT hZ (hw _ (List.mem_of_getElem? (i := 19) rfl))) (mvT hZ (hw _ (List.mem_of_getElem? (i := 20) rfl))) (notFace_of_selects (args := #[]) (mvT hZ (hw _ (List.mem_of_getElem? (i := 22) rfl)))) (mvT hZ (hw _ (List.mem_of_getElem? (i := 22) rfl))) (mvT hZ (hw _ (List.mem_of_getElem? (i := 21) rfl))) (by decide) (backOf (W := 0) (rm3 l Z a0 hw [] b25 b25_period b25_shortest b25_scheduled b25_soonest h n0 Z0 E_b25 F_b25_period F_b25_shortest F_b25_scheduled F_b25_soonest) hZ (hw _ (List.mem_of_getElem? (i := 23) rfl)) (hw _ (List.mem_of_getElem? (i := 3) rfl)) (by decide) (by decide)) q3a q3c (g := (mkF m 39 #[.val (.long v0), .second, .val (.long v2), .second, .val (.long v4), .second, .val (.long v6), .second, .val (.long v8), .second, .val (.long v10), .second, .val (.long v12), .second, .val (.ref b25), .unset, .unset, .unset, .unset, .unset, .unset, .unset, .unset, .unset, .unset, .unset, .unset] [(.ref b25)])) rfl (by rw [hml]; rfl) (Steps.refl _) (argsL := []) (rest := []) (lenOf pd_1 rfl) rfl (by show 2 * 0 + _ ≤ _; exact Nat.le_of_eq rfl) (hb hby at_39) (fun _ _ => ⟨rfl, e0, (by decide : 1 + R3.cells ≤ _), (by decide : 4 + R3.slots ≤ _)⟩)
  dsimp only [Pt.U, Pt.locs, Pt.cells, Pt.slots] at X3 l3 y3 z3 st3 hQ3
  subst l3 y3 z3
  obtain ⟨rfl, Nq3, e3⟩ := hQ3
  have N3 := Fr.app N0 Nq3
  refine Fin.by (B := T3.setTop (mkF m 42 #[.val (.long v0), .second, .val (.long v2), .second, .val (.long v4), .second, .val (.long v6), .second, .val (.long v8), .second, .val (.long v10), .second, .val (.long v12), .second, .val (.ref b25), .unset, .unset, .unset, .unset, .unset, .unset, .unset, .unset, .unset, .unset, .unset, .unset] [(.long (f3_0 b25_period b25_shortest b25_scheduled b25_soonest))])) (fun t k => st3.trans k) ?_
  refine Fin.by (B := T3.setTop (mkF m 44 #[.val (.long v0), .second, .val (.long v2), .second, .val (.long v4), .second, .val (.long v6), .second, .val (.long v8), .second, .val (.long v10), .second, .val (.long v12), .second, .val (.ref b25), .unset, .unset, .unset, .unset, .unset, .unset, .unset, .unset, .unset, .unset, .unset, .unset] [(.int (lcmpW (f3_0 b25_period b25_shortest b25_scheduled b25_soonest) v2))])) (fun t k => ?_) ?_
  · show Steps p.tables e below (T3.setTop (mkF m 42 #[.val (.long v0), .second, .val (.long v2), .second, .val (.long v4), .second, .val (.long v6), .second, .val (.long v8), .second, .val (.long v10), .second, .val (.long v12), .second, .val (.ref b25), .unset, .unset, .unset, .unset, .unset, .unset, .unset, .unset, .unset, .unset, .unset, .unset] [(.long (f3_0 b25_period b25_shortest b25_scheduled b25_soonest))])) _
    refine XS.lloadN X3.here hx rfl (hb hby at_42) rfl  ?_
    show Steps p.tables e below (T3.setTop (mkF m 43 #[.val (.long v0), .second, .val (.long v2), .second, .val (.long v4), .second, .val (.long v6), .second, .val (.long v8), .second, .val (.long v10), .second, .val (.long v12), .second, .val (.ref b25), .unset, .unset, .unset, .unset, .unset, .unset, .unset, .unset, .unset, .unset, .unset, .unset] [(.long v2), (.long (f3_0 b25_period b25_shortest b25_scheduled b25_soonest))])) _
    refine XS.lcmp X3.here hx rfl (hb hby at_43) rfl ?_
    exact k
  by_cases hc44 : (f3_0 b25_period b25_shortest b25_scheduled b25_soonest) = v2
  · rw [if_pos hc44] at hr
    refine Fin.by (B := T3.setTop (mkF m 49 #[.val (.long v0), .second, .val (.long v2), .second, .val (.long v4), .second, .val (.long v6), .second, .val (.long v8), .second, .val (.long v10), .second, .val (.long v12), .second, .val (.ref b25), .unset, .unset, .unset, .unset, .unset, .unset, .unset, .unset, .unset, .unset, .unset, .unset] [])) (fun t k => ?_) ?_
    · show Steps p.tables e below (T3.setTop (mkF m 44 #[.val (.long v0), .second, .val (.long v2), .second, .val (.long v4), .second, .val (.long v6), .second, .val (.long v8), .second, .val (.long v10), .second, .val (.long v12), .second, .val (.ref b25), .unset, .unset, .unset, .unset, .unset, .unset, .unset, .unset, .unset, .unset, .unset, .unset] [(.int (lcmpW (f3_0 b25_period b25_shortest b25_scheduled b25_soonest) v2))])) _
      exact XS.ifYes X3.here hx rfl (pc0 := 44) (pc' := 49) rfl (hb hby at_44) rfl ((if0 _ _).trans (teq ((lw_eq _ _).mpr hc44)).1) (by decide) (by decide) k
    refine Fin.by (B := T3.setTop (mkF m 59 #[.val (.long v0), .second, .val (.long v2), .second, .val (.long v4), .second, .val (.long v6), .second, .val (.long v8), .second, .val (.long v10), .second, .val (.long v12), .second, .val (.ref b25), .val (.long (v2 + v10)), .second, .unset, .unset, .unset, .unset, .unset, .unset, .unset, .unset, .unset, .unset] [(.long (v2 + v10)), (.ref b25)])) (fun t k => ?_) ?_
    · show Steps p.tables e below (T3.setTop (mkF m 49 #[.val (.long v0), .second, .val (.long v2), .second, .val (.long v4), .second, .val (.long v6), .second, .val (.long v8), .second, .val (.long v10), .second, .val (.long v12), .second, .val (.ref b25), .unset, .unset, .unset, .unset, .unset, .unset, .unset, .unset, .unset, .unset, .unset, .unset] [])) _
      refine XS.lloadN X3.here hx rfl (hb hby at_49) rfl  ?_
      show Steps p.tables e below (T3.setTop (mkF m 50 #[.val (.long v0), .second, .val (.long v2), .second, .val (.long v4), .second, .val (.long v6), .second, .val (.long v8), .second, .val (.long v10), .second, .val (.long v12), .second, .val (.ref b25), .unset, .unset, .unset, .unset, .unset, .unset, .unset, .unset, .unset, .unset, .unset, .unset] [(.long v2)])) _
      refine XS.lload X3.here hx rfl (hb hby at_50) rfl  ?_
      show Steps p.tables e below (T3.setTop (mkF m 52 #[.val (.long v0), .second, .val (.long v2), .second, .val (.long v4), .second, .val (.long v6), .second, .val (.long v8), .second, .val (.long v10), .second, .val (.long v12), .second, .val (.ref b25), .unset, .unset, .unset, .unset, .unset, .unset, .unset, .unset, .unset, .unset, .unset, .unset] [(.long v10), (.long v2)])) _
      refine XS.ladd X3.here hx rfl (hb hby at_52) rfl ?_
      show Steps p.tables e below (T3.setTop (mkF m 53 #[.val (.long v0), .second, .val (.long v2), .second, .val (.long v4), .second, .val (.long v6), .second, .val (.long v8), .second, .val (.long v10), .second, .val (.long v12), .second, .val (.ref b25), .unset, .unset, .unset, .unset, .unset, .unset, .unset, .unset, .unset, .unset, .unset, .unset] [(.long (v2 + v10))])) _
      refine XS.lstore X3.here hx rfl (hb hby at_53) rfl (l' := #[.val (.long v0), .second, .val (.long v2), .second, .val (.long v4), .second, .val (.long v6), .second, .val (.long v8), .second, .val (.long v10), .second, .val (.long v12), .second, .val (.ref b25), .val (.long (v2 + v10)), .second, .unset, .unset, .unset, .unset, .unset, .unset, .unset, .unset, .unset, .unset]) rfl ?_
      show Steps p.tables e below (T3.setTop (mkF m 55 #[.val (.long v0), .second, .val (.long v2), .second, .val (.long v4), .second, .val (.long v6), .second, .val (.long v8), .second, .val (.long v10), .second, .val (.long v12), .second, .val (.ref b25), .val (.long (v2 + v10)), .second, .unset, .unset, .unset, .unset, .unset, .unset, .unset, .unset, .unset, .unset] [])) _
      refine XS.aload X3.here hx rfl (hb hby at_55) rfl rfl ?_
      show Steps p.tables e below (T3.setTop (mkF m 57 #[.val (.long v0), .second, .val (.long v2), .second, .val (.long v4), .second, .val (.long v6), .second, .val (.long v8), .second, .val (.long v10), .second, .val (.long v12), .second, .val (.ref b25), .val (.long (v2 + v10)), .second, .unset, .unset, .unset, .unset, .unset, .unset, .unset, .unset, .unset, .unset] [(.ref b25)])) _
      refine XS.lload X3.here hx rfl (hb hby at_57) rfl  ?_
      exact k
    -- pc 59: com/example/quietwire/quietwire/transport/TickSchedule.ticked
    obtain ⟨cq4, kq4, q4a, q4b, q4c⟩ := isOf hZ e3 E_b25
    obtain ⟨_, _, ⟨T4, L4, k4, n4⟩, -, X4, ⟨Lc4, hQ4, l4, y4, z4⟩, st4⟩ := X3.virtualBack hx (y := (⟨"com/example/quietwire/quietwire/transport/TickSchedule", "ticked", "(J)V"⟩ : MethodName)) (z := (⟨"com/example/quietwire/quietwire/transport/TickSchedule", "ticked", "(J)V"⟩ : MethodName)) hown (mvT hZ (hw _ (List.mem_of_getElem? (i := 24) rfl))) (mvT hZ (hw _ (List.mem_of_getElem? (i := 25) rfl))) (notFace_of_selects (args := #[]) (mvT hZ (hw _ (List.mem_of_getElem? (i := 27) rfl)))) (mvT hZ (hw _ (List.mem_of_getElem? (i := 27) rfl))) (mvT hZ (hw _ (List.mem_of_getElem? (i := 26) rfl))) (by decide) (backOf (W := 0) (rm4 l Z a0 hw [] b25 (v2 + v10) b25_period b25_shortest b25_scheduled b25_soonest h n0 Z0 E_b25 F_b25_period F_b25_shortest F_b25_scheduled F_b25_soonest g_b25) hZ (hw _ (List.mem_of_getElem? (i := 28) rfl)) (hw _ (List.mem_of_getElem? (i := 3) rfl)) (by decide) (by decide)) q4a q4c (g := (mkF m 59 #[.val (.long v0), .second, .val (.long v2), .second, .val (.long v4), .second, .val (.long v6), .second, .val (.long v8), .second, .val (.long v10), .second, .val (.long v12), .second, .val (.ref b25), .val (.long (v2 + v10)), .second, .unset, .unset, .unset, .unset, .unset, .unset, .unset, .unset, .unset, .unset] [(.long (v2 + v10)), (.ref b25)])) rfl (by rw [hml]; rfl) (Steps.refl _) (argsL := [(.long (v2 + v10))]) (rest := []) (lenOf pd_2 rfl) rfl (by show 2 * 0 + _ ≤ _; exact Nat.le_of_eq rfl) (hb hby at_59) (fun _ _ => ⟨rfl, e3, (by decide : 1 + R4.cells ≤ _), (by decide : 4 + R4.slots ≤ _)⟩)
    dsimp only [Pt.U, Pt.locs, Pt.cells, Pt.slots] at X4 l4 y4 z4 st4 hQ4
    subst l4 y4 z4
    obtain ⟨rfl, Nq4, Kq4, E_b25_4, F_b25_period_4, F_b25_shortest_4, F_b25_scheduled_4, F_b25_soonest_4⟩ := hQ4
    obtain ⟨h4, e4⟩ : ∃ z, T4.heap = z := ⟨_, rfl⟩
    rw [e4] at Kq4 E_b25_4 F_b25_period_4 F_b25_shortest_4 F_b25_scheduled_4 F_b25_soonest_4
    have N4 := Fr.app N3 Nq4
    have Z4 : n0 ≤ h4.size := Nat.le_trans Z0 Kq4.1
    refine Fin.by (B := T4.setTop (mkF m 62 #[.val (.long v0), .second, .val (.long v2), .second, .val (.long v4), .second, .val (.long v6), .second, .val (.long v8), .second, .val (.long v10), .second, .val (.long v12), .second, .val (.ref b25), .val (.long (v2 + v10)), .second, .unset, .unset, .unset, .unset, .unset, .unset, .unset, .unset, .unset, .unset] [])) (fun t k => st4.trans k) ?_
    exact b0_62 ⟨hx, hZ, hw, hby, hml, hret, hown, hnm, hlk⟩ h0 n0 v0 v2 v4 v6 v8 v10 v12 b25 (v2 + v10) ((f4_0 (v2 + v10) b25_period b25_shortest b25_scheduled b25_soonest).1) ((f4_0 (v2 + v10) b25_period b25_shortest b25_scheduled b25_soonest).2.1) ((f4_0 (v2 + v10) b25_period b25_shortest b25_scheduled b25_soonest).2.2.1) ((f4_0 (v2 + v10) b25_period b25_shortest b25_scheduled b25_soonest).2.2.2) X4 e4 N4 Z4 E_b25_4 F_b25_period_4 F_b25_shortest_4 F_b25_scheduled_4 F_b25_soonest_4 g_b25 _ hr
  · rw [if_neg hc44] at hr
    refine Fin.by (B := T3.setTop (mkF m 47 #[.val (.long v0), .second, .val (.long v2), .second, .val (.long v4), .second, .val (.long v6), .second, .val (.long v8), .second, .val (.long v10), .second, .val (.long v12), .second, .val (.ref b25), .unset, .unset, .unset, .unset, .unset, .unset, .unset, .unset, .unset, .unset, .unset, .unset] [])) (fun t k => ?_) ?_
    · show Steps p.tables e below (T3.setTop (mkF m 44 #[.val (.long v0), .second, .val (.long v2), .second, .val (.long v4), .second, .val (.long v6), .second, .val (.long v8), .second, .val (.long v10), .second, .val (.long v12), .second, .val (.ref b25), .unset, .unset, .unset, .unset, .unset, .unset, .unset, .unset, .unset, .unset, .unset, .unset] [(.int (lcmpW (f3_0 b25_period b25_shortest b25_scheduled b25_soonest) v2))])) _
      exact XS.ifNo X3.here hx rfl (hb hby at_44) rfl ((if0 _ _).trans (feq (fun q => hc44 ((lw_eq _ _).mp q))).1) k
    refine Fin.by (B := T3.setTop (mkF m 48 #[.val (.long v0), .second, .val (.long v2), .second, .val (.long v4), .second, .val (.long v6), .second, .val (.long v8), .second, .val (.long v10), .second, .val (.long v12), .second, .val (.ref b25), .unset, .unset, .unset, .unset, .unset, .unset, .unset, .unset, .unset, .unset, .unset, .unset] [(.int (0 : Int32))])) (fun t k => ?_) ?_
    · show Steps p.tables e below (T3.setTop (mkF m 47 #[.val (.long v0), .second, .val (.long v2), .second, .val (.long v4), .second, .val (.long v6), .second, .val (.long v8), .second, .val (.long v10), .second, .val (.long v12), .second, .val (.ref b25), .unset, .unset, .unset, .unset, .unset, .unset, .unset, .unset, .unset, .unset, .unset, .unset] [])) _
      refine XS.iconst X3.here hx rfl (hb hby at_47) ?_
      exact k
    subst hr
    exact own_retN X3 hx hlk (t := .boolean) hret (by simp) (hb hby at_48) (by decide) (by decide) ⟨rfl, N3⟩
def f0_25 (v0 : Int64) (v2 : Int64) (v4 : Int64) (v6 : Int64) (v8 : Int64) (v10 : Int64) (v12 : Int64) : Int32 := (f0_35 v0 v2 v4 v6 v8 v10 v12 ((f1_0 v8 v2 (0 : Int64) (0 : Int64) (0 : Int64) (0 : Int64)).1) ((f1_0 v8 v2 (0 : Int64) (0 : Int64) (0 : Int64) (0 : Int64)).2.1) ((f1_0 v8 v2 (0 : Int64) (0 : Int64) (0 : Int64) (0 : Int64)).2.2.1) ((f1_0 v8 v2 (0 : Int64) (0 : Int64) (0 : Int64) (0 : Int64)).2.2.2))
set_option maxRecDepth 65536 in
set_option maxHeartbeats 40000000 in
theorem b0_25 {p : Program} {l : Launch} {e : Env} {s : State} {m : MethodId} {args : Array Value} {below : List Frame} {meth : Method} {c : Code} {Z : State} {a0 : Array Value} (B : Ctx p Z s a0 m meth c "com/example/quietwire/quietwire/transport/TickScheduleDuePinLaw" "law" code 27 (some .boolean)) {T0 : State} {locs : List Loc} {h : Heap} (h0 : Heap) (n0 : Nat) (v0 : Int64) (v2 : Int64) (v4 : Int64) (v6 : Int64) (v8 : Int64) (v10 : Int64) (v12 : Int64) (X0 : Stand p l e room_1 s m args below meth c T0 locs 0 0) (e0 : T0.heap = h) (N0 : Fr n0 locs) (Z0 : n0 ≤ h.size) (r : Int32) (hr : f0_25 v0 v2 v4 v6 v8 v10 v12 = r) :
    Fin p e below s 1 4 (Q0 n0 r) (T0.setTop (mkF m 25 #[.val (.long v0), .second, .val (.long v2), .second, .val (.long v4), .second, .val (.long v6), .second, .val (.long v8), .second, .val (.long v10), .second, .val (.long v12), .second, .unset, .unset, .unset, .unset, .unset, .unset, .unset, .unset, .unset, .unset, .unset, .unset, .unset] [])) := by
  obtain ⟨hx, hZ, hw, hby, hml, hret, hown, hnm, hlk⟩ := B
  unfold f0_25 at hr
  obtain ⟨T1, h1, X1, e1, X1e, A1, D1, -, st1⟩ := newO X0 hx hZ hown (hw _ (List.mem_of_getElem? (i := 1) rfl)) (hw _ (List.mem_of_getElem? (i := 2) rfl)) (hw _ (List.mem_of_getElem? (i := 3) rfl)) e0 (g := (mkF m 25 #[.val (.long v0), .second, .val (.long v2), .second, .val (.long v4), .second, .val (.long v6), .second, .val (.long v8), .second, .val (.long v10), .second, .val (.long v12), .second, .unset, .unset, .unset, .unset, .unset, .unset, .unset, .unset, .unset, .unset, .unset, .unset, .unset] [])) rfl (hb hby at_25) (by decide) (by decide)
  obtain ⟨b25, g1⟩ : ∃ z, z = h.size := ⟨_, rfl⟩
  rw [← g1] at A1 D1 st1
  have g_b25 : n0 ≤ b25 := Nat.le_trans Z0 (Nat.le_of_eq g1.symm)
  have Z1 : n0 ≤ h1.size := Nat.le_trans Z0 X1e.1
  have E_b25_1 := A1
  have F_b25_period_1 : Fld Z h1 b25 "com/example/quietwire/quietwire/transport/TickSchedule" "period" "J" (.long (0 : Int64)) := D1 (Or.inr (hw _ (List.mem_of_getElem? (i := 11) rfl))) (ty := .long) (by decide)
  have F_b25_shortest_1 : Fld Z h1 b25 "com/example/quietwire/quietwire/transport/TickSchedule" "shortest" "J" (.long (0 : Int64)) := D1 (Or.inr (hw _ (List.mem_of_getElem? (i := 14) rfl))) (ty := .long) (by decide)
  have F_b25_scheduled_1 : Fld Z h1 b25 "com/example/quietwire/quietwire/transport/TickSchedule" "scheduled" "J" (.long (0 : Int64)) := D1 (Or.inl (hw _ (List.mem_of_getElem? (i := 16) rfl))) (ty := .long) (by decide)
  have F_b25_soonest_1 : Fld Z h1 b25 "com/example/quietwire/quietwire/transport/TickSchedule" "soonest" "J" (.long (0 : Int64)) := D1 (Or.inl (hw _ (List.mem_of_getElem? (i := 18) rfl))) (ty := .long) (by decide)
  refine Fin.by (B := T1.setTop (mkF m 28 #[.val (.long v0), .second, .val (.long v2), .second, .val (.long v4), .second, .val (.long v6), .second, .val (.long v8), .second, .val (.long v10), .second, .val (.long v12), .second, .unset, .unset, .unset, .unset, .unset, .unset, .unset, .unset, .unset, .unset, .unset, .unset, .unset] [(.ref b25)])) (fun t k => st1 t k) ?_
  refine Fin.by (B := T1.setTop (mkF m 32 #[.val (.long v0), .second, .val (.long v2), .second, .val (.long v4), .second, .val (.long v6), .second, .val (.long v8), .second, .val (.long v10), .second, .val (.long v12), .second, .unset, .unset, .unset, .unset, .unset, .unset, .unset, .unset, .unset, .unset, .unset, .unset, .unset] [(.long v2), (.long v8), (.ref b25), (.ref b25)])) (fun t k => ?_) ?_
  · show Steps p.tables e below (T1.setTop (mkF m 28 #[.val (.long v0), .second, .val (.long v2), .second, .val (.long v4), .second, .val (.long v6), .second, .val (.long v8), .second, .val (.long v10), .second, .val (.long v12), .second, .unset, .unset, .unset, .unset, .unset, .unset, .unset, .unset, .unset, .unset, .unset, .unset, .unset] [(.ref b25)])) _
    refine XS.dup X1.here hx rfl (hb hby at_28) rfl rfl ?_
    show Steps p.tables e below (T1.setTop (mkF m 29 #[.val (.long v0), .second, .val (.long v2), .second, .val (.long v4), .second, .val (.long v6), .second, .val (.long v8), .second, .val (.long v10), .second, .val (.long v12), .second, .unset, .unset, .unset, .unset, .unset, .unset, .unset, .unset, .unset, .unset, .unset, .unset, .unset] [(.ref b25), (.ref b25)])) _
    refine XS.lload X1.here hx rfl (hb hby at_29) rfl  ?_
    show Steps p.tables e below (T1.setTop (mkF m 31 #[.val (.long v0), .second, .val (.long v2), .second, .val (.long v4), .second, .val (.long v6), .second, .val (.long v8), .second, .val (.long v10), .second, .val (.long v12), .second, .unset, .unset, .unset, .unset, .unset, .unset, .unset, .unset, .unset, .unset, .unset, .unset, .unset] [(.long v8), (.ref b25), (.ref b25)])) _
    refine XS.lloadN X1.here hx rfl (hb hby at_31) rfl  ?_
    exact k
  -- pc 32: com/example/quietwire/quietwire/transport/TickSchedule.<init>
  obtain ⟨_, _, ⟨T2, L2, k2, n2⟩, -, X2, ⟨Lc2, hQ2, l2, y2, z2⟩, st2⟩ := X1.specialBack hx (y := (⟨"com/example/quietwire/quietwire/transport/TickSchedule", "<init>", "(JJ)V"⟩ : MethodName)) rfl hown (mvT hZ (hw _ (List.mem_of_getElem? (i := 4) rfl))) (mvT hZ (hw _ (List.mem_of_getElem? (i := 5) rfl))) (mvT hZ (hw _ (List.mem_of_getElem? (i := 6) rfl))) (by decide) (backOf (W := 1) (rm1 l Z a0 hw [] b25 v8 v2 (0 : Int64) (0 : Int64) (0 : Int64) (0 : Int64) h1 n0 Z1 E_b25_1 F_b25_period_1 F_b25_shortest_1 F_b25_scheduled_1 F_b25_soonest_1 g_b25) hZ (hw _ (List.mem_of_getElem? (i := 6) rfl)) (hw _ (List.mem_of_getElem? (i := 3) rfl)) (by decide) (by decide)) (g := (mkF m 32 #[.val (.long v0), .second, .val (.long v2), .second, .val (.long v4), .second, .val (.long v6), .second, .val (.long v8), .second, .val (.long v10), .second, .val (.long v12), .second, .unset, .unset, .unset, .unset, .unset, .unset, .unset, .unset, .unset, .unset, .unset, .unset, .unset] [(.long v2), (.long v8), (.ref b25), (.ref b25)])) rfl (by rw [hml]; rfl) (Steps.refl _) (a := b25) (argsL := [(.long v8), (.long v2)]) (rest := [(.ref b25)]) (lenOf pd_0 rfl) rfl (by show 2 * 0 + _ ≤ _; exact Nat.le_of_eq rfl) (hb hby at_32) (fun _ _ => ⟨rfl, e1, (by decide : 1 + R1.cells ≤ _), (by decide : 4 + R1.slots ≤ _)⟩)
  dsimp only [Pt.U, Pt.locs, Pt.cells, Pt.slots] at X2 l2 y2 z2 st2 hQ2
  subst l2 y2 z2
  obtain ⟨rfl, Nq2, Kq2, E_b25_2, F_b25_period_2, F_b25_shortest_2, F_b25_scheduled_2, F_b25_soonest_2⟩ := hQ2
  obtain ⟨h2, e2⟩ : ∃ z, T2.heap = z := ⟨_, rfl⟩
  rw [e2] at Kq2 E_b25_2 F_b25_period_2 F_b25_shortest_2 F_b25_scheduled_2 F_b25_soonest_2
  have N2 := Fr.app N0 Nq2
  have Z2 : n0 ≤ h2.size := Nat.le_trans Z1 Kq2.1
  refine Fin.by (B := T2.setTop (mkF m 35 #[.val (.long v0), .second, .val (.long v2), .second, .val (.long v4), .second, .val (.long v6), .second, .val (.long v8), .second, .val (.long v10), .second, .val (.long v12), .second, .unset, .unset, .unset, .unset, .unset, .unset, .unset, .unset, .unset, .unset, .unset, .unset, .unset] [(.ref b25)])) (fun t k => st2.trans k) ?_
  exact b0_35 ⟨hx, hZ, hw, hby, hml, hret, hown, hnm, hlk⟩ h0 n0 v0 v2 v4 v6 v8 v10 v12 b25 ((f1_0 v8 v2 (0 : Int64) (0 : Int64) (0 : Int64) (0 : Int64)).1) ((f1_0 v8 v2 (0 : Int64) (0 : Int64) (0 : Int64) (0 : Int64)).2.1) ((f1_0 v8 v2 (0 : Int64) (0 : Int64) (0 : Int64) (0 : Int64)).2.2.1) ((f1_0 v8 v2 (0 : Int64) (0 : Int64) (0 : Int64) (0 : Int64)).2.2.2) X2 e2 N2 Z2 E_b25_2 F_b25_period_2 F_b25_shortest_2 F_b25_scheduled_2 F_b25_soonest_2 g_b25 _ hr
def f0_0 (v0 : Int64) (v2 : Int64) (v4 : Int64) (v6 : Int64) : Int32 := (f0_25 v0 v2 v4 v6 ((v0 &&& (1099511627775 : Int64)) + (1 : Int64)) (v4 &&& (1099511627775 : Int64)) (v6 &&& (1099511627775 : Int64)))
set_option maxRecDepth 65536 in
set_option maxHeartbeats 40000000 in
theorem b0_0 {p : Program} {l : Launch} {e : Env} {s : State} {m : MethodId} {args : Array Value} {below : List Frame} {meth : Method} {c : Code} {Z : State} {a0 : Array Value} (B : Ctx p Z s a0 m meth c "com/example/quietwire/quietwire/transport/TickScheduleDuePinLaw" "law" code 27 (some .boolean)) {T0 : State} {locs : List Loc} {h : Heap} (h0 : Heap) (n0 : Nat) (v0 : Int64) (v2 : Int64) (v4 : Int64) (v6 : Int64) (X0 : Stand p l e room_1 s m args below meth c T0 locs 0 0) (e0 : T0.heap = h) (N0 : Fr n0 locs) (Z0 : n0 ≤ h.size) (r : Int32) (hr : f0_0 v0 v2 v4 v6 = r) :
    Fin p e below s 1 4 (Q0 n0 r) (T0.setTop (mkF m 0 #[.val (.long v0), .second, .val (.long v2), .second, .val (.long v4), .second, .val (.long v6), .second, .unset, .unset, .unset, .unset, .unset, .unset, .unset, .unset, .unset, .unset, .unset, .unset, .unset, .unset, .unset, .unset, .unset, .unset, .unset] [])) := by
  obtain ⟨hx, hZ, hw, hby, hml, hret, hown, hnm, hlk⟩ := B
  unfold f0_0 at hr
  refine Fin.by (B := T0.setTop (mkF m 25 #[.val (.long v0), .second, .val (.long v2), .second, .val (.long v4), .second, .val (.long v6), .second, .val (.long ((v0 &&& (1099511627775 : Int64)) + (1 : Int64))), .second, .val (.long (v4 &&& (1099511627775 : Int64))), .second, .val (.long (v6 &&& (1099511627775 : Int64))), .second, .unset, .unset, .unset, .unset, .unset, .unset, .unset, .unset, .unset, .unset, .unset, .unset, .unset] [])) (fun t k => ?_) ?_
  · show Steps p.tables e below (T0.setTop (mkF m 0 #[.val (.long v0), .second, .val (.long v2), .second, .val (.long v4), .second, .val (.long v6), .second, .unset, .unset, .unset, .unset, .unset, .unset, .unset, .unset, .unset, .unset, .unset, .unset, .unset, .unset, .unset, .unset, .unset, .unset, .unset] [])) _
    refine XS.lloadN X0.here hx rfl (hb hby at_0) rfl  ?_
    show Steps p.tables e below (T0.setTop (mkF m 1 #[.val (.long v0), .second, .val (.long v2), .second, .val (.long v4), .second, .val (.long v6), .second, .unset, .unset, .unset, .unset, .unset, .unset, .unset, .unset, .unset, .unset, .unset, .unset, .unset, .unset, .unset, .unset, .unset, .unset, .unset] [(.long v0)])) _
    refine X0.ldc2Long hx hown (mvT hZ (hw _ (List.mem_of_getElem? (i := 0) rfl))) (g := (mkF m 1 #[.val (.long v0), .second, .val (.long v2), .second, .val (.long v4), .second, .val (.long v6), .second, .unset, .unset, .unset, .unset, .unset, .unset, .unset, .unset, .unset, .unset, .unset, .unset, .unset, .unset, .unset, .unset, .unset, .unset, .unset] [(.long v0)])) rfl (hb hby at_1) _ ?_
    show Steps p.tables e below (T0.setTop (mkF m 4 #[.val (.long v0), .second, .val (.long v2), .second, .val (.long v4), .second, .val (.long v6), .second, .unset, .unset, .unset, .unset, .unset, .unset, .unset, .unset, .unset, .unset, .unset, .unset, .unset, .unset, .unset, .unset, .unset, .unset, .unset] [(.long (1099511627775 : Int64)), (.long v0)])) _
    refine XS.land X0.here hx rfl (hb hby at_4) rfl ?_
    show Steps p.tables e below (T0.setTop (mkF m 5 #[.val (.long v0), .second, .val (.long v2), .second, .val (.long v4), .second, .val (.long v6), .second, .unset, .unset, .unset, .unset, .unset, .unset, .unset, .unset, .unset, .unset, .unset, .unset, .unset, .unset, .unset, .unset, .unset, .unset, .unset] [(.long (v0 &&& (1099511627775 : Int64)))])) _
    refine XS.lconst X0.here hx rfl (hb hby at_5) ?_
    show Steps p.tables e below (T0.setTop (mkF m 6 #[.val (.long v0), .second, .val (.long v2), .second, .val (.long v4), .second, .val (.long v6), .second, .unset, .unset, .unset, .unset, .unset, .unset, .unset, .unset, .unset, .unset, .unset, .unset, .unset, .unset, .unset, .unset, .unset, .unset, .unset] [(.long (1 : Int64)), (.long (v0 &&& (1099511627775 : Int64)))])) _
    refine XS.ladd X0.here hx rfl (hb hby at_6) rfl ?_
    show Steps p.tables e below (T0.setTop (mkF m 7 #[.val (.long v0), .second, .val (.long v2), .second, .val (.long v4), .second, .val (.long v6), .second, .unset, .unset, .unset, .unset, .unset, .unset, .unset, .unset, .unset, .unset, .unset, .unset, .unset, .unset, .unset, .unset, .unset, .unset, .unset] [(.long ((v0 &&& (1099511627775 : Int64)) + (1 : Int64)))])) _
    refine XS.lstore X0.here hx rfl (hb hby at_7) rfl (l' := #[.val (.long v0), .second, .val (.long v2), .second, .val (.long v4), .second, .val (.long v6), .second, .val (.long ((v0 &&& (1099511627775 : Int64)) + (1 : Int64))), .second, .unset, .unset, .unset, .unset, .unset, .unset, .unset, .unset, .unset, .unset, .unset, .unset, .unset, .unset, .unset, .unset, .unset]) rfl ?_
    show Steps p.tables e below (T0.setTop (mkF m 9 #[.val (.long v0), .second, .val (.long v2), .second, .val (.long v4), .second, .val (.long v6), .second, .val (.long ((v0 &&& (1099511627775 : Int64)) + (1 : Int64))), .second, .unset, .unset, .unset, .unset, .unset, .unset, .unset, .unset, .unset, .unset, .unset, .unset, .unset, .unset, .unset, .unset, .unset] [])) _
    refine XS.lload X0.here hx rfl (hb hby at_9) rfl  ?_
    show Steps p.tables e below (T0.setTop (mkF m 11 #[.val (.long v0), .second, .val (.long v2), .second, .val (.long v4), .second, .val (.long v6), .second, .val (.long ((v0 &&& (1099511627775 : Int64)) + (1 : Int64))), .second, .unset, .unset, .unset, .unset, .unset, .unset, .unset, .unset, .unset, .unset, .unset, .unset, .unset, .unset, .unset, .unset, .unset] [(.long v4)])) _
    refine X0.ldc2Long hx hown (mvT hZ (hw _ (List.mem_of_getElem? (i := 0) rfl))) (g := (mkF m 11 #[.val (.long v0), .second, .val (.long v2), .second, .val (.long v4), .second, .val (.long v6), .second, .val (.long ((v0 &&& (1099511627775 : Int64)) + (1 : Int64))), .second, .unset, .unset, .unset, .unset, .unset, .unset, .unset, .unset, .unset, .unset, .unset, .unset, .unset, .unset, .unset, .unset, .unset] [(.long v4)])) rfl (hb hby at_11) _ ?_
    show Steps p.tables e below (T0.setTop (mkF m 14 #[.val (.long v0), .second, .val (.long v2), .second, .val (.long v4), .second, .val (.long v6), .second, .val (.long ((v0 &&& (1099511627775 : Int64)) + (1 : Int64))), .second, .unset, .unset, .unset, .unset, .unset, .unset, .unset, .unset, .unset, .unset, .unset, .unset, .unset, .unset, .unset, .unset, .unset] [(.long (1099511627775 : Int64)), (.long v4)])) _
    refine XS.land X0.here hx rfl (hb hby at_14) rfl ?_
    show Steps p.tables e below (T0.setTop (mkF m 15 #[.val (.long v0), .second, .val (.long v2), .second, .val (.long v4), .second, .val (.long v6), .second, .val (.long ((v0 &&& (1099511627775 : Int64)) + (1 : Int64))), .second, .unset, .unset, .unset, .unset, .unset, .unset, .unset, .unset, .unset, .unset, .unset, .unset, .unset, .unset, .unset, .unset, .unset] [(.long (v4 &&& (1099511627775 : Int64)))])) _
    refine XS.lstore X0.here hx rfl (hb hby at_15) rfl (l' := #[.val (.long v0), .second, .val (.long v2), .second, .val (.long v4), .second, .val (.long v6), .second, .val (.long ((v0 &&& (1099511627775 : Int64)) + (1 : Int64))), .second, .val (.long (v4 &&& (1099511627775 : Int64))), .second, .unset, .unset, .unset, .unset, .unset, .unset, .unset, .unset, .unset, .unset, .unset, .unset, .unset, .unset, .unset]) rfl ?_
    show Steps p.tables e below (T0.setTop (mkF m 17 #[.val (.long v0), .second, .val (.long v2), .second, .val (.long v4), .second, .val (.long v6), .second, .val (.long ((v0 &&& (1099511627775 : Int64)) + (1 : Int64))), .second, .val (.long (v4 &&& (1099511627775 : Int64))), .second, .unset, .unset, .unset, .unset, .unset, .unset, .unset, .unset, .unset, .unset, .unset, .unset, .unset, .unset, .unset] [])) _
    refine XS.lload X0.here hx rfl (hb hby at_17) rfl  ?_
    show Steps p.tables e below (T0.setTop (mkF m 19 #[.val (.long v0), .second, .val (.long v2), .second, .val (.long v4), .second, .val (.long v6), .second, .val (.long ((v0 &&& (1099511627775 : Int64)) + (1 : Int64))), .second, .val (.long (v4 &&& (1099511627775 : Int64))), .second, .unset, .unset, .unset, .unset, .unset, .unset, .unset, .unset, .unset, .unset, .unset, .unset, .unset, .unset, .unset] [(.long v6)])) _
    refine X0.ldc2Long hx hown (mvT hZ (hw _ (List.mem_of_getElem? (i := 0) rfl))) (g := (mkF m 19 #[.val (.long v0), .second, .val (.long v2), .second, .val (.long v4), .second, .val (.long v6), .second, .val (.long ((v0 &&& (1099511627775 : Int64)) + (1 : Int64))), .second, .val (.long (v4 &&& (1099511627775 : Int64))), .second, .unset, .unset, .unset, .unset, .unset, .unset, .unset, .unset, .unset, .unset, .unset, .unset, .unset, .unset, .unset] [(.long v6)])) rfl (hb hby at_19) _ ?_
    show Steps p.tables e below (T0.setTop (mkF m 22 #[.val (.long v0), .second, .val (.long v2), .second, .val (.long v4), .second, .val (.long v6), .second, .val (.long ((v0 &&& (1099511627775 : Int64)) + (1 : Int64))), .second, .val (.long (v4 &&& (1099511627775 : Int64))), .second, .unset, .unset, .unset, .unset, .unset, .unset, .unset, .unset, .unset, .unset, .unset, .unset, .unset, .unset, .unset] [(.long (1099511627775 : Int64)), (.long v6)])) _
    refine XS.land X0.here hx rfl (hb hby at_22) rfl ?_
    show Steps p.tables e below (T0.setTop (mkF m 23 #[.val (.long v0), .second, .val (.long v2), .second, .val (.long v4), .second, .val (.long v6), .second, .val (.long ((v0 &&& (1099511627775 : Int64)) + (1 : Int64))), .second, .val (.long (v4 &&& (1099511627775 : Int64))), .second, .unset, .unset, .unset, .unset, .unset, .unset, .unset, .unset, .unset, .unset, .unset, .unset, .unset, .unset, .unset] [(.long (v6 &&& (1099511627775 : Int64)))])) _
    refine XS.lstore X0.here hx rfl (hb hby at_23) rfl (l' := #[.val (.long v0), .second, .val (.long v2), .second, .val (.long v4), .second, .val (.long v6), .second, .val (.long ((v0 &&& (1099511627775 : Int64)) + (1 : Int64))), .second, .val (.long (v4 &&& (1099511627775 : Int64))), .second, .val (.long (v6 &&& (1099511627775 : Int64))), .second, .unset, .unset, .unset, .unset, .unset, .unset, .unset, .unset, .unset, .unset, .unset, .unset, .unset]) rfl ?_
    exact k
  exact b0_25 ⟨hx, hZ, hw, hby, hml, hret, hown, hnm, hlk⟩ h0 n0 v0 v2 v4 v6 ((v0 &&& (1099511627775 : Int64)) + (1 : Int64)) (v4 &&& (1099511627775 : Int64)) (v6 &&& (1099511627775 : Int64)) X0 e0 N0 Z0  _ hr
theorem ef_0 (m : MethodId) (v0 : Int64) (v2 : Int64) (v4 : Int64) (v6 : Int64) : entryFrame m #[(.long v0), (.long v2), (.long v4), (.long v6)] maxLocals = (mkF m 0 #[.val (.long v0), .second, .val (.long v2), .second, .val (.long v4), .second, .val (.long v6), .second, .unset, .unset, .unset, .unset, .unset, .unset, .unset, .unset, .unset, .unset, .unset, .unset, .unset, .unset, .unset, .unset, .unset, .unset, .unset] []) := by first | (simp [entryFrame, mkF, argsToLocals, Value.category, maxLocals]; done) | rfl
set_option maxRecDepth 65536 in
set_option maxHeartbeats 40000000 in
theorem rm0 (l : Launch) (Z : State) (a0 : Array Value) (hw : ∀ d ∈ tables_1, d.before a0 Z = true) (ws : List Jvm.Cond) (v0 : Int64) (v2 : Int64) (v4 : Int64) (v6 : Int64) (h0 : Heap) (n0 : Nat) (Z0 : n0 ≤ h0.size) :
    MetFree l x (head1 (Jvm.Cond.code x code maxLocals ret :: ws) room_1) (fun a U => a = #[(.long v0), (.long v2), (.long v4), (.long v6)] ∧ Z.Warmed39 U.vm ∧ U.heap = h0) (fun _ _ _ _ _ => True) (fun _ U o U' => ∃ v L, o = .returned v ∧ (Q0 n0 (f0_0 v0 v2 v4 v6)) v U'.heap L ∧ FrameEnd U o U' L 1 4) := by
  refine MetFree.of_bodySF (plainFor_of_name pn_0) hisR ?_
  intro p e s m args below meth c s₁ Bd hml0 hP hK
  obtain ⟨rfl, hZ, hh⟩ := hP
  have B : Ctx p Z s a0 m meth c "com/example/quietwire/quietwire/transport/TickScheduleDuePinLaw" "law" code 27 (some .boolean) := ⟨Bd.exec, hZ, hw, Bd.bytes, hml0, Bd.returns, findClass_of_methodNamed Bd.named, (name_of_methodNamed Bd.named Bd.method).1, Bd.notSynchronized⟩
  have X0 : Stand p l e room_1 s m #[(.long v0), (.long v2), (.long v4), (.long v6)] below meth c s₁ [] 0 0 := Stand.of_body Bd
  have e0 : s₁.heap = h0 := by rw [← hh, Bd.state]; rfl
  have K := Keep.refl h0 []
  show Fin p e below s 1 4 (Q0 n0 (f0_0 v0 v2 v4 v6)) (s₁.setTop (entryFrame m #[(.long v0), (.long v2), (.long v4), (.long v6)] maxLocals))
  refine Fin.by (fun t k => castTop (ef_0 m v0 v2 v4 v6) k) ?_
  exact b0_0 B h0 n0 v0 v2 v4 v6 X0 e0 (Fr.nil n0) Z0  _ rfl

/-! the schedule in offsets from any start n -/
theorem own_ltL {x y : Int64} : x < y ↔ x.toInt < y.toInt := Int64.lt_iff_toInt_lt
theorem own_addL {x y : Int64} (h1 : -9223372036854775808 ≤ x.toInt + y.toInt) (h2 : x.toInt + y.toInt < 9223372036854775808) : (x + y).toInt = x.toInt + y.toInt := by
  have := c_ladd x y; have := rng64 (x + y); omega
theorem own_subL {x y : Int64} (h1 : -9223372036854775808 ≤ x.toInt - y.toInt) (h2 : x.toInt - y.toInt < 9223372036854775808) : (x - y).toInt = x.toInt - y.toInt := by
  have := c_lsub x y; have := rng64 (x - y); omega
theorem own_dd (n x y : Int64) : (n + x) - (n + y) = x - y := by
  apply Int64.toInt_inj.mp
  have := c_lsub (n + x) (n + y); have := c_ladd n x; have := c_ladd n y; have := c_lsub x y
  have := rng64 (n + x - (n + y)); have := rng64 (x - y)
  omega
theorem own_d0 (n x : Int64) : (n + x) - n = x := by
  apply Int64.toInt_inj.mp
  have := c_lsub (n + x) n; have := c_ladd n x; have := rng64 (n + x - n); have := rng64 x
  omega
theorem own_n0 (n : Int64) : n = n + 0 := (Int64.add_zero n).symm
theorem own_due (p s n sc so : Int64) (h1 : 0 ≤ sc.toInt ∧ sc.toInt < 2 ^ 60) (h2 : 0 ≤ so.toInt ∧ so.toInt < 2 ^ 60) : f3_0 p s (n + sc) (n + so) = n + (if sc < so then so else sc) := by
  unfold f3_0
  rw [own_dd]
  have h := c_lsub sc so
  have r := rng64 (sc - so)
  by_cases q : sc < so
  · rw [if_pos q, if_pos]
    rw [own_ltL] at q ⊢
    have z : (0 : Int64).toInt = 0 := rfl
    omega
  · rw [if_neg q, if_neg]
    rw [own_ltL] at q ⊢
    have z : (0 : Int64).toInt = 0 := rfl
    omega
theorem own_tick (n x p s sc y : Int64) : f4_0 (n + x) p s (n + sc) y = (p, s, n + (if x - sc < p then sc + p else x + p), n + (x + s)) := by
  unfold f4_0 f4_19 f4_43
  rw [own_dd]
  by_cases q : x - sc < p
  · simp only [if_pos q, if_true, Int64.add_assoc]
  · simp only [if_neg q, Int64.add_assoc, show ¬ ((1 : Int32) = 0) from by decide, if_false]
theorem own_short (P : Int64) (h : 1 ≤ P.toInt ∧ P.toInt ≤ 2 ^ 41) : (P - P / 10).toInt = P.toInt - P.toInt / 10 := by
  have h1 := (c_ldiv P 10 10 (by decide) (by decide)).1 (by omega)
  have := c_lsub P (P / 10); have := rng64 (P - P / 10)
  omega
theorem own_gap (P b : Int64) (hP : 1 ≤ P.toInt ∧ P.toInt ≤ 2 ^ 41) (hb : 0 ≤ b.toInt ∧ b.toInt < 2 ^ 60) : (b.toInt < P.toInt ∧ P.toInt - b.toInt ≤ P.toInt - P.toInt / 10 ∧ (f5_0 P b).toInt = P.toInt - P.toInt / 10) ∨ (b.toInt < P.toInt ∧ P.toInt - P.toInt / 10 ≤ P.toInt - b.toInt ∧ (f5_0 P b).toInt = P.toInt - b.toInt) ∨ (P.toInt ≤ b.toInt ∧ (f5_0 P b).toInt = P.toInt) := by
  have hs := own_short P hP
  unfold f5_0 f6_0
  have := c_lsub P b; have := rng64 (P - b)
  by_cases q : b < P
  · rw [if_pos q]
    rw [own_ltL] at q
    by_cases w : P - b < P - P / 10
    · rw [if_pos w]; rw [own_ltL] at w; omega
    · rw [if_neg w]; rw [own_ltL] at w; omega
  · rw [if_neg q]
    rw [own_ltL] at q
    omega
theorem own_core (v0 n v4 v6 P A B : Int64) (hP : 1 ≤ P.toInt ∧ P.toInt ≤ 2 ^ 40) (hA : 0 ≤ A.toInt ∧ A.toInt < 2 ^ 40) (hB : 0 ≤ B.toInt ∧ B.toInt < 2 ^ 40) : f0_25 v0 n v4 v6 P A B = 1 := by
  have hs := own_short P (by omega)
  have z0 : (0 : Int64).toInt = 0 := rfl
  have g1 := own_gap P A (by omega) (by omega)
  have e1 := own_tick n A P (P - P / 10) 0 n
  rw [← own_n0] at e1
  show f0_35 v0 n v4 v6 P A B P (P - P / 10) n n = 1
  unfold f0_35
  rw [if_pos (by unfold f3_0; split <;> rfl), e1]
  show f0_62 v0 n v4 v6 P A B (n + A) P (P - P / 10) (n + (if A - 0 < P then 0 + P else A + P)) (n + (A + (P - P / 10))) = 1
  generalize hg : f5_0 P A = g at *
  have a1 : (A + (P - P / 10)).toInt = A.toInt + (P - P / 10).toInt := own_addL (by omega) (by omega)
  have a3 : (A + P).toInt = A.toInt + P.toInt := own_addL (by omega) (by omega)
  have a5 : (A - 0).toInt = A.toInt - (0 : Int64).toInt := own_subL (by omega) (by omega)
  have b1 : (0 + P).toInt = (0 : Int64).toInt + P.toInt := own_addL (by omega) (by omega)
  have hg1 : 1 ≤ g.toInt ∧ g.toInt ≤ 2 ^ 40 := by omega
  have b3 : (A + g).toInt = A.toInt + g.toInt := own_addL (by omega) (by omega)
  -- the schedule behind the first tick
  obtain ⟨sc, hsc⟩ : ∃ sc, sc = (if A - 0 < P then 0 + P else A + P) := ⟨_, rfl⟩
  rw [← hsc]
  have hsc2 : (A.toInt < P.toInt ∧ sc.toInt = P.toInt) ∨ (P.toInt ≤ A.toInt ∧ sc.toInt = A.toInt + P.toInt) := by
    rw [hsc]
    by_cases q : A - 0 < P
    · rw [if_pos q]; rw [own_ltL] at q; omega
    · rw [if_neg q]; rw [own_ltL] at q; omega
  have hsc3 : 1 ≤ sc.toInt ∧ sc.toInt ≤ 2 ^ 41 := by omega
  have hd1 := own_due P (P - P / 10) n sc (A + (P - P / 10)) (by omega) (by omega)
  have hd2 : (if sc < A + (P - P / 10) then A + (P - P / 10) else sc) = A + g := by
    apply Int64.toInt_inj.mp
    rw [b3]
    by_cases q : sc < A + (P - P / 10)
    · rw [if_pos q]; rw [own_ltL] at q; omega
    · rw [if_neg q]; rw [own_ltL] at q; omega
  rw [hd2] at hd1
  have hg' : f5_0 P A = g := hg
  unfold f0_62
  rw [hg', if_pos (by rw [hd1, Int64.add_assoc n A g])]
  -- the second tick
  have key : ∀ t : Int64, t.toInt = sc.toInt → f0_105 v0 n v4 v6 P A B (n + A) g t P (P - P / 10) (n + sc) (n + (A + (P - P / 10))) = 1 := by
    intro t ht
    obtain rfl : t = sc := Int64.toInt_inj.mp ht
    have c1 : ((A + g) + B).toInt = (A + g).toInt + B.toInt := own_addL (by omega) (by omega)
    have c3 : ((A + g + B) - t).toInt = (A + g + B).toInt - t.toInt := own_subL (by omega) (by omega)
    have hle : t.toInt ≤ A.toInt + g.toInt := by omega
    have g2 := own_gap P (A + g + B - t) (by omega) (by omega)
    have e2 := own_tick n (A + g + B) P (P - P / 10) t (n + (A + (P - P / 10)))
    unfold f0_105
    rw [e2]
    show f0_130 v0 n v4 v6 P A B (n + A) g t (A + g + B) (n + (A + g + B)) P (P - P / 10) (n + (if A + g + B - t < P then t + P else A + g + B + P)) (n + (A + g + B + (P - P / 10))) = 1
    unfold f0_130
    obtain ⟨sd, hsd⟩ : ∃ sd, sd = (if A + g + B - t < P then t + P else A + g + B + P) := ⟨_, rfl⟩
    rw [← hsd]
    have d1 : (t + P).toInt = t.toInt + P.toInt := own_addL (by omega) (by omega)
    have d3 : ((A + g + B) + P).toInt = (A + g + B).toInt + P.toInt := own_addL (by omega) (by omega)
    have d5 : ((A + g + B) + (P - P / 10)).toInt = (A + g + B).toInt + (P - P / 10).toInt := own_addL (by omega) (by omega)
    have hsd2 : ((A + g + B - t).toInt < P.toInt ∧ sd.toInt = t.toInt + P.toInt) ∨ (P.toInt ≤ (A + g + B - t).toInt ∧ sd.toInt = (A + g + B).toInt + P.toInt) := by
      rw [hsd]
      by_cases q : A + g + B - t < P
      · rw [if_pos q]; rw [own_ltL] at q; omega
      · rw [if_neg q]; rw [own_ltL] at q; omega
    have hsd3 : 1 ≤ sd.toInt ∧ sd.toInt ≤ 2 ^ 45 := by omega
    have hd3 := own_due P (P - P / 10) n sd (A + g + B + (P - P / 10)) (by omega) (by omega)
    have k1 : (A + g + B + f5_0 P (A + g + B - t)).toInt = (A + g + B).toInt + (f5_0 P (A + g + B - t)).toInt := own_addL (by omega) (by omega)
    rw [if_pos]
    rw [hd3, Int64.add_assoc n (A + g + B)]
    congr 1
    apply Int64.toInt_inj.mp
    by_cases q : sd < A + g + B + (P - P / 10)
    · rw [if_pos q]; rw [own_ltL] at q; omega
    · rw [if_neg q]; rw [own_ltL] at q; omega
  by_cases q : A < P
  · rw [if_pos q]; rw [own_ltL] at q; exact key P (by omega)
  · rw [if_neg q]; rw [own_ltL] at q; exact key (A + P) (by omega)
theorem own_law (a n b c : Int64) : f0_0 a n b c = 1 := by
  have h1 := c_maskL a 1099511627775 40 (by decide) (by decide)
  have h2 := c_maskL b 1099511627775 40 (by decide) (by decide)
  have h3 := c_maskL c 1099511627775 40 (by decide) (by decide)
  have h4 := c_ladd (a &&& 1099511627775) 1
  have h5 := rng64 ((a &&& 1099511627775) + 1)
  have z : (1 : Int64).toInt = 1 := rfl
  exact own_core a n b c _ _ _ (by omega) (by omega) (by omega)

set_option maxRecDepth 65536 in
set_option maxHeartbeats 40000000 in
theorem comes_1 {Post : Tables → Env → Array Value → State → Outcome → State → Prop} (hpost : ∀ tb e args s v u, (limb_1_1.after args s (.returned v) u = true ∧ limb_1_2.after args s (.returned v) u = true ∧ True) → FrameEnd s (.returned v) u (Jvm.fieldLocs frame_1_writes args s ++ Jvm.arrayLocs frame_1_arrays args s ++ Jvm.staticLocs frame_1_statics s) 16 128 → Post tb e args s (.returned v) u) :
    ArmFor flags0 classFile x code maxLocals ret World_1 tables_1 room_1 Calls_1 rest_1 Pre_1 Post := by
  intro l hfl _ _ p e ha hc hk s m args below hf hA hF happ hP
  obtain ⟨hcalls, hrest, hpre⟩ := hP
  obtain ⟨-, -, -, hnamed, -, -, -, hat⟩ := (Spec.applies_iff hf).mp happ
  obtain ⟨hg, hn⟩ := and_e (Cond.before_iff.mp (show (Jvm.Cond.and given_1 narrow_1).before args s = true from hpre))
  obtain ⟨gg1, gg2⟩ := and_e hg
  obtain ⟨gg3, gg4⟩ := and_e gg2
  obtain ⟨gg5, gg6⟩ := and_e gg4
  obtain ⟨gg7, gg8⟩ := and_e gg6
  obtain ⟨w0, w1, w2, w3, rfl⟩ : ∃ w0 w1 w2 w3 : Value, args = #[w0, w1, w2, w3] := by
    have hs : args.size = 4 := by simpa [Cond.value, given_1] using gg1
    obtain ⟨L⟩ := args
    match L, hs with
    | [w0, w1, w2, w3], _ => exact ⟨w0, w1, w2, w3, rfl⟩
  have hw := fun d (hd : d ∈ tables_1) => atoms_spec (ws := Jvm.Cond.code x code maxLocals ret :: tables_1) hat d (List.mem_cons_of_mem _ hd)
  have hfit : Fit s := fun {y c} hc i hi => by
    obtain ⟨ha, rfl⟩ := Array.getElem?_eq_some_iff.mp hc
    have q := List.all_eq_true.mp ((Array.all_eq_true_iff_forall_mem.mp hF) _ (Array.getElem_mem ha)) i (List.mem_range.mpr hi)
    simpa [Array.getElem?_eq_getElem hi] using q
  obtain ⟨i0, ei0⟩ := isL_v gg3
  obtain rfl : w0 = (.long i0) := Option.some.inj ei0
  obtain ⟨i1, ei1⟩ := isL_v gg5
  obtain rfl : w1 = (.long i1) := Option.some.inj ei1
  obtain ⟨i2, ei2⟩ := isL_v gg7
  obtain rfl : w2 = (.long i2) := Option.some.inj ei2
  obtain ⟨i3, ei3⟩ := isL_v gg8
  obtain rfl : w3 = (.long i3) := Option.some.inj ei3
  obtain ⟨n, o, h1, h2, h3, _, L, rfl, ⟨rfl, N⟩, hq⟩ := rm0 l s _ hw tables_1 i0 i1 i2 i3 s.heap s.heap.size (Nat.le_refl _)  p e ha hc hk s m _ below hf ((Spec.applies_iff_loose hf).mp happ).1 ⟨rfl, State.Warmed39.refl s, rfl⟩ trivial
  refine ⟨n, _, h1, h2, h3, hpost _ _ _ _ _ _ ⟨Cond.after_iff.mpr rfl, Cond.after_iff.mpr (eq_i res_at (Term.int_eval (1)) (congrArg Value.int (own_law i0 i1 i2 i3))), trivial⟩ ⟨hq.1, hq.2.1, (hq.2.2.sift fun y hy => Or.inr (N y hy)).mono (by decide) (by decide)⟩⟩
theorem main_1_1 : Claimed_1_1 := comes_1 fun _ _ _ _ _ _ h hF => ⟨h.1, hF⟩
theorem main_1_2 : Claimed_1_2 := comes_1 fun _ _ _ _ _ _ h hF => ⟨h.2.1, hF⟩
end Jvm.Pilot.@@N@@
namespace Jvm.Pilot.@@N@@
open Jvm Jvm.ClassFile Sem Op Lib Jvm.Free Jvm.Stand Jvm.Pilot.@@N@@.Jvm.D
/-! MADE BY PROGRAM (witnessworld.py) out of the Statement's table words and the real class files: 10 classes; the members and pool entries that the words name. The judged class is class 1, her method 2. -/
namespace start1
open Jvm.ClassFile
def u (s : String) : CpInfo := .utf8 (stringToUtf16 s)
/-- a pool by its gaps: so many unusable entries, then the entry; so many at the end -/
def gap : Nat → List CpInfo → List CpInfo
  | 0, r => r
  | n + 1, r => .unusable :: gap n r
def poolList (es : List (Nat × CpInfo)) (last : Nat) : List CpInfo := es.foldr (fun e r => gap e.1 (e.2 :: r)) (gap last [])
def pool (es : List (Nat × CpInfo)) (last : Nat) : Array CpInfo := ⟨poolList es last⟩
def fileOf (pool : Array CpInfo) (this : Nat) (attrs : Array Attribute := #[]) (ms : Array MethodInfo := #[]) (fl : Nat := 33) (sup : Nat := 0) (ifs : Array Nat := #[]) (fds : Array FieldInfo := #[]) : ClassFile where
  minorVersion := 0
  majorVersion := 65
  constantPool := pool
  accessFlags := fl
  thisClass := this
  superClass := sup
  interfaces := ifs
  fields := fds
  methods := ms
  attributes := attrs
def plain (name : String) (sup : Option ClassId) : Class where
  name := name
  kind := .ordinary
  loader := none
  accessFlags := 33
  super := sup
  interfaces := #[]
  cf := none
  fields := #[]
  methods := #[]
  instanceTypes := #[]
  staticTypes := #[]
  resolved := #[]
  callSites := []
  init := .initialized
  statics := none
  mirror := none

def pool0 : Array CpInfo := pool [(5, u "<init>"), (0, u "()V"), (1, .class_ 10), (1, u "java/lang/Object")] 113

def k0c0 : Code := { maxStack := 0, maxLocals := 1, code := object_method_1_code, exceptionTable := #[], attributes := #[] }
def k0m0 : Method := { name := "<init>", desc := "()V", sig := { parameters := [], returnType := none }, accessFlags := 1, code := some k0c0 }
/-- java/lang/Object -/
def k0 : Class := { plain "java/lang/Object" none with
  accessFlags := 33
  interfaces := #[]
  cf := some (fileOf pool0 8 #[] #[{ accessFlags := 1, nameIndex := 5, descriptorIndex := 6, attributes := #[] }] 33 0 #[] #[])
  fields := #[]
  methods := #[k0m0]
  instanceTypes := #[]
  staticTypes := #[]
  resolved := Array.replicate 124 none
  statics := none }

def pool1 : Array CpInfo := pool [(2, .class_ 4), (1, u "java/lang/Object"), (0, u "<init>"), (0, u "()V"), (0, .long 10), (1, .methodref 10 11), (0, .class_ 12), (0, .nameAndType 13 14), (0, u "java/lang/Math"), (0, u "max"), (0, u "(JJ)J"), (0, .long 1099511627775), (1, .class_ 18), (0, u "com/example/quietwire/quietwire/transport/TickSchedule"), (0, .methodref 17 20), (0, .nameAndType 5 21), (0, u "(JJ)V"), (0, .methodref 17 23), (0, .nameAndType 24 25), (0, u "due"), (0, u "()J"), (0, .methodref 17 27), (0, .nameAndType 28 29), (0, u "ticked"), (0, u "(J)V"), (0, .methodref 31 32), (0, .class_ 33), (0, .nameAndType 34 14), (0, u "com/example/quietwire/quietwire/transport/TickScheduleDuePinLaw"), (0, u "gap"), (3, u "law"), (0, u "(JJJJ)Z")] 2

def k1m0 : Method := { name := "<init>", desc := "()V", sig := { parameters := [], returnType := none }, accessFlags := 1, code := none }
def k1c1 : Code := { maxStack := 6, maxLocals := 6, code := method_2_code, exceptionTable := #[], attributes := #[] }
def k1m1 : Method := { name := "gap", desc := "(JJ)J", sig := { parameters := [.long, .long], returnType := some .long }, accessFlags := 10, code := some k1c1 }
def k1c2 : Code := { maxStack := 6, maxLocals := 27, code := code, exceptionTable := #[], attributes := #[] }
def k1m2 : Method := { name := "law", desc := "(JJJJ)Z", sig := { parameters := [.long, .long, .long, .long], returnType := some .boolean }, accessFlags := 9, code := some k1c2 }
/-- com/example/quietwire/quietwire/transport/TickScheduleDuePinLaw -/
def k1 : Class := { plain "com/example/quietwire/quietwire/transport/TickScheduleDuePinLaw" (some 0) with
  accessFlags := 49
  interfaces := #[]
  cf := some (fileOf pool1 31 #[] #[{ accessFlags := 1, nameIndex := 5, descriptorIndex := 6, attributes := #[] }, { accessFlags := 10, nameIndex := 34, descriptorIndex := 14, attributes := #[] }, { accessFlags := 9, nameIndex := 38, descriptorIndex := 39, attributes := #[] }] 49 2 #[] #[])
  fields := #[]
  methods := #[k1m0, k1m1, k1m2]
  instanceTypes := #[]
  staticTypes := #[]
  resolved := Array.replicate 42 none
  statics := none }

def pool2 : Array CpInfo := pool [(1, .methodref 2 3), (0, .class_ 4), (0, .nameAndType 5 6), (0, u "java/lang/Object"), (0, u "<init>"), (0, u "()V"), (0, .fieldref 8 9), (0, .class_ 10), (0, .nameAndType 11 12), (0, u "com/example/quietwire/quietwire/transport/TickSchedule"), (0, u "period"), (0, u "J"), (0, .long 10), (1, .fieldref 8 16), (0, .nameAndType 17 12), (0, u "shortest"), (0, .fieldref 8 19), (0, .nameAndType 20 12), (0, u "scheduled"), (0, .fieldref 8 22), (0, .nameAndType 23 12), (0, u "soonest"), (2, u "due"), (0, u "()J"), (0, u "LEEWAY_PARTS"), (0, u "I"), (2, u "(JJ)V"), (5, u "ticked"), (0, u "(J)V")] 2

def k2c0 : Code := { maxStack := 7, maxLocals := 5, code := prog_116_method_1_code, exceptionTable := #[], attributes := #[] }
def k2m0 : Method := { name := "<init>", desc := "(JJ)V", sig := { parameters := [.long, .long], returnType := none }, accessFlags := 0, code := some k2c0 }
def k2c1 : Code := { maxStack := 4, maxLocals := 1, code := prog_116_method_2_code, exceptionTable := #[], attributes := #[] }
def k2m1 : Method := { name := "due", desc := "()J", sig := { parameters := [], returnType := some .long }, accessFlags := 0, code := some k2c1 }
def k2c2 : Code := { maxStack := 5, maxLocals := 4, code := prog_116_method_4_code, exceptionTable := #[], attributes := #[] }
def k2m2 : Method := { name := "ticked", desc := "(J)V", sig := { parameters := [.long], returnType := none }, accessFlags := 0, code := some k2c2 }
/-- com/example/quietwire/quietwire/transport/TickSchedule -/
def k2 : Class := { plain "com/example/quietwire/quietwire/transport/TickSchedule" (some 0) with
  accessFlags := 48
  interfaces := #[]
  cf := some (fileOf pool2 8 #[] #[{ accessFlags := 0, nameIndex := 5, descriptorIndex := 32, attributes := #[] }, { accessFlags := 0, nameIndex := 26, descriptorIndex := 27, attributes := #[] }, { accessFlags := 0, nameIndex := 38, descriptorIndex := 39, attributes := #[] }] 48 2 #[] #[{ accessFlags := 26, nameIndex := 28, descriptorIndex := 29, attributes := #[] }, { accessFlags := 18, nameIndex := 11, descriptorIndex := 12, attributes := #[] }, { accessFlags := 18, nameIndex := 17, descriptorIndex := 12, attributes := #[] }, { accessFlags := 2, nameIndex := 20, descriptorIndex := 12, attributes := #[] }, { accessFlags := 2, nameIndex := 23, descriptorIndex := 12, attributes := #[] }])
  fields := #[{ name := "LEEWAY_PARTS", type := .int, accessFlags := 26, slot := 0, constantValue := 0 }, { name := "period", type := .long, accessFlags := 18, slot := 0, constantValue := 0 }, { name := "shortest", type := .long, accessFlags := 18, slot := 1, constantValue := 0 }, { name := "scheduled", type := .long, accessFlags := 2, slot := 2, constantValue := 0 }, { name := "soonest", type := .long, accessFlags := 2, slot := 3, constantValue := 0 }]
  methods := #[k2m0, k2m1, k2m2]
  instanceTypes := #[.long, .long, .long, .long]
  staticTypes := #[.int]
  resolved := Array.replicate 42 none
  statics := none }

def pool3 : Array CpInfo := pool [(1, .class_ 2), (0, u "java/lang/Math"), (1, .class_ 6), (1, u "java/lang/Object"), (0, u "<init>"), (0, u "()V"), (89, .class_ 100), (1, u "java/lang/Math$RandomNumberGeneratorHolder"), (20, u "(JJ)J"), (50, u "negativeZeroFloatBits"), (0, u "J"), (2, u "negativeZeroDoubleBits"), (21, u "max"), (46, u "$assertionsDisabled"), (0, u "Z"), (91, u "twoToTheDoubleScaleDown"), (0, u "D"), (4, u "twoToTheDoubleScaleUp"), (9, u "E"), (3, u "PI"), (2, u "TAU"), (2, u "DEGREES_TO_RADIANS"), (0, u "RADIANS_TO_DEGREES")] 94

def k3m0 : Method := { name := "<init>", desc := "()V", sig := { parameters := [], returnType := none }, accessFlags := 2, code := none }
def k3c1 : Code := { maxStack := 4, maxLocals := 4, code := jdk_29_method_66_code, exceptionTable := #[], attributes := #[] }
def k3m1 : Method := { name := "max", desc := "(JJ)J", sig := { parameters := [.long, .long], returnType := some .long }, accessFlags := 9, code := some k3c1 }
/-- java/lang/Math -/
def k3 : Class := { plain "java/lang/Math" (some 0) with
  accessFlags := 49
  interfaces := #[]
  cf := some (fileOf pool3 1 #[.nestMembers #[98]] #[{ accessFlags := 2, nameIndex := 7, descriptorIndex := 8, attributes := #[] }, { accessFlags := 9, nameIndex := 198, descriptorIndex := 121, attributes := #[] }] 49 4 #[] #[{ accessFlags := 25, nameIndex := 354, descriptorIndex := 339, attributes := #[] }, { accessFlags := 25, nameIndex := 358, descriptorIndex := 339, attributes := #[] }, { accessFlags := 25, nameIndex := 361, descriptorIndex := 339, attributes := #[] }, { accessFlags := 26, nameIndex := 364, descriptorIndex := 339, attributes := #[] }, { accessFlags := 26, nameIndex := 365, descriptorIndex := 339, attributes := #[] }, { accessFlags := 26, nameIndex := 172, descriptorIndex := 173, attributes := #[] }, { accessFlags := 26, nameIndex := 176, descriptorIndex := 173, attributes := #[] }, { accessFlags := 8, nameIndex := 344, descriptorIndex := 339, attributes := #[] }, { accessFlags := 8, nameIndex := 338, descriptorIndex := 339, attributes := #[] }, { accessFlags := 4120, nameIndex := 245, descriptorIndex := 246, attributes := #[] }])
  fields := #[{ name := "E", type := .double, accessFlags := 25, slot := 0, constantValue := 0 }, { name := "PI", type := .double, accessFlags := 25, slot := 1, constantValue := 0 }, { name := "TAU", type := .double, accessFlags := 25, slot := 2, constantValue := 0 }, { name := "DEGREES_TO_RADIANS", type := .double, accessFlags := 26, slot := 3, constantValue := 0 }, { name := "RADIANS_TO_DEGREES", type := .double, accessFlags := 26, slot := 4, constantValue := 0 }, { name := "negativeZeroFloatBits", type := .long, accessFlags := 26, slot := 5, constantValue := 0 }, { name := "negativeZeroDoubleBits", type := .long, accessFlags := 26, slot := 6, constantValue := 0 }, { name := "twoToTheDoubleScaleUp", type := .double, accessFlags := 8, slot := 7, constantValue := 0 }, { name := "twoToTheDoubleScaleDown", type := .double, accessFlags := 8, slot := 8, constantValue := 0 }, { name := "$assertionsDisabled", type := .boolean, accessFlags := 4120, slot := 9, constantValue := 0 }]
  methods := #[k3m0, k3m1]
  instanceTypes := #[]
  staticTypes := #[.double, .double, .double, .double, .double, .long, .long, .double, .double, .boolean]
  resolved := Array.replicate 460 none
  statics := none }

def pool4 : Array CpInfo := pool [(1, u "java/lang/Cloneable"), (0, .class_ 1), (0, u "java/lang/Object"), (0, .class_ 3)] 3

/-- java/lang/Cloneable -/
def k4 : Class := { plain "java/lang/Cloneable" (some 0) with
  accessFlags := 1537
  interfaces := #[]
  cf := some (fileOf pool4 2 #[] #[] 1537 4 #[] #[])
  fields := #[]
  methods := #[]
  instanceTypes := #[]
  staticTypes := #[]
  resolved := Array.replicate 8 none
  statics := none }

def pool5 : Array CpInfo := pool [(1, u "java/io/Serializable"), (0, .class_ 1), (0, u "java/lang/Object"), (0, .class_ 3)] 3

/-- java/io/Serializable -/
def k5 : Class := { plain "java/io/Serializable" (some 0) with
  accessFlags := 1537
  interfaces := #[]
  cf := some (fileOf pool5 2 #[] #[] 1537 4 #[] #[])
  fields := #[]
  methods := #[]
  instanceTypes := #[]
  staticTypes := #[]
  resolved := Array.replicate 8 none
  statics := none }

/-- the primitive byte -/
def k6 : Class := { plain "byte" none with kind := .primitive 'B', accessFlags := 0x411 }
/-- [B -/
def k7 : Class := { plain "[B" (some 0) with kind := .array 6 .byte, interfaces := #[4, 5], accessFlags := 1041 }

/-- the primitive int -/
def k8 : Class := { plain "int" none with kind := .primitive 'I', accessFlags := 0x411 }
/-- [I -/
def k9 : Class := { plain "[I" (some 0) with kind := .array 8 .int, interfaces := #[4, 5], accessFlags := 1041 }

def heap : Heap := #[]
def classes : Array Class := #[k0, k1, k2, k3, k4, k5, k6, k7, k8, k9]
def interned : List (Array UInt16 × Addr) := []
def slotsUsed : Nat := 0
def theMethod : MethodId := ⟨1, 2⟩
def args0 : Array Value := #[.long 5, .long 6, .long 7, .long 8]
def aboutOver (below : List Frame) : State where
  vm := { classes := classes, interned := interned.toArray }
  heap := heap
  slotsUsed := slotsUsed
  threads := #[{ frames := .invoking theMethod args0 :: below }]
def below0 : List Frame := [.native { method := ⟨0, 0⟩, args := #[] }]
def about1 : State := aboutOver below0
def p0 : Program := .bare "" "" ""
def e0 : Env := launch0.env 0 0 0
theorem w_frames : about1.frames = Frame.invoking theMethod args0 :: below0 := rfl
set_option maxRecDepth 65536 in
theorem w_args : argsFit about1.vm theMethod args0 = true := by decide +kernel
set_option maxRecDepth 65536 in
theorem w_heap : heapFits about1 = true := by decide +kernel
set_option maxRecDepth 65536 in
theorem w_runnable : about1.curStatus? = some .runnable := by decide +kernel
set_option maxRecDepth 65536 in
theorem w_alone : about1.alone = true := by decide +kernel
set_option maxRecDepth 65536 in
theorem w_named : about1.methodNamed? x = some theMethod := by decide +kernel
set_option maxRecDepth 65536 in
theorem w_hears : about1.hears theMethod below0 = true := by decide +kernel
set_option maxRecDepth 65536 in
theorem w_ripe : about1.ripe theMethod args0 below0 = true := by decide +kernel
theorem w_running : about1.status = .running := rfl
set_option maxRecDepth 65536 in
theorem w_room : about1.hasRoom e0.platform room_1 = true :=
  launch0.hasRoom_least _ room_1 (by decide +kernel) (by decide +kernel) (by decide +kernel) (by decide +kernel) (by decide +kernel) (by decide +kernel)
theorem allAtoms_all (ts : List Jvm.Cond) (a : Array Jvm.Value) (st : Jvm.State) : (allAtoms ts).before a st = ts.all (fun c => c.before a st) := by
  induction ts with
  | nil => rfl
  | cons c t ih =>
    show (Jvm.Cond.and c (allAtoms t)).before a st = _
    rw [Jvm.Cond.before_and, ih, List.all_cons]
def words1 : List Jvm.Cond := Jvm.Cond.code x code maxLocals ret :: tables_1
/-- a 'code' word, met by the world's own term for the bytes: nothing is compared byte by byte -/
theorem code_word {y : MethodName} {bytes : ByteArray} {mx : Nat} {rt : Option FieldType} {a : Array Value} {s : State} {m : MethodId} {meth : Method} {c : Code} (h1 : s.methodNamed? y = some m) (h2 : s.vm.method? m = some meth) (h3 : meth.code = some c) (h4 : c.code = bytes)
    (h5 : (c.maxLocals == mx && c.exceptionTable.isEmpty && decide (c.maxStack ≤ mostOperands) && decide (meth.sig.returnType = rt) && !meth.locks && decide (parseMethodDescriptor y.desc = some meth.sig)) = true) : (Jvm.Cond.code y bytes mx rt).before a s = true := by
  simp only [Bool.and_eq_true, beq_iff_eq, Bool.not_eq_true', decide_eq_true_eq] at h5
  obtain ⟨⟨⟨⟨⟨g1, g2⟩, g3⟩, g4⟩, g5⟩, g6⟩ := h5
  simp [Cond.before, Cond.holds, Cond.value, h1, h2, h3, h4, g1, g2, g3, g4, g5, g6]
def isCode : Jvm.Cond → Bool
  | .code _ _ _ _ => true
  | _ => false
theorem all_split {L : List Jvm.Cond} {P : Jvm.Cond → Bool} (h1 : L.all (fun c => isCode c || P c) = true) (h2 : ∀ c ∈ L.filter isCode, P c = true) : L.all P = true := by
  refine List.all_eq_true.mpr fun c hc => ?_
  have h := List.all_eq_true.mp h1 c hc
  rcases Bool.eq_false_or_eq_true (isCode c) with hi | hi
  · exact h2 c (List.mem_filter.mpr ⟨hc, hi⟩)
  · simpa [hi] using h
set_option maxRecDepth 65536 in
theorem w_c0 : (Jvm.Cond.code x code maxLocals ret).before args0 about1 = true := code_word (m := ⟨1, 2⟩) (meth := k1m2) (c := k1c2) (by decide +kernel) rfl rfl rfl (by decide +kernel)
set_option maxRecDepth 65536 in
theorem w_c1 : (Jvm.Cond.code ({ cls := "com/example/quietwire/quietwire/transport/TickSchedule", name := "<init>", desc := "(JJ)V" } : Jvm.MethodName) prog_116_method_1_code (5 : Nat) (Option.none : Option Jvm.ClassFile.FieldType)).before args0 about1 = true := code_word (m := ⟨2, 0⟩) (meth := k2m0) (c := k2c0) (by decide +kernel) rfl rfl rfl (by decide +kernel)
set_option maxRecDepth 65536 in
theorem w_c2 : (Jvm.Cond.code ({ cls := "java/lang/Object", name := "<init>", desc := "()V" } : Jvm.MethodName) object_method_1_code (1 : Nat) (Option.none : Option Jvm.ClassFile.FieldType)).before args0 about1 = true := code_word (m := ⟨0, 0⟩) (meth := k0m0) (c := k0c0) (by decide +kernel) rfl rfl rfl (by decide +kernel)
set_option maxRecDepth 65536 in
theorem w_c3 : (Jvm.Cond.code ({ cls := "com/example/quietwire/quietwire/transport/TickSchedule", name := "due", desc := "()J" } : Jvm.MethodName) prog_116_method_2_code (1 : Nat) (Option.some Jvm.ClassFile.FieldType.long)).before args0 about1 = true := code_word (m := ⟨2, 1⟩) (meth := k2m1) (c := k2c1) (by decide +kernel) rfl rfl rfl (by decide +kernel)
set_option maxRecDepth 65536 in
theorem w_c4 : (Jvm.Cond.code ({ cls := "com/example/quietwire/quietwire/transport/TickSchedule", name := "ticked", desc := "(J)V" } : Jvm.MethodName) prog_116_method_4_code (4 : Nat) (Option.none : Option Jvm.ClassFile.FieldType)).before args0 about1 = true := code_word (m := ⟨2, 2⟩) (meth := k2m2) (c := k2c2) (by decide +kernel) rfl rfl rfl (by decide +kernel)
set_option maxRecDepth 65536 in
theorem w_c5 : (Jvm.Cond.code ({ cls := "com/example/quietwire/quietwire/transport/TickScheduleDuePinLaw", name := "gap", desc := "(JJ)J" } : Jvm.MethodName) method_2_code (6 : Nat) (Option.some Jvm.ClassFile.FieldType.long)).before args0 about1 = true := code_word (m := ⟨1, 1⟩) (meth := k1m1) (c := k1c1) (by decide +kernel) rfl rfl rfl (by decide +kernel)
set_option maxRecDepth 65536 in
theorem w_c6 : (Jvm.Cond.code ({ cls := "java/lang/Math", name := "max", desc := "(JJ)J" } : Jvm.MethodName) jdk_29_method_66_code (4 : Nat) (Option.some Jvm.ClassFile.FieldType.long)).before args0 about1 = true := code_word (m := ⟨3, 1⟩) (meth := k3m1) (c := k3c1) (by decide +kernel) rfl rfl rfl (by decide +kernel)
def codes1 : List Jvm.Cond := [Jvm.Cond.code x code maxLocals ret, Jvm.Cond.code ({ cls := "com/example/quietwire/quietwire/transport/TickSchedule", name := "<init>", desc := "(JJ)V" } : Jvm.MethodName) prog_116_method_1_code (5 : Nat) (Option.none : Option Jvm.ClassFile.FieldType), Jvm.Cond.code ({ cls := "java/lang/Object", name := "<init>", desc := "()V" } : Jvm.MethodName) object_method_1_code (1 : Nat) (Option.none : Option Jvm.ClassFile.FieldType), Jvm.Cond.code ({ cls := "com/example/quietwire/quietwire/transport/TickSchedule", name := "due", desc := "()J" } : Jvm.MethodName) prog_116_method_2_code (1 : Nat) (Option.some Jvm.ClassFile.FieldType.long), Jvm.Cond.code ({ cls := "com/example/quietwire/quietwire/transport/TickSchedule", name := "ticked", desc := "(J)V" } : Jvm.MethodName) prog_116_method_4_code (4 : Nat) (Option.none : Option Jvm.ClassFile.FieldType), Jvm.Cond.code ({ cls := "com/example/quietwire/quietwire/transport/TickScheduleDuePinLaw", name := "gap", desc := "(JJ)J" } : Jvm.MethodName) method_2_code (6 : Nat) (Option.some Jvm.ClassFile.FieldType.long), Jvm.Cond.code ({ cls := "java/lang/Math", name := "max", desc := "(JJ)J" } : Jvm.MethodName) jdk_29_method_66_code (4 : Nat) (Option.some Jvm.ClassFile.FieldType.long)]
set_option maxRecDepth 65536 in
theorem codes_eq : words1.filter isCode = codes1 := rfl
theorem w_codes : ∀ c ∈ words1.filter isCode, c.before args0 about1 = true := by
  rw [codes_eq]
  intro c hc
  simp only [codes1, List.mem_cons, List.not_mem_nil, or_false] at hc
  rcases hc with rfl | rfl | rfl | rfl | rfl | rfl | rfl
  · exact w_c0
  · exact w_c1
  · exact w_c2
  · exact w_c3
  · exact w_c4
  · exact w_c5
  · exact w_c6
set_option maxRecDepth 65536 in
theorem w_t1 : (words1.take 24).all (fun c => isCode c || c.before args0 about1) = true := by decide +kernel
set_option maxRecDepth 65536 in
theorem w_t2 : (words1.drop 24).all (fun c => isCode c || c.before args0 about1) = true := by decide +kernel
theorem w_tables : (allAtoms (Jvm.Cond.code x code maxLocals ret :: tables_1)).before args0 about1 = true := by
  rw [allAtoms_all]
  show words1.all (fun c => c.before args0 about1) = true
  refine all_split ?_ w_codes
  rw [← List.take_append_drop 24 words1, List.all_append, w_t1, w_t2]
  rfl
set_option maxRecDepth 65536 in
theorem w_case : (Jvm.Cond.and given_1 narrow_1).before args0 about1 = true := by decide +kernel
theorem w_applies : (headSpec (Jvm.Cond.code x code maxLocals ret :: tables_1) room_1).applies x e0.platform about1 = true :=
  (Spec.applies_iff w_frames).mpr ⟨w_running, w_runnable, w_alone, w_named, w_hears, w_ripe, w_room, w_tables⟩
theorem atStart : AtStart classFile x code maxLocals ret World_1 tables_1 room_1 Calls_1 rest_1 Pre_1 launch0 p0 e0 about1 theMethod args0 below0 :=
  ⟨lists_1, trivial, launch0.admits_env _ _ _, launch0.least_env, fairChoices_fair.cas, fairChoices_fair.clock, w_frames, w_args, w_heap, w_applies, trivial, trivial, w_case⟩
end start1
theorem witness_1 : WitnessClaimed_1 := ⟨start1.p0, start1.e0, start1.about1, start1.theMethod, start1.args0, start1.below0, start1.atStart⟩
end Jvm.Pilot.@@N@@
