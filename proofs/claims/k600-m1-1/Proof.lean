import JvmDerived
import JvmDerived.Pilot.@@N@@Statement
import JvmDerived.Pilot.@@N@@Code
set_option linter.unusedVariables false
set_option linter.unusedSimpArgs false
namespace Jvm.Pilot.@@N@@
open Jvm Jvm.ClassFile Sem Op Lib Jvm.Free Jvm.Stand Jvm.LawKit Jvm.RoadKit Bundle Jvm.Pilot.@@N@@.Jvm.D
/-! the walk's goal: from the state A the run ends, returning what Qv says -/
def OwnEnd (p : Program) (e : Env) (below : List Frame) (s : State) (Qv : Option Value → Heap → List Loc → Prop) (k n : Nat) (A : State) : Prop :=
  ∃ s₂ o, Steps p.tables e below A s₂ ∧ s₂.status = .running ∧ Ended s₂ below o ∧ ∃ v L, o = .returned v ∧ Qv v s₂.heap L ∧ FrameEnd s o s₂ L k n
theorem own_step {p : Program} {e : Env} {below : List Frame} {s : State} {Qv : Option Value → Heap → List Loc → Prop} {k n : Nat} {A B : State} (h : ∀ t, Steps p.tables e below B t → Steps p.tables e below A t) (q : OwnEnd p e below s Qv k n B) : OwnEnd p e below s Qv k n A := by
  obtain ⟨s₂, o, h1, h2⟩ := q
  exact ⟨s₂, o, h _ h1, h2⟩
theorem own_arvEq {Z : State} {h : Heap} {a : Addr} {k : ClassId} {ty : FieldType} {z : Int32} {vs vs' : List Value} {d : Value} (e : vs = vs') (F : Arv Z h a k ty z vs d) : Arv Z h a k ty z vs' d := by subst e; exact F
theorem own_fldEq {Z : State} {h : Heap} {a : Addr} {C n d : String} {x y : Int32} (e : x = y) (F : Fld Z h a C n d (.int x)) : Fld Z h a C n d (.int y) := by subst e; exact F
section OwnRet
variable {p : Program} {l : Launch} {e : Env} {R : Room} {s : State} {m : MethodId} {args : Array Value} {below : List Frame} {meth : Method} {c : Code} {T : State} {locs : List Loc} {cells slots k n : Nat} {Qv : Option Value → Heap → List Loc → Prop}
theorem own_retN (X : Stand p l e R s m args below meth c T locs cells slots) (hx : p.tables.exec = Jvm.exec) (hlocks : meth.locks = false) {pc : Nat} {Ls : Array Slot} {z w : Int32} {t : FieldType} {rest : List Value} (hret : meth.sig.returnType = some t) (ht : t = .boolean ∨ t = .byte ∨ t = .char ∨ t = .short) (hd : decode c.code pc = .ok (.ireturn, 1)) (hz : nar t z = w) (hq : Qv (some (.int w)) T.heap locs) (hk : cells ≤ k) (hn : slots ≤ n) :
    OwnEnd p e below s Qv k n (T.setTop (mkF m pc Ls (.int z :: rest))) := by
  obtain ⟨fs, hr, hrun, hended, hW, hsame⟩ := X.leave (v := some (.int w)) (fun h => by rw [hret] at h; cases h) hlocks
  exact ⟨_, _, retN X hx hret ht hd (fs := fs) (by rw [hz]; exact hr), hrun, hended, _, _, rfl, hq, ⟨_, rfl⟩, hW, hsame.mono hk hn⟩
theorem own_retI (X : Stand p l e R s m args below meth c T locs cells slots) (hx : p.tables.exec = Jvm.exec) (hlocks : meth.locks = false) {pc : Nat} {Ls : Array Slot} {z : Int32} {rest : List Value} (hret : meth.sig.returnType = some .int) (hd : decode c.code pc = .ok (.ireturn, 1)) (hq : Qv (some (.int z)) T.heap locs) (hk : cells ≤ k) (hn : slots ≤ n) :
    OwnEnd p e below s Qv k n (T.setTop (mkF m pc Ls (.int z :: rest))) := by
  obtain ⟨fs, hr, hrun, hended, hW, hsame⟩ := X.leave (v := some (.int z)) (fun h => by rw [hret] at h; cases h) hlocks
  refine ⟨T.setFrames fs, _, ?_, hrun, hended, _, _, rfl, hq, ⟨_, rfl⟩, hW, hsame.mono hk hn⟩
  have hm' : T.vm.method? m = some meth := X.method'
  have hn' : narrow .int (.int z) = .int z := rfl
  show Steps p.tables e below (T.setTop { method := m, pc := pc, locals := Ls, stack := _ :: rest, locked := none }) _
  jvm_step X.here [X.here.top, hx, hd, hm', hret, hn']
  first | (intro acts; rw [hr _ acts rfl rfl rfl]) | rw [hr _ _ rfl rfl rfl]
  exact Steps.refl _
theorem own_retJ (X : Stand p l e R s m args below meth c T locs cells slots) (hx : p.tables.exec = Jvm.exec) (hlocks : meth.locks = false) {pc : Nat} {Ls : Array Slot} {z : Int64} {rest : List Value} (hret : meth.sig.returnType = some .long) (hd : decode c.code pc = .ok (.lreturn, 1)) (hq : Qv (some (.long z)) T.heap locs) (hk : cells ≤ k) (hn : slots ≤ n) :
    OwnEnd p e below s Qv k n (T.setTop (mkF m pc Ls (.long z :: rest))) := by
  obtain ⟨fs, hr, hrun, hended, hW, hsame⟩ := X.leave (v := some (.long z)) (fun h => by rw [hret] at h; cases h) hlocks
  refine ⟨T.setFrames fs, _, ?_, hrun, hended, _, _, rfl, hq, ⟨_, rfl⟩, hW, hsame.mono hk hn⟩
  have hm' : T.vm.method? m = some meth := X.method'
  have hn' : narrow .long (.long z) = .long z := rfl
  show Steps p.tables e below (T.setTop { method := m, pc := pc, locals := Ls, stack := _ :: rest, locked := none }) _
  jvm_step X.here [X.here.top, hx, hd, hm', hret, hn']
  first | (intro acts; rw [hr _ acts rfl rfl rfl]) | rw [hr _ _ rfl rfl rfl]
  exact Steps.refl _
theorem own_retD (X : Stand p l e R s m args below meth c T locs cells slots) (hx : p.tables.exec = Jvm.exec) (hlocks : meth.locks = false) {pc : Nat} {Ls : Array Slot} {z : UInt64} {rest : List Value} (hret : meth.sig.returnType = some .double) (hd : decode c.code pc = .ok (.dreturn, 1)) (hq : Qv (some (.double z)) T.heap locs) (hk : cells ≤ k) (hn : slots ≤ n) :
    OwnEnd p e below s Qv k n (T.setTop (mkF m pc Ls (.double z :: rest))) := by
  obtain ⟨fs, hr, hrun, hended, hW, hsame⟩ := X.leave (v := some (.double z)) (fun h => by rw [hret] at h; cases h) hlocks
  refine ⟨T.setFrames fs, _, ?_, hrun, hended, _, _, rfl, hq, ⟨_, rfl⟩, hW, hsame.mono hk hn⟩
  have hm' : T.vm.method? m = some meth := X.method'
  have hn' : narrow .double (.double z) = .double z := rfl
  show Steps p.tables e below (T.setTop { method := m, pc := pc, locals := Ls, stack := _ :: rest, locked := none }) _
  jvm_step X.here [X.here.top, hx, hd, hm', hret, hn']
  first | (intro acts; rw [hr _ acts rfl rfl rfl]) | rw [hr _ _ rfl rfl rfl]
  exact Steps.refl _
theorem own_retR (X : Stand p l e R s m args below meth c T locs cells slots) (hx : p.tables.exec = Jvm.exec) (hlocks : meth.locks = false) {pc : Nat} {Ls : Array Slot} {z : Addr} {t : FieldType} {rest : List Value} (hret : meth.sig.returnType = some t) (ht : t.isReference = true) (hd : decode c.code pc = .ok (.areturn, 1)) (hq : Qv (some (.ref z)) T.heap locs) (hk : cells ≤ k) (hn : slots ≤ n) :
    OwnEnd p e below s Qv k n (T.setTop (mkF m pc Ls (.ref z :: rest))) := by
  obtain ⟨fs, hr, hrun, hended, hW, hsame⟩ := X.leave (v := some (.ref z)) (fun h => by rw [hret] at h; cases h) hlocks
  refine ⟨T.setFrames fs, _, ?_, hrun, hended, _, _, rfl, hq, ⟨_, rfl⟩, hW, hsame.mono hk hn⟩
  have hm' : T.vm.method? m = some meth := X.method'
  show Steps p.tables e below (T.setTop { method := m, pc := pc, locals := Ls, stack := _ :: rest, locked := none }) _
  jvm_step X.here [X.here.top, hx, hd, hm', hret, ht, Value.isRef]
  first | (intro acts; rw [hr _ acts rfl rfl rfl]) | rw [hr _ _ rfl rfl rfl]
  exact Steps.refl _
theorem own_ret0 (X : Stand p l e R s m args below meth c T locs cells slots) (hx : p.tables.exec = Jvm.exec) (hlocks : meth.locks = false) {pc : Nat} {Ls : Array Slot} (hret : meth.sig.returnType = none) (hd : decode c.code pc = .ok (.return_, 1)) (hq : Qv none T.heap locs) (hk : cells ≤ k) (hn : slots ≤ n) :
    OwnEnd p e below s Qv k n (T.setTop (mkF m pc Ls [])) := by
  obtain ⟨fs, hr, hrun, hended, hW, hsame⟩ := X.leave (v := none) (fun _ => rfl) hlocks
  exact ⟨_, _, X.returnOut hx hret hd hr, hrun, hended, _, _, rfl, hq, ⟨_, rfl⟩, hW, hsame.mono hk hn⟩
end OwnRet
theorem d1_0 : decode prog_4_method_1_code 0 = .ok (.aload_n 0, 1) := by decide +kernel
theorem d1_1 : decode prog_4_method_1_code 1 = .ok (.invokespecial 1, 3) := by decide +kernel
theorem d1_4 : decode prog_4_method_1_code 4 = .ok (.aload_n 0, 1) := by decide +kernel
theorem d1_5 : decode prog_4_method_1_code 5 = .ok (.lload_n 1, 1) := by decide +kernel
theorem d1_6 : decode prog_4_method_1_code 6 = .ok (.putfield 7, 3) := by decide +kernel
theorem d1_9 : decode prog_4_method_1_code 9 = .ok (.return_, 1) := by decide +kernel
theorem pn1 : plainName "com/example/probematch/probematch/engine/SplitMix64" = true := by first | (simp [plainName, overriddenIn]; done) | decide +kernel
theorem ef1 (m : MethodId) (a0 : Addr) (q1 : Int64) : entryFrame m #[(.ref a0), (.long q1)] 3 = mkF m 0 #[.val (.ref a0), .val (.long q1), .second] [] := by first | (simp [entryFrame, mkF, argsToLocals, Value.category]; done) | rfl
def Q1 (Z : State) (a0 : Addr) (q1 : Int64) (h0 : Heap) (n0 : Nat) (v : Option Value) (h : Heap) (L : List Loc) : Prop := v = none ∧ Fr n0 L ∧ Keep h0 h [a0] ∧ Exa Z h a0 "com/example/probematch/probematch/engine/SplitMix64" ∧ Fld Z h a0 "com/example/probematch/probematch/engine/SplitMix64" "state" "J" (.long q1)
set_option maxRecDepth 65536 in
set_option maxHeartbeats 40000000 in
theorem rm1 (l : Launch) (Z : State) (aa : Array Value) (hw : ∀ d ∈ tables_1, d.before aa Z = true) (ws : List Jvm.Cond) (a0 : Addr) (q1 : Int64) (h0 : Heap) (n0 : Nat) (Z0 : n0 ≤ h0.size) (F_state_a0 : Fld Z h0 a0 "com/example/probematch/probematch/engine/SplitMix64" "state" "J" (.long (0 : Int64))) (E_a0 : Exa Z h0 a0 "com/example/probematch/probematch/engine/SplitMix64") (g_a0 : n0 ≤ a0) :
    MetFree l (⟨"com/example/probematch/probematch/engine/SplitMix64", "<init>", "(J)V"⟩ : MethodName) (head1 (Jvm.Cond.code (⟨"com/example/probematch/probematch/engine/SplitMix64", "<init>", "(J)V"⟩ : MethodName) prog_4_method_1_code 3 none :: ws) ({ frames := 1, cells := 0, slots := 0, locals := 12 } : Room)) (fun a U => a = #[(.ref a0), (.long q1)] ∧ Z.Warmed39 U.vm ∧ U.heap = h0) (fun _ _ _ _ _ => True) (fun _ U o U' => ∃ v L, o = .returned v ∧ Q1 Z a0 q1 h0 n0 v U'.heap L ∧ FrameEnd U o U' L ({ frames := 1, cells := 0, slots := 0, locals := 12 } : Room).cells ({ frames := 1, cells := 0, slots := 0, locals := 12 } : Room).slots) := by
  refine MetFree.of_bodySF (plainFor_of_name pn1) hisR ?_
  intro p e s m args below meth c s₁ Bd hml0 hP hK
  obtain ⟨rfl, hZ, hh⟩ := hP
  have hx := Bd.exec
  have hby := Bd.bytes
  have hml : c.maxLocals = 3 := hml0
  have hown : s.vm.findClass "com/example/probematch/probematch/engine/SplitMix64" = some m.cls := findClass_of_methodNamed Bd.named
  have hnm := (name_of_methodNamed Bd.named Bd.method).1
  have X0 : Stand p l e ({ frames := 1, cells := 0, slots := 0, locals := 12 } : Room) s m #[(.ref a0), (.long q1)] below meth c s₁ [] 0 0 := Stand.of_body Bd
  have e0 : s₁.heap = h0 := by rw [← hh, Bd.state]; rfl
  have N0 := Fr.nil n0
  show OwnEnd p e below s (fun v h L => Q1 Z a0 q1 h0 n0 v h L) ({ frames := 1, cells := 0, slots := 0, locals := 12 } : Room).cells ({ frames := 1, cells := 0, slots := 0, locals := 12 } : Room).slots (s₁.setTop (entryFrame m #[(.ref a0), (.long q1)] 3))
  rw [ef1 m a0 q1]
  generalize hW : OwnEnd p e below s (fun v h L => Q1 Z a0 q1 h0 n0 v h L) ({ frames := 1, cells := 0, slots := 0, locals := 12 } : Room).cells ({ frames := 1, cells := 0, slots := 0, locals := 12 } : Room).slots = W
  have stp : ∀ {A B : State}, (∀ t, Steps p.tables e below B t → Steps p.tables e below A t) → W B → W A := by subst hW; exact own_step
  show W (s₁.setTop (mkF m 0 #[.val (.ref a0), .val (.long q1), .second] []))
  refine stp (fun t k => XS.aloadN X0.here hx rfl (hb hby d1_0) rfl rfl k) ?_
  show W (s₁.setTop (mkF m 1 #[.val (.ref a0), .val (.long q1), .second] [(.ref a0)]))
  obtain ⟨T1, X1, e1, st1⟩ := initO X0 hx hZ hown (hw _ (List.mem_of_getElem? (i := 7) rfl)) (hw _ (List.mem_of_getElem? (i := 8) rfl)) (hw _ (List.mem_of_getElem? (i := 9) rfl)) e0 (g := (mkF m 1 #[.val (.ref a0), .val (.long q1), .second] [(.ref a0)])) rfl (by rw [hml]; rfl) rfl (hb hby d1_1) (by decide) (W := 0) (by show 2 * 0 + _ ≤ _; exact Nat.le_of_eq rfl) (by decide)
  refine stp (fun t k => st1 t k) ?_
  show W (T1.setTop (mkF m 4 #[.val (.ref a0), .val (.long q1), .second] []))
  refine stp (fun t k => XS.aloadN X1.here hx rfl (hb hby d1_4) rfl rfl k) ?_
  show W (T1.setTop (mkF m 5 #[.val (.ref a0), .val (.long q1), .second] [(.ref a0)]))
  refine stp (fun t k => XS.lloadN X1.here hx rfl (hb hby d1_5) rfl k) ?_
  show W (T1.setTop (mkF m 6 #[.val (.ref a0), .val (.long q1), .second] [(.long q1), (.ref a0)]))
  obtain ⟨T12, h12, X12, e12, W12, st12⟩ := putF X1 hx hZ hown (host := "") (Or.inl (hw _ (List.mem_of_getElem? (i := 10) rfl))) Via.refl e1 F_state_a0 E_a0 (Or.inl (hw _ (List.mem_of_getElem? (i := 11) rfl))) (hw _ (List.mem_of_getElem? (i := 2) rfl)) (ty := .long) (by decide) rfl rfl (g := (mkF m 6 #[.val (.ref a0), .val (.long q1), .second] [(.long q1), (.ref a0)])) rfl rfl (hb hby d1_6)
  have N12 := Fr.snoc X12 N0 g_a0
  have F_state_a0x := F_state_a0.same W12
  have E_a0 := E_a0.wr W12
  have K12 := (Keep.refl h0 [a0]).wr W12 (Or.inl (List.mem_of_getElem? (i := 0) rfl))
  have Z12 := Nat.le_trans Z0 (Keep.of_wr W12).1
  have F_state_a0 := F_state_a0x
  refine stp (fun t k => st12 t k) ?_
  show W (T12.setTop (mkF m 9 #[.val (.ref a0), .val (.long q1), .second] []))
  show W (T12.setTop (mkF m 9 #[.val (.ref a0), .val (.long q1), .second] []))
  rw [← hW]
  exact own_ret0 X12 hx Bd.notSynchronized Bd.returns (hb hby d1_9) (by show Q1 Z a0 q1 h0 n0 _ T12.heap _; rw [e12]; exact ⟨rfl, N12, K12, E_a0, F_state_a0⟩) (by decide) (by decide)
theorem d2_0 : decode prog_4_method_2_code 0 = .ok (.aload_n 0, 1) := by decide +kernel
theorem d2_1 : decode prog_4_method_2_code 1 = .ok (.dup, 1) := by decide +kernel
theorem d2_2 : decode prog_4_method_2_code 2 = .ok (.getfield 7, 3) := by decide +kernel
theorem d2_5 : decode prog_4_method_2_code 5 = .ok (.ldc2_w 13, 3) := by decide +kernel
theorem d2_8 : decode prog_4_method_2_code 8 = .ok (.ladd, 1) := by decide +kernel
theorem d2_9 : decode prog_4_method_2_code 9 = .ok (.putfield 7, 3) := by decide +kernel
theorem d2_12 : decode prog_4_method_2_code 12 = .ok (.aload_n 0, 1) := by decide +kernel
theorem d2_13 : decode prog_4_method_2_code 13 = .ok (.getfield 7, 3) := by decide +kernel
theorem d2_16 : decode prog_4_method_2_code 16 = .ok (.lstore_n 1, 1) := by decide +kernel
theorem d2_17 : decode prog_4_method_2_code 17 = .ok (.lload_n 1, 1) := by decide +kernel
theorem d2_18 : decode prog_4_method_2_code 18 = .ok (.lload_n 1, 1) := by decide +kernel
theorem d2_19 : decode prog_4_method_2_code 19 = .ok (.bipush 30, 2) := by decide +kernel
theorem d2_21 : decode prog_4_method_2_code 21 = .ok (.lushr, 1) := by decide +kernel
theorem d2_22 : decode prog_4_method_2_code 22 = .ok (.lxor, 1) := by decide +kernel
theorem d2_23 : decode prog_4_method_2_code 23 = .ok (.ldc2_w 15, 3) := by decide +kernel
theorem d2_26 : decode prog_4_method_2_code 26 = .ok (.lmul, 1) := by decide +kernel
theorem d2_27 : decode prog_4_method_2_code 27 = .ok (.lstore_n 1, 1) := by decide +kernel
theorem d2_28 : decode prog_4_method_2_code 28 = .ok (.lload_n 1, 1) := by decide +kernel
theorem d2_29 : decode prog_4_method_2_code 29 = .ok (.lload_n 1, 1) := by decide +kernel
theorem d2_30 : decode prog_4_method_2_code 30 = .ok (.bipush 27, 2) := by decide +kernel
theorem d2_32 : decode prog_4_method_2_code 32 = .ok (.lushr, 1) := by decide +kernel
theorem d2_33 : decode prog_4_method_2_code 33 = .ok (.lxor, 1) := by decide +kernel
theorem d2_34 : decode prog_4_method_2_code 34 = .ok (.ldc2_w 17, 3) := by decide +kernel
theorem d2_37 : decode prog_4_method_2_code 37 = .ok (.lmul, 1) := by decide +kernel
theorem d2_38 : decode prog_4_method_2_code 38 = .ok (.lstore_n 1, 1) := by decide +kernel
theorem d2_39 : decode prog_4_method_2_code 39 = .ok (.lload_n 1, 1) := by decide +kernel
theorem d2_40 : decode prog_4_method_2_code 40 = .ok (.lload_n 1, 1) := by decide +kernel
theorem d2_41 : decode prog_4_method_2_code 41 = .ok (.bipush 31, 2) := by decide +kernel
theorem d2_43 : decode prog_4_method_2_code 43 = .ok (.lushr, 1) := by decide +kernel
theorem d2_44 : decode prog_4_method_2_code 44 = .ok (.lxor, 1) := by decide +kernel
theorem d2_45 : decode prog_4_method_2_code 45 = .ok (.lreturn, 1) := by decide +kernel
theorem pn2 : plainName "com/example/probematch/probematch/engine/SplitMix64" = true := by first | (simp [plainName, overriddenIn]; done) | decide +kernel
theorem ef2 (m : MethodId) (a0 : Addr) : entryFrame m #[(.ref a0)] 3 = mkF m 0 #[.val (.ref a0), .unset, .unset] [] := by first | (simp [entryFrame, mkF, argsToLocals, Value.category]; done) | rfl
def f2 (w0 : Int64) : Int64 := ((((((w0 + (-7046029254386353131 : Int64)) ^^^ (((w0 + (-7046029254386353131 : Int64)).toUInt64 >>> ((30 : Int32) &&& 0x3f).toInt64.toUInt64).toInt64)) * (-4658895280553007687 : Int64)) ^^^ (((((w0 + (-7046029254386353131 : Int64)) ^^^ (((w0 + (-7046029254386353131 : Int64)).toUInt64 >>> ((30 : Int32) &&& 0x3f).toInt64.toUInt64).toInt64)) * (-4658895280553007687 : Int64)).toUInt64 >>> ((27 : Int32) &&& 0x3f).toInt64.toUInt64).toInt64)) * (-7723592293110705685 : Int64)) ^^^ (((((((w0 + (-7046029254386353131 : Int64)) ^^^ (((w0 + (-7046029254386353131 : Int64)).toUInt64 >>> ((30 : Int32) &&& 0x3f).toInt64.toUInt64).toInt64)) * (-4658895280553007687 : Int64)) ^^^ (((((w0 + (-7046029254386353131 : Int64)) ^^^ (((w0 + (-7046029254386353131 : Int64)).toUInt64 >>> ((30 : Int32) &&& 0x3f).toInt64.toUInt64).toInt64)) * (-4658895280553007687 : Int64)).toUInt64 >>> ((27 : Int32) &&& 0x3f).toInt64.toUInt64).toInt64)) * (-7723592293110705685 : Int64)).toUInt64 >>> ((31 : Int32) &&& 0x3f).toInt64.toUInt64).toInt64))
def Q2 (Z : State) (a0 : Addr) (w0 : Int64) (h0 : Heap) (n0 : Nat) (v : Option Value) (h : Heap) (L : List Loc) : Prop := v = some (.long (f2 w0)) ∧ Fr n0 L ∧ Keep h0 h [a0] ∧ Exa Z h a0 "com/example/probematch/probematch/engine/SplitMix64" ∧ Fld Z h a0 "com/example/probematch/probematch/engine/SplitMix64" "state" "J" (.long (w0 + (-7046029254386353131 : Int64)))
set_option maxRecDepth 65536 in
set_option maxHeartbeats 40000000 in
theorem rm2 (l : Launch) (Z : State) (aa : Array Value) (hw : ∀ d ∈ tables_1, d.before aa Z = true) (ws : List Jvm.Cond) (a0 : Addr) (w0 : Int64) (h0 : Heap) (n0 : Nat) (Z0 : n0 ≤ h0.size) (F_state_a0 : Fld Z h0 a0 "com/example/probematch/probematch/engine/SplitMix64" "state" "J" (.long w0)) (E_a0 : Exa Z h0 a0 "com/example/probematch/probematch/engine/SplitMix64") (g_a0 : n0 ≤ a0) :
    MetFree l (⟨"com/example/probematch/probematch/engine/SplitMix64", "nextLong", "()J"⟩ : MethodName) (head1 (Jvm.Cond.code (⟨"com/example/probematch/probematch/engine/SplitMix64", "nextLong", "()J"⟩ : MethodName) prog_4_method_2_code 3 (some .long) :: ws) ({ frames := 0, cells := 0, slots := 0, locals := 0 } : Room)) (fun a U => a = #[(.ref a0)] ∧ Z.Warmed39 U.vm ∧ U.heap = h0) (fun _ _ _ _ _ => True) (fun _ U o U' => ∃ v L, o = .returned v ∧ Q2 Z a0 w0 h0 n0 v U'.heap L ∧ FrameEnd U o U' L ({ frames := 0, cells := 0, slots := 0, locals := 0 } : Room).cells ({ frames := 0, cells := 0, slots := 0, locals := 0 } : Room).slots) := by
  refine MetFree.of_bodySF (plainFor_of_name pn2) hisR ?_
  intro p e s m args below meth c s₁ Bd hml0 hP hK
  obtain ⟨rfl, hZ, hh⟩ := hP
  have hx := Bd.exec
  have hby := Bd.bytes
  have hml : c.maxLocals = 3 := hml0
  have hown : s.vm.findClass "com/example/probematch/probematch/engine/SplitMix64" = some m.cls := findClass_of_methodNamed Bd.named
  have hnm := (name_of_methodNamed Bd.named Bd.method).1
  have X0 : Stand p l e ({ frames := 0, cells := 0, slots := 0, locals := 0 } : Room) s m #[(.ref a0)] below meth c s₁ [] 0 0 := Stand.of_body Bd
  have e0 : s₁.heap = h0 := by rw [← hh, Bd.state]; rfl
  have N0 := Fr.nil n0
  show OwnEnd p e below s (fun v h L => Q2 Z a0 w0 h0 n0 v h L) ({ frames := 0, cells := 0, slots := 0, locals := 0 } : Room).cells ({ frames := 0, cells := 0, slots := 0, locals := 0 } : Room).slots (s₁.setTop (entryFrame m #[(.ref a0)] 3))
  rw [ef2 m a0]
  generalize hW : OwnEnd p e below s (fun v h L => Q2 Z a0 w0 h0 n0 v h L) ({ frames := 0, cells := 0, slots := 0, locals := 0 } : Room).cells ({ frames := 0, cells := 0, slots := 0, locals := 0 } : Room).slots = W
  have stp : ∀ {A B : State}, (∀ t, Steps p.tables e below B t → Steps p.tables e below A t) → W B → W A := by subst hW; exact own_step
  show W (s₁.setTop (mkF m 0 #[.val (.ref a0), .unset, .unset] []))
  refine stp (fun t k => XS.aloadN X0.here hx rfl (hb hby d2_0) rfl rfl k) ?_
  show W (s₁.setTop (mkF m 1 #[.val (.ref a0), .unset, .unset] [(.ref a0)]))
  refine stp (fun t k => XS.dup X0.here hx rfl (hb hby d2_1) rfl rfl k) ?_
  show W (s₁.setTop (mkF m 2 #[.val (.ref a0), .unset, .unset] [(.ref a0), (.ref a0)]))
  obtain ⟨T21, X21, e21, st21⟩ := getF X0 hx hZ hown (host := "") (Or.inl (hw _ (List.mem_of_getElem? (i := 10) rfl))) Via.refl e0 F_state_a0 (g := (mkF m 2 #[.val (.ref a0), .unset, .unset] [(.ref a0), (.ref a0)])) rfl rfl (hb hby d2_2)
  refine stp (fun t k => st21 t k) ?_
  show W (T21.setTop (mkF m 5 #[.val (.ref a0), .unset, .unset] [(.long w0), (.ref a0)]))
  refine stp (fun t k => X21.ldc2Long hx hown (mvT hZ (hw _ (List.mem_of_getElem? (i := 17) rfl))) (g := (mkF m 5 #[.val (.ref a0), .unset, .unset] [(.long w0), (.ref a0)])) rfl (hb hby d2_5) _ k) ?_
  show W (T21.setTop (mkF m 8 #[.val (.ref a0), .unset, .unset] [(.long (-7046029254386353131 : Int64)), (.long w0), (.ref a0)]))
  refine stp (fun t k => XS.ladd X21.here hx rfl (hb hby d2_8) rfl k) ?_
  show W (T21.setTop (mkF m 9 #[.val (.ref a0), .unset, .unset] [(.long (w0 + (-7046029254386353131 : Int64))), (.ref a0)]))
  obtain ⟨T22, h22, X22, e22, W22, st22⟩ := putF X21 hx hZ hown (host := "") (Or.inl (hw _ (List.mem_of_getElem? (i := 10) rfl))) Via.refl e21 F_state_a0 E_a0 (Or.inl (hw _ (List.mem_of_getElem? (i := 11) rfl))) (hw _ (List.mem_of_getElem? (i := 2) rfl)) (ty := .long) (by decide) rfl rfl (g := (mkF m 9 #[.val (.ref a0), .unset, .unset] [(.long (w0 + (-7046029254386353131 : Int64))), (.ref a0)])) rfl rfl (hb hby d2_9)
  have N22 := Fr.snoc X22 N0 g_a0
  have F_state_a0x := F_state_a0.same W22
  have E_a0 := E_a0.wr W22
  have K22 := (Keep.refl h0 [a0]).wr W22 (Or.inl (List.mem_of_getElem? (i := 0) rfl))
  have Z22 := Nat.le_trans Z0 (Keep.of_wr W22).1
  have F_state_a0 := F_state_a0x
  refine stp (fun t k => st22 t k) ?_
  show W (T22.setTop (mkF m 12 #[.val (.ref a0), .unset, .unset] []))
  refine stp (fun t k => XS.aloadN X22.here hx rfl (hb hby d2_12) rfl rfl k) ?_
  show W (T22.setTop (mkF m 13 #[.val (.ref a0), .unset, .unset] [(.ref a0)]))
  obtain ⟨T23, X23, e23, st23⟩ := getF X22 hx hZ hown (host := "") (Or.inl (hw _ (List.mem_of_getElem? (i := 10) rfl))) Via.refl e22 F_state_a0 (g := (mkF m 13 #[.val (.ref a0), .unset, .unset] [(.ref a0)])) rfl rfl (hb hby d2_13)
  refine stp (fun t k => st23 t k) ?_
  show W (T23.setTop (mkF m 16 #[.val (.ref a0), .unset, .unset] [(.long (w0 + (-7046029254386353131 : Int64)))]))
  refine stp (fun t k => XS.lstoreN X23.here hx rfl (hb hby d2_16) rfl (l' := #[.val (.ref a0), .val (.long (w0 + (-7046029254386353131 : Int64))), .second]) rfl k) ?_
  show W (T23.setTop (mkF m 17 #[.val (.ref a0), .val (.long (w0 + (-7046029254386353131 : Int64))), .second] []))
  refine stp (fun t k => XS.lloadN X23.here hx rfl (hb hby d2_17) rfl k) ?_
  show W (T23.setTop (mkF m 18 #[.val (.ref a0), .val (.long (w0 + (-7046029254386353131 : Int64))), .second] [(.long (w0 + (-7046029254386353131 : Int64)))]))
  refine stp (fun t k => XS.lloadN X23.here hx rfl (hb hby d2_18) rfl k) ?_
  show W (T23.setTop (mkF m 19 #[.val (.ref a0), .val (.long (w0 + (-7046029254386353131 : Int64))), .second] [(.long (w0 + (-7046029254386353131 : Int64))), (.long (w0 + (-7046029254386353131 : Int64)))]))
  refine stp (fun t k => XS.bipush X23.here hx rfl (hb hby d2_19) k) ?_
  show W (T23.setTop (mkF m 21 #[.val (.ref a0), .val (.long (w0 + (-7046029254386353131 : Int64))), .second] [(.int (30 : Int32)), (.long (w0 + (-7046029254386353131 : Int64))), (.long (w0 + (-7046029254386353131 : Int64)))]))
  refine stp (fun t k => XS.lushr X23.here hx rfl (hb hby d2_21) rfl k) ?_
  show W (T23.setTop (mkF m 22 #[.val (.ref a0), .val (.long (w0 + (-7046029254386353131 : Int64))), .second] [(.long (((w0 + (-7046029254386353131 : Int64)).toUInt64 >>> ((30 : Int32) &&& 0x3f).toInt64.toUInt64).toInt64)), (.long (w0 + (-7046029254386353131 : Int64)))]))
  refine stp (fun t k => XS.lxor X23.here hx rfl (hb hby d2_22) rfl k) ?_
  show W (T23.setTop (mkF m 23 #[.val (.ref a0), .val (.long (w0 + (-7046029254386353131 : Int64))), .second] [(.long ((w0 + (-7046029254386353131 : Int64)) ^^^ (((w0 + (-7046029254386353131 : Int64)).toUInt64 >>> ((30 : Int32) &&& 0x3f).toInt64.toUInt64).toInt64)))]))
  refine stp (fun t k => X23.ldc2Long hx hown (mvT hZ (hw _ (List.mem_of_getElem? (i := 18) rfl))) (g := (mkF m 23 #[.val (.ref a0), .val (.long (w0 + (-7046029254386353131 : Int64))), .second] [(.long ((w0 + (-7046029254386353131 : Int64)) ^^^ (((w0 + (-7046029254386353131 : Int64)).toUInt64 >>> ((30 : Int32) &&& 0x3f).toInt64.toUInt64).toInt64)))])) rfl (hb hby d2_23) _ k) ?_
  show W (T23.setTop (mkF m 26 #[.val (.ref a0), .val (.long (w0 + (-7046029254386353131 : Int64))), .second] [(.long (-4658895280553007687 : Int64)), (.long ((w0 + (-7046029254386353131 : Int64)) ^^^ (((w0 + (-7046029254386353131 : Int64)).toUInt64 >>> ((30 : Int32) &&& 0x3f).toInt64.toUInt64).toInt64)))]))
  refine stp (fun t k => XS.lmul X23.here hx rfl (hb hby d2_26) rfl k) ?_
  show W (T23.setTop (mkF m 27 #[.val (.ref a0), .val (.long (w0 + (-7046029254386353131 : Int64))), .second] [(.long (((w0 + (-7046029254386353131 : Int64)) ^^^ (((w0 + (-7046029254386353131 : Int64)).toUInt64 >>> ((30 : Int32) &&& 0x3f).toInt64.toUInt64).toInt64)) * (-4658895280553007687 : Int64)))]))
  refine stp (fun t k => XS.lstoreN X23.here hx rfl (hb hby d2_27) rfl (l' := #[.val (.ref a0), .val (.long (((w0 + (-7046029254386353131 : Int64)) ^^^ (((w0 + (-7046029254386353131 : Int64)).toUInt64 >>> ((30 : Int32) &&& 0x3f).toInt64.toUInt64).toInt64)) * (-4658895280553007687 : Int64))), .second]) rfl k) ?_
  show W (T23.setTop (mkF m 28 #[.val (.ref a0), .val (.long (((w0 + (-7046029254386353131 : Int64)) ^^^ (((w0 + (-7046029254386353131 : Int64)).toUInt64 >>> ((30 : Int32) &&& 0x3f).toInt64.toUInt64).toInt64)) * (-4658895280553007687 : Int64))), .second] []))
  generalize hw2_4 : (((w0 + (-7046029254386353131 : Int64)) ^^^ (((w0 + (-7046029254386353131 : Int64)).toUInt64 >>> ((30 : Int32) &&& 0x3f).toInt64.toUInt64).toInt64)) * (-4658895280553007687 : Int64)) = w2_4
  show W (T23.setTop (mkF m 28 #[.val (.ref a0), .val (.long w2_4), .second] []))
  refine stp (fun t k => XS.lloadN X23.here hx rfl (hb hby d2_28) rfl k) ?_
  show W (T23.setTop (mkF m 29 #[.val (.ref a0), .val (.long w2_4), .second] [(.long w2_4)]))
  refine stp (fun t k => XS.lloadN X23.here hx rfl (hb hby d2_29) rfl k) ?_
  show W (T23.setTop (mkF m 30 #[.val (.ref a0), .val (.long w2_4), .second] [(.long w2_4), (.long w2_4)]))
  refine stp (fun t k => XS.bipush X23.here hx rfl (hb hby d2_30) k) ?_
  show W (T23.setTop (mkF m 32 #[.val (.ref a0), .val (.long w2_4), .second] [(.int (27 : Int32)), (.long w2_4), (.long w2_4)]))
  refine stp (fun t k => XS.lushr X23.here hx rfl (hb hby d2_32) rfl k) ?_
  show W (T23.setTop (mkF m 33 #[.val (.ref a0), .val (.long w2_4), .second] [(.long ((w2_4.toUInt64 >>> ((27 : Int32) &&& 0x3f).toInt64.toUInt64).toInt64)), (.long w2_4)]))
  refine stp (fun t k => XS.lxor X23.here hx rfl (hb hby d2_33) rfl k) ?_
  show W (T23.setTop (mkF m 34 #[.val (.ref a0), .val (.long w2_4), .second] [(.long (w2_4 ^^^ ((w2_4.toUInt64 >>> ((27 : Int32) &&& 0x3f).toInt64.toUInt64).toInt64)))]))
  refine stp (fun t k => X23.ldc2Long hx hown (mvT hZ (hw _ (List.mem_of_getElem? (i := 19) rfl))) (g := (mkF m 34 #[.val (.ref a0), .val (.long w2_4), .second] [(.long (w2_4 ^^^ ((w2_4.toUInt64 >>> ((27 : Int32) &&& 0x3f).toInt64.toUInt64).toInt64)))])) rfl (hb hby d2_34) _ k) ?_
  show W (T23.setTop (mkF m 37 #[.val (.ref a0), .val (.long w2_4), .second] [(.long (-7723592293110705685 : Int64)), (.long (w2_4 ^^^ ((w2_4.toUInt64 >>> ((27 : Int32) &&& 0x3f).toInt64.toUInt64).toInt64)))]))
  refine stp (fun t k => XS.lmul X23.here hx rfl (hb hby d2_37) rfl k) ?_
  show W (T23.setTop (mkF m 38 #[.val (.ref a0), .val (.long w2_4), .second] [(.long ((w2_4 ^^^ ((w2_4.toUInt64 >>> ((27 : Int32) &&& 0x3f).toInt64.toUInt64).toInt64)) * (-7723592293110705685 : Int64)))]))
  refine stp (fun t k => XS.lstoreN X23.here hx rfl (hb hby d2_38) rfl (l' := #[.val (.ref a0), .val (.long ((w2_4 ^^^ ((w2_4.toUInt64 >>> ((27 : Int32) &&& 0x3f).toInt64.toUInt64).toInt64)) * (-7723592293110705685 : Int64))), .second]) rfl k) ?_
  show W (T23.setTop (mkF m 39 #[.val (.ref a0), .val (.long ((w2_4 ^^^ ((w2_4.toUInt64 >>> ((27 : Int32) &&& 0x3f).toInt64.toUInt64).toInt64)) * (-7723592293110705685 : Int64))), .second] []))
  generalize hw2_5 : ((w2_4 ^^^ ((w2_4.toUInt64 >>> ((27 : Int32) &&& 0x3f).toInt64.toUInt64).toInt64)) * (-7723592293110705685 : Int64)) = w2_5
  show W (T23.setTop (mkF m 39 #[.val (.ref a0), .val (.long w2_5), .second] []))
  refine stp (fun t k => XS.lloadN X23.here hx rfl (hb hby d2_39) rfl k) ?_
  show W (T23.setTop (mkF m 40 #[.val (.ref a0), .val (.long w2_5), .second] [(.long w2_5)]))
  refine stp (fun t k => XS.lloadN X23.here hx rfl (hb hby d2_40) rfl k) ?_
  show W (T23.setTop (mkF m 41 #[.val (.ref a0), .val (.long w2_5), .second] [(.long w2_5), (.long w2_5)]))
  refine stp (fun t k => XS.bipush X23.here hx rfl (hb hby d2_41) k) ?_
  show W (T23.setTop (mkF m 43 #[.val (.ref a0), .val (.long w2_5), .second] [(.int (31 : Int32)), (.long w2_5), (.long w2_5)]))
  refine stp (fun t k => XS.lushr X23.here hx rfl (hb hby d2_43) rfl k) ?_
  show W (T23.setTop (mkF m 44 #[.val (.ref a0), .val (.long w2_5), .second] [(.long ((w2_5.toUInt64 >>> ((31 : Int32) &&& 0x3f).toInt64.toUInt64).toInt64)), (.long w2_5)]))
  refine stp (fun t k => XS.lxor X23.here hx rfl (hb hby d2_44) rfl k) ?_
  show W (T23.setTop (mkF m 45 #[.val (.ref a0), .val (.long w2_5), .second] [(.long (w2_5 ^^^ ((w2_5.toUInt64 >>> ((31 : Int32) &&& 0x3f).toInt64.toUInt64).toInt64)))]))
  show W (T23.setTop (mkF m 45 #[.val (.ref a0), .val (.long w2_5), .second] [(.long (w2_5 ^^^ ((w2_5.toUInt64 >>> ((31 : Int32) &&& 0x3f).toInt64.toUInt64).toInt64)))]))
  rw [← hW]
  exact own_retJ X23 hx Bd.notSynchronized Bd.returns (hb hby d2_45) (by show Q2 Z a0 w0 h0 n0 _ T23.heap _; rw [e23]; exact ⟨(by subst hw2_4; subst hw2_5; rw [f2]), N22, K22, E_a0, F_state_a0⟩) (by decide) (by decide)
theorem own_xs {k : Nat} (x : BitVec 64) (h : 64 ≤ k + (k + k)) : (x ^^^ x >>> k) ^^^ (x ^^^ x >>> k) >>> k ^^^ (x ^^^ x >>> k) >>> (k + k) = x := by
  apply BitVec.eq_of_getLsbD_eq
  intro i hi
  have e1 : x.getLsbD (k + (k + k + i)) = false := BitVec.getLsbD_of_ge _ _ (by omega)
  have e2 : k + (k + i) = k + k + i := by omega
  simp only [BitVec.getLsbD_xor, BitVec.getLsbD_ushiftRight, e1, e2]
  generalize x.getLsbD i = a
  generalize x.getLsbD (k + i) = b
  generalize x.getLsbD (k + k + i) = c
  revert a b c; decide
theorem own_sh (x : Int64) (q : Int32) (k : Nat) (hq : (q &&& 0x3f).toInt64.toUInt64.toNat % 64 = k) : ((x.toUInt64 >>> (q &&& 0x3f).toInt64.toUInt64).toInt64).toBitVec = x.toBitVec >>> k := by
  show (x.toUInt64 >>> (q &&& 0x3f).toInt64.toUInt64).toBitVec = _
  rw [UInt64.toBitVec_shiftRight]
  show x.toBitVec >>> ((q &&& 0x3f).toInt64.toUInt64.toBitVec % 64#64) = _
  rw [BitVec.ushiftRight_eq', BitVec.toNat_umod]
  congr 1
def own_mx (b : BitVec 64) : BitVec 64 :=
  let c := (b ^^^ b >>> 30) * Int64.toBitVec (-4658895280553007687)
  let d := (c ^^^ c >>> 27) * Int64.toBitVec (-7723592293110705685)
  d ^^^ d >>> 31
theorem own_f2 (w : Int64) : (f2 w).toBitVec = own_mx (w + (-7046029254386353131 : Int64)).toBitVec := by
  simp only [f2, own_mx, Int64.toBitVec_xor, Int64.toBitVec_mul, own_sh _ 30 30 (by decide), own_sh _ 27 27 (by decide), own_sh _ 31 31 (by decide)]
theorem own_xinj {k : Nat} (h : 64 ≤ k + (k + k)) {a b : BitVec 64} (q : a ^^^ a >>> k = b ^^^ b >>> k) : a = b := by
  rw [← own_xs a h, q, own_xs b h]
theorem own_minj (c d : BitVec 64) (h : c * d = 1#64) {a b : BitVec 64} (q : a * c = b * c) : a = b := by
  have e : a * c * d = b * c * d := by rw [q]
  rwa [BitVec.mul_assoc, BitVec.mul_assoc, h, BitVec.mul_one, BitVec.mul_one] at e
theorem own_mxinj {a b : BitVec 64} (q : own_mx a = own_mx b) : a = b := by
  have q1 := own_xinj (k := 31) (by decide) q
  have q2 := own_minj _ (Int64.toBitVec 3573116690164977347) (by decide) q1
  have q3 := own_xinj (k := 27) (by decide) q2
  have q4 := own_minj _ (Int64.toBitVec (-7575587736534282103)) (by decide) q3
  exact own_xinj (k := 30) (by decide) q4
theorem own_f2inj {a b : Int64} (q : f2 a = f2 b) : a = b := by
  have e : (f2 a).toBitVec = (f2 b).toBitVec := by rw [q]
  rw [own_f2, own_f2] at e
  have e2 := own_mxinj e
  rw [Int64.toBitVec_add, Int64.toBitVec_add] at e2
  exact Int64.toBitVec_inj.mp ((BitVec.add_left_inj _).mp e2)
theorem own_inj (a b : Int64) : (if (f2 a) = (f2 b) then (1 : Int32) else (0 : Int32)) = (if a = b then (1 : Int32) else (0 : Int32)) := by
  by_cases h : a = b
  · subst h; rw [if_pos rfl, if_pos rfl]
  · rw [if_neg h, if_neg fun q => h (own_f2inj q)]
theorem pn0 : plainName "com/example/probematch/probematch/engine/SplitMix64NextLongPinLaw" = true := by first | (simp [plainName, overriddenIn]; done) | decide +kernel
theorem pd0_0 : parseMethodDescriptor "(J)V" = some ⟨[.long], none⟩ := by decide +kernel
theorem pd0_1 : parseMethodDescriptor "()J" = some ⟨[], some .long⟩ := by decide +kernel
theorem ef0 (m : MethodId) (q0 : Int64) (q1 : Int64) : entryFrame m #[(.long q0), (.long q1)] maxLocals = mkF m 0 #[.val (.long q0), .second, .val (.long q1), .second, .unset, .unset, .unset, .unset, .unset, .unset, .unset, .unset, .unset, .unset, .unset, .unset, .unset, .unset, .unset, .unset, .unset, .unset, .unset, .unset, .unset] [] := by first | (simp [entryFrame, mkF, argsToLocals, Value.category, maxLocals]; done) | rfl
theorem own_0_95_15 (q0 : Int64) (q1 : Int64)   : (f2 (q0 + (-7046029254386353131 : Int64))) = (f2 (q0 + (-7046029254386353131 : Int64))) := rfl
theorem own_0_129_22 (q0 : Int64) (q1 : Int64)   : (if (f2 q0) = (f2 q1) then (1 : Int32) else (0 : Int32)) = (if q0 = q1 then (1 : Int32) else (0 : Int32)) := own_inj q0 q1
theorem own_0_145_23 (q0 : Int64) (q1 : Int64)   : (f2 (0 : Int64)) = (-2152535657050944081 : Int64) := by decide +kernel
theorem own_0_154_24 (q0 : Int64) (q1 : Int64)   : (f2 ((0 : Int64) + (-7046029254386353131 : Int64))) = (7960286522194355700 : Int64) := by decide +kernel
theorem own_0_166_25 (q0 : Int64) (q1 : Int64)   : ¬ ((1 : Int32) = (0 : Int32)) := by decide
theorem own_0_171_26 (q0 : Int64) (q1 : Int64)   : ¬ ((1 : Int32) = (0 : Int32)) := by decide
theorem own_0_176_27 (q0 : Int64) (q1 : Int64)   : ¬ ((1 : Int32) = (0 : Int32)) := by decide
def Q0 (Z : State) (q0 : Int64) (q1 : Int64) (h0 : Heap) (n0 : Nat) (v : Option Value) (h : Heap) (L : List Loc) : Prop := v = some (.int (1 : Int32)) ∧ Fr n0 L
set_option maxRecDepth 65536 in
set_option maxHeartbeats 40000000 in
theorem rm0 (l : Launch) (Z : State) (aa : Array Value) (hw : ∀ d ∈ tables_1, d.before aa Z = true) (ws : List Jvm.Cond) (q0 : Int64) (q1 : Int64) (h0 : Heap) (n0 : Nat) (Z0 : n0 ≤ h0.size) :
    MetFree l x (head1 (Jvm.Cond.code x code maxLocals ret :: ws) room_1) (fun a U => a = #[(.long q0), (.long q1)] ∧ Z.Warmed39 U.vm ∧ U.heap = h0) (fun _ _ _ _ _ => True) (fun _ U o U' => ∃ v L, o = .returned v ∧ Q0 Z q0 q1 h0 n0 v U'.heap L ∧ FrameEnd U o U' L room_1.cells room_1.slots) := by
  refine MetFree.of_bodySF (plainFor_of_name pn0) hisR ?_
  intro p e s m args below meth c s₁ Bd hml0 hP hK
  obtain ⟨rfl, hZ, hh⟩ := hP
  have hx := Bd.exec
  have hby := Bd.bytes
  have hml : c.maxLocals = 25 := hml0
  have hown : s.vm.findClass "com/example/probematch/probematch/engine/SplitMix64NextLongPinLaw" = some m.cls := findClass_of_methodNamed Bd.named
  have hnm := (name_of_methodNamed Bd.named Bd.method).1
  have X0 : Stand p l e room_1 s m #[(.long q0), (.long q1)] below meth c s₁ [] 0 0 := Stand.of_body Bd
  have e0 : s₁.heap = h0 := by rw [← hh, Bd.state]; rfl
  have N0 := Fr.nil n0
  show OwnEnd p e below s (fun v h L => Q0 Z q0 q1 h0 n0 v h L) room_1.cells room_1.slots (s₁.setTop (entryFrame m #[(.long q0), (.long q1)] maxLocals))
  rw [ef0 m q0 q1]
  generalize hW : OwnEnd p e below s (fun v h L => Q0 Z q0 q1 h0 n0 v h L) room_1.cells room_1.slots = W
  have stp : ∀ {A B : State}, (∀ t, Steps p.tables e below B t → Steps p.tables e below A t) → W B → W A := by subst hW; exact own_step
  show W (s₁.setTop (mkF m 0 #[.val (.long q0), .second, .val (.long q1), .second, .unset, .unset, .unset, .unset, .unset, .unset, .unset, .unset, .unset, .unset, .unset, .unset, .unset, .unset, .unset, .unset, .unset, .unset, .unset, .unset, .unset] []))
  refine stp (fun t k => X0.ldc2Long hx hown (mvT hZ (hw _ (List.mem_of_getElem? (i := 0) rfl))) (g := (mkF m 0 #[.val (.long q0), .second, .val (.long q1), .second, .unset, .unset, .unset, .unset, .unset, .unset, .unset, .unset, .unset, .unset, .unset, .unset, .unset, .unset, .unset, .unset, .unset, .unset, .unset, .unset, .unset] [])) rfl (hb hby at_0) _ k) ?_
  show W (s₁.setTop (mkF m 3 #[.val (.long q0), .second, .val (.long q1), .second, .unset, .unset, .unset, .unset, .unset, .unset, .unset, .unset, .unset, .unset, .unset, .unset, .unset, .unset, .unset, .unset, .unset, .unset, .unset, .unset, .unset] [(.long (-7046029254386353131 : Int64))]))
  refine stp (fun t k => XS.lstore X0.here hx rfl (hb hby at_3) rfl (l' := #[.val (.long q0), .second, .val (.long q1), .second, .val (.long (-7046029254386353131 : Int64)), .second, .unset, .unset, .unset, .unset, .unset, .unset, .unset, .unset, .unset, .unset, .unset, .unset, .unset, .unset, .unset, .unset, .unset, .unset, .unset]) rfl k) ?_
  show W (s₁.setTop (mkF m 5 #[.val (.long q0), .second, .val (.long q1), .second, .val (.long (-7046029254386353131 : Int64)), .second, .unset, .unset, .unset, .unset, .unset, .unset, .unset, .unset, .unset, .unset, .unset, .unset, .unset, .unset, .unset, .unset, .unset, .unset, .unset] []))
  obtain ⟨T01, h01, X01, e01, E01, A01, D01, -, st01⟩ := newO X0 hx hZ hown (hw _ (List.mem_of_getElem? (i := 1) rfl)) (hw _ (List.mem_of_getElem? (i := 2) rfl)) (hw _ (List.mem_of_getElem? (i := 3) rfl)) e0 (g := (mkF m 5 #[.val (.long q0), .second, .val (.long q1), .second, .val (.long (-7046029254386353131 : Int64)), .second, .unset, .unset, .unset, .unset, .unset, .unset, .unset, .unset, .unset, .unset, .unset, .unset, .unset, .unset, .unset, .unset, .unset, .unset, .unset] [])) rfl (hb hby at_5) (by decide) (by decide)
  obtain ⟨b01, gq01⟩ : ∃ z, z = h0.size := ⟨_, rfl⟩
  rw [← gq01] at A01 D01 st01
  have g_b01 : n0 ≤ b01 := Nat.le_trans Z0 (Nat.le_of_eq gq01.symm)
  have sz_b01 : h0.size ≤ b01 := Nat.le_trans (Keep.refl h0 []).1 (Nat.le_of_eq gq01.symm)
  have K01 := (Keep.refl h0 []).ext E01
  have Z01 := Nat.le_trans Z0 E01.1
  have E_b01 := A01
  have F_state_b01 : Fld Z h01 b01 "com/example/probematch/probematch/engine/SplitMix64" "state" "J" (.long (0 : Int64)) := D01 (Or.inl (hw _ (List.mem_of_getElem? (i := 11) rfl))) (ty := .long) (by decide)
  refine stp (fun t k => st01 t k) ?_
  show W (T01.setTop (mkF m 8 #[.val (.long q0), .second, .val (.long q1), .second, .val (.long (-7046029254386353131 : Int64)), .second, .unset, .unset, .unset, .unset, .unset, .unset, .unset, .unset, .unset, .unset, .unset, .unset, .unset, .unset, .unset, .unset, .unset, .unset, .unset] [(.ref b01)]))
  refine stp (fun t k => XS.dup X01.here hx rfl (hb hby at_8) rfl rfl k) ?_
  show W (T01.setTop (mkF m 9 #[.val (.long q0), .second, .val (.long q1), .second, .val (.long (-7046029254386353131 : Int64)), .second, .unset, .unset, .unset, .unset, .unset, .unset, .unset, .unset, .unset, .unset, .unset, .unset, .unset, .unset, .unset, .unset, .unset, .unset, .unset] [(.ref b01), (.ref b01)]))
  refine stp (fun t k => XS.lloadN X01.here hx rfl (hb hby at_9) rfl k) ?_
  show W (T01.setTop (mkF m 10 #[.val (.long q0), .second, .val (.long q1), .second, .val (.long (-7046029254386353131 : Int64)), .second, .unset, .unset, .unset, .unset, .unset, .unset, .unset, .unset, .unset, .unset, .unset, .unset, .unset, .unset, .unset, .unset, .unset, .unset, .unset] [(.long q0), (.ref b01), (.ref b01)]))
  obtain ⟨_, _, ⟨T0c2, L0c2, k0c2, n0c2⟩, -, X0c2, ⟨Lc0c2, hQ0c2, l0c2, y0c2, z0c2⟩, st0c2⟩ := X01.specialBack hx (y := (⟨"com/example/probematch/probematch/engine/SplitMix64", "<init>", "(J)V"⟩ : MethodName)) rfl hown (mvT hZ (hw _ (List.mem_of_getElem? (i := 4) rfl))) (mvT hZ (hw _ (List.mem_of_getElem? (i := 5) rfl))) (mvT hZ (hw _ (List.mem_of_getElem? (i := 6) rfl))) (by decide) (backOf (W := 1) (rm1 l Z aa hw [] b01 q0  h01 n0 Z01 F_state_b01 E_b01 g_b01) hZ (hw _ (List.mem_of_getElem? (i := 6) rfl)) (hw _ (List.mem_of_getElem? (i := 3) rfl)) (by decide) (by decide)) (g := (mkF m 10 #[.val (.long q0), .second, .val (.long q1), .second, .val (.long (-7046029254386353131 : Int64)), .second, .unset, .unset, .unset, .unset, .unset, .unset, .unset, .unset, .unset, .unset, .unset, .unset, .unset, .unset, .unset, .unset, .unset, .unset, .unset] [(.long q0), (.ref b01), (.ref b01)])) rfl (by rw [hml]; rfl) (Steps.refl _) (a := b01) (argsL := [(.long q0)]) (rest := [(.ref b01)]) (lenOf pd0_0 rfl) rfl (by show 2 * 0 + _ ≤ _; exact Nat.le_of_eq rfl) (hb hby at_10) (fun _ _ => ⟨rfl, e01, (by decide : 1 + 0 ≤ _), (by decide : 1 + 0 ≤ _)⟩)
  dsimp only [Pt.U, Pt.locs, Pt.cells, Pt.slots] at X0c2 l0c2 y0c2 z0c2 st0c2 hQ0c2
  subst l0c2 y0c2 z0c2
  obtain ⟨rfl, N0c2q, Kq0c2, g0c2E, g0c2F⟩ := hQ0c2
  have N0c2 := Fr.app N0 N0c2q
  obtain ⟨h0c2, e0c2⟩ : ∃ h, T0c2.heap = h := ⟨_, rfl⟩
  rw [e0c2] at Kq0c2 g0c2E g0c2F
  have E_b01 := E_b01.keep Kq0c2
  have KK0c2 := Keep.trans K01 Kq0c2 (allS (Or.inr sz_b01) all0)
  have Z0c2 := Nat.le_trans Z01 Kq0c2.1
  have E_b01 := g0c2E
  have F_state_b01 := g0c2F
  refine stp (fun t k => st0c2.trans k) ?_
  show W (T0c2.setTop (mkF m 13 #[.val (.long q0), .second, .val (.long q1), .second, .val (.long (-7046029254386353131 : Int64)), .second, .unset, .unset, .unset, .unset, .unset, .unset, .unset, .unset, .unset, .unset, .unset, .unset, .unset, .unset, .unset, .unset, .unset, .unset, .unset] [(.ref b01)]))
  refine stp (fun t k => XS.astore X0c2.here hx rfl (hb hby at_13) rfl rfl (l' := #[.val (.long q0), .second, .val (.long q1), .second, .val (.long (-7046029254386353131 : Int64)), .second, .val (.ref b01), .unset, .unset, .unset, .unset, .unset, .unset, .unset, .unset, .unset, .unset, .unset, .unset, .unset, .unset, .unset, .unset, .unset, .unset]) rfl k) ?_
  show W (T0c2.setTop (mkF m 15 #[.val (.long q0), .second, .val (.long q1), .second, .val (.long (-7046029254386353131 : Int64)), .second, .val (.ref b01), .unset, .unset, .unset, .unset, .unset, .unset, .unset, .unset, .unset, .unset, .unset, .unset, .unset, .unset, .unset, .unset, .unset, .unset] []))
  refine stp (fun t k => XS.aload X0c2.here hx rfl (hb hby at_15) rfl rfl k) ?_
  show W (T0c2.setTop (mkF m 17 #[.val (.long q0), .second, .val (.long q1), .second, .val (.long (-7046029254386353131 : Int64)), .second, .val (.ref b01), .unset, .unset, .unset, .unset, .unset, .unset, .unset, .unset, .unset, .unset, .unset, .unset, .unset, .unset, .unset, .unset, .unset, .unset] [(.ref b01)]))
  obtain ⟨cq0c3, kq0c3, q0c3a, q0c3b, q0c3c⟩ := isOf hZ e0c2 E_b01
  obtain ⟨_, _, ⟨T0c3, L0c3, k0c3, n0c3⟩, -, X0c3, ⟨Lc0c3, hQ0c3, l0c3, y0c3, z0c3⟩, st0c3⟩ := X0c2.virtualBack hx (y := (⟨"com/example/probematch/probematch/engine/SplitMix64", "nextLong", "()J"⟩ : MethodName)) (z := (⟨"com/example/probematch/probematch/engine/SplitMix64", "nextLong", "()J"⟩ : MethodName)) hown (mvT hZ (hw _ (List.mem_of_getElem? (i := 12) rfl))) (mvT hZ (hw _ (List.mem_of_getElem? (i := 13) rfl))) (notFace_of_selects (args := #[]) (mvT hZ (hw _ (List.mem_of_getElem? (i := 15) rfl)))) (mvT hZ (hw _ (List.mem_of_getElem? (i := 15) rfl))) (mvT hZ (hw _ (List.mem_of_getElem? (i := 14) rfl))) (by decide) (backOf (W := 0) (rm2 l Z aa hw [] b01 q0 h0c2 n0 Z0c2 F_state_b01 E_b01 g_b01) hZ (hw _ (List.mem_of_getElem? (i := 16) rfl)) (hw _ (List.mem_of_getElem? (i := 3) rfl)) (by decide) (by decide)) q0c3a q0c3c (g := (mkF m 17 #[.val (.long q0), .second, .val (.long q1), .second, .val (.long (-7046029254386353131 : Int64)), .second, .val (.ref b01), .unset, .unset, .unset, .unset, .unset, .unset, .unset, .unset, .unset, .unset, .unset, .unset, .unset, .unset, .unset, .unset, .unset, .unset] [(.ref b01)])) rfl (by rw [hml]; rfl) (Steps.refl _) (argsL := []) (rest := []) (lenOf pd0_1 rfl) rfl (by show 2 * 0 + _ ≤ _; exact Nat.le_of_eq rfl) (hb hby at_17) (fun _ _ => ⟨rfl, e0c2, (by decide : 1 + 0 ≤ _), (by decide : 1 + 0 ≤ _)⟩)
  dsimp only [Pt.U, Pt.locs, Pt.cells, Pt.slots] at X0c3 l0c3 y0c3 z0c3 st0c3 hQ0c3
  subst l0c3 y0c3 z0c3
  obtain ⟨rfl, N0c3q, Kq0c3, g0c3E, g0c3F⟩ := hQ0c3
  have N0c3 := Fr.app N0c2 N0c3q
  obtain ⟨h0c3, e0c3⟩ : ∃ h, T0c3.heap = h := ⟨_, rfl⟩
  rw [e0c3] at Kq0c3 g0c3E g0c3F
  have E_b01 := E_b01.keep Kq0c3
  have KK0c3 := Keep.trans KK0c2 Kq0c3 (allS (Or.inr sz_b01) all0)
  have Z0c3 := Nat.le_trans Z0c2 Kq0c3.1
  have E_b01 := g0c3E
  have F_state_b01 := g0c3F
  refine stp (fun t k => st0c3.trans k) ?_
  show W (T0c3.setTop (mkF m 20 #[.val (.long q0), .second, .val (.long q1), .second, .val (.long (-7046029254386353131 : Int64)), .second, .val (.ref b01), .unset, .unset, .unset, .unset, .unset, .unset, .unset, .unset, .unset, .unset, .unset, .unset, .unset, .unset, .unset, .unset, .unset, .unset] [(.long (f2 q0))]))
  refine stp (fun t k => XS.lstore X0c3.here hx rfl (hb hby at_20) rfl (l' := #[.val (.long q0), .second, .val (.long q1), .second, .val (.long (-7046029254386353131 : Int64)), .second, .val (.ref b01), .val (.long (f2 q0)), .second, .unset, .unset, .unset, .unset, .unset, .unset, .unset, .unset, .unset, .unset, .unset, .unset, .unset, .unset, .unset, .unset]) rfl k) ?_
  show W (T0c3.setTop (mkF m 22 #[.val (.long q0), .second, .val (.long q1), .second, .val (.long (-7046029254386353131 : Int64)), .second, .val (.ref b01), .val (.long (f2 q0)), .second, .unset, .unset, .unset, .unset, .unset, .unset, .unset, .unset, .unset, .unset, .unset, .unset, .unset, .unset, .unset, .unset] []))
  refine stp (fun t k => XS.aload X0c3.here hx rfl (hb hby at_22) rfl rfl k) ?_
  show W (T0c3.setTop (mkF m 24 #[.val (.long q0), .second, .val (.long q1), .second, .val (.long (-7046029254386353131 : Int64)), .second, .val (.ref b01), .val (.long (f2 q0)), .second, .unset, .unset, .unset, .unset, .unset, .unset, .unset, .unset, .unset, .unset, .unset, .unset, .unset, .unset, .unset, .unset] [(.ref b01)]))
  obtain ⟨cq0c4, kq0c4, q0c4a, q0c4b, q0c4c⟩ := isOf hZ e0c3 E_b01
  obtain ⟨_, _, ⟨T0c4, L0c4, k0c4, n0c4⟩, -, X0c4, ⟨Lc0c4, hQ0c4, l0c4, y0c4, z0c4⟩, st0c4⟩ := X0c3.virtualBack hx (y := (⟨"com/example/probematch/probematch/engine/SplitMix64", "nextLong", "()J"⟩ : MethodName)) (z := (⟨"com/example/probematch/probematch/engine/SplitMix64", "nextLong", "()J"⟩ : MethodName)) hown (mvT hZ (hw _ (List.mem_of_getElem? (i := 12) rfl))) (mvT hZ (hw _ (List.mem_of_getElem? (i := 13) rfl))) (notFace_of_selects (args := #[]) (mvT hZ (hw _ (List.mem_of_getElem? (i := 15) rfl)))) (mvT hZ (hw _ (List.mem_of_getElem? (i := 15) rfl))) (mvT hZ (hw _ (List.mem_of_getElem? (i := 14) rfl))) (by decide) (backOf (W := 0) (rm2 l Z aa hw [] b01 (q0 + (-7046029254386353131 : Int64)) h0c3 n0 Z0c3 F_state_b01 E_b01 g_b01) hZ (hw _ (List.mem_of_getElem? (i := 16) rfl)) (hw _ (List.mem_of_getElem? (i := 3) rfl)) (by decide) (by decide)) q0c4a q0c4c (g := (mkF m 24 #[.val (.long q0), .second, .val (.long q1), .second, .val (.long (-7046029254386353131 : Int64)), .second, .val (.ref b01), .val (.long (f2 q0)), .second, .unset, .unset, .unset, .unset, .unset, .unset, .unset, .unset, .unset, .unset, .unset, .unset, .unset, .unset, .unset, .unset] [(.ref b01)])) rfl (by rw [hml]; rfl) (Steps.refl _) (argsL := []) (rest := []) (lenOf pd0_1 rfl) rfl (by show 2 * 0 + _ ≤ _; exact Nat.le_of_eq rfl) (hb hby at_24) (fun _ _ => ⟨rfl, e0c3, (by decide : 1 + 0 ≤ _), (by decide : 1 + 0 ≤ _)⟩)
  dsimp only [Pt.U, Pt.locs, Pt.cells, Pt.slots] at X0c4 l0c4 y0c4 z0c4 st0c4 hQ0c4
  subst l0c4 y0c4 z0c4
  obtain ⟨rfl, N0c4q, Kq0c4, g0c4E, g0c4F⟩ := hQ0c4
  have N0c4 := Fr.app N0c3 N0c4q
  obtain ⟨h0c4, e0c4⟩ : ∃ h, T0c4.heap = h := ⟨_, rfl⟩
  rw [e0c4] at Kq0c4 g0c4E g0c4F
  have E_b01 := E_b01.keep Kq0c4
  have KK0c4 := Keep.trans KK0c3 Kq0c4 (allS (Or.inr sz_b01) all0)
  have Z0c4 := Nat.le_trans Z0c3 Kq0c4.1
  have E_b01 := g0c4E
  have F_state_b01 := g0c4F
  refine stp (fun t k => st0c4.trans k) ?_
  show W (T0c4.setTop (mkF m 27 #[.val (.long q0), .second, .val (.long q1), .second, .val (.long (-7046029254386353131 : Int64)), .second, .val (.ref b01), .val (.long (f2 q0)), .second, .unset, .unset, .unset, .unset, .unset, .unset, .unset, .unset, .unset, .unset, .unset, .unset, .unset, .unset, .unset, .unset] [(.long (f2 (q0 + (-7046029254386353131 : Int64))))]))
  refine stp (fun t k => XS.lstore X0c4.here hx rfl (hb hby at_27) rfl (l' := #[.val (.long q0), .second, .val (.long q1), .second, .val (.long (-7046029254386353131 : Int64)), .second, .val (.ref b01), .val (.long (f2 q0)), .second, .val (.long (f2 (q0 + (-7046029254386353131 : Int64)))), .second, .unset, .unset, .unset, .unset, .unset, .unset, .unset, .unset, .unset, .unset, .unset, .unset, .unset, .unset]) rfl k) ?_
  show W (T0c4.setTop (mkF m 29 #[.val (.long q0), .second, .val (.long q1), .second, .val (.long (-7046029254386353131 : Int64)), .second, .val (.ref b01), .val (.long (f2 q0)), .second, .val (.long (f2 (q0 + (-7046029254386353131 : Int64)))), .second, .unset, .unset, .unset, .unset, .unset, .unset, .unset, .unset, .unset, .unset, .unset, .unset, .unset, .unset] []))
  obtain ⟨T05, h05, X05, e05, E05, A05, D05, -, st05⟩ := newO X0c4 hx hZ hown (hw _ (List.mem_of_getElem? (i := 1) rfl)) (hw _ (List.mem_of_getElem? (i := 2) rfl)) (hw _ (List.mem_of_getElem? (i := 3) rfl)) e0c4 (g := (mkF m 29 #[.val (.long q0), .second, .val (.long q1), .second, .val (.long (-7046029254386353131 : Int64)), .second, .val (.ref b01), .val (.long (f2 q0)), .second, .val (.long (f2 (q0 + (-7046029254386353131 : Int64)))), .second, .unset, .unset, .unset, .unset, .unset, .unset, .unset, .unset, .unset, .unset, .unset, .unset, .unset, .unset] [])) rfl (hb hby at_29) (by decide) (by decide)
  obtain ⟨b05, gq05⟩ : ∃ z, z = h0c4.size := ⟨_, rfl⟩
  rw [← gq05] at A05 D05 st05
  have ne_b01_b05 : b01 ≠ b05 := Nat.ne_of_lt (Nat.lt_of_lt_of_le E_b01.lt (Nat.le_of_eq gq05.symm))
  have g_b05 : n0 ≤ b05 := Nat.le_trans Z0c4 (Nat.le_of_eq gq05.symm)
  have sz_b05 : h0.size ≤ b05 := Nat.le_trans KK0c4.1 (Nat.le_of_eq gq05.symm)
  have E_b01 := E_b01.ext E05
  have F_state_b01 := F_state_b01.ext E05
  have K05 := KK0c4.ext E05
  have Z05 := Nat.le_trans Z0c4 E05.1
  have E_b05 := A05
  have F_state_b05 : Fld Z h05 b05 "com/example/probematch/probematch/engine/SplitMix64" "state" "J" (.long (0 : Int64)) := D05 (Or.inl (hw _ (List.mem_of_getElem? (i := 11) rfl))) (ty := .long) (by decide)
  refine stp (fun t k => st05 t k) ?_
  show W (T05.setTop (mkF m 32 #[.val (.long q0), .second, .val (.long q1), .second, .val (.long (-7046029254386353131 : Int64)), .second, .val (.ref b01), .val (.long (f2 q0)), .second, .val (.long (f2 (q0 + (-7046029254386353131 : Int64)))), .second, .unset, .unset, .unset, .unset, .unset, .unset, .unset, .unset, .unset, .unset, .unset, .unset, .unset, .unset] [(.ref b05)]))
  refine stp (fun t k => XS.dup X05.here hx rfl (hb hby at_32) rfl rfl k) ?_
  show W (T05.setTop (mkF m 33 #[.val (.long q0), .second, .val (.long q1), .second, .val (.long (-7046029254386353131 : Int64)), .second, .val (.ref b01), .val (.long (f2 q0)), .second, .val (.long (f2 (q0 + (-7046029254386353131 : Int64)))), .second, .unset, .unset, .unset, .unset, .unset, .unset, .unset, .unset, .unset, .unset, .unset, .unset, .unset, .unset] [(.ref b05), (.ref b05)]))
  refine stp (fun t k => XS.lloadN X05.here hx rfl (hb hby at_33) rfl k) ?_
  show W (T05.setTop (mkF m 34 #[.val (.long q0), .second, .val (.long q1), .second, .val (.long (-7046029254386353131 : Int64)), .second, .val (.ref b01), .val (.long (f2 q0)), .second, .val (.long (f2 (q0 + (-7046029254386353131 : Int64)))), .second, .unset, .unset, .unset, .unset, .unset, .unset, .unset, .unset, .unset, .unset, .unset, .unset, .unset, .unset] [(.long q0), (.ref b05), (.ref b05)]))
  refine stp (fun t k => XS.lload X05.here hx rfl (hb hby at_34) rfl k) ?_
  show W (T05.setTop (mkF m 36 #[.val (.long q0), .second, .val (.long q1), .second, .val (.long (-7046029254386353131 : Int64)), .second, .val (.ref b01), .val (.long (f2 q0)), .second, .val (.long (f2 (q0 + (-7046029254386353131 : Int64)))), .second, .unset, .unset, .unset, .unset, .unset, .unset, .unset, .unset, .unset, .unset, .unset, .unset, .unset, .unset] [(.long (-7046029254386353131 : Int64)), (.long q0), (.ref b05), (.ref b05)]))
  refine stp (fun t k => XS.ladd X05.here hx rfl (hb hby at_36) rfl k) ?_
  show W (T05.setTop (mkF m 37 #[.val (.long q0), .second, .val (.long q1), .second, .val (.long (-7046029254386353131 : Int64)), .second, .val (.ref b01), .val (.long (f2 q0)), .second, .val (.long (f2 (q0 + (-7046029254386353131 : Int64)))), .second, .unset, .unset, .unset, .unset, .unset, .unset, .unset, .unset, .unset, .unset, .unset, .unset, .unset, .unset] [(.long (q0 + (-7046029254386353131 : Int64))), (.ref b05), (.ref b05)]))
  obtain ⟨_, _, ⟨T0c6, L0c6, k0c6, n0c6⟩, -, X0c6, ⟨Lc0c6, hQ0c6, l0c6, y0c6, z0c6⟩, st0c6⟩ := X05.specialBack hx (y := (⟨"com/example/probematch/probematch/engine/SplitMix64", "<init>", "(J)V"⟩ : MethodName)) rfl hown (mvT hZ (hw _ (List.mem_of_getElem? (i := 4) rfl))) (mvT hZ (hw _ (List.mem_of_getElem? (i := 5) rfl))) (mvT hZ (hw _ (List.mem_of_getElem? (i := 6) rfl))) (by decide) (backOf (W := 1) (rm1 l Z aa hw [] b05 (q0 + (-7046029254386353131 : Int64))  h05 n0 Z05 F_state_b05 E_b05 g_b05) hZ (hw _ (List.mem_of_getElem? (i := 6) rfl)) (hw _ (List.mem_of_getElem? (i := 3) rfl)) (by decide) (by decide)) (g := (mkF m 37 #[.val (.long q0), .second, .val (.long q1), .second, .val (.long (-7046029254386353131 : Int64)), .second, .val (.ref b01), .val (.long (f2 q0)), .second, .val (.long (f2 (q0 + (-7046029254386353131 : Int64)))), .second, .unset, .unset, .unset, .unset, .unset, .unset, .unset, .unset, .unset, .unset, .unset, .unset, .unset, .unset] [(.long (q0 + (-7046029254386353131 : Int64))), (.ref b05), (.ref b05)])) rfl (by rw [hml]; rfl) (Steps.refl _) (a := b05) (argsL := [(.long (q0 + (-7046029254386353131 : Int64)))]) (rest := [(.ref b05)]) (lenOf pd0_0 rfl) rfl (by show 2 * 0 + _ ≤ _; exact Nat.le_of_eq rfl) (hb hby at_37) (fun _ _ => ⟨rfl, e05, (by decide : 2 + 0 ≤ _), (by decide : 2 + 0 ≤ _)⟩)
  dsimp only [Pt.U, Pt.locs, Pt.cells, Pt.slots] at X0c6 l0c6 y0c6 z0c6 st0c6 hQ0c6
  subst l0c6 y0c6 z0c6
  obtain ⟨rfl, N0c6q, Kq0c6, g0c6E, g0c6F⟩ := hQ0c6
  have N0c6 := Fr.app N0c4 N0c6q
  obtain ⟨h0c6, e0c6⟩ : ∃ h, T0c6.heap = h := ⟨_, rfl⟩
  rw [e0c6] at Kq0c6 g0c6E g0c6F
  have E_b01 := E_b01.keep Kq0c6
  have F_state_b01 := F_state_b01.keep Kq0c6 (ninS ne_b01_b05 nin0)
  have E_b05 := E_b05.keep Kq0c6
  have KK0c6 := Keep.trans K05 Kq0c6 (allS (Or.inr sz_b05) all0)
  have Z0c6 := Nat.le_trans Z05 Kq0c6.1
  have E_b05 := g0c6E
  have F_state_b05 := g0c6F
  refine stp (fun t k => st0c6.trans k) ?_
  show W (T0c6.setTop (mkF m 40 #[.val (.long q0), .second, .val (.long q1), .second, .val (.long (-7046029254386353131 : Int64)), .second, .val (.ref b01), .val (.long (f2 q0)), .second, .val (.long (f2 (q0 + (-7046029254386353131 : Int64)))), .second, .unset, .unset, .unset, .unset, .unset, .unset, .unset, .unset, .unset, .unset, .unset, .unset, .unset, .unset] [(.ref b05)]))
  refine stp (fun t k => XS.astore X0c6.here hx rfl (hb hby at_40) rfl rfl (l' := #[.val (.long q0), .second, .val (.long q1), .second, .val (.long (-7046029254386353131 : Int64)), .second, .val (.ref b01), .val (.long (f2 q0)), .second, .val (.long (f2 (q0 + (-7046029254386353131 : Int64)))), .second, .val (.ref b05), .unset, .unset, .unset, .unset, .unset, .unset, .unset, .unset, .unset, .unset, .unset, .unset, .unset]) rfl k) ?_
  show W (T0c6.setTop (mkF m 42 #[.val (.long q0), .second, .val (.long q1), .second, .val (.long (-7046029254386353131 : Int64)), .second, .val (.ref b01), .val (.long (f2 q0)), .second, .val (.long (f2 (q0 + (-7046029254386353131 : Int64)))), .second, .val (.ref b05), .unset, .unset, .unset, .unset, .unset, .unset, .unset, .unset, .unset, .unset, .unset, .unset, .unset] []))
  refine stp (fun t k => XS.aload X0c6.here hx rfl (hb hby at_42) rfl rfl k) ?_
  show W (T0c6.setTop (mkF m 44 #[.val (.long q0), .second, .val (.long q1), .second, .val (.long (-7046029254386353131 : Int64)), .second, .val (.ref b01), .val (.long (f2 q0)), .second, .val (.long (f2 (q0 + (-7046029254386353131 : Int64)))), .second, .val (.ref b05), .unset, .unset, .unset, .unset, .unset, .unset, .unset, .unset, .unset, .unset, .unset, .unset, .unset] [(.ref b05)]))
  obtain ⟨cq0c7, kq0c7, q0c7a, q0c7b, q0c7c⟩ := isOf hZ e0c6 E_b05
  obtain ⟨_, _, ⟨T0c7, L0c7, k0c7, n0c7⟩, -, X0c7, ⟨Lc0c7, hQ0c7, l0c7, y0c7, z0c7⟩, st0c7⟩ := X0c6.virtualBack hx (y := (⟨"com/example/probematch/probematch/engine/SplitMix64", "nextLong", "()J"⟩ : MethodName)) (z := (⟨"com/example/probematch/probematch/engine/SplitMix64", "nextLong", "()J"⟩ : MethodName)) hown (mvT hZ (hw _ (List.mem_of_getElem? (i := 12) rfl))) (mvT hZ (hw _ (List.mem_of_getElem? (i := 13) rfl))) (notFace_of_selects (args := #[]) (mvT hZ (hw _ (List.mem_of_getElem? (i := 15) rfl)))) (mvT hZ (hw _ (List.mem_of_getElem? (i := 15) rfl))) (mvT hZ (hw _ (List.mem_of_getElem? (i := 14) rfl))) (by decide) (backOf (W := 0) (rm2 l Z aa hw [] b05 (q0 + (-7046029254386353131 : Int64)) h0c6 n0 Z0c6 F_state_b05 E_b05 g_b05) hZ (hw _ (List.mem_of_getElem? (i := 16) rfl)) (hw _ (List.mem_of_getElem? (i := 3) rfl)) (by decide) (by decide)) q0c7a q0c7c (g := (mkF m 44 #[.val (.long q0), .second, .val (.long q1), .second, .val (.long (-7046029254386353131 : Int64)), .second, .val (.ref b01), .val (.long (f2 q0)), .second, .val (.long (f2 (q0 + (-7046029254386353131 : Int64)))), .second, .val (.ref b05), .unset, .unset, .unset, .unset, .unset, .unset, .unset, .unset, .unset, .unset, .unset, .unset, .unset] [(.ref b05)])) rfl (by rw [hml]; rfl) (Steps.refl _) (argsL := []) (rest := []) (lenOf pd0_1 rfl) rfl (by show 2 * 0 + _ ≤ _; exact Nat.le_of_eq rfl) (hb hby at_44) (fun _ _ => ⟨rfl, e0c6, (by decide : 2 + 0 ≤ _), (by decide : 2 + 0 ≤ _)⟩)
  dsimp only [Pt.U, Pt.locs, Pt.cells, Pt.slots] at X0c7 l0c7 y0c7 z0c7 st0c7 hQ0c7
  subst l0c7 y0c7 z0c7
  obtain ⟨rfl, N0c7q, Kq0c7, g0c7E, g0c7F⟩ := hQ0c7
  have N0c7 := Fr.app N0c6 N0c7q
  obtain ⟨h0c7, e0c7⟩ : ∃ h, T0c7.heap = h := ⟨_, rfl⟩
  rw [e0c7] at Kq0c7 g0c7E g0c7F
  have E_b01 := E_b01.keep Kq0c7
  have F_state_b01 := F_state_b01.keep Kq0c7 (ninS ne_b01_b05 nin0)
  have E_b05 := E_b05.keep Kq0c7
  have KK0c7 := Keep.trans KK0c6 Kq0c7 (allS (Or.inr sz_b05) all0)
  have Z0c7 := Nat.le_trans Z0c6 Kq0c7.1
  have E_b05 := g0c7E
  have F_state_b05 := g0c7F
  refine stp (fun t k => st0c7.trans k) ?_
  show W (T0c7.setTop (mkF m 47 #[.val (.long q0), .second, .val (.long q1), .second, .val (.long (-7046029254386353131 : Int64)), .second, .val (.ref b01), .val (.long (f2 q0)), .second, .val (.long (f2 (q0 + (-7046029254386353131 : Int64)))), .second, .val (.ref b05), .unset, .unset, .unset, .unset, .unset, .unset, .unset, .unset, .unset, .unset, .unset, .unset, .unset] [(.long (f2 (q0 + (-7046029254386353131 : Int64))))]))
  refine stp (fun t k => XS.lstore X0c7.here hx rfl (hb hby at_47) rfl (l' := #[.val (.long q0), .second, .val (.long q1), .second, .val (.long (-7046029254386353131 : Int64)), .second, .val (.ref b01), .val (.long (f2 q0)), .second, .val (.long (f2 (q0 + (-7046029254386353131 : Int64)))), .second, .val (.ref b05), .val (.long (f2 (q0 + (-7046029254386353131 : Int64)))), .second, .unset, .unset, .unset, .unset, .unset, .unset, .unset, .unset, .unset, .unset, .unset]) rfl k) ?_
  show W (T0c7.setTop (mkF m 49 #[.val (.long q0), .second, .val (.long q1), .second, .val (.long (-7046029254386353131 : Int64)), .second, .val (.ref b01), .val (.long (f2 q0)), .second, .val (.long (f2 (q0 + (-7046029254386353131 : Int64)))), .second, .val (.ref b05), .val (.long (f2 (q0 + (-7046029254386353131 : Int64)))), .second, .unset, .unset, .unset, .unset, .unset, .unset, .unset, .unset, .unset, .unset, .unset] []))
  obtain ⟨T08, h08, X08, e08, E08, A08, D08, -, st08⟩ := newO X0c7 hx hZ hown (hw _ (List.mem_of_getElem? (i := 1) rfl)) (hw _ (List.mem_of_getElem? (i := 2) rfl)) (hw _ (List.mem_of_getElem? (i := 3) rfl)) e0c7 (g := (mkF m 49 #[.val (.long q0), .second, .val (.long q1), .second, .val (.long (-7046029254386353131 : Int64)), .second, .val (.ref b01), .val (.long (f2 q0)), .second, .val (.long (f2 (q0 + (-7046029254386353131 : Int64)))), .second, .val (.ref b05), .val (.long (f2 (q0 + (-7046029254386353131 : Int64)))), .second, .unset, .unset, .unset, .unset, .unset, .unset, .unset, .unset, .unset, .unset, .unset] [])) rfl (hb hby at_49) (by decide) (by decide)
  obtain ⟨b08, gq08⟩ : ∃ z, z = h0c7.size := ⟨_, rfl⟩
  rw [← gq08] at A08 D08 st08
  have ne_b01_b08 : b01 ≠ b08 := Nat.ne_of_lt (Nat.lt_of_lt_of_le E_b01.lt (Nat.le_of_eq gq08.symm))
  have ne_b05_b08 : b05 ≠ b08 := Nat.ne_of_lt (Nat.lt_of_lt_of_le E_b05.lt (Nat.le_of_eq gq08.symm))
  have g_b08 : n0 ≤ b08 := Nat.le_trans Z0c7 (Nat.le_of_eq gq08.symm)
  have sz_b08 : h0.size ≤ b08 := Nat.le_trans KK0c7.1 (Nat.le_of_eq gq08.symm)
  have E_b01 := E_b01.ext E08
  have F_state_b01 := F_state_b01.ext E08
  have E_b05 := E_b05.ext E08
  have F_state_b05 := F_state_b05.ext E08
  have K08 := KK0c7.ext E08
  have Z08 := Nat.le_trans Z0c7 E08.1
  have E_b08 := A08
  have F_state_b08 : Fld Z h08 b08 "com/example/probematch/probematch/engine/SplitMix64" "state" "J" (.long (0 : Int64)) := D08 (Or.inl (hw _ (List.mem_of_getElem? (i := 11) rfl))) (ty := .long) (by decide)
  refine stp (fun t k => st08 t k) ?_
  show W (T08.setTop (mkF m 52 #[.val (.long q0), .second, .val (.long q1), .second, .val (.long (-7046029254386353131 : Int64)), .second, .val (.ref b01), .val (.long (f2 q0)), .second, .val (.long (f2 (q0 + (-7046029254386353131 : Int64)))), .second, .val (.ref b05), .val (.long (f2 (q0 + (-7046029254386353131 : Int64)))), .second, .unset, .unset, .unset, .unset, .unset, .unset, .unset, .unset, .unset, .unset, .unset] [(.ref b08)]))
  refine stp (fun t k => XS.dup X08.here hx rfl (hb hby at_52) rfl rfl k) ?_
  show W (T08.setTop (mkF m 53 #[.val (.long q0), .second, .val (.long q1), .second, .val (.long (-7046029254386353131 : Int64)), .second, .val (.ref b01), .val (.long (f2 q0)), .second, .val (.long (f2 (q0 + (-7046029254386353131 : Int64)))), .second, .val (.ref b05), .val (.long (f2 (q0 + (-7046029254386353131 : Int64)))), .second, .unset, .unset, .unset, .unset, .unset, .unset, .unset, .unset, .unset, .unset, .unset] [(.ref b08), (.ref b08)]))
  refine stp (fun t k => XS.lloadN X08.here hx rfl (hb hby at_53) rfl k) ?_
  show W (T08.setTop (mkF m 54 #[.val (.long q0), .second, .val (.long q1), .second, .val (.long (-7046029254386353131 : Int64)), .second, .val (.ref b01), .val (.long (f2 q0)), .second, .val (.long (f2 (q0 + (-7046029254386353131 : Int64)))), .second, .val (.ref b05), .val (.long (f2 (q0 + (-7046029254386353131 : Int64)))), .second, .unset, .unset, .unset, .unset, .unset, .unset, .unset, .unset, .unset, .unset, .unset] [(.long q1), (.ref b08), (.ref b08)]))
  obtain ⟨_, _, ⟨T0c9, L0c9, k0c9, n0c9⟩, -, X0c9, ⟨Lc0c9, hQ0c9, l0c9, y0c9, z0c9⟩, st0c9⟩ := X08.specialBack hx (y := (⟨"com/example/probematch/probematch/engine/SplitMix64", "<init>", "(J)V"⟩ : MethodName)) rfl hown (mvT hZ (hw _ (List.mem_of_getElem? (i := 4) rfl))) (mvT hZ (hw _ (List.mem_of_getElem? (i := 5) rfl))) (mvT hZ (hw _ (List.mem_of_getElem? (i := 6) rfl))) (by decide) (backOf (W := 1) (rm1 l Z aa hw [] b08 q1  h08 n0 Z08 F_state_b08 E_b08 g_b08) hZ (hw _ (List.mem_of_getElem? (i := 6) rfl)) (hw _ (List.mem_of_getElem? (i := 3) rfl)) (by decide) (by decide)) (g := (mkF m 54 #[.val (.long q0), .second, .val (.long q1), .second, .val (.long (-7046029254386353131 : Int64)), .second, .val (.ref b01), .val (.long (f2 q0)), .second, .val (.long (f2 (q0 + (-7046029254386353131 : Int64)))), .second, .val (.ref b05), .val (.long (f2 (q0 + (-7046029254386353131 : Int64)))), .second, .unset, .unset, .unset, .unset, .unset, .unset, .unset, .unset, .unset, .unset, .unset] [(.long q1), (.ref b08), (.ref b08)])) rfl (by rw [hml]; rfl) (Steps.refl _) (a := b08) (argsL := [(.long q1)]) (rest := [(.ref b08)]) (lenOf pd0_0 rfl) rfl (by show 2 * 0 + _ ≤ _; exact Nat.le_of_eq rfl) (hb hby at_54) (fun _ _ => ⟨rfl, e08, (by decide : 3 + 0 ≤ _), (by decide : 3 + 0 ≤ _)⟩)
  dsimp only [Pt.U, Pt.locs, Pt.cells, Pt.slots] at X0c9 l0c9 y0c9 z0c9 st0c9 hQ0c9
  subst l0c9 y0c9 z0c9
  obtain ⟨rfl, N0c9q, Kq0c9, g0c9E, g0c9F⟩ := hQ0c9
  have N0c9 := Fr.app N0c7 N0c9q
  obtain ⟨h0c9, e0c9⟩ : ∃ h, T0c9.heap = h := ⟨_, rfl⟩
  rw [e0c9] at Kq0c9 g0c9E g0c9F
  have E_b01 := E_b01.keep Kq0c9
  have F_state_b01 := F_state_b01.keep Kq0c9 (ninS ne_b01_b08 nin0)
  have E_b05 := E_b05.keep Kq0c9
  have F_state_b05 := F_state_b05.keep Kq0c9 (ninS ne_b05_b08 nin0)
  have E_b08 := E_b08.keep Kq0c9
  have KK0c9 := Keep.trans K08 Kq0c9 (allS (Or.inr sz_b08) all0)
  have Z0c9 := Nat.le_trans Z08 Kq0c9.1
  have E_b08 := g0c9E
  have F_state_b08 := g0c9F
  refine stp (fun t k => st0c9.trans k) ?_
  show W (T0c9.setTop (mkF m 57 #[.val (.long q0), .second, .val (.long q1), .second, .val (.long (-7046029254386353131 : Int64)), .second, .val (.ref b01), .val (.long (f2 q0)), .second, .val (.long (f2 (q0 + (-7046029254386353131 : Int64)))), .second, .val (.ref b05), .val (.long (f2 (q0 + (-7046029254386353131 : Int64)))), .second, .unset, .unset, .unset, .unset, .unset, .unset, .unset, .unset, .unset, .unset, .unset] [(.ref b08)]))
  refine stp (fun t k => XS.astore X0c9.here hx rfl (hb hby at_57) rfl rfl (l' := #[.val (.long q0), .second, .val (.long q1), .second, .val (.long (-7046029254386353131 : Int64)), .second, .val (.ref b01), .val (.long (f2 q0)), .second, .val (.long (f2 (q0 + (-7046029254386353131 : Int64)))), .second, .val (.ref b05), .val (.long (f2 (q0 + (-7046029254386353131 : Int64)))), .second, .val (.ref b08), .unset, .unset, .unset, .unset, .unset, .unset, .unset, .unset, .unset, .unset]) rfl k) ?_
  show W (T0c9.setTop (mkF m 59 #[.val (.long q0), .second, .val (.long q1), .second, .val (.long (-7046029254386353131 : Int64)), .second, .val (.ref b01), .val (.long (f2 q0)), .second, .val (.long (f2 (q0 + (-7046029254386353131 : Int64)))), .second, .val (.ref b05), .val (.long (f2 (q0 + (-7046029254386353131 : Int64)))), .second, .val (.ref b08), .unset, .unset, .unset, .unset, .unset, .unset, .unset, .unset, .unset, .unset] []))
  refine stp (fun t k => XS.aload X0c9.here hx rfl (hb hby at_59) rfl rfl k) ?_
  show W (T0c9.setTop (mkF m 61 #[.val (.long q0), .second, .val (.long q1), .second, .val (.long (-7046029254386353131 : Int64)), .second, .val (.ref b01), .val (.long (f2 q0)), .second, .val (.long (f2 (q0 + (-7046029254386353131 : Int64)))), .second, .val (.ref b05), .val (.long (f2 (q0 + (-7046029254386353131 : Int64)))), .second, .val (.ref b08), .unset, .unset, .unset, .unset, .unset, .unset, .unset, .unset, .unset, .unset] [(.ref b08)]))
  obtain ⟨cq0c10, kq0c10, q0c10a, q0c10b, q0c10c⟩ := isOf hZ e0c9 E_b08
  obtain ⟨_, _, ⟨T0c10, L0c10, k0c10, n0c10⟩, -, X0c10, ⟨Lc0c10, hQ0c10, l0c10, y0c10, z0c10⟩, st0c10⟩ := X0c9.virtualBack hx (y := (⟨"com/example/probematch/probematch/engine/SplitMix64", "nextLong", "()J"⟩ : MethodName)) (z := (⟨"com/example/probematch/probematch/engine/SplitMix64", "nextLong", "()J"⟩ : MethodName)) hown (mvT hZ (hw _ (List.mem_of_getElem? (i := 12) rfl))) (mvT hZ (hw _ (List.mem_of_getElem? (i := 13) rfl))) (notFace_of_selects (args := #[]) (mvT hZ (hw _ (List.mem_of_getElem? (i := 15) rfl)))) (mvT hZ (hw _ (List.mem_of_getElem? (i := 15) rfl))) (mvT hZ (hw _ (List.mem_of_getElem? (i := 14) rfl))) (by decide) (backOf (W := 0) (rm2 l Z aa hw [] b08 q1 h0c9 n0 Z0c9 F_state_b08 E_b08 g_b08) hZ (hw _ (List.mem_of_getElem? (i := 16) rfl)) (hw _ (List.mem_of_getElem? (i := 3) rfl)) (by decide) (by decide)) q0c10a q0c10c (g := (mkF m 61 #[.val (.long q0), .second, .val (.long q1), .second, .val (.long (-7046029254386353131 : Int64)), .second, .val (.ref b01), .val (.long (f2 q0)), .second, .val (.long (f2 (q0 + (-7046029254386353131 : Int64)))), .second, .val (.ref b05), .val (.long (f2 (q0 + (-7046029254386353131 : Int64)))), .second, .val (.ref b08), .unset, .unset, .unset, .unset, .unset, .unset, .unset, .unset, .unset, .unset] [(.ref b08)])) rfl (by rw [hml]; rfl) (Steps.refl _) (argsL := []) (rest := []) (lenOf pd0_1 rfl) rfl (by show 2 * 0 + _ ≤ _; exact Nat.le_of_eq rfl) (hb hby at_61) (fun _ _ => ⟨rfl, e0c9, (by decide : 3 + 0 ≤ _), (by decide : 3 + 0 ≤ _)⟩)
  dsimp only [Pt.U, Pt.locs, Pt.cells, Pt.slots] at X0c10 l0c10 y0c10 z0c10 st0c10 hQ0c10
  subst l0c10 y0c10 z0c10
  obtain ⟨rfl, N0c10q, Kq0c10, g0c10E, g0c10F⟩ := hQ0c10
  have N0c10 := Fr.app N0c9 N0c10q
  obtain ⟨h0c10, e0c10⟩ : ∃ h, T0c10.heap = h := ⟨_, rfl⟩
  rw [e0c10] at Kq0c10 g0c10E g0c10F
  have E_b01 := E_b01.keep Kq0c10
  have F_state_b01 := F_state_b01.keep Kq0c10 (ninS ne_b01_b08 nin0)
  have E_b05 := E_b05.keep Kq0c10
  have F_state_b05 := F_state_b05.keep Kq0c10 (ninS ne_b05_b08 nin0)
  have E_b08 := E_b08.keep Kq0c10
  have KK0c10 := Keep.trans KK0c9 Kq0c10 (allS (Or.inr sz_b08) all0)
  have Z0c10 := Nat.le_trans Z0c9 Kq0c10.1
  have E_b08 := g0c10E
  have F_state_b08 := g0c10F
  refine stp (fun t k => st0c10.trans k) ?_
  show W (T0c10.setTop (mkF m 64 #[.val (.long q0), .second, .val (.long q1), .second, .val (.long (-7046029254386353131 : Int64)), .second, .val (.ref b01), .val (.long (f2 q0)), .second, .val (.long (f2 (q0 + (-7046029254386353131 : Int64)))), .second, .val (.ref b05), .val (.long (f2 (q0 + (-7046029254386353131 : Int64)))), .second, .val (.ref b08), .unset, .unset, .unset, .unset, .unset, .unset, .unset, .unset, .unset, .unset] [(.long (f2 q1))]))
  refine stp (fun t k => XS.lstore X0c10.here hx rfl (hb hby at_64) rfl (l' := #[.val (.long q0), .second, .val (.long q1), .second, .val (.long (-7046029254386353131 : Int64)), .second, .val (.ref b01), .val (.long (f2 q0)), .second, .val (.long (f2 (q0 + (-7046029254386353131 : Int64)))), .second, .val (.ref b05), .val (.long (f2 (q0 + (-7046029254386353131 : Int64)))), .second, .val (.ref b08), .val (.long (f2 q1)), .second, .unset, .unset, .unset, .unset, .unset, .unset, .unset, .unset]) rfl k) ?_
  show W (T0c10.setTop (mkF m 66 #[.val (.long q0), .second, .val (.long q1), .second, .val (.long (-7046029254386353131 : Int64)), .second, .val (.ref b01), .val (.long (f2 q0)), .second, .val (.long (f2 (q0 + (-7046029254386353131 : Int64)))), .second, .val (.ref b05), .val (.long (f2 (q0 + (-7046029254386353131 : Int64)))), .second, .val (.ref b08), .val (.long (f2 q1)), .second, .unset, .unset, .unset, .unset, .unset, .unset, .unset, .unset] []))
  obtain ⟨T011, h011, X011, e011, E011, A011, D011, -, st011⟩ := newO X0c10 hx hZ hown (hw _ (List.mem_of_getElem? (i := 1) rfl)) (hw _ (List.mem_of_getElem? (i := 2) rfl)) (hw _ (List.mem_of_getElem? (i := 3) rfl)) e0c10 (g := (mkF m 66 #[.val (.long q0), .second, .val (.long q1), .second, .val (.long (-7046029254386353131 : Int64)), .second, .val (.ref b01), .val (.long (f2 q0)), .second, .val (.long (f2 (q0 + (-7046029254386353131 : Int64)))), .second, .val (.ref b05), .val (.long (f2 (q0 + (-7046029254386353131 : Int64)))), .second, .val (.ref b08), .val (.long (f2 q1)), .second, .unset, .unset, .unset, .unset, .unset, .unset, .unset, .unset] [])) rfl (hb hby at_66) (by decide) (by decide)
  obtain ⟨b011, gq011⟩ : ∃ z, z = h0c10.size := ⟨_, rfl⟩
  rw [← gq011] at A011 D011 st011
  have ne_b01_b011 : b01 ≠ b011 := Nat.ne_of_lt (Nat.lt_of_lt_of_le E_b01.lt (Nat.le_of_eq gq011.symm))
  have ne_b05_b011 : b05 ≠ b011 := Nat.ne_of_lt (Nat.lt_of_lt_of_le E_b05.lt (Nat.le_of_eq gq011.symm))
  have ne_b08_b011 : b08 ≠ b011 := Nat.ne_of_lt (Nat.lt_of_lt_of_le E_b08.lt (Nat.le_of_eq gq011.symm))
  have g_b011 : n0 ≤ b011 := Nat.le_trans Z0c10 (Nat.le_of_eq gq011.symm)
  have sz_b011 : h0.size ≤ b011 := Nat.le_trans KK0c10.1 (Nat.le_of_eq gq011.symm)
  have E_b01 := E_b01.ext E011
  have F_state_b01 := F_state_b01.ext E011
  have E_b05 := E_b05.ext E011
  have F_state_b05 := F_state_b05.ext E011
  have E_b08 := E_b08.ext E011
  have F_state_b08 := F_state_b08.ext E011
  have K011 := KK0c10.ext E011
  have Z011 := Nat.le_trans Z0c10 E011.1
  have E_b011 := A011
  have F_state_b011 : Fld Z h011 b011 "com/example/probematch/probematch/engine/SplitMix64" "state" "J" (.long (0 : Int64)) := D011 (Or.inl (hw _ (List.mem_of_getElem? (i := 11) rfl))) (ty := .long) (by decide)
  refine stp (fun t k => st011 t k) ?_
  show W (T011.setTop (mkF m 69 #[.val (.long q0), .second, .val (.long q1), .second, .val (.long (-7046029254386353131 : Int64)), .second, .val (.ref b01), .val (.long (f2 q0)), .second, .val (.long (f2 (q0 + (-7046029254386353131 : Int64)))), .second, .val (.ref b05), .val (.long (f2 (q0 + (-7046029254386353131 : Int64)))), .second, .val (.ref b08), .val (.long (f2 q1)), .second, .unset, .unset, .unset, .unset, .unset, .unset, .unset, .unset] [(.ref b011)]))
  refine stp (fun t k => XS.dup X011.here hx rfl (hb hby at_69) rfl rfl k) ?_
  show W (T011.setTop (mkF m 70 #[.val (.long q0), .second, .val (.long q1), .second, .val (.long (-7046029254386353131 : Int64)), .second, .val (.ref b01), .val (.long (f2 q0)), .second, .val (.long (f2 (q0 + (-7046029254386353131 : Int64)))), .second, .val (.ref b05), .val (.long (f2 (q0 + (-7046029254386353131 : Int64)))), .second, .val (.ref b08), .val (.long (f2 q1)), .second, .unset, .unset, .unset, .unset, .unset, .unset, .unset, .unset] [(.ref b011), (.ref b011)]))
  refine stp (fun t k => XS.lconst X011.here hx rfl (hb hby at_70) k) ?_
  show W (T011.setTop (mkF m 71 #[.val (.long q0), .second, .val (.long q1), .second, .val (.long (-7046029254386353131 : Int64)), .second, .val (.ref b01), .val (.long (f2 q0)), .second, .val (.long (f2 (q0 + (-7046029254386353131 : Int64)))), .second, .val (.ref b05), .val (.long (f2 (q0 + (-7046029254386353131 : Int64)))), .second, .val (.ref b08), .val (.long (f2 q1)), .second, .unset, .unset, .unset, .unset, .unset, .unset, .unset, .unset] [(.long (0 : Int64)), (.ref b011), (.ref b011)]))
  obtain ⟨_, _, ⟨T0c12, L0c12, k0c12, n0c12⟩, -, X0c12, ⟨Lc0c12, hQ0c12, l0c12, y0c12, z0c12⟩, st0c12⟩ := X011.specialBack hx (y := (⟨"com/example/probematch/probematch/engine/SplitMix64", "<init>", "(J)V"⟩ : MethodName)) rfl hown (mvT hZ (hw _ (List.mem_of_getElem? (i := 4) rfl))) (mvT hZ (hw _ (List.mem_of_getElem? (i := 5) rfl))) (mvT hZ (hw _ (List.mem_of_getElem? (i := 6) rfl))) (by decide) (backOf (W := 1) (rm1 l Z aa hw [] b011 (0 : Int64)  h011 n0 Z011 F_state_b011 E_b011 g_b011) hZ (hw _ (List.mem_of_getElem? (i := 6) rfl)) (hw _ (List.mem_of_getElem? (i := 3) rfl)) (by decide) (by decide)) (g := (mkF m 71 #[.val (.long q0), .second, .val (.long q1), .second, .val (.long (-7046029254386353131 : Int64)), .second, .val (.ref b01), .val (.long (f2 q0)), .second, .val (.long (f2 (q0 + (-7046029254386353131 : Int64)))), .second, .val (.ref b05), .val (.long (f2 (q0 + (-7046029254386353131 : Int64)))), .second, .val (.ref b08), .val (.long (f2 q1)), .second, .unset, .unset, .unset, .unset, .unset, .unset, .unset, .unset] [(.long (0 : Int64)), (.ref b011), (.ref b011)])) rfl (by rw [hml]; rfl) (Steps.refl _) (a := b011) (argsL := [(.long (0 : Int64))]) (rest := [(.ref b011)]) (lenOf pd0_0 rfl) rfl (by show 2 * 0 + _ ≤ _; exact Nat.le_of_eq rfl) (hb hby at_71) (fun _ _ => ⟨rfl, e011, (by decide : 4 + 0 ≤ _), (by decide : 4 + 0 ≤ _)⟩)
  dsimp only [Pt.U, Pt.locs, Pt.cells, Pt.slots] at X0c12 l0c12 y0c12 z0c12 st0c12 hQ0c12
  subst l0c12 y0c12 z0c12
  obtain ⟨rfl, N0c12q, Kq0c12, g0c12E, g0c12F⟩ := hQ0c12
  have N0c12 := Fr.app N0c10 N0c12q
  obtain ⟨h0c12, e0c12⟩ : ∃ h, T0c12.heap = h := ⟨_, rfl⟩
  rw [e0c12] at Kq0c12 g0c12E g0c12F
  have E_b01 := E_b01.keep Kq0c12
  have F_state_b01 := F_state_b01.keep Kq0c12 (ninS ne_b01_b011 nin0)
  have E_b05 := E_b05.keep Kq0c12
  have F_state_b05 := F_state_b05.keep Kq0c12 (ninS ne_b05_b011 nin0)
  have E_b08 := E_b08.keep Kq0c12
  have F_state_b08 := F_state_b08.keep Kq0c12 (ninS ne_b08_b011 nin0)
  have E_b011 := E_b011.keep Kq0c12
  have KK0c12 := Keep.trans K011 Kq0c12 (allS (Or.inr sz_b011) all0)
  have Z0c12 := Nat.le_trans Z011 Kq0c12.1
  have E_b011 := g0c12E
  have F_state_b011 := g0c12F
  refine stp (fun t k => st0c12.trans k) ?_
  show W (T0c12.setTop (mkF m 74 #[.val (.long q0), .second, .val (.long q1), .second, .val (.long (-7046029254386353131 : Int64)), .second, .val (.ref b01), .val (.long (f2 q0)), .second, .val (.long (f2 (q0 + (-7046029254386353131 : Int64)))), .second, .val (.ref b05), .val (.long (f2 (q0 + (-7046029254386353131 : Int64)))), .second, .val (.ref b08), .val (.long (f2 q1)), .second, .unset, .unset, .unset, .unset, .unset, .unset, .unset, .unset] [(.ref b011)]))
  refine stp (fun t k => XS.astore X0c12.here hx rfl (hb hby at_74) rfl rfl (l' := #[.val (.long q0), .second, .val (.long q1), .second, .val (.long (-7046029254386353131 : Int64)), .second, .val (.ref b01), .val (.long (f2 q0)), .second, .val (.long (f2 (q0 + (-7046029254386353131 : Int64)))), .second, .val (.ref b05), .val (.long (f2 (q0 + (-7046029254386353131 : Int64)))), .second, .val (.ref b08), .val (.long (f2 q1)), .second, .val (.ref b011), .unset, .unset, .unset, .unset, .unset, .unset, .unset]) rfl k) ?_
  show W (T0c12.setTop (mkF m 76 #[.val (.long q0), .second, .val (.long q1), .second, .val (.long (-7046029254386353131 : Int64)), .second, .val (.ref b01), .val (.long (f2 q0)), .second, .val (.long (f2 (q0 + (-7046029254386353131 : Int64)))), .second, .val (.ref b05), .val (.long (f2 (q0 + (-7046029254386353131 : Int64)))), .second, .val (.ref b08), .val (.long (f2 q1)), .second, .val (.ref b011), .unset, .unset, .unset, .unset, .unset, .unset, .unset] []))
  refine stp (fun t k => XS.aload X0c12.here hx rfl (hb hby at_76) rfl rfl k) ?_
  show W (T0c12.setTop (mkF m 78 #[.val (.long q0), .second, .val (.long q1), .second, .val (.long (-7046029254386353131 : Int64)), .second, .val (.ref b01), .val (.long (f2 q0)), .second, .val (.long (f2 (q0 + (-7046029254386353131 : Int64)))), .second, .val (.ref b05), .val (.long (f2 (q0 + (-7046029254386353131 : Int64)))), .second, .val (.ref b08), .val (.long (f2 q1)), .second, .val (.ref b011), .unset, .unset, .unset, .unset, .unset, .unset, .unset] [(.ref b011)]))
  obtain ⟨cq0c13, kq0c13, q0c13a, q0c13b, q0c13c⟩ := isOf hZ e0c12 E_b011
  obtain ⟨_, _, ⟨T0c13, L0c13, k0c13, n0c13⟩, -, X0c13, ⟨Lc0c13, hQ0c13, l0c13, y0c13, z0c13⟩, st0c13⟩ := X0c12.virtualBack hx (y := (⟨"com/example/probematch/probematch/engine/SplitMix64", "nextLong", "()J"⟩ : MethodName)) (z := (⟨"com/example/probematch/probematch/engine/SplitMix64", "nextLong", "()J"⟩ : MethodName)) hown (mvT hZ (hw _ (List.mem_of_getElem? (i := 12) rfl))) (mvT hZ (hw _ (List.mem_of_getElem? (i := 13) rfl))) (notFace_of_selects (args := #[]) (mvT hZ (hw _ (List.mem_of_getElem? (i := 15) rfl)))) (mvT hZ (hw _ (List.mem_of_getElem? (i := 15) rfl))) (mvT hZ (hw _ (List.mem_of_getElem? (i := 14) rfl))) (by decide) (backOf (W := 0) (rm2 l Z aa hw [] b011 (0 : Int64) h0c12 n0 Z0c12 F_state_b011 E_b011 g_b011) hZ (hw _ (List.mem_of_getElem? (i := 16) rfl)) (hw _ (List.mem_of_getElem? (i := 3) rfl)) (by decide) (by decide)) q0c13a q0c13c (g := (mkF m 78 #[.val (.long q0), .second, .val (.long q1), .second, .val (.long (-7046029254386353131 : Int64)), .second, .val (.ref b01), .val (.long (f2 q0)), .second, .val (.long (f2 (q0 + (-7046029254386353131 : Int64)))), .second, .val (.ref b05), .val (.long (f2 (q0 + (-7046029254386353131 : Int64)))), .second, .val (.ref b08), .val (.long (f2 q1)), .second, .val (.ref b011), .unset, .unset, .unset, .unset, .unset, .unset, .unset] [(.ref b011)])) rfl (by rw [hml]; rfl) (Steps.refl _) (argsL := []) (rest := []) (lenOf pd0_1 rfl) rfl (by show 2 * 0 + _ ≤ _; exact Nat.le_of_eq rfl) (hb hby at_78) (fun _ _ => ⟨rfl, e0c12, (by decide : 4 + 0 ≤ _), (by decide : 4 + 0 ≤ _)⟩)
  dsimp only [Pt.U, Pt.locs, Pt.cells, Pt.slots] at X0c13 l0c13 y0c13 z0c13 st0c13 hQ0c13
  subst l0c13 y0c13 z0c13
  obtain ⟨rfl, N0c13q, Kq0c13, g0c13E, g0c13F⟩ := hQ0c13
  have N0c13 := Fr.app N0c12 N0c13q
  obtain ⟨h0c13, e0c13⟩ : ∃ h, T0c13.heap = h := ⟨_, rfl⟩
  rw [e0c13] at Kq0c13 g0c13E g0c13F
  have E_b01 := E_b01.keep Kq0c13
  have F_state_b01 := F_state_b01.keep Kq0c13 (ninS ne_b01_b011 nin0)
  have E_b05 := E_b05.keep Kq0c13
  have F_state_b05 := F_state_b05.keep Kq0c13 (ninS ne_b05_b011 nin0)
  have E_b08 := E_b08.keep Kq0c13
  have F_state_b08 := F_state_b08.keep Kq0c13 (ninS ne_b08_b011 nin0)
  have E_b011 := E_b011.keep Kq0c13
  have KK0c13 := Keep.trans KK0c12 Kq0c13 (allS (Or.inr sz_b011) all0)
  have Z0c13 := Nat.le_trans Z0c12 Kq0c13.1
  have E_b011 := g0c13E
  have F_state_b011 := g0c13F
  refine stp (fun t k => st0c13.trans k) ?_
  show W (T0c13.setTop (mkF m 81 #[.val (.long q0), .second, .val (.long q1), .second, .val (.long (-7046029254386353131 : Int64)), .second, .val (.ref b01), .val (.long (f2 q0)), .second, .val (.long (f2 (q0 + (-7046029254386353131 : Int64)))), .second, .val (.ref b05), .val (.long (f2 (q0 + (-7046029254386353131 : Int64)))), .second, .val (.ref b08), .val (.long (f2 q1)), .second, .val (.ref b011), .unset, .unset, .unset, .unset, .unset, .unset, .unset] [(.long (f2 (0 : Int64)))]))
  refine stp (fun t k => XS.lstore X0c13.here hx rfl (hb hby at_81) rfl (l' := #[.val (.long q0), .second, .val (.long q1), .second, .val (.long (-7046029254386353131 : Int64)), .second, .val (.ref b01), .val (.long (f2 q0)), .second, .val (.long (f2 (q0 + (-7046029254386353131 : Int64)))), .second, .val (.ref b05), .val (.long (f2 (q0 + (-7046029254386353131 : Int64)))), .second, .val (.ref b08), .val (.long (f2 q1)), .second, .val (.ref b011), .val (.long (f2 (0 : Int64))), .second, .unset, .unset, .unset, .unset, .unset]) rfl k) ?_
  show W (T0c13.setTop (mkF m 83 #[.val (.long q0), .second, .val (.long q1), .second, .val (.long (-7046029254386353131 : Int64)), .second, .val (.ref b01), .val (.long (f2 q0)), .second, .val (.long (f2 (q0 + (-7046029254386353131 : Int64)))), .second, .val (.ref b05), .val (.long (f2 (q0 + (-7046029254386353131 : Int64)))), .second, .val (.ref b08), .val (.long (f2 q1)), .second, .val (.ref b011), .val (.long (f2 (0 : Int64))), .second, .unset, .unset, .unset, .unset, .unset] []))
  refine stp (fun t k => XS.aload X0c13.here hx rfl (hb hby at_83) rfl rfl k) ?_
  show W (T0c13.setTop (mkF m 85 #[.val (.long q0), .second, .val (.long q1), .second, .val (.long (-7046029254386353131 : Int64)), .second, .val (.ref b01), .val (.long (f2 q0)), .second, .val (.long (f2 (q0 + (-7046029254386353131 : Int64)))), .second, .val (.ref b05), .val (.long (f2 (q0 + (-7046029254386353131 : Int64)))), .second, .val (.ref b08), .val (.long (f2 q1)), .second, .val (.ref b011), .val (.long (f2 (0 : Int64))), .second, .unset, .unset, .unset, .unset, .unset] [(.ref b011)]))
  obtain ⟨cq0c14, kq0c14, q0c14a, q0c14b, q0c14c⟩ := isOf hZ e0c13 E_b011
  obtain ⟨_, _, ⟨T0c14, L0c14, k0c14, n0c14⟩, -, X0c14, ⟨Lc0c14, hQ0c14, l0c14, y0c14, z0c14⟩, st0c14⟩ := X0c13.virtualBack hx (y := (⟨"com/example/probematch/probematch/engine/SplitMix64", "nextLong", "()J"⟩ : MethodName)) (z := (⟨"com/example/probematch/probematch/engine/SplitMix64", "nextLong", "()J"⟩ : MethodName)) hown (mvT hZ (hw _ (List.mem_of_getElem? (i := 12) rfl))) (mvT hZ (hw _ (List.mem_of_getElem? (i := 13) rfl))) (notFace_of_selects (args := #[]) (mvT hZ (hw _ (List.mem_of_getElem? (i := 15) rfl)))) (mvT hZ (hw _ (List.mem_of_getElem? (i := 15) rfl))) (mvT hZ (hw _ (List.mem_of_getElem? (i := 14) rfl))) (by decide) (backOf (W := 0) (rm2 l Z aa hw [] b011 ((0 : Int64) + (-7046029254386353131 : Int64)) h0c13 n0 Z0c13 F_state_b011 E_b011 g_b011) hZ (hw _ (List.mem_of_getElem? (i := 16) rfl)) (hw _ (List.mem_of_getElem? (i := 3) rfl)) (by decide) (by decide)) q0c14a q0c14c (g := (mkF m 85 #[.val (.long q0), .second, .val (.long q1), .second, .val (.long (-7046029254386353131 : Int64)), .second, .val (.ref b01), .val (.long (f2 q0)), .second, .val (.long (f2 (q0 + (-7046029254386353131 : Int64)))), .second, .val (.ref b05), .val (.long (f2 (q0 + (-7046029254386353131 : Int64)))), .second, .val (.ref b08), .val (.long (f2 q1)), .second, .val (.ref b011), .val (.long (f2 (0 : Int64))), .second, .unset, .unset, .unset, .unset, .unset] [(.ref b011)])) rfl (by rw [hml]; rfl) (Steps.refl _) (argsL := []) (rest := []) (lenOf pd0_1 rfl) rfl (by show 2 * 0 + _ ≤ _; exact Nat.le_of_eq rfl) (hb hby at_85) (fun _ _ => ⟨rfl, e0c13, (by decide : 4 + 0 ≤ _), (by decide : 4 + 0 ≤ _)⟩)
  dsimp only [Pt.U, Pt.locs, Pt.cells, Pt.slots] at X0c14 l0c14 y0c14 z0c14 st0c14 hQ0c14
  subst l0c14 y0c14 z0c14
  obtain ⟨rfl, N0c14q, Kq0c14, g0c14E, g0c14F⟩ := hQ0c14
  have N0c14 := Fr.app N0c13 N0c14q
  obtain ⟨h0c14, e0c14⟩ : ∃ h, T0c14.heap = h := ⟨_, rfl⟩
  rw [e0c14] at Kq0c14 g0c14E g0c14F
  have E_b01 := E_b01.keep Kq0c14
  have F_state_b01 := F_state_b01.keep Kq0c14 (ninS ne_b01_b011 nin0)
  have E_b05 := E_b05.keep Kq0c14
  have F_state_b05 := F_state_b05.keep Kq0c14 (ninS ne_b05_b011 nin0)
  have E_b08 := E_b08.keep Kq0c14
  have F_state_b08 := F_state_b08.keep Kq0c14 (ninS ne_b08_b011 nin0)
  have E_b011 := E_b011.keep Kq0c14
  have KK0c14 := Keep.trans KK0c13 Kq0c14 (allS (Or.inr sz_b011) all0)
  have Z0c14 := Nat.le_trans Z0c13 Kq0c14.1
  have E_b011 := g0c14E
  have F_state_b011 := g0c14F
  refine stp (fun t k => st0c14.trans k) ?_
  show W (T0c14.setTop (mkF m 88 #[.val (.long q0), .second, .val (.long q1), .second, .val (.long (-7046029254386353131 : Int64)), .second, .val (.ref b01), .val (.long (f2 q0)), .second, .val (.long (f2 (q0 + (-7046029254386353131 : Int64)))), .second, .val (.ref b05), .val (.long (f2 (q0 + (-7046029254386353131 : Int64)))), .second, .val (.ref b08), .val (.long (f2 q1)), .second, .val (.ref b011), .val (.long (f2 (0 : Int64))), .second, .unset, .unset, .unset, .unset, .unset] [(.long (f2 ((0 : Int64) + (-7046029254386353131 : Int64))))]))
  refine stp (fun t k => XS.lstore X0c14.here hx rfl (hb hby at_88) rfl (l' := #[.val (.long q0), .second, .val (.long q1), .second, .val (.long (-7046029254386353131 : Int64)), .second, .val (.ref b01), .val (.long (f2 q0)), .second, .val (.long (f2 (q0 + (-7046029254386353131 : Int64)))), .second, .val (.ref b05), .val (.long (f2 (q0 + (-7046029254386353131 : Int64)))), .second, .val (.ref b08), .val (.long (f2 q1)), .second, .val (.ref b011), .val (.long (f2 (0 : Int64))), .second, .val (.long (f2 ((0 : Int64) + (-7046029254386353131 : Int64)))), .second, .unset, .unset, .unset]) rfl k) ?_
  show W (T0c14.setTop (mkF m 90 #[.val (.long q0), .second, .val (.long q1), .second, .val (.long (-7046029254386353131 : Int64)), .second, .val (.ref b01), .val (.long (f2 q0)), .second, .val (.long (f2 (q0 + (-7046029254386353131 : Int64)))), .second, .val (.ref b05), .val (.long (f2 (q0 + (-7046029254386353131 : Int64)))), .second, .val (.ref b08), .val (.long (f2 q1)), .second, .val (.ref b011), .val (.long (f2 (0 : Int64))), .second, .val (.long (f2 ((0 : Int64) + (-7046029254386353131 : Int64)))), .second, .unset, .unset, .unset] []))
  refine stp (fun t k => XS.lload X0c14.here hx rfl (hb hby at_90) rfl k) ?_
  show W (T0c14.setTop (mkF m 92 #[.val (.long q0), .second, .val (.long q1), .second, .val (.long (-7046029254386353131 : Int64)), .second, .val (.ref b01), .val (.long (f2 q0)), .second, .val (.long (f2 (q0 + (-7046029254386353131 : Int64)))), .second, .val (.ref b05), .val (.long (f2 (q0 + (-7046029254386353131 : Int64)))), .second, .val (.ref b08), .val (.long (f2 q1)), .second, .val (.ref b011), .val (.long (f2 (0 : Int64))), .second, .val (.long (f2 ((0 : Int64) + (-7046029254386353131 : Int64)))), .second, .unset, .unset, .unset] [(.long (f2 (q0 + (-7046029254386353131 : Int64))))]))
  refine stp (fun t k => XS.lload X0c14.here hx rfl (hb hby at_92) rfl k) ?_
  show W (T0c14.setTop (mkF m 94 #[.val (.long q0), .second, .val (.long q1), .second, .val (.long (-7046029254386353131 : Int64)), .second, .val (.ref b01), .val (.long (f2 q0)), .second, .val (.long (f2 (q0 + (-7046029254386353131 : Int64)))), .second, .val (.ref b05), .val (.long (f2 (q0 + (-7046029254386353131 : Int64)))), .second, .val (.ref b08), .val (.long (f2 q1)), .second, .val (.ref b011), .val (.long (f2 (0 : Int64))), .second, .val (.long (f2 ((0 : Int64) + (-7046029254386353131 : Int64)))), .second, .unset, .unset, .unset] [(.long (f2 (q0 + (-7046029254386353131 : Int64)))), (.long (f2 (q0 + (-7046029254386353131 : Int64))))]))
  refine stp (fun t k => XS.lcmp X0c14.here hx rfl (hb hby at_94) rfl k) ?_
  show W (T0c14.setTop (mkF m 95 #[.val (.long q0), .second, .val (.long q1), .second, .val (.long (-7046029254386353131 : Int64)), .second, .val (.ref b01), .val (.long (f2 q0)), .second, .val (.long (f2 (q0 + (-7046029254386353131 : Int64)))), .second, .val (.ref b05), .val (.long (f2 (q0 + (-7046029254386353131 : Int64)))), .second, .val (.ref b08), .val (.long (f2 q1)), .second, .val (.ref b011), .val (.long (f2 (0 : Int64))), .second, .val (.long (f2 ((0 : Int64) + (-7046029254386353131 : Int64)))), .second, .unset, .unset, .unset] [(.int (lcmpW (f2 (q0 + (-7046029254386353131 : Int64))) (f2 (q0 + (-7046029254386353131 : Int64)))))]))
  refine stp (fun t k => XS.ifNo X0c14.here hx rfl (hb hby at_95) rfl ((if0 _ _).trans (teq ((lw_eq (f2 (q0 + (-7046029254386353131 : Int64))) (f2 (q0 + (-7046029254386353131 : Int64)))).mpr (by exact own_0_95_15 q0 q1  ))).2) k) ?_
  show W (T0c14.setTop (mkF m 98 #[.val (.long q0), .second, .val (.long q1), .second, .val (.long (-7046029254386353131 : Int64)), .second, .val (.ref b01), .val (.long (f2 q0)), .second, .val (.long (f2 (q0 + (-7046029254386353131 : Int64)))), .second, .val (.ref b05), .val (.long (f2 (q0 + (-7046029254386353131 : Int64)))), .second, .val (.ref b08), .val (.long (f2 q1)), .second, .val (.ref b011), .val (.long (f2 (0 : Int64))), .second, .val (.long (f2 ((0 : Int64) + (-7046029254386353131 : Int64)))), .second, .unset, .unset, .unset] []))
  refine stp (fun t k => XS.iconst X0c14.here hx rfl (hb hby at_98) k) ?_
  show W (T0c14.setTop (mkF m 99 #[.val (.long q0), .second, .val (.long q1), .second, .val (.long (-7046029254386353131 : Int64)), .second, .val (.ref b01), .val (.long (f2 q0)), .second, .val (.long (f2 (q0 + (-7046029254386353131 : Int64)))), .second, .val (.ref b05), .val (.long (f2 (q0 + (-7046029254386353131 : Int64)))), .second, .val (.ref b08), .val (.long (f2 q1)), .second, .val (.ref b011), .val (.long (f2 (0 : Int64))), .second, .val (.long (f2 ((0 : Int64) + (-7046029254386353131 : Int64)))), .second, .unset, .unset, .unset] [(.int (1 : Int32))]))
  refine stp (fun t k => XS.goto X0c14.here hx rfl (pc0 := 99) (pc' := 103) rfl (hb hby at_99) (by decide) (by decide) k) ?_
  show W (T0c14.setTop (mkF m 103 #[.val (.long q0), .second, .val (.long q1), .second, .val (.long (-7046029254386353131 : Int64)), .second, .val (.ref b01), .val (.long (f2 q0)), .second, .val (.long (f2 (q0 + (-7046029254386353131 : Int64)))), .second, .val (.ref b05), .val (.long (f2 (q0 + (-7046029254386353131 : Int64)))), .second, .val (.ref b08), .val (.long (f2 q1)), .second, .val (.ref b011), .val (.long (f2 (0 : Int64))), .second, .val (.long (f2 ((0 : Int64) + (-7046029254386353131 : Int64)))), .second, .unset, .unset, .unset] [(.int (1 : Int32))]))
  refine stp (fun t k => XS.istore X0c14.here hx rfl (hb hby at_103) rfl (l' := #[.val (.long q0), .second, .val (.long q1), .second, .val (.long (-7046029254386353131 : Int64)), .second, .val (.ref b01), .val (.long (f2 q0)), .second, .val (.long (f2 (q0 + (-7046029254386353131 : Int64)))), .second, .val (.ref b05), .val (.long (f2 (q0 + (-7046029254386353131 : Int64)))), .second, .val (.ref b08), .val (.long (f2 q1)), .second, .val (.ref b011), .val (.long (f2 (0 : Int64))), .second, .val (.long (f2 ((0 : Int64) + (-7046029254386353131 : Int64)))), .second, .val (.int (1 : Int32)), .unset, .unset]) rfl k) ?_
  show W (T0c14.setTop (mkF m 105 #[.val (.long q0), .second, .val (.long q1), .second, .val (.long (-7046029254386353131 : Int64)), .second, .val (.ref b01), .val (.long (f2 q0)), .second, .val (.long (f2 (q0 + (-7046029254386353131 : Int64)))), .second, .val (.ref b05), .val (.long (f2 (q0 + (-7046029254386353131 : Int64)))), .second, .val (.ref b08), .val (.long (f2 q1)), .second, .val (.ref b011), .val (.long (f2 (0 : Int64))), .second, .val (.long (f2 ((0 : Int64) + (-7046029254386353131 : Int64)))), .second, .val (.int (1 : Int32)), .unset, .unset] []))
  refine stp (fun t k => XS.lload X0c14.here hx rfl (hb hby at_105) rfl k) ?_
  show W (T0c14.setTop (mkF m 107 #[.val (.long q0), .second, .val (.long q1), .second, .val (.long (-7046029254386353131 : Int64)), .second, .val (.ref b01), .val (.long (f2 q0)), .second, .val (.long (f2 (q0 + (-7046029254386353131 : Int64)))), .second, .val (.ref b05), .val (.long (f2 (q0 + (-7046029254386353131 : Int64)))), .second, .val (.ref b08), .val (.long (f2 q1)), .second, .val (.ref b011), .val (.long (f2 (0 : Int64))), .second, .val (.long (f2 ((0 : Int64) + (-7046029254386353131 : Int64)))), .second, .val (.int (1 : Int32)), .unset, .unset] [(.long (f2 q0))]))
  refine stp (fun t k => XS.lload X0c14.here hx rfl (hb hby at_107) rfl k) ?_
  show W (T0c14.setTop (mkF m 109 #[.val (.long q0), .second, .val (.long q1), .second, .val (.long (-7046029254386353131 : Int64)), .second, .val (.ref b01), .val (.long (f2 q0)), .second, .val (.long (f2 (q0 + (-7046029254386353131 : Int64)))), .second, .val (.ref b05), .val (.long (f2 (q0 + (-7046029254386353131 : Int64)))), .second, .val (.ref b08), .val (.long (f2 q1)), .second, .val (.ref b011), .val (.long (f2 (0 : Int64))), .second, .val (.long (f2 ((0 : Int64) + (-7046029254386353131 : Int64)))), .second, .val (.int (1 : Int32)), .unset, .unset] [(.long (f2 q1)), (.long (f2 q0))]))
  refine stp (fun t k => XS.lcmp X0c14.here hx rfl (hb hby at_109) rfl k) ?_
  show W (T0c14.setTop (mkF m 110 #[.val (.long q0), .second, .val (.long q1), .second, .val (.long (-7046029254386353131 : Int64)), .second, .val (.ref b01), .val (.long (f2 q0)), .second, .val (.long (f2 (q0 + (-7046029254386353131 : Int64)))), .second, .val (.ref b05), .val (.long (f2 (q0 + (-7046029254386353131 : Int64)))), .second, .val (.ref b08), .val (.long (f2 q1)), .second, .val (.ref b011), .val (.long (f2 (0 : Int64))), .second, .val (.long (f2 ((0 : Int64) + (-7046029254386353131 : Int64)))), .second, .val (.int (1 : Int32)), .unset, .unset] [(.int (lcmpW (f2 q0) (f2 q1)))]))
  have J0_118_18 : ∀ (T018 : State) (lc018 : List Loc) (v0_17 : Int32) (hv0_17 : v0_17 = (if (f2 q0) = (f2 q1) then (1 : Int32) else (0 : Int32))) (X018 : Stand p l e room_1 s m #[(.long q0), (.long q1)] below meth c T018 lc018 4 4) (e018 : T018.heap = h0c14) (N018 : Fr n0 lc018), W (T018.setTop (mkF m 118 #[.val (.long q0), .second, .val (.long q1), .second, .val (.long (-7046029254386353131 : Int64)), .second, .val (.ref b01), .val (.long (f2 q0)), .second, .val (.long (f2 (q0 + (-7046029254386353131 : Int64)))), .second, .val (.ref b05), .val (.long (f2 (q0 + (-7046029254386353131 : Int64)))), .second, .val (.ref b08), .val (.long (f2 q1)), .second, .val (.ref b011), .val (.long (f2 (0 : Int64))), .second, .val (.long (f2 ((0 : Int64) + (-7046029254386353131 : Int64)))), .second, .val (.int (1 : Int32)), .unset, .unset] [(.int v0_17)])) := by
    intro T018 lc018 v0_17 hv0_17  X018 e018 N018
    show W (T018.setTop (mkF m 118 #[.val (.long q0), .second, .val (.long q1), .second, .val (.long (-7046029254386353131 : Int64)), .second, .val (.ref b01), .val (.long (f2 q0)), .second, .val (.long (f2 (q0 + (-7046029254386353131 : Int64)))), .second, .val (.ref b05), .val (.long (f2 (q0 + (-7046029254386353131 : Int64)))), .second, .val (.ref b08), .val (.long (f2 q1)), .second, .val (.ref b011), .val (.long (f2 (0 : Int64))), .second, .val (.long (f2 ((0 : Int64) + (-7046029254386353131 : Int64)))), .second, .val (.int (1 : Int32)), .unset, .unset] [(.int v0_17)]))
    refine stp (fun t k => XS.lloadN X018.here hx rfl (hb hby at_118) rfl k) ?_
    show W (T018.setTop (mkF m 119 #[.val (.long q0), .second, .val (.long q1), .second, .val (.long (-7046029254386353131 : Int64)), .second, .val (.ref b01), .val (.long (f2 q0)), .second, .val (.long (f2 (q0 + (-7046029254386353131 : Int64)))), .second, .val (.ref b05), .val (.long (f2 (q0 + (-7046029254386353131 : Int64)))), .second, .val (.ref b08), .val (.long (f2 q1)), .second, .val (.ref b011), .val (.long (f2 (0 : Int64))), .second, .val (.long (f2 ((0 : Int64) + (-7046029254386353131 : Int64)))), .second, .val (.int (1 : Int32)), .unset, .unset] [(.long q0), (.int v0_17)]))
    refine stp (fun t k => XS.lloadN X018.here hx rfl (hb hby at_119) rfl k) ?_
    show W (T018.setTop (mkF m 120 #[.val (.long q0), .second, .val (.long q1), .second, .val (.long (-7046029254386353131 : Int64)), .second, .val (.ref b01), .val (.long (f2 q0)), .second, .val (.long (f2 (q0 + (-7046029254386353131 : Int64)))), .second, .val (.ref b05), .val (.long (f2 (q0 + (-7046029254386353131 : Int64)))), .second, .val (.ref b08), .val (.long (f2 q1)), .second, .val (.ref b011), .val (.long (f2 (0 : Int64))), .second, .val (.long (f2 ((0 : Int64) + (-7046029254386353131 : Int64)))), .second, .val (.int (1 : Int32)), .unset, .unset] [(.long q1), (.long q0), (.int v0_17)]))
    refine stp (fun t k => XS.lcmp X018.here hx rfl (hb hby at_120) rfl k) ?_
    show W (T018.setTop (mkF m 121 #[.val (.long q0), .second, .val (.long q1), .second, .val (.long (-7046029254386353131 : Int64)), .second, .val (.ref b01), .val (.long (f2 q0)), .second, .val (.long (f2 (q0 + (-7046029254386353131 : Int64)))), .second, .val (.ref b05), .val (.long (f2 (q0 + (-7046029254386353131 : Int64)))), .second, .val (.ref b08), .val (.long (f2 q1)), .second, .val (.ref b011), .val (.long (f2 (0 : Int64))), .second, .val (.long (f2 ((0 : Int64) + (-7046029254386353131 : Int64)))), .second, .val (.int (1 : Int32)), .unset, .unset] [(.int (lcmpW q0 q1)), (.int v0_17)]))
    have J0_129_21 : ∀ (T021 : State) (lc021 : List Loc) (v0_20 : Int32) (hv0_20 : v0_20 = (if q0 = q1 then (1 : Int32) else (0 : Int32))) (X021 : Stand p l e room_1 s m #[(.long q0), (.long q1)] below meth c T021 lc021 4 4) (e021 : T021.heap = h0c14) (N021 : Fr n0 lc021), W (T021.setTop (mkF m 129 #[.val (.long q0), .second, .val (.long q1), .second, .val (.long (-7046029254386353131 : Int64)), .second, .val (.ref b01), .val (.long (f2 q0)), .second, .val (.long (f2 (q0 + (-7046029254386353131 : Int64)))), .second, .val (.ref b05), .val (.long (f2 (q0 + (-7046029254386353131 : Int64)))), .second, .val (.ref b08), .val (.long (f2 q1)), .second, .val (.ref b011), .val (.long (f2 (0 : Int64))), .second, .val (.long (f2 ((0 : Int64) + (-7046029254386353131 : Int64)))), .second, .val (.int (1 : Int32)), .unset, .unset] [(.int v0_20), (.int v0_17)])) := by
      intro T021 lc021 v0_20 hv0_20  X021 e021 N021
      show W (T021.setTop (mkF m 129 #[.val (.long q0), .second, .val (.long q1), .second, .val (.long (-7046029254386353131 : Int64)), .second, .val (.ref b01), .val (.long (f2 q0)), .second, .val (.long (f2 (q0 + (-7046029254386353131 : Int64)))), .second, .val (.ref b05), .val (.long (f2 (q0 + (-7046029254386353131 : Int64)))), .second, .val (.ref b08), .val (.long (f2 q1)), .second, .val (.ref b011), .val (.long (f2 (0 : Int64))), .second, .val (.long (f2 ((0 : Int64) + (-7046029254386353131 : Int64)))), .second, .val (.int (1 : Int32)), .unset, .unset] [(.int v0_20), (.int v0_17)]))
      refine stp (fun t k => XS.icmpNo X021.here hx rfl (hb hby at_129) rfl ((teq (by subst hv0_17; subst hv0_20; exact own_0_129_22 q0 q1  )).2) k) ?_
      show W (T021.setTop (mkF m 132 #[.val (.long q0), .second, .val (.long q1), .second, .val (.long (-7046029254386353131 : Int64)), .second, .val (.ref b01), .val (.long (f2 q0)), .second, .val (.long (f2 (q0 + (-7046029254386353131 : Int64)))), .second, .val (.ref b05), .val (.long (f2 (q0 + (-7046029254386353131 : Int64)))), .second, .val (.ref b08), .val (.long (f2 q1)), .second, .val (.ref b011), .val (.long (f2 (0 : Int64))), .second, .val (.long (f2 ((0 : Int64) + (-7046029254386353131 : Int64)))), .second, .val (.int (1 : Int32)), .unset, .unset] []))
      refine stp (fun t k => XS.iconst X021.here hx rfl (hb hby at_132) k) ?_
      show W (T021.setTop (mkF m 133 #[.val (.long q0), .second, .val (.long q1), .second, .val (.long (-7046029254386353131 : Int64)), .second, .val (.ref b01), .val (.long (f2 q0)), .second, .val (.long (f2 (q0 + (-7046029254386353131 : Int64)))), .second, .val (.ref b05), .val (.long (f2 (q0 + (-7046029254386353131 : Int64)))), .second, .val (.ref b08), .val (.long (f2 q1)), .second, .val (.ref b011), .val (.long (f2 (0 : Int64))), .second, .val (.long (f2 ((0 : Int64) + (-7046029254386353131 : Int64)))), .second, .val (.int (1 : Int32)), .unset, .unset] [(.int (1 : Int32))]))
      refine stp (fun t k => XS.goto X021.here hx rfl (pc0 := 133) (pc' := 137) rfl (hb hby at_133) (by decide) (by decide) k) ?_
      show W (T021.setTop (mkF m 137 #[.val (.long q0), .second, .val (.long q1), .second, .val (.long (-7046029254386353131 : Int64)), .second, .val (.ref b01), .val (.long (f2 q0)), .second, .val (.long (f2 (q0 + (-7046029254386353131 : Int64)))), .second, .val (.ref b05), .val (.long (f2 (q0 + (-7046029254386353131 : Int64)))), .second, .val (.ref b08), .val (.long (f2 q1)), .second, .val (.ref b011), .val (.long (f2 (0 : Int64))), .second, .val (.long (f2 ((0 : Int64) + (-7046029254386353131 : Int64)))), .second, .val (.int (1 : Int32)), .unset, .unset] [(.int (1 : Int32))]))
      refine stp (fun t k => XS.istore X021.here hx rfl (hb hby at_137) rfl (l' := #[.val (.long q0), .second, .val (.long q1), .second, .val (.long (-7046029254386353131 : Int64)), .second, .val (.ref b01), .val (.long (f2 q0)), .second, .val (.long (f2 (q0 + (-7046029254386353131 : Int64)))), .second, .val (.ref b05), .val (.long (f2 (q0 + (-7046029254386353131 : Int64)))), .second, .val (.ref b08), .val (.long (f2 q1)), .second, .val (.ref b011), .val (.long (f2 (0 : Int64))), .second, .val (.long (f2 ((0 : Int64) + (-7046029254386353131 : Int64)))), .second, .val (.int (1 : Int32)), .val (.int (1 : Int32)), .unset]) rfl k) ?_
      show W (T021.setTop (mkF m 139 #[.val (.long q0), .second, .val (.long q1), .second, .val (.long (-7046029254386353131 : Int64)), .second, .val (.ref b01), .val (.long (f2 q0)), .second, .val (.long (f2 (q0 + (-7046029254386353131 : Int64)))), .second, .val (.ref b05), .val (.long (f2 (q0 + (-7046029254386353131 : Int64)))), .second, .val (.ref b08), .val (.long (f2 q1)), .second, .val (.ref b011), .val (.long (f2 (0 : Int64))), .second, .val (.long (f2 ((0 : Int64) + (-7046029254386353131 : Int64)))), .second, .val (.int (1 : Int32)), .val (.int (1 : Int32)), .unset] []))
      refine stp (fun t k => XS.lload X021.here hx rfl (hb hby at_139) rfl k) ?_
      show W (T021.setTop (mkF m 141 #[.val (.long q0), .second, .val (.long q1), .second, .val (.long (-7046029254386353131 : Int64)), .second, .val (.ref b01), .val (.long (f2 q0)), .second, .val (.long (f2 (q0 + (-7046029254386353131 : Int64)))), .second, .val (.ref b05), .val (.long (f2 (q0 + (-7046029254386353131 : Int64)))), .second, .val (.ref b08), .val (.long (f2 q1)), .second, .val (.ref b011), .val (.long (f2 (0 : Int64))), .second, .val (.long (f2 ((0 : Int64) + (-7046029254386353131 : Int64)))), .second, .val (.int (1 : Int32)), .val (.int (1 : Int32)), .unset] [(.long (f2 (0 : Int64)))]))
      refine stp (fun t k => X021.ldc2Long hx hown (mvT hZ (hw _ (List.mem_of_getElem? (i := 20) rfl))) (g := (mkF m 141 #[.val (.long q0), .second, .val (.long q1), .second, .val (.long (-7046029254386353131 : Int64)), .second, .val (.ref b01), .val (.long (f2 q0)), .second, .val (.long (f2 (q0 + (-7046029254386353131 : Int64)))), .second, .val (.ref b05), .val (.long (f2 (q0 + (-7046029254386353131 : Int64)))), .second, .val (.ref b08), .val (.long (f2 q1)), .second, .val (.ref b011), .val (.long (f2 (0 : Int64))), .second, .val (.long (f2 ((0 : Int64) + (-7046029254386353131 : Int64)))), .second, .val (.int (1 : Int32)), .val (.int (1 : Int32)), .unset] [(.long (f2 (0 : Int64)))])) rfl (hb hby at_141) _ k) ?_
      show W (T021.setTop (mkF m 144 #[.val (.long q0), .second, .val (.long q1), .second, .val (.long (-7046029254386353131 : Int64)), .second, .val (.ref b01), .val (.long (f2 q0)), .second, .val (.long (f2 (q0 + (-7046029254386353131 : Int64)))), .second, .val (.ref b05), .val (.long (f2 (q0 + (-7046029254386353131 : Int64)))), .second, .val (.ref b08), .val (.long (f2 q1)), .second, .val (.ref b011), .val (.long (f2 (0 : Int64))), .second, .val (.long (f2 ((0 : Int64) + (-7046029254386353131 : Int64)))), .second, .val (.int (1 : Int32)), .val (.int (1 : Int32)), .unset] [(.long (-2152535657050944081 : Int64)), (.long (f2 (0 : Int64)))]))
      refine stp (fun t k => XS.lcmp X021.here hx rfl (hb hby at_144) rfl k) ?_
      show W (T021.setTop (mkF m 145 #[.val (.long q0), .second, .val (.long q1), .second, .val (.long (-7046029254386353131 : Int64)), .second, .val (.ref b01), .val (.long (f2 q0)), .second, .val (.long (f2 (q0 + (-7046029254386353131 : Int64)))), .second, .val (.ref b05), .val (.long (f2 (q0 + (-7046029254386353131 : Int64)))), .second, .val (.ref b08), .val (.long (f2 q1)), .second, .val (.ref b011), .val (.long (f2 (0 : Int64))), .second, .val (.long (f2 ((0 : Int64) + (-7046029254386353131 : Int64)))), .second, .val (.int (1 : Int32)), .val (.int (1 : Int32)), .unset] [(.int (lcmpW (f2 (0 : Int64)) (-2152535657050944081 : Int64)))]))
      refine stp (fun t k => XS.ifNo X021.here hx rfl (hb hby at_145) rfl ((if0 _ _).trans (teq ((lw_eq (f2 (0 : Int64)) (-2152535657050944081 : Int64)).mpr (by subst hv0_17; subst hv0_20; exact own_0_145_23 q0 q1  ))).2) k) ?_
      show W (T021.setTop (mkF m 148 #[.val (.long q0), .second, .val (.long q1), .second, .val (.long (-7046029254386353131 : Int64)), .second, .val (.ref b01), .val (.long (f2 q0)), .second, .val (.long (f2 (q0 + (-7046029254386353131 : Int64)))), .second, .val (.ref b05), .val (.long (f2 (q0 + (-7046029254386353131 : Int64)))), .second, .val (.ref b08), .val (.long (f2 q1)), .second, .val (.ref b011), .val (.long (f2 (0 : Int64))), .second, .val (.long (f2 ((0 : Int64) + (-7046029254386353131 : Int64)))), .second, .val (.int (1 : Int32)), .val (.int (1 : Int32)), .unset] []))
      refine stp (fun t k => XS.lload X021.here hx rfl (hb hby at_148) rfl k) ?_
      show W (T021.setTop (mkF m 150 #[.val (.long q0), .second, .val (.long q1), .second, .val (.long (-7046029254386353131 : Int64)), .second, .val (.ref b01), .val (.long (f2 q0)), .second, .val (.long (f2 (q0 + (-7046029254386353131 : Int64)))), .second, .val (.ref b05), .val (.long (f2 (q0 + (-7046029254386353131 : Int64)))), .second, .val (.ref b08), .val (.long (f2 q1)), .second, .val (.ref b011), .val (.long (f2 (0 : Int64))), .second, .val (.long (f2 ((0 : Int64) + (-7046029254386353131 : Int64)))), .second, .val (.int (1 : Int32)), .val (.int (1 : Int32)), .unset] [(.long (f2 ((0 : Int64) + (-7046029254386353131 : Int64))))]))
      refine stp (fun t k => X021.ldc2Long hx hown (mvT hZ (hw _ (List.mem_of_getElem? (i := 21) rfl))) (g := (mkF m 150 #[.val (.long q0), .second, .val (.long q1), .second, .val (.long (-7046029254386353131 : Int64)), .second, .val (.ref b01), .val (.long (f2 q0)), .second, .val (.long (f2 (q0 + (-7046029254386353131 : Int64)))), .second, .val (.ref b05), .val (.long (f2 (q0 + (-7046029254386353131 : Int64)))), .second, .val (.ref b08), .val (.long (f2 q1)), .second, .val (.ref b011), .val (.long (f2 (0 : Int64))), .second, .val (.long (f2 ((0 : Int64) + (-7046029254386353131 : Int64)))), .second, .val (.int (1 : Int32)), .val (.int (1 : Int32)), .unset] [(.long (f2 ((0 : Int64) + (-7046029254386353131 : Int64))))])) rfl (hb hby at_150) _ k) ?_
      show W (T021.setTop (mkF m 153 #[.val (.long q0), .second, .val (.long q1), .second, .val (.long (-7046029254386353131 : Int64)), .second, .val (.ref b01), .val (.long (f2 q0)), .second, .val (.long (f2 (q0 + (-7046029254386353131 : Int64)))), .second, .val (.ref b05), .val (.long (f2 (q0 + (-7046029254386353131 : Int64)))), .second, .val (.ref b08), .val (.long (f2 q1)), .second, .val (.ref b011), .val (.long (f2 (0 : Int64))), .second, .val (.long (f2 ((0 : Int64) + (-7046029254386353131 : Int64)))), .second, .val (.int (1 : Int32)), .val (.int (1 : Int32)), .unset] [(.long (7960286522194355700 : Int64)), (.long (f2 ((0 : Int64) + (-7046029254386353131 : Int64))))]))
      refine stp (fun t k => XS.lcmp X021.here hx rfl (hb hby at_153) rfl k) ?_
      show W (T021.setTop (mkF m 154 #[.val (.long q0), .second, .val (.long q1), .second, .val (.long (-7046029254386353131 : Int64)), .second, .val (.ref b01), .val (.long (f2 q0)), .second, .val (.long (f2 (q0 + (-7046029254386353131 : Int64)))), .second, .val (.ref b05), .val (.long (f2 (q0 + (-7046029254386353131 : Int64)))), .second, .val (.ref b08), .val (.long (f2 q1)), .second, .val (.ref b011), .val (.long (f2 (0 : Int64))), .second, .val (.long (f2 ((0 : Int64) + (-7046029254386353131 : Int64)))), .second, .val (.int (1 : Int32)), .val (.int (1 : Int32)), .unset] [(.int (lcmpW (f2 ((0 : Int64) + (-7046029254386353131 : Int64))) (7960286522194355700 : Int64)))]))
      refine stp (fun t k => XS.ifNo X021.here hx rfl (hb hby at_154) rfl ((if0 _ _).trans (teq ((lw_eq (f2 ((0 : Int64) + (-7046029254386353131 : Int64))) (7960286522194355700 : Int64)).mpr (by subst hv0_17; subst hv0_20; exact own_0_154_24 q0 q1  ))).2) k) ?_
      show W (T021.setTop (mkF m 157 #[.val (.long q0), .second, .val (.long q1), .second, .val (.long (-7046029254386353131 : Int64)), .second, .val (.ref b01), .val (.long (f2 q0)), .second, .val (.long (f2 (q0 + (-7046029254386353131 : Int64)))), .second, .val (.ref b05), .val (.long (f2 (q0 + (-7046029254386353131 : Int64)))), .second, .val (.ref b08), .val (.long (f2 q1)), .second, .val (.ref b011), .val (.long (f2 (0 : Int64))), .second, .val (.long (f2 ((0 : Int64) + (-7046029254386353131 : Int64)))), .second, .val (.int (1 : Int32)), .val (.int (1 : Int32)), .unset] []))
      refine stp (fun t k => XS.iconst X021.here hx rfl (hb hby at_157) k) ?_
      show W (T021.setTop (mkF m 158 #[.val (.long q0), .second, .val (.long q1), .second, .val (.long (-7046029254386353131 : Int64)), .second, .val (.ref b01), .val (.long (f2 q0)), .second, .val (.long (f2 (q0 + (-7046029254386353131 : Int64)))), .second, .val (.ref b05), .val (.long (f2 (q0 + (-7046029254386353131 : Int64)))), .second, .val (.ref b08), .val (.long (f2 q1)), .second, .val (.ref b011), .val (.long (f2 (0 : Int64))), .second, .val (.long (f2 ((0 : Int64) + (-7046029254386353131 : Int64)))), .second, .val (.int (1 : Int32)), .val (.int (1 : Int32)), .unset] [(.int (1 : Int32))]))
      refine stp (fun t k => XS.goto X021.here hx rfl (pc0 := 158) (pc' := 162) rfl (hb hby at_158) (by decide) (by decide) k) ?_
      show W (T021.setTop (mkF m 162 #[.val (.long q0), .second, .val (.long q1), .second, .val (.long (-7046029254386353131 : Int64)), .second, .val (.ref b01), .val (.long (f2 q0)), .second, .val (.long (f2 (q0 + (-7046029254386353131 : Int64)))), .second, .val (.ref b05), .val (.long (f2 (q0 + (-7046029254386353131 : Int64)))), .second, .val (.ref b08), .val (.long (f2 q1)), .second, .val (.ref b011), .val (.long (f2 (0 : Int64))), .second, .val (.long (f2 ((0 : Int64) + (-7046029254386353131 : Int64)))), .second, .val (.int (1 : Int32)), .val (.int (1 : Int32)), .unset] [(.int (1 : Int32))]))
      refine stp (fun t k => XS.istore X021.here hx rfl (hb hby at_162) rfl (l' := #[.val (.long q0), .second, .val (.long q1), .second, .val (.long (-7046029254386353131 : Int64)), .second, .val (.ref b01), .val (.long (f2 q0)), .second, .val (.long (f2 (q0 + (-7046029254386353131 : Int64)))), .second, .val (.ref b05), .val (.long (f2 (q0 + (-7046029254386353131 : Int64)))), .second, .val (.ref b08), .val (.long (f2 q1)), .second, .val (.ref b011), .val (.long (f2 (0 : Int64))), .second, .val (.long (f2 ((0 : Int64) + (-7046029254386353131 : Int64)))), .second, .val (.int (1 : Int32)), .val (.int (1 : Int32)), .val (.int (1 : Int32))]) rfl k) ?_
      show W (T021.setTop (mkF m 164 #[.val (.long q0), .second, .val (.long q1), .second, .val (.long (-7046029254386353131 : Int64)), .second, .val (.ref b01), .val (.long (f2 q0)), .second, .val (.long (f2 (q0 + (-7046029254386353131 : Int64)))), .second, .val (.ref b05), .val (.long (f2 (q0 + (-7046029254386353131 : Int64)))), .second, .val (.ref b08), .val (.long (f2 q1)), .second, .val (.ref b011), .val (.long (f2 (0 : Int64))), .second, .val (.long (f2 ((0 : Int64) + (-7046029254386353131 : Int64)))), .second, .val (.int (1 : Int32)), .val (.int (1 : Int32)), .val (.int (1 : Int32))] []))
      refine stp (fun t k => XS.iload X021.here hx rfl (hb hby at_164) rfl k) ?_
      show W (T021.setTop (mkF m 166 #[.val (.long q0), .second, .val (.long q1), .second, .val (.long (-7046029254386353131 : Int64)), .second, .val (.ref b01), .val (.long (f2 q0)), .second, .val (.long (f2 (q0 + (-7046029254386353131 : Int64)))), .second, .val (.ref b05), .val (.long (f2 (q0 + (-7046029254386353131 : Int64)))), .second, .val (.ref b08), .val (.long (f2 q1)), .second, .val (.ref b011), .val (.long (f2 (0 : Int64))), .second, .val (.long (f2 ((0 : Int64) + (-7046029254386353131 : Int64)))), .second, .val (.int (1 : Int32)), .val (.int (1 : Int32)), .val (.int (1 : Int32))] [(.int (1 : Int32))]))
      refine stp (fun t k => XS.ifNo X021.here hx rfl (hb hby at_166) rfl ((if0 _ _).trans (feq (by subst hv0_17; subst hv0_20; exact own_0_166_25 q0 q1  )).1) k) ?_
      show W (T021.setTop (mkF m 169 #[.val (.long q0), .second, .val (.long q1), .second, .val (.long (-7046029254386353131 : Int64)), .second, .val (.ref b01), .val (.long (f2 q0)), .second, .val (.long (f2 (q0 + (-7046029254386353131 : Int64)))), .second, .val (.ref b05), .val (.long (f2 (q0 + (-7046029254386353131 : Int64)))), .second, .val (.ref b08), .val (.long (f2 q1)), .second, .val (.ref b011), .val (.long (f2 (0 : Int64))), .second, .val (.long (f2 ((0 : Int64) + (-7046029254386353131 : Int64)))), .second, .val (.int (1 : Int32)), .val (.int (1 : Int32)), .val (.int (1 : Int32))] []))
      refine stp (fun t k => XS.iload X021.here hx rfl (hb hby at_169) rfl k) ?_
      show W (T021.setTop (mkF m 171 #[.val (.long q0), .second, .val (.long q1), .second, .val (.long (-7046029254386353131 : Int64)), .second, .val (.ref b01), .val (.long (f2 q0)), .second, .val (.long (f2 (q0 + (-7046029254386353131 : Int64)))), .second, .val (.ref b05), .val (.long (f2 (q0 + (-7046029254386353131 : Int64)))), .second, .val (.ref b08), .val (.long (f2 q1)), .second, .val (.ref b011), .val (.long (f2 (0 : Int64))), .second, .val (.long (f2 ((0 : Int64) + (-7046029254386353131 : Int64)))), .second, .val (.int (1 : Int32)), .val (.int (1 : Int32)), .val (.int (1 : Int32))] [(.int (1 : Int32))]))
      refine stp (fun t k => XS.ifNo X021.here hx rfl (hb hby at_171) rfl ((if0 _ _).trans (feq (by subst hv0_17; subst hv0_20; exact own_0_171_26 q0 q1  )).1) k) ?_
      show W (T021.setTop (mkF m 174 #[.val (.long q0), .second, .val (.long q1), .second, .val (.long (-7046029254386353131 : Int64)), .second, .val (.ref b01), .val (.long (f2 q0)), .second, .val (.long (f2 (q0 + (-7046029254386353131 : Int64)))), .second, .val (.ref b05), .val (.long (f2 (q0 + (-7046029254386353131 : Int64)))), .second, .val (.ref b08), .val (.long (f2 q1)), .second, .val (.ref b011), .val (.long (f2 (0 : Int64))), .second, .val (.long (f2 ((0 : Int64) + (-7046029254386353131 : Int64)))), .second, .val (.int (1 : Int32)), .val (.int (1 : Int32)), .val (.int (1 : Int32))] []))
      refine stp (fun t k => XS.iload X021.here hx rfl (hb hby at_174) rfl k) ?_
      show W (T021.setTop (mkF m 176 #[.val (.long q0), .second, .val (.long q1), .second, .val (.long (-7046029254386353131 : Int64)), .second, .val (.ref b01), .val (.long (f2 q0)), .second, .val (.long (f2 (q0 + (-7046029254386353131 : Int64)))), .second, .val (.ref b05), .val (.long (f2 (q0 + (-7046029254386353131 : Int64)))), .second, .val (.ref b08), .val (.long (f2 q1)), .second, .val (.ref b011), .val (.long (f2 (0 : Int64))), .second, .val (.long (f2 ((0 : Int64) + (-7046029254386353131 : Int64)))), .second, .val (.int (1 : Int32)), .val (.int (1 : Int32)), .val (.int (1 : Int32))] [(.int (1 : Int32))]))
      refine stp (fun t k => XS.ifNo X021.here hx rfl (hb hby at_176) rfl ((if0 _ _).trans (feq (by subst hv0_17; subst hv0_20; exact own_0_176_27 q0 q1  )).1) k) ?_
      show W (T021.setTop (mkF m 179 #[.val (.long q0), .second, .val (.long q1), .second, .val (.long (-7046029254386353131 : Int64)), .second, .val (.ref b01), .val (.long (f2 q0)), .second, .val (.long (f2 (q0 + (-7046029254386353131 : Int64)))), .second, .val (.ref b05), .val (.long (f2 (q0 + (-7046029254386353131 : Int64)))), .second, .val (.ref b08), .val (.long (f2 q1)), .second, .val (.ref b011), .val (.long (f2 (0 : Int64))), .second, .val (.long (f2 ((0 : Int64) + (-7046029254386353131 : Int64)))), .second, .val (.int (1 : Int32)), .val (.int (1 : Int32)), .val (.int (1 : Int32))] []))
      refine stp (fun t k => XS.iconst X021.here hx rfl (hb hby at_179) k) ?_
      show W (T021.setTop (mkF m 180 #[.val (.long q0), .second, .val (.long q1), .second, .val (.long (-7046029254386353131 : Int64)), .second, .val (.ref b01), .val (.long (f2 q0)), .second, .val (.long (f2 (q0 + (-7046029254386353131 : Int64)))), .second, .val (.ref b05), .val (.long (f2 (q0 + (-7046029254386353131 : Int64)))), .second, .val (.ref b08), .val (.long (f2 q1)), .second, .val (.ref b011), .val (.long (f2 (0 : Int64))), .second, .val (.long (f2 ((0 : Int64) + (-7046029254386353131 : Int64)))), .second, .val (.int (1 : Int32)), .val (.int (1 : Int32)), .val (.int (1 : Int32))] [(.int (1 : Int32))]))
      refine stp (fun t k => XS.goto X021.here hx rfl (pc0 := 180) (pc' := 184) rfl (hb hby at_180) (by decide) (by decide) k) ?_
      show W (T021.setTop (mkF m 184 #[.val (.long q0), .second, .val (.long q1), .second, .val (.long (-7046029254386353131 : Int64)), .second, .val (.ref b01), .val (.long (f2 q0)), .second, .val (.long (f2 (q0 + (-7046029254386353131 : Int64)))), .second, .val (.ref b05), .val (.long (f2 (q0 + (-7046029254386353131 : Int64)))), .second, .val (.ref b08), .val (.long (f2 q1)), .second, .val (.ref b011), .val (.long (f2 (0 : Int64))), .second, .val (.long (f2 ((0 : Int64) + (-7046029254386353131 : Int64)))), .second, .val (.int (1 : Int32)), .val (.int (1 : Int32)), .val (.int (1 : Int32))] [(.int (1 : Int32))]))
      show W (T021.setTop (mkF m 184 #[.val (.long q0), .second, .val (.long q1), .second, .val (.long (-7046029254386353131 : Int64)), .second, .val (.ref b01), .val (.long (f2 q0)), .second, .val (.long (f2 (q0 + (-7046029254386353131 : Int64)))), .second, .val (.ref b05), .val (.long (f2 (q0 + (-7046029254386353131 : Int64)))), .second, .val (.ref b08), .val (.long (f2 q1)), .second, .val (.ref b011), .val (.long (f2 (0 : Int64))), .second, .val (.long (f2 ((0 : Int64) + (-7046029254386353131 : Int64)))), .second, .val (.int (1 : Int32)), .val (.int (1 : Int32)), .val (.int (1 : Int32))] [(.int (1 : Int32))]))
      rw [← hW]
      exact own_retN X021 hx Bd.notSynchronized Bd.returns (w := (1 : Int32)) (by simp) (hb hby at_184) rfl (by show Q0 Z q0 q1 h0 n0 _ T021.heap _; rw [e021]; exact ⟨rfl, N021⟩) (by decide) (by decide)
    by_cases hc0_19 : q0 = q1
    · refine stp (fun t k => XS.ifNo X018.here hx rfl (hb hby at_121) rfl ((if0 _ _).trans (teq ((lw_eq q0 q1).mpr hc0_19)).2) k) ?_
      show W (T018.setTop (mkF m 124 #[.val (.long q0), .second, .val (.long q1), .second, .val (.long (-7046029254386353131 : Int64)), .second, .val (.ref b01), .val (.long (f2 q0)), .second, .val (.long (f2 (q0 + (-7046029254386353131 : Int64)))), .second, .val (.ref b05), .val (.long (f2 (q0 + (-7046029254386353131 : Int64)))), .second, .val (.ref b08), .val (.long (f2 q1)), .second, .val (.ref b011), .val (.long (f2 (0 : Int64))), .second, .val (.long (f2 ((0 : Int64) + (-7046029254386353131 : Int64)))), .second, .val (.int (1 : Int32)), .unset, .unset] [(.int v0_17)]))
      refine stp (fun t k => XS.iconst X018.here hx rfl (hb hby at_124) k) ?_
      show W (T018.setTop (mkF m 125 #[.val (.long q0), .second, .val (.long q1), .second, .val (.long (-7046029254386353131 : Int64)), .second, .val (.ref b01), .val (.long (f2 q0)), .second, .val (.long (f2 (q0 + (-7046029254386353131 : Int64)))), .second, .val (.ref b05), .val (.long (f2 (q0 + (-7046029254386353131 : Int64)))), .second, .val (.ref b08), .val (.long (f2 q1)), .second, .val (.ref b011), .val (.long (f2 (0 : Int64))), .second, .val (.long (f2 ((0 : Int64) + (-7046029254386353131 : Int64)))), .second, .val (.int (1 : Int32)), .unset, .unset] [(.int (1 : Int32)), (.int v0_17)]))
      refine stp (fun t k => XS.goto X018.here hx rfl (pc0 := 125) (pc' := 129) rfl (hb hby at_125) (by decide) (by decide) k) ?_
      show W (T018.setTop (mkF m 129 #[.val (.long q0), .second, .val (.long q1), .second, .val (.long (-7046029254386353131 : Int64)), .second, .val (.ref b01), .val (.long (f2 q0)), .second, .val (.long (f2 (q0 + (-7046029254386353131 : Int64)))), .second, .val (.ref b05), .val (.long (f2 (q0 + (-7046029254386353131 : Int64)))), .second, .val (.ref b08), .val (.long (f2 q1)), .second, .val (.ref b011), .val (.long (f2 (0 : Int64))), .second, .val (.long (f2 ((0 : Int64) + (-7046029254386353131 : Int64)))), .second, .val (.int (1 : Int32)), .unset, .unset] [(.int (1 : Int32)), (.int v0_17)]))
      exact J0_129_21 _ _ (1 : Int32) (by first | rfl | simp only [if_pos hc0_19]) X018 e018 N018
    · refine stp (fun t k => XS.ifYes X018.here hx rfl (pc0 := 121) (pc' := 128) rfl (hb hby at_121) rfl ((if0 _ _).trans (feq (fun q => hc0_19 ((lw_eq q0 q1).mp q))).2) (by decide) (by decide) k) ?_
      show W (T018.setTop (mkF m 128 #[.val (.long q0), .second, .val (.long q1), .second, .val (.long (-7046029254386353131 : Int64)), .second, .val (.ref b01), .val (.long (f2 q0)), .second, .val (.long (f2 (q0 + (-7046029254386353131 : Int64)))), .second, .val (.ref b05), .val (.long (f2 (q0 + (-7046029254386353131 : Int64)))), .second, .val (.ref b08), .val (.long (f2 q1)), .second, .val (.ref b011), .val (.long (f2 (0 : Int64))), .second, .val (.long (f2 ((0 : Int64) + (-7046029254386353131 : Int64)))), .second, .val (.int (1 : Int32)), .unset, .unset] [(.int v0_17)]))
      refine stp (fun t k => XS.iconst X018.here hx rfl (hb hby at_128) k) ?_
      show W (T018.setTop (mkF m 129 #[.val (.long q0), .second, .val (.long q1), .second, .val (.long (-7046029254386353131 : Int64)), .second, .val (.ref b01), .val (.long (f2 q0)), .second, .val (.long (f2 (q0 + (-7046029254386353131 : Int64)))), .second, .val (.ref b05), .val (.long (f2 (q0 + (-7046029254386353131 : Int64)))), .second, .val (.ref b08), .val (.long (f2 q1)), .second, .val (.ref b011), .val (.long (f2 (0 : Int64))), .second, .val (.long (f2 ((0 : Int64) + (-7046029254386353131 : Int64)))), .second, .val (.int (1 : Int32)), .unset, .unset] [(.int (0 : Int32)), (.int v0_17)]))
      exact J0_129_21 _ _ (0 : Int32) (by first | rfl | simp only [if_neg hc0_19]) X018 e018 N018
  by_cases hc0_16 : (f2 q0) = (f2 q1)
  · refine stp (fun t k => XS.ifNo X0c14.here hx rfl (hb hby at_110) rfl ((if0 _ _).trans (teq ((lw_eq (f2 q0) (f2 q1)).mpr hc0_16)).2) k) ?_
    show W (T0c14.setTop (mkF m 113 #[.val (.long q0), .second, .val (.long q1), .second, .val (.long (-7046029254386353131 : Int64)), .second, .val (.ref b01), .val (.long (f2 q0)), .second, .val (.long (f2 (q0 + (-7046029254386353131 : Int64)))), .second, .val (.ref b05), .val (.long (f2 (q0 + (-7046029254386353131 : Int64)))), .second, .val (.ref b08), .val (.long (f2 q1)), .second, .val (.ref b011), .val (.long (f2 (0 : Int64))), .second, .val (.long (f2 ((0 : Int64) + (-7046029254386353131 : Int64)))), .second, .val (.int (1 : Int32)), .unset, .unset] []))
    refine stp (fun t k => XS.iconst X0c14.here hx rfl (hb hby at_113) k) ?_
    show W (T0c14.setTop (mkF m 114 #[.val (.long q0), .second, .val (.long q1), .second, .val (.long (-7046029254386353131 : Int64)), .second, .val (.ref b01), .val (.long (f2 q0)), .second, .val (.long (f2 (q0 + (-7046029254386353131 : Int64)))), .second, .val (.ref b05), .val (.long (f2 (q0 + (-7046029254386353131 : Int64)))), .second, .val (.ref b08), .val (.long (f2 q1)), .second, .val (.ref b011), .val (.long (f2 (0 : Int64))), .second, .val (.long (f2 ((0 : Int64) + (-7046029254386353131 : Int64)))), .second, .val (.int (1 : Int32)), .unset, .unset] [(.int (1 : Int32))]))
    refine stp (fun t k => XS.goto X0c14.here hx rfl (pc0 := 114) (pc' := 118) rfl (hb hby at_114) (by decide) (by decide) k) ?_
    show W (T0c14.setTop (mkF m 118 #[.val (.long q0), .second, .val (.long q1), .second, .val (.long (-7046029254386353131 : Int64)), .second, .val (.ref b01), .val (.long (f2 q0)), .second, .val (.long (f2 (q0 + (-7046029254386353131 : Int64)))), .second, .val (.ref b05), .val (.long (f2 (q0 + (-7046029254386353131 : Int64)))), .second, .val (.ref b08), .val (.long (f2 q1)), .second, .val (.ref b011), .val (.long (f2 (0 : Int64))), .second, .val (.long (f2 ((0 : Int64) + (-7046029254386353131 : Int64)))), .second, .val (.int (1 : Int32)), .unset, .unset] [(.int (1 : Int32))]))
    exact J0_118_18 _ _ (1 : Int32) (by first | rfl | simp only [if_pos hc0_16]) X0c14 e0c14 N0c14
  · refine stp (fun t k => XS.ifYes X0c14.here hx rfl (pc0 := 110) (pc' := 117) rfl (hb hby at_110) rfl ((if0 _ _).trans (feq (fun q => hc0_16 ((lw_eq (f2 q0) (f2 q1)).mp q))).2) (by decide) (by decide) k) ?_
    show W (T0c14.setTop (mkF m 117 #[.val (.long q0), .second, .val (.long q1), .second, .val (.long (-7046029254386353131 : Int64)), .second, .val (.ref b01), .val (.long (f2 q0)), .second, .val (.long (f2 (q0 + (-7046029254386353131 : Int64)))), .second, .val (.ref b05), .val (.long (f2 (q0 + (-7046029254386353131 : Int64)))), .second, .val (.ref b08), .val (.long (f2 q1)), .second, .val (.ref b011), .val (.long (f2 (0 : Int64))), .second, .val (.long (f2 ((0 : Int64) + (-7046029254386353131 : Int64)))), .second, .val (.int (1 : Int32)), .unset, .unset] []))
    refine stp (fun t k => XS.iconst X0c14.here hx rfl (hb hby at_117) k) ?_
    show W (T0c14.setTop (mkF m 118 #[.val (.long q0), .second, .val (.long q1), .second, .val (.long (-7046029254386353131 : Int64)), .second, .val (.ref b01), .val (.long (f2 q0)), .second, .val (.long (f2 (q0 + (-7046029254386353131 : Int64)))), .second, .val (.ref b05), .val (.long (f2 (q0 + (-7046029254386353131 : Int64)))), .second, .val (.ref b08), .val (.long (f2 q1)), .second, .val (.ref b011), .val (.long (f2 (0 : Int64))), .second, .val (.long (f2 ((0 : Int64) + (-7046029254386353131 : Int64)))), .second, .val (.int (1 : Int32)), .unset, .unset] [(.int (0 : Int32))]))
    exact J0_118_18 _ _ (0 : Int32) (by first | rfl | simp only [if_neg hc0_16]) X0c14 e0c14 N0c14
set_option maxRecDepth 65536 in
set_option maxHeartbeats 40000000 in
theorem comes_1 {Post : Tables → Env → Array Value → State → Outcome → State → Prop} (hpost : ∀ tb e args s v u, (limb_1_1.after args s (.returned v) u = true ∧ limb_1_2.after args s (.returned v) u = true ∧ True) → FrameEnd s (.returned v) u (Jvm.fieldLocs frame_1_writes args s ++ Jvm.arrayLocs frame_1_arrays args s ++ Jvm.staticLocs frame_1_statics s) 16 128 → Post tb e args s (.returned v) u) :
    ArmFor flags0 classFile x code maxLocals ret World_1 tables_1 room_1 Calls_1 rest_1 Pre_1 Post := by
  intro l hfl _ _ p e ha hc hk s m args below hf hA hF happ hP
  obtain ⟨hcalls, hrest, hpre⟩ := hP
  obtain ⟨-, -, -, hnamed, -, -, -, hat⟩ := (Spec.applies_iff hf).mp happ
  obtain ⟨hg, hn⟩ := and_e (Cond.before_iff.mp (show (Jvm.Cond.and given_1 narrow_1).before args s = true from hpre))
  obtain ⟨gc, hg⟩ := and_e hg
  obtain ⟨g0, hg⟩ := and_e hg
  have g1 := hg
  obtain ⟨w0, w1, rfl⟩ : ∃ w0 w1 : Value, args = #[w0, w1] := by
    have hs : args.size = 2 := by simpa [Cond.value, given_1] using gc
    obtain ⟨L⟩ := args
    match L, hs with
    | [w0, w1], _ => exact ⟨w0, w1, rfl⟩
  have hw := fun d (hd : d ∈ tables_1) => atoms_spec (ws := Jvm.Cond.code x code maxLocals ret :: tables_1) hat d (List.mem_cons_of_mem _ hd)
  have hfit : Fit s := fun {y c} hc i hi => by
    obtain ⟨ha, rfl⟩ := Array.getElem?_eq_some_iff.mp hc
    have q := List.all_eq_true.mp ((Array.all_eq_true_iff_forall_mem.mp hF) _ (Array.getElem_mem ha)) i (List.mem_range.mpr hi)
    simpa [Array.getElem?_eq_getElem hi] using q
  obtain ⟨i0, ei0⟩ := isL_v g0
  obtain rfl : w0 = (.long i0) := Option.some.inj ei0
  obtain ⟨i1, ei1⟩ := isL_v g1
  obtain rfl : w1 = (.long i1) := Option.some.inj ei1
  obtain ⟨n, o, h1, h2, h3, _, L, rfl, ⟨rfl, N⟩, hq⟩ := rm0 l s _ hw tables_1 i0 i1 s.heap s.heap.size (Nat.le_refl _) p e ha hc hk s m _ below hf ((Spec.applies_iff_loose hf).mp happ).1 ⟨rfl, State.Warmed39.refl s, rfl⟩ trivial
  refine ⟨n, _, h1, h2, h3, hpost _ _ _ _ _ _ ⟨Cond.after_iff.mpr rfl, Cond.after_iff.mpr (eq_i res_at (Term.int_eval (1)) rfl), trivial⟩ ⟨hq.1, hq.2.1, (hq.2.2.sift fun y hy => Or.inr (N y hy)).mono (by decide) (by decide)⟩⟩
theorem main_1_1 : Claimed_1_1 := comes_1 fun _ _ _ _ _ _ h hF => ⟨h.1, hF⟩
theorem main_1_2 : Claimed_1_2 := comes_1 fun _ _ _ _ _ _ h hF => ⟨h.2.1, hF⟩
end Jvm.Pilot.@@N@@
namespace Jvm.Pilot.@@N@@
open Jvm Jvm.ClassFile Sem Op Lib Jvm.Free Jvm.Stand Jvm.Pilot.@@N@@.Jvm.D
/-! MADE BY PROGRAM (witnessworld.py) out of the Statement's table words and the real class files: 10 classes; the members and pool entries that the words name. The judged class is class 1, her method 1. -/
namespace start1
open Jvm.ClassFile
def u (s : String) : CpInfo := .utf8 (stringToUtf16 s)
/-- a pool by its gaps: so many unusable entries, then the entry; so many at the end -/
def gap : Nat → List CpInfo → List CpInfo
  | 0, r => r
  | n + 1, r => .unusable :: gap n r
def poolList (es : List (Nat × CpInfo)) (last : Nat) : List CpInfo := es.foldr (fun e r => gap e.1 (e.2 :: r)) (gap last [])
def pool (es : List (Nat × CpInfo)) (last : Nat) : Array CpInfo := ⟨poolList es last⟩
def fileOf (pool : Array CpInfo) (this : Nat) (attrs : Array Attribute := #[]) (ms : Array MethodInfo := #[]) (fl : Nat := 33) (sup : Nat := 0) (ifs : Array Nat := #[]) (fds : Array FieldInfo := #[]) : ClassFile where
  minorVersion := 0
  majorVersion := 65
  constantPool := pool
  accessFlags := fl
  thisClass := this
  superClass := sup
  interfaces := ifs
  fields := fds
  methods := ms
  attributes := attrs
def plain (name : String) (sup : Option ClassId) : Class where
  name := name
  kind := .ordinary
  loader := none
  accessFlags := 33
  super := sup
  interfaces := #[]
  cf := none
  fields := #[]
  methods := #[]
  instanceTypes := #[]
  staticTypes := #[]
  resolved := #[]
  callSites := []
  init := .initialized
  statics := none
  mirror := none

def pool0 : Array CpInfo := pool [(5, u "<init>"), (0, u "()V"), (1, .class_ 10), (1, u "java/lang/Object")] 113

def k0c0 : Code := { maxStack := 0, maxLocals := 1, code := object_method_1_code, exceptionTable := #[], attributes := #[] }
def k0m0 : Method := { name := "<init>", desc := "()V", sig := { parameters := [], returnType := none }, accessFlags := 1, code := some k0c0 }
/-- java/lang/Object -/
def k0 : Class := { plain "java/lang/Object" none with
  accessFlags := 33
  interfaces := #[]
  cf := some (fileOf pool0 8 #[] #[{ accessFlags := 1, nameIndex := 5, descriptorIndex := 6, attributes := #[] }] 33 0 #[] #[])
  fields := #[]
  methods := #[k0m0]
  instanceTypes := #[]
  staticTypes := #[]
  resolved := Array.replicate 124 none
  statics := none }

def pool1 : Array CpInfo := pool [(2, .class_ 4), (1, u "java/lang/Object"), (0, u "<init>"), (0, u "()V"), (0, .long 11400714819323198485), (1, .class_ 10), (0, u "com/example/probematch/probematch/engine/SplitMix64"), (0, .methodref 9 12), (0, .nameAndType 5 13), (0, u "(J)V"), (0, .methodref 9 15), (0, .nameAndType 16 17), (0, u "nextLong"), (0, u "()J"), (0, .long 16294208416658607535), (1, .long 7960286522194355700), (1, .class_ 23), (0, u "com/example/probematch/probematch/engine/SplitMix64NextLongPinLaw"), (2, u "law"), (0, u "(JJ)Z")] 3

def k1m0 : Method := { name := "<init>", desc := "()V", sig := { parameters := [], returnType := none }, accessFlags := 2, code := none }
def k1c1 : Code := { maxStack := 6, maxLocals := 25, code := code, exceptionTable := #[], attributes := #[] }
def k1m1 : Method := { name := "law", desc := "(JJ)Z", sig := { parameters := [.long, .long], returnType := some .boolean }, accessFlags := 9, code := some k1c1 }
/-- com/example/probematch/probematch/engine/SplitMix64NextLongPinLaw -/
def k1 : Class := { plain "com/example/probematch/probematch/engine/SplitMix64NextLongPinLaw" (some 0) with
  accessFlags := 49
  interfaces := #[]
  cf := some (fileOf pool1 22 #[] #[{ accessFlags := 2, nameIndex := 5, descriptorIndex := 6, attributes := #[] }, { accessFlags := 9, nameIndex := 26, descriptorIndex := 27, attributes := #[] }] 49 2 #[] #[])
  fields := #[]
  methods := #[k1m0, k1m1]
  instanceTypes := #[]
  staticTypes := #[]
  resolved := Array.replicate 31 none
  statics := none }

def pool2 : Array CpInfo := pool [(7, .class_ 8), (0, u "java/util/random/RandomGenerator"), (199, .class_ 209), (0, u "java/lang/Object"), (52, .class_ 263), (0, u "java/util/random/RandomGenerator$ArbitrarilyJumpableGenerator"), (0, .class_ 265), (0, u "java/util/random/RandomGenerator$LeapableGenerator"), (0, .class_ 267), (0, u "java/util/random/RandomGenerator$JumpableGenerator"), (0, .class_ 269), (0, u "java/util/random/RandomGenerator$SplittableGenerator"), (0, .class_ 271), (0, u "java/util/random/RandomGenerator$StreamableGenerator")] 36

/-- java/util/random/RandomGenerator -/
def k2 : Class := { plain "java/util/random/RandomGenerator" (some 0) with
  accessFlags := 1537
  interfaces := #[]
  cf := some (fileOf pool2 7 #[.nestMembers #[262, 264, 266, 268, 270]] #[] 1537 208 #[] #[])
  fields := #[]
  methods := #[]
  instanceTypes := #[]
  staticTypes := #[]
  resolved := Array.replicate 308 none
  statics := none }

def pool3 : Array CpInfo := pool [(1, .methodref 2 3), (0, .class_ 4), (0, .nameAndType 5 6), (0, u "java/lang/Object"), (0, u "<init>"), (0, u "()V"), (0, .fieldref 8 9), (0, .class_ 10), (0, .nameAndType 11 12), (0, u "com/example/probematch/probematch/engine/SplitMix64"), (0, u "state"), (0, u "J"), (0, .long 11400714819323198485), (1, .long 13787848793156543929), (1, .long 10723151780598845931), (3, u "nextLong"), (0, u "()J"), (2, .class_ 26), (0, u "java/util/random/RandomGenerator"), (0, u "STEP"), (1, u "(J)V")] 6

def k3c0 : Code := { maxStack := 3, maxLocals := 3, code := prog_4_method_1_code, exceptionTable := #[], attributes := #[] }
def k3m0 : Method := { name := "<init>", desc := "(J)V", sig := { parameters := [.long], returnType := none }, accessFlags := 0, code := some k3c0 }
def k3c1 : Code := { maxStack := 5, maxLocals := 3, code := prog_4_method_2_code, exceptionTable := #[], attributes := #[] }
def k3m1 : Method := { name := "nextLong", desc := "()J", sig := { parameters := [], returnType := some .long }, accessFlags := 1, code := some k3c1 }
/-- com/example/probematch/probematch/engine/SplitMix64 -/
def k3 : Class := { plain "com/example/probematch/probematch/engine/SplitMix64" (some 0) with
  accessFlags := 48
  interfaces := #[2]
  cf := some (fileOf pool3 8 #[] #[{ accessFlags := 0, nameIndex := 5, descriptorIndex := 29, attributes := #[] }, { accessFlags := 1, nameIndex := 21, descriptorIndex := 22, attributes := #[] }] 48 2 #[25] #[{ accessFlags := 26, nameIndex := 27, descriptorIndex := 12, attributes := #[] }, { accessFlags := 2, nameIndex := 11, descriptorIndex := 12, attributes := #[] }])
  fields := #[{ name := "STEP", type := .long, accessFlags := 26, slot := 0, constantValue := 0 }, { name := "state", type := .long, accessFlags := 2, slot := 0, constantValue := 0 }]
  methods := #[k3m0, k3m1]
  instanceTypes := #[.long]
  staticTypes := #[.long]
  resolved := Array.replicate 36 none
  statics := none }

def pool4 : Array CpInfo := pool [(1, u "java/lang/Cloneable"), (0, .class_ 1), (0, u "java/lang/Object"), (0, .class_ 3)] 3

/-- java/lang/Cloneable -/
def k4 : Class := { plain "java/lang/Cloneable" (some 0) with
  accessFlags := 1537
  interfaces := #[]
  cf := some (fileOf pool4 2 #[] #[] 1537 4 #[] #[])
  fields := #[]
  methods := #[]
  instanceTypes := #[]
  staticTypes := #[]
  resolved := Array.replicate 8 none
  statics := none }

def pool5 : Array CpInfo := pool [(1, u "java/io/Serializable"), (0, .class_ 1), (0, u "java/lang/Object"), (0, .class_ 3)] 3

/-- java/io/Serializable -/
def k5 : Class := { plain "java/io/Serializable" (some 0) with
  accessFlags := 1537
  interfaces := #[]
  cf := some (fileOf pool5 2 #[] #[] 1537 4 #[] #[])
  fields := #[]
  methods := #[]
  instanceTypes := #[]
  staticTypes := #[]
  resolved := Array.replicate 8 none
  statics := none }

/-- the primitive byte -/
def k6 : Class := { plain "byte" none with kind := .primitive 'B', accessFlags := 0x411 }
/-- [B -/
def k7 : Class := { plain "[B" (some 0) with kind := .array 6 .byte, interfaces := #[4, 5], accessFlags := 1041 }

/-- the primitive int -/
def k8 : Class := { plain "int" none with kind := .primitive 'I', accessFlags := 0x411 }
/-- [I -/
def k9 : Class := { plain "[I" (some 0) with kind := .array 8 .int, interfaces := #[4, 5], accessFlags := 1041 }

def heap : Heap := #[]
def classes : Array Class := #[k0, k1, k2, k3, k4, k5, k6, k7, k8, k9]
def interned : List (Array UInt16 × Addr) := []
def slotsUsed : Nat := 0
def theMethod : MethodId := ⟨1, 1⟩
def args0 : Array Value := #[.long 5, .long 3]
def aboutOver (below : List Frame) : State where
  vm := { classes := classes, interned := interned.toArray }
  heap := heap
  slotsUsed := slotsUsed
  threads := #[{ frames := .invoking theMethod args0 :: below }]
def below0 : List Frame := [.native { method := ⟨0, 0⟩, args := #[] }]
def about1 : State := aboutOver below0
def p0 : Program := .bare "" "" ""
def e0 : Env := launch0.env 0 0 0
theorem w_frames : about1.frames = Frame.invoking theMethod args0 :: below0 := rfl
set_option maxRecDepth 65536 in
theorem w_args : argsFit about1.vm theMethod args0 = true := by decide +kernel
set_option maxRecDepth 65536 in
theorem w_heap : heapFits about1 = true := by decide +kernel
set_option maxRecDepth 65536 in
theorem w_runnable : about1.curStatus? = some .runnable := by decide +kernel
set_option maxRecDepth 65536 in
theorem w_alone : about1.alone = true := by decide +kernel
set_option maxRecDepth 65536 in
theorem w_named : about1.methodNamed? x = some theMethod := by decide +kernel
set_option maxRecDepth 65536 in
theorem w_hears : about1.hears theMethod below0 = true := by decide +kernel
set_option maxRecDepth 65536 in
theorem w_ripe : about1.ripe theMethod args0 below0 = true := by decide +kernel
theorem w_running : about1.status = .running := rfl
set_option maxRecDepth 65536 in
theorem w_room : about1.hasRoom e0.platform room_1 = true :=
  launch0.hasRoom_least _ room_1 (by decide +kernel) (by decide +kernel) (by decide +kernel) (by decide +kernel) (by decide +kernel) (by decide +kernel)
theorem allAtoms_all (ts : List Jvm.Cond) (a : Array Jvm.Value) (st : Jvm.State) : (allAtoms ts).before a st = ts.all (fun c => c.before a st) := by
  induction ts with
  | nil => rfl
  | cons c t ih =>
    show (Jvm.Cond.and c (allAtoms t)).before a st = _
    rw [Jvm.Cond.before_and, ih, List.all_cons]
def words1 : List Jvm.Cond := Jvm.Cond.code x code maxLocals ret :: tables_1
/-- a 'code' word, met by the world's own term for the bytes: nothing is compared byte by byte -/
theorem code_word {y : MethodName} {bytes : ByteArray} {mx : Nat} {rt : Option FieldType} {a : Array Value} {s : State} {m : MethodId} {meth : Method} {c : Code} (h1 : s.methodNamed? y = some m) (h2 : s.vm.method? m = some meth) (h3 : meth.code = some c) (h4 : c.code = bytes)
    (h5 : (c.maxLocals == mx && c.exceptionTable.isEmpty && decide (c.maxStack ≤ mostOperands) && decide (meth.sig.returnType = rt) && !meth.locks && decide (parseMethodDescriptor y.desc = some meth.sig)) = true) : (Jvm.Cond.code y bytes mx rt).before a s = true := by
  simp only [Bool.and_eq_true, beq_iff_eq, Bool.not_eq_true', decide_eq_true_eq] at h5
  obtain ⟨⟨⟨⟨⟨g1, g2⟩, g3⟩, g4⟩, g5⟩, g6⟩ := h5
  simp [Cond.before, Cond.holds, Cond.value, h1, h2, h3, h4, g1, g2, g3, g4, g5, g6]
def isCode : Jvm.Cond → Bool
  | .code _ _ _ _ => true
  | _ => false
theorem all_split {L : List Jvm.Cond} {P : Jvm.Cond → Bool} (h1 : L.all (fun c => isCode c || P c) = true) (h2 : ∀ c ∈ L.filter isCode, P c = true) : L.all P = true := by
  refine List.all_eq_true.mpr fun c hc => ?_
  have h := List.all_eq_true.mp h1 c hc
  rcases Bool.eq_false_or_eq_true (isCode c) with hi | hi
  · exact h2 c (List.mem_filter.mpr ⟨hc, hi⟩)
  · simpa [hi] using h
set_option maxRecDepth 65536 in
theorem w_c0 : (Jvm.Cond.code x code maxLocals ret).before args0 about1 = true := code_word (m := ⟨1, 1⟩) (meth := k1m1) (c := k1c1) (by decide +kernel) rfl rfl rfl (by decide +kernel)
set_option maxRecDepth 65536 in
theorem w_c1 : (Jvm.Cond.code ({ cls := "com/example/probematch/probematch/engine/SplitMix64", name := "<init>", desc := "(J)V" } : Jvm.MethodName) prog_4_method_1_code (3 : Nat) (Option.none : Option Jvm.ClassFile.FieldType)).before args0 about1 = true := code_word (m := ⟨3, 0⟩) (meth := k3m0) (c := k3c0) (by decide +kernel) rfl rfl rfl (by decide +kernel)
set_option maxRecDepth 65536 in
theorem w_c2 : (Jvm.Cond.code ({ cls := "java/lang/Object", name := "<init>", desc := "()V" } : Jvm.MethodName) object_method_1_code (1 : Nat) (Option.none : Option Jvm.ClassFile.FieldType)).before args0 about1 = true := code_word (m := ⟨0, 0⟩) (meth := k0m0) (c := k0c0) (by decide +kernel) rfl rfl rfl (by decide +kernel)
set_option maxRecDepth 65536 in
theorem w_c3 : (Jvm.Cond.code ({ cls := "com/example/probematch/probematch/engine/SplitMix64", name := "nextLong", desc := "()J" } : Jvm.MethodName) prog_4_method_2_code (3 : Nat) (Option.some Jvm.ClassFile.FieldType.long)).before args0 about1 = true := code_word (m := ⟨3, 1⟩) (meth := k3m1) (c := k3c1) (by decide +kernel) rfl rfl rfl (by decide +kernel)
def codes1 : List Jvm.Cond := [Jvm.Cond.code x code maxLocals ret, Jvm.Cond.code ({ cls := "com/example/probematch/probematch/engine/SplitMix64", name := "<init>", desc := "(J)V" } : Jvm.MethodName) prog_4_method_1_code (3 : Nat) (Option.none : Option Jvm.ClassFile.FieldType), Jvm.Cond.code ({ cls := "java/lang/Object", name := "<init>", desc := "()V" } : Jvm.MethodName) object_method_1_code (1 : Nat) (Option.none : Option Jvm.ClassFile.FieldType), Jvm.Cond.code ({ cls := "com/example/probematch/probematch/engine/SplitMix64", name := "nextLong", desc := "()J" } : Jvm.MethodName) prog_4_method_2_code (3 : Nat) (Option.some Jvm.ClassFile.FieldType.long)]
set_option maxRecDepth 65536 in
theorem codes_eq : words1.filter isCode = codes1 := rfl
theorem w_codes : ∀ c ∈ words1.filter isCode, c.before args0 about1 = true := by
  rw [codes_eq]
  intro c hc
  simp only [codes1, List.mem_cons, List.not_mem_nil, or_false] at hc
  rcases hc with rfl | rfl | rfl | rfl
  · exact w_c0
  · exact w_c1
  · exact w_c2
  · exact w_c3
set_option maxRecDepth 65536 in
theorem w_t1 : words1.all (fun c => isCode c || c.before args0 about1) = true := by decide +kernel
theorem w_tables : (allAtoms (Jvm.Cond.code x code maxLocals ret :: tables_1)).before args0 about1 = true := by
  rw [allAtoms_all]
  show words1.all (fun c => c.before args0 about1) = true
  refine all_split ?_ w_codes
  rw [w_t1]
set_option maxRecDepth 65536 in
theorem w_case : (Jvm.Cond.and given_1 narrow_1).before args0 about1 = true := by decide +kernel
theorem w_applies : (headSpec (Jvm.Cond.code x code maxLocals ret :: tables_1) room_1).applies x e0.platform about1 = true :=
  (Spec.applies_iff w_frames).mpr ⟨w_running, w_runnable, w_alone, w_named, w_hears, w_ripe, w_room, w_tables⟩
theorem atStart : AtStart classFile x code maxLocals ret World_1 tables_1 room_1 Calls_1 rest_1 Pre_1 launch0 p0 e0 about1 theMethod args0 below0 :=
  ⟨lists_1, trivial, launch0.admits_env _ _ _, launch0.least_env, fairChoices_fair.cas, fairChoices_fair.clock, w_frames, w_args, w_heap, w_applies, trivial, trivial, w_case⟩
end start1
theorem witness_1 : WitnessClaimed_1 := ⟨start1.p0, start1.e0, start1.about1, start1.theMethod, start1.args0, start1.below0, start1.atStart⟩
end Jvm.Pilot.@@N@@
