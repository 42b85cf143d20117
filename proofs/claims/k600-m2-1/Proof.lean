import JvmDerived
import JvmDerived.Pilot.@@N@@Statement
import JvmDerived.Pilot.@@N@@Code
set_option linter.unusedVariables false
set_option linter.unusedSimpArgs false
namespace Jvm.Pilot.@@N@@
open Jvm Jvm.ClassFile Sem Op Lib Jvm.Free Jvm.Stand Jvm.LawKit Jvm.RoadKit Bundle Jvm.Pilot.@@N@@.Jvm.D
/-! the walk's goal: from the state A the run ends, returning what Qv says -/
def OwnEnd (p : Program) (e : Env) (below : List Frame) (s : State) (Qv : Option Value → Heap → List Loc → Prop) (k n : Nat) (A : State) : Prop :=
  ∃ s₂ o, Steps p.tables e below A s₂ ∧ s₂.status = .running ∧ Ended s₂ below o ∧ ∃ v L, o = .returned v ∧ Qv v s₂.heap L ∧ FrameEnd s o s₂ L k n
theorem own_step {p : Program} {e : Env} {below : List Frame} {s : State} {Qv : Option Value → Heap → List Loc → Prop} {k n : Nat} {A B : State} (h : ∀ t, Steps p.tables e below B t → Steps p.tables e below A t) (q : OwnEnd p e below s Qv k n B) : OwnEnd p e below s Qv k n A := by
  obtain ⟨s₂, o, h1, h2⟩ := q
  exact ⟨s₂, o, h _ h1, h2⟩
theorem own_arvEq {Z : State} {h : Heap} {a : Addr} {k : ClassId} {ty : FieldType} {z : Int32} {vs vs' : List Value} {d : Value} (e : vs = vs') (F : Arv Z h a k ty z vs d) : Arv Z h a k ty z vs' d := by subst e; exact F
theorem own_fldEq {Z : State} {h : Heap} {a : Addr} {C n d : String} {x y : Int32} (e : x = y) (F : Fld Z h a C n d (.int x)) : Fld Z h a C n d (.int y) := by subst e; exact F
section OwnRet
variable {p : Program} {l : Launch} {e : Env} {R : Room} {s : State} {m : MethodId} {args : Array Value} {below : List Frame} {meth : Method} {c : Code} {T : State} {locs : List Loc} {cells slots k n : Nat} {Qv : Option Value → Heap → List Loc → Prop}
theorem own_retN (X : Stand p l e R s m args below meth c T locs cells slots) (hx : p.tables.exec = Jvm.exec) (hlocks : meth.locks = false) {pc : Nat} {Ls : Array Slot} {z w : Int32} {t : FieldType} {rest : List Value} (hret : meth.sig.returnType = some t) (ht : t = .boolean ∨ t = .byte ∨ t = .char ∨ t = .short) (hd : decode c.code pc = .ok (.ireturn, 1)) (hz : nar t z = w) (hq : Qv (some (.int w)) T.heap locs) (hk : cells ≤ k) (hn : slots ≤ n) :
    OwnEnd p e below s Qv k n (T.setTop (mkF m pc Ls (.int z :: rest))) := by
  obtain ⟨fs, hr, hrun, hended, hW, hsame⟩ := X.leave (v := some (.int w)) (fun h => by rw [hret] at h; cases h) hlocks
  exact ⟨_, _, retN X hx hret ht hd (fs := fs) (by rw [hz]; exact hr), hrun, hended, _, _, rfl, hq, ⟨_, rfl⟩, hW, hsame.mono hk hn⟩
theorem own_retI (X : Stand p l e R s m args below meth c T locs cells slots) (hx : p.tables.exec = Jvm.exec) (hlocks : meth.locks = false) {pc : Nat} {Ls : Array Slot} {z : Int32} {rest : List Value} (hret : meth.sig.returnType = some .int) (hd : decode c.code pc = .ok (.ireturn, 1)) (hq : Qv (some (.int z)) T.heap locs) (hk : cells ≤ k) (hn : slots ≤ n) :
    OwnEnd p e below s Qv k n (T.setTop (mkF m pc Ls (.int z :: rest))) := by
  obtain ⟨fs, hr, hrun, hended, hW, hsame⟩ := X.leave (v := some (.int z)) (fun h => by rw [hret] at h; cases h) hlocks
  refine ⟨T.setFrames fs, _, ?_, hrun, hended, _, _, rfl, hq, ⟨_, rfl⟩, hW, hsame.mono hk hn⟩
  have hm' : T.vm.method? m = some meth := X.method'
  have hn' : narrow .int (.int z) = .int z := rfl
  show Steps p.tables e below (T.setTop { method := m, pc := pc, locals := Ls, stack := _ :: rest, locked := none }) _
  jvm_step X.here [X.here.top, hx, hd, hm', hret, hn']
  first | (intro acts; rw [hr _ acts rfl rfl rfl]) | rw [hr _ _ rfl rfl rfl]
  exact Steps.refl _
theorem own_retJ (X : Stand p l e R s m args below meth c T locs cells slots) (hx : p.tables.exec = Jvm.exec) (hlocks : meth.locks = false) {pc : Nat} {Ls : Array Slot} {z : Int64} {rest : List Value} (hret : meth.sig.returnType = some .long) (hd : decode c.code pc = .ok (.lreturn, 1)) (hq : Qv (some (.long z)) T.heap locs) (hk : cells ≤ k) (hn : slots ≤ n) :
    OwnEnd p e below s Qv k n (T.setTop (mkF m pc Ls (.long z :: rest))) := by
  obtain ⟨fs, hr, hrun, hended, hW, hsame⟩ := X.leave (v := some (.long z)) (fun h => by rw [hret] at h; cases h) hlocks
  refine ⟨T.setFrames fs, _, ?_, hrun, hended, _, _, rfl, hq, ⟨_, rfl⟩, hW, hsame.mono hk hn⟩
  have hm' : T.vm.method? m = some meth := X.method'
  have hn' : narrow .long (.long z) = .long z := rfl
  show Steps p.tables e below (T.setTop { method := m, pc := pc, locals := Ls, stack := _ :: rest, locked := none }) _
  jvm_step X.here [X.here.top, hx, hd, hm', hret, hn']
  first | (intro acts; rw [hr _ acts rfl rfl rfl]) | rw [hr _ _ rfl rfl rfl]
  exact Steps.refl _
theorem own_retD (X : Stand p l e R s m args below meth c T locs cells slots) (hx : p.tables.exec = Jvm.exec) (hlocks : meth.locks = false) {pc : Nat} {Ls : Array Slot} {z : UInt64} {rest : List Value} (hret : meth.sig.returnType = some .double) (hd : decode c.code pc = .ok (.dreturn, 1)) (hq : Qv (some (.double z)) T.heap locs) (hk : cells ≤ k) (hn : slots ≤ n) :
    OwnEnd p e below s Qv k n (T.setTop (mkF m pc Ls (.double z :: rest))) := by
  obtain ⟨fs, hr, hrun, hended, hW, hsame⟩ := X.leave (v := some (.double z)) (fun h => by rw [hret] at h; cases h) hlocks
  refine ⟨T.setFrames fs, _, ?_, hrun, hended, _, _, rfl, hq, ⟨_, rfl⟩, hW, hsame.mono hk hn⟩
  have hm' : T.vm.method? m = some meth := X.method'
  have hn' : narrow .double (.double z) = .double z := rfl
  show Steps p.tables e below (T.setTop { method := m, pc := pc, locals := Ls, stack := _ :: rest, locked := none }) _
  jvm_step X.here [X.here.top, hx, hd, hm', hret, hn']
  first | (intro acts; rw [hr _ acts rfl rfl rfl]) | rw [hr _ _ rfl rfl rfl]
  exact Steps.refl _
theorem own_retR (X : Stand p l e R s m args below meth c T locs cells slots) (hx : p.tables.exec = Jvm.exec) (hlocks : meth.locks = false) {pc : Nat} {Ls : Array Slot} {z : Addr} {t : FieldType} {rest : List Value} (hret : meth.sig.returnType = some t) (ht : t.isReference = true) (hd : decode c.code pc = .ok (.areturn, 1)) (hq : Qv (some (.ref z)) T.heap locs) (hk : cells ≤ k) (hn : slots ≤ n) :
    OwnEnd p e below s Qv k n (T.setTop (mkF m pc Ls (.ref z :: rest))) := by
  obtain ⟨fs, hr, hrun, hended, hW, hsame⟩ := X.leave (v := some (.ref z)) (fun h => by rw [hret] at h; cases h) hlocks
  refine ⟨T.setFrames fs, _, ?_, hrun, hended, _, _, rfl, hq, ⟨_, rfl⟩, hW, hsame.mono hk hn⟩
  have hm' : T.vm.method? m = some meth := X.method'
  show Steps p.tables e below (T.setTop { method := m, pc := pc, locals := Ls, stack := _ :: rest, locked := none }) _
  jvm_step X.here [X.here.top, hx, hd, hm', hret, ht, Value.isRef]
  first | (intro acts; rw [hr _ acts rfl rfl rfl]) | rw [hr _ _ rfl rfl rfl]
  exact Steps.refl _
theorem own_ret0 (X : Stand p l e R s m args below meth c T locs cells slots) (hx : p.tables.exec = Jvm.exec) (hlocks : meth.locks = false) {pc : Nat} {Ls : Array Slot} (hret : meth.sig.returnType = none) (hd : decode c.code pc = .ok (.return_, 1)) (hq : Qv none T.heap locs) (hk : cells ≤ k) (hn : slots ≤ n) :
    OwnEnd p e below s Qv k n (T.setTop (mkF m pc Ls [])) := by
  obtain ⟨fs, hr, hrun, hended, hW, hsame⟩ := X.leave (v := none) (fun _ => rfl) hlocks
  exact ⟨_, _, X.returnOut hx hret hd hr, hrun, hended, _, _, rfl, hq, ⟨_, rfl⟩, hW, hsame.mono hk hn⟩
end OwnRet
theorem d1_0 : decode prog_4_method_1_code 0 = .ok (.aload_n 0, 1) := by decide +kernel
theorem d1_1 : decode prog_4_method_1_code 1 = .ok (.invokespecial 1, 3) := by decide +kernel
theorem d1_4 : decode prog_4_method_1_code 4 = .ok (.aload_n 0, 1) := by decide +kernel
theorem d1_5 : decode prog_4_method_1_code 5 = .ok (.lload_n 1, 1) := by decide +kernel
theorem d1_6 : decode prog_4_method_1_code 6 = .ok (.putfield 7, 3) := by decide +kernel
theorem d1_9 : decode prog_4_method_1_code 9 = .ok (.return_, 1) := by decide +kernel
theorem pn1 : plainName "com/example/probematch/probematch/engine/SplitMix64" = true := by first | (simp [plainName, overriddenIn]; done) | decide +kernel
theorem ef1 (m : MethodId) (a0 : Addr) (q1 : Int64) : entryFrame m #[(.ref a0), (.long q1)] 3 = mkF m 0 #[.val (.ref a0), .val (.long q1), .second] [] := by first | (simp [entryFrame, mkF, argsToLocals, Value.category]; done) | rfl
def Q1 (Z : State) (a0 : Addr) (q1 : Int64) (h0 : Heap) (n0 : Nat) (v : Option Value) (h : Heap) (L : List Loc) : Prop := v = none ∧ Fr n0 L ∧ Keep h0 h [a0] ∧ Exa Z h a0 "com/example/probematch/probematch/engine/SplitMix64" ∧ Fld Z h a0 "com/example/probematch/probematch/engine/SplitMix64" "state" "J" (.long q1)
set_option maxRecDepth 65536 in
set_option maxHeartbeats 40000000 in
theorem rm1 (l : Launch) (Z : State) (aa : Array Value) (hw : ∀ d ∈ tables_1, d.before aa Z = true) (ws : List Jvm.Cond) (a0 : Addr) (q1 : Int64) (h0 : Heap) (n0 : Nat) (Z0 : n0 ≤ h0.size) (F_state_a0 : Fld Z h0 a0 "com/example/probematch/probematch/engine/SplitMix64" "state" "J" (.long (0 : Int64))) (E_a0 : Exa Z h0 a0 "com/example/probematch/probematch/engine/SplitMix64") (g_a0 : n0 ≤ a0) :
    MetFree l (⟨"com/example/probematch/probematch/engine/SplitMix64", "<init>", "(J)V"⟩ : MethodName) (head1 (Jvm.Cond.code (⟨"com/example/probematch/probematch/engine/SplitMix64", "<init>", "(J)V"⟩ : MethodName) prog_4_method_1_code 3 none :: ws) ({ frames := 1, cells := 0, slots := 0, locals := 12 } : Room)) (fun a U => a = #[(.ref a0), (.long q1)] ∧ Z.Warmed39 U.vm ∧ U.heap = h0) (fun _ _ _ _ _ => True) (fun _ U o U' => ∃ v L, o = .returned v ∧ Q1 Z a0 q1 h0 n0 v U'.heap L ∧ FrameEnd U o U' L ({ frames := 1, cells := 0, slots := 0, locals := 12 } : Room).cells ({ frames := 1, cells := 0, slots := 0, locals := 12 } : Room).slots) := by
  refine MetFree.of_bodySF (plainFor_of_name pn1) hisR ?_
  intro p e s m args below meth c s₁ Bd hml0 hP hK
  obtain ⟨rfl, hZ, hh⟩ := hP
  have hx := Bd.exec
  have hby := Bd.bytes
  have hml : c.maxLocals = 3 := hml0
  have hown : s.vm.findClass "com/example/probematch/probematch/engine/SplitMix64" = some m.cls := findClass_of_methodNamed Bd.named
  have hnm := (name_of_methodNamed Bd.named Bd.method).1
  have X0 : Stand p l e ({ frames := 1, cells := 0, slots := 0, locals := 12 } : Room) s m #[(.ref a0), (.long q1)] below meth c s₁ [] 0 0 := Stand.of_body Bd
  have e0 : s₁.heap = h0 := by rw [← hh, Bd.state]; rfl
  have N0 := Fr.nil n0
  show OwnEnd p e below s (fun v h L => Q1 Z a0 q1 h0 n0 v h L) ({ frames := 1, cells := 0, slots := 0, locals := 12 } : Room).cells ({ frames := 1, cells := 0, slots := 0, locals := 12 } : Room).slots (s₁.setTop (entryFrame m #[(.ref a0), (.long q1)] 3))
  rw [ef1 m a0 q1]
  generalize hW : OwnEnd p e below s (fun v h L => Q1 Z a0 q1 h0 n0 v h L) ({ frames := 1, cells := 0, slots := 0, locals := 12 } : Room).cells ({ frames := 1, cells := 0, slots := 0, locals := 12 } : Room).slots = W
  have stp : ∀ {A B : State}, (∀ t, Steps p.tables e below B t → Steps p.tables e below A t) → W B → W A := by subst hW; exact own_step
  show W (s₁.setTop (mkF m 0 #[.val (.ref a0), .val (.long q1), .second] []))
  refine stp (fun t k => XS.aloadN X0.here hx rfl (hb hby d1_0) rfl rfl k) ?_
  show W (s₁.setTop (mkF m 1 #[.val (.ref a0), .val (.long q1), .second] [(.ref a0)]))
  obtain ⟨T1, X1, e1, st1⟩ := initO X0 hx hZ hown (hw _ (List.mem_of_getElem? (i := 6) rfl)) (hw _ (List.mem_of_getElem? (i := 7) rfl)) (hw _ (List.mem_of_getElem? (i := 8) rfl)) e0 (g := (mkF m 1 #[.val (.ref a0), .val (.long q1), .second] [(.ref a0)])) rfl (by rw [hml]; rfl) rfl (hb hby d1_1) (by decide) (W := 0) (by show 2 * 0 + _ ≤ _; exact Nat.le_of_eq rfl) (by decide)
  refine stp (fun t k => st1 t k) ?_
  show W (T1.setTop (mkF m 4 #[.val (.ref a0), .val (.long q1), .second] []))
  refine stp (fun t k => XS.aloadN X1.here hx rfl (hb hby d1_4) rfl rfl k) ?_
  show W (T1.setTop (mkF m 5 #[.val (.ref a0), .val (.long q1), .second] [(.ref a0)]))
  refine stp (fun t k => XS.lloadN X1.here hx rfl (hb hby d1_5) rfl k) ?_
  show W (T1.setTop (mkF m 6 #[.val (.ref a0), .val (.long q1), .second] [(.long q1), (.ref a0)]))
  obtain ⟨T12, h12, X12, e12, W12, st12⟩ := putF X1 hx hZ hown (host := "") (Or.inl (hw _ (List.mem_of_getElem? (i := 9) rfl))) Via.refl e1 F_state_a0 E_a0 (Or.inl (hw _ (List.mem_of_getElem? (i := 10) rfl))) (hw _ (List.mem_of_getElem? (i := 1) rfl)) (ty := .long) (by decide) rfl rfl (g := (mkF m 6 #[.val (.ref a0), .val (.long q1), .second] [(.long q1), (.ref a0)])) rfl rfl (hb hby d1_6)
  have N12 := Fr.snoc X12 N0 g_a0
  have F_state_a0x := F_state_a0.same W12
  have E_a0 := E_a0.wr W12
  have K12 := (Keep.refl h0 [a0]).wr W12 (Or.inl (List.mem_of_getElem? (i := 0) rfl))
  have Z12 := Nat.le_trans Z0 (Keep.of_wr W12).1
  have F_state_a0 := F_state_a0x
  refine stp (fun t k => st12 t k) ?_
  show W (T12.setTop (mkF m 9 #[.val (.ref a0), .val (.long q1), .second] []))
  show W (T12.setTop (mkF m 9 #[.val (.ref a0), .val (.long q1), .second] []))
  rw [← hW]
  exact own_ret0 X12 hx Bd.notSynchronized Bd.returns (hb hby d1_9) (by show Q1 Z a0 q1 h0 n0 _ T12.heap _; rw [e12]; exact ⟨rfl, N12, K12, E_a0, F_state_a0⟩) (by decide) (by decide)
theorem d2_0 : decode prog_4_method_2_code 0 = .ok (.aload_n 0, 1) := by decide +kernel
theorem d2_1 : decode prog_4_method_2_code 1 = .ok (.dup, 1) := by decide +kernel
theorem d2_2 : decode prog_4_method_2_code 2 = .ok (.getfield 7, 3) := by decide +kernel
theorem d2_5 : decode prog_4_method_2_code 5 = .ok (.ldc2_w 13, 3) := by decide +kernel
theorem d2_8 : decode prog_4_method_2_code 8 = .ok (.ladd, 1) := by decide +kernel
theorem d2_9 : decode prog_4_method_2_code 9 = .ok (.putfield 7, 3) := by decide +kernel
theorem d2_12 : decode prog_4_method_2_code 12 = .ok (.aload_n 0, 1) := by decide +kernel
theorem d2_13 : decode prog_4_method_2_code 13 = .ok (.getfield 7, 3) := by decide +kernel
theorem d2_16 : decode prog_4_method_2_code 16 = .ok (.lstore_n 1, 1) := by decide +kernel
theorem d2_17 : decode prog_4_method_2_code 17 = .ok (.lload_n 1, 1) := by decide +kernel
theorem d2_18 : decode prog_4_method_2_code 18 = .ok (.lload_n 1, 1) := by decide +kernel
theorem d2_19 : decode prog_4_method_2_code 19 = .ok (.bipush 30, 2) := by decide +kernel
theorem d2_21 : decode prog_4_method_2_code 21 = .ok (.lushr, 1) := by decide +kernel
theorem d2_22 : decode prog_4_method_2_code 22 = .ok (.lxor, 1) := by decide +kernel
theorem d2_23 : decode prog_4_method_2_code 23 = .ok (.ldc2_w 15, 3) := by decide +kernel
theorem d2_26 : decode prog_4_method_2_code 26 = .ok (.lmul, 1) := by decide +kernel
theorem d2_27 : decode prog_4_method_2_code 27 = .ok (.lstore_n 1, 1) := by decide +kernel
theorem d2_28 : decode prog_4_method_2_code 28 = .ok (.lload_n 1, 1) := by decide +kernel
theorem d2_29 : decode prog_4_method_2_code 29 = .ok (.lload_n 1, 1) := by decide +kernel
theorem d2_30 : decode prog_4_method_2_code 30 = .ok (.bipush 27, 2) := by decide +kernel
theorem d2_32 : decode prog_4_method_2_code 32 = .ok (.lushr, 1) := by decide +kernel
theorem d2_33 : decode prog_4_method_2_code 33 = .ok (.lxor, 1) := by decide +kernel
theorem d2_34 : decode prog_4_method_2_code 34 = .ok (.ldc2_w 17, 3) := by decide +kernel
theorem d2_37 : decode prog_4_method_2_code 37 = .ok (.lmul, 1) := by decide +kernel
theorem d2_38 : decode prog_4_method_2_code 38 = .ok (.lstore_n 1, 1) := by decide +kernel
theorem d2_39 : decode prog_4_method_2_code 39 = .ok (.lload_n 1, 1) := by decide +kernel
theorem d2_40 : decode prog_4_method_2_code 40 = .ok (.lload_n 1, 1) := by decide +kernel
theorem d2_41 : decode prog_4_method_2_code 41 = .ok (.bipush 31, 2) := by decide +kernel
theorem d2_43 : decode prog_4_method_2_code 43 = .ok (.lushr, 1) := by decide +kernel
theorem d2_44 : decode prog_4_method_2_code 44 = .ok (.lxor, 1) := by decide +kernel
theorem d2_45 : decode prog_4_method_2_code 45 = .ok (.lreturn, 1) := by decide +kernel
theorem pn2 : plainName "com/example/probematch/probematch/engine/SplitMix64" = true := by first | (simp [plainName, overriddenIn]; done) | decide +kernel
theorem ef2 (m : MethodId) (a0 : Addr) : entryFrame m #[(.ref a0)] 3 = mkF m 0 #[.val (.ref a0), .unset, .unset] [] := by first | (simp [entryFrame, mkF, argsToLocals, Value.category]; done) | rfl
def f2 (w0 : Int64) : Int64 := ((((((w0 + (-7046029254386353131 : Int64)) ^^^ (((w0 + (-7046029254386353131 : Int64)).toUInt64 >>> ((30 : Int32) &&& 0x3f).toInt64.toUInt64).toInt64)) * (-4658895280553007687 : Int64)) ^^^ (((((w0 + (-7046029254386353131 : Int64)) ^^^ (((w0 + (-7046029254386353131 : Int64)).toUInt64 >>> ((30 : Int32) &&& 0x3f).toInt64.toUInt64).toInt64)) * (-4658895280553007687 : Int64)).toUInt64 >>> ((27 : Int32) &&& 0x3f).toInt64.toUInt64).toInt64)) * (-7723592293110705685 : Int64)) ^^^ (((((((w0 + (-7046029254386353131 : Int64)) ^^^ (((w0 + (-7046029254386353131 : Int64)).toUInt64 >>> ((30 : Int32) &&& 0x3f).toInt64.toUInt64).toInt64)) * (-4658895280553007687 : Int64)) ^^^ (((((w0 + (-7046029254386353131 : Int64)) ^^^ (((w0 + (-7046029254386353131 : Int64)).toUInt64 >>> ((30 : Int32) &&& 0x3f).toInt64.toUInt64).toInt64)) * (-4658895280553007687 : Int64)).toUInt64 >>> ((27 : Int32) &&& 0x3f).toInt64.toUInt64).toInt64)) * (-7723592293110705685 : Int64)).toUInt64 >>> ((31 : Int32) &&& 0x3f).toInt64.toUInt64).toInt64))
def Q2 (Z : State) (a0 : Addr) (w0 : Int64) (h0 : Heap) (n0 : Nat) (v : Option Value) (h : Heap) (L : List Loc) : Prop := v = some (.long (f2 w0)) ∧ Fr n0 L ∧ Keep h0 h [a0] ∧ Exa Z h a0 "com/example/probematch/probematch/engine/SplitMix64" ∧ Fld Z h a0 "com/example/probematch/probematch/engine/SplitMix64" "state" "J" (.long (w0 + (-7046029254386353131 : Int64)))
set_option maxRecDepth 65536 in
set_option maxHeartbeats 40000000 in
theorem rm2 (l : Launch) (Z : State) (aa : Array Value) (hw : ∀ d ∈ tables_1, d.before aa Z = true) (ws : List Jvm.Cond) (a0 : Addr) (w0 : Int64) (h0 : Heap) (n0 : Nat) (Z0 : n0 ≤ h0.size) (F_state_a0 : Fld Z h0 a0 "com/example/probematch/probematch/engine/SplitMix64" "state" "J" (.long w0)) (E_a0 : Exa Z h0 a0 "com/example/probematch/probematch/engine/SplitMix64") (g_a0 : n0 ≤ a0) :
    MetFree l (⟨"com/example/probematch/probematch/engine/SplitMix64", "nextLong", "()J"⟩ : MethodName) (head1 (Jvm.Cond.code (⟨"com/example/probematch/probematch/engine/SplitMix64", "nextLong", "()J"⟩ : MethodName) prog_4_method_2_code 3 (some .long) :: ws) ({ frames := 0, cells := 0, slots := 0, locals := 0 } : Room)) (fun a U => a = #[(.ref a0)] ∧ Z.Warmed39 U.vm ∧ U.heap = h0) (fun _ _ _ _ _ => True) (fun _ U o U' => ∃ v L, o = .returned v ∧ Q2 Z a0 w0 h0 n0 v U'.heap L ∧ FrameEnd U o U' L ({ frames := 0, cells := 0, slots := 0, locals := 0 } : Room).cells ({ frames := 0, cells := 0, slots := 0, locals := 0 } : Room).slots) := by
  refine MetFree.of_bodySF (plainFor_of_name pn2) hisR ?_
  intro p e s m args below meth c s₁ Bd hml0 hP hK
  obtain ⟨rfl, hZ, hh⟩ := hP
  have hx := Bd.exec
  have hby := Bd.bytes
  have hml : c.maxLocals = 3 := hml0
  have hown : s.vm.findClass "com/example/probematch/probematch/engine/SplitMix64" = some m.cls := findClass_of_methodNamed Bd.named
  have hnm := (name_of_methodNamed Bd.named Bd.method).1
  have X0 : Stand p l e ({ frames := 0, cells := 0, slots := 0, locals := 0 } : Room) s m #[(.ref a0)] below meth c s₁ [] 0 0 := Stand.of_body Bd
  have e0 : s₁.heap = h0 := by rw [← hh, Bd.state]; rfl
  have N0 := Fr.nil n0
  show OwnEnd p e below s (fun v h L => Q2 Z a0 w0 h0 n0 v h L) ({ frames := 0, cells := 0, slots := 0, locals := 0 } : Room).cells ({ frames := 0, cells := 0, slots := 0, locals := 0 } : Room).slots (s₁.setTop (entryFrame m #[(.ref a0)] 3))
  rw [ef2 m a0]
  generalize hW : OwnEnd p e below s (fun v h L => Q2 Z a0 w0 h0 n0 v h L) ({ frames := 0, cells := 0, slots := 0, locals := 0 } : Room).cells ({ frames := 0, cells := 0, slots := 0, locals := 0 } : Room).slots = W
  have stp : ∀ {A B : State}, (∀ t, Steps p.tables e below B t → Steps p.tables e below A t) → W B → W A := by subst hW; exact own_step
  show W (s₁.setTop (mkF m 0 #[.val (.ref a0), .unset, .unset] []))
  refine stp (fun t k => XS.aloadN X0.here hx rfl (hb hby d2_0) rfl rfl k) ?_
  show W (s₁.setTop (mkF m 1 #[.val (.ref a0), .unset, .unset] [(.ref a0)]))
  refine stp (fun t k => XS.dup X0.here hx rfl (hb hby d2_1) rfl rfl k) ?_
  show W (s₁.setTop (mkF m 2 #[.val (.ref a0), .unset, .unset] [(.ref a0), (.ref a0)]))
  obtain ⟨T21, X21, e21, st21⟩ := getF X0 hx hZ hown (host := "") (Or.inl (hw _ (List.mem_of_getElem? (i := 9) rfl))) Via.refl e0 F_state_a0 (g := (mkF m 2 #[.val (.ref a0), .unset, .unset] [(.ref a0), (.ref a0)])) rfl rfl (hb hby d2_2)
  refine stp (fun t k => st21 t k) ?_
  show W (T21.setTop (mkF m 5 #[.val (.ref a0), .unset, .unset] [(.long w0), (.ref a0)]))
  refine stp (fun t k => X21.ldc2Long hx hown (mvT hZ (hw _ (List.mem_of_getElem? (i := 21) rfl))) (g := (mkF m 5 #[.val (.ref a0), .unset, .unset] [(.long w0), (.ref a0)])) rfl (hb hby d2_5) _ k) ?_
  show W (T21.setTop (mkF m 8 #[.val (.ref a0), .unset, .unset] [(.long (-7046029254386353131 : Int64)), (.long w0), (.ref a0)]))
  refine stp (fun t k => XS.ladd X21.here hx rfl (hb hby d2_8) rfl k) ?_
  show W (T21.setTop (mkF m 9 #[.val (.ref a0), .unset, .unset] [(.long (w0 + (-7046029254386353131 : Int64))), (.ref a0)]))
  obtain ⟨T22, h22, X22, e22, W22, st22⟩ := putF X21 hx hZ hown (host := "") (Or.inl (hw _ (List.mem_of_getElem? (i := 9) rfl))) Via.refl e21 F_state_a0 E_a0 (Or.inl (hw _ (List.mem_of_getElem? (i := 10) rfl))) (hw _ (List.mem_of_getElem? (i := 1) rfl)) (ty := .long) (by decide) rfl rfl (g := (mkF m 9 #[.val (.ref a0), .unset, .unset] [(.long (w0 + (-7046029254386353131 : Int64))), (.ref a0)])) rfl rfl (hb hby d2_9)
  have N22 := Fr.snoc X22 N0 g_a0
  have F_state_a0x := F_state_a0.same W22
  have E_a0 := E_a0.wr W22
  have K22 := (Keep.refl h0 [a0]).wr W22 (Or.inl (List.mem_of_getElem? (i := 0) rfl))
  have Z22 := Nat.le_trans Z0 (Keep.of_wr W22).1
  have F_state_a0 := F_state_a0x
  refine stp (fun t k => st22 t k) ?_
  show W (T22.setTop (mkF m 12 #[.val (.ref a0), .unset, .unset] []))
  refine stp (fun t k => XS.aloadN X22.here hx rfl (hb hby d2_12) rfl rfl k) ?_
  show W (T22.setTop (mkF m 13 #[.val (.ref a0), .unset, .unset] [(.ref a0)]))
  obtain ⟨T23, X23, e23, st23⟩ := getF X22 hx hZ hown (host := "") (Or.inl (hw _ (List.mem_of_getElem? (i := 9) rfl))) Via.refl e22 F_state_a0 (g := (mkF m 13 #[.val (.ref a0), .unset, .unset] [(.ref a0)])) rfl rfl (hb hby d2_13)
  refine stp (fun t k => st23 t k) ?_
  show W (T23.setTop (mkF m 16 #[.val (.ref a0), .unset, .unset] [(.long (w0 + (-7046029254386353131 : Int64)))]))
  refine stp (fun t k => XS.lstoreN X23.here hx rfl (hb hby d2_16) rfl (l' := #[.val (.ref a0), .val (.long (w0 + (-7046029254386353131 : Int64))), .second]) rfl k) ?_
  show W (T23.setTop (mkF m 17 #[.val (.ref a0), .val (.long (w0 + (-7046029254386353131 : Int64))), .second] []))
  refine stp (fun t k => XS.lloadN X23.here hx rfl (hb hby d2_17) rfl k) ?_
  show W (T23.setTop (mkF m 18 #[.val (.ref a0), .val (.long (w0 + (-7046029254386353131 : Int64))), .second] [(.long (w0 + (-7046029254386353131 : Int64)))]))
  refine stp (fun t k => XS.lloadN X23.here hx rfl (hb hby d2_18) rfl k) ?_
  show W (T23.setTop (mkF m 19 #[.val (.ref a0), .val (.long (w0 + (-7046029254386353131 : Int64))), .second] [(.long (w0 + (-7046029254386353131 : Int64))), (.long (w0 + (-7046029254386353131 : Int64)))]))
  refine stp (fun t k => XS.bipush X23.here hx rfl (hb hby d2_19) k) ?_
  show W (T23.setTop (mkF m 21 #[.val (.ref a0), .val (.long (w0 + (-7046029254386353131 : Int64))), .second] [(.int (30 : Int32)), (.long (w0 + (-7046029254386353131 : Int64))), (.long (w0 + (-7046029254386353131 : Int64)))]))
  refine stp (fun t k => XS.lushr X23.here hx rfl (hb hby d2_21) rfl k) ?_
  show W (T23.setTop (mkF m 22 #[.val (.ref a0), .val (.long (w0 + (-7046029254386353131 : Int64))), .second] [(.long (((w0 + (-7046029254386353131 : Int64)).toUInt64 >>> ((30 : Int32) &&& 0x3f).toInt64.toUInt64).toInt64)), (.long (w0 + (-7046029254386353131 : Int64)))]))
  refine stp (fun t k => XS.lxor X23.here hx rfl (hb hby d2_22) rfl k) ?_
  show W (T23.setTop (mkF m 23 #[.val (.ref a0), .val (.long (w0 + (-7046029254386353131 : Int64))), .second] [(.long ((w0 + (-7046029254386353131 : Int64)) ^^^ (((w0 + (-7046029254386353131 : Int64)).toUInt64 >>> ((30 : Int32) &&& 0x3f).toInt64.toUInt64).toInt64)))]))
  refine stp (fun t k => X23.ldc2Long hx hown (mvT hZ (hw _ (List.mem_of_getElem? (i := 22) rfl))) (g := (mkF m 23 #[.val (.ref a0), .val (.long (w0 + (-7046029254386353131 : Int64))), .second] [(.long ((w0 + (-7046029254386353131 : Int64)) ^^^ (((w0 + (-7046029254386353131 : Int64)).toUInt64 >>> ((30 : Int32) &&& 0x3f).toInt64.toUInt64).toInt64)))])) rfl (hb hby d2_23) _ k) ?_
  show W (T23.setTop (mkF m 26 #[.val (.ref a0), .val (.long (w0 + (-7046029254386353131 : Int64))), .second] [(.long (-4658895280553007687 : Int64)), (.long ((w0 + (-7046029254386353131 : Int64)) ^^^ (((w0 + (-7046029254386353131 : Int64)).toUInt64 >>> ((30 : Int32) &&& 0x3f).toInt64.toUInt64).toInt64)))]))
  refine stp (fun t k => XS.lmul X23.here hx rfl (hb hby d2_26) rfl k) ?_
  show W (T23.setTop (mkF m 27 #[.val (.ref a0), .val (.long (w0 + (-7046029254386353131 : Int64))), .second] [(.long (((w0 + (-7046029254386353131 : Int64)) ^^^ (((w0 + (-7046029254386353131 : Int64)).toUInt64 >>> ((30 : Int32) &&& 0x3f).toInt64.toUInt64).toInt64)) * (-4658895280553007687 : Int64)))]))
  refine stp (fun t k => XS.lstoreN X23.here hx rfl (hb hby d2_27) rfl (l' := #[.val (.ref a0), .val (.long (((w0 + (-7046029254386353131 : Int64)) ^^^ (((w0 + (-7046029254386353131 : Int64)).toUInt64 >>> ((30 : Int32) &&& 0x3f).toInt64.toUInt64).toInt64)) * (-4658895280553007687 : Int64))), .second]) rfl k) ?_
  show W (T23.setTop (mkF m 28 #[.val (.ref a0), .val (.long (((w0 + (-7046029254386353131 : Int64)) ^^^ (((w0 + (-7046029254386353131 : Int64)).toUInt64 >>> ((30 : Int32) &&& 0x3f).toInt64.toUInt64).toInt64)) * (-4658895280553007687 : Int64))), .second] []))
  generalize hw2_4 : (((w0 + (-7046029254386353131 : Int64)) ^^^ (((w0 + (-7046029254386353131 : Int64)).toUInt64 >>> ((30 : Int32) &&& 0x3f).toInt64.toUInt64).toInt64)) * (-4658895280553007687 : Int64)) = w2_4
  show W (T23.setTop (mkF m 28 #[.val (.ref a0), .val (.long w2_4), .second] []))
  refine stp (fun t k => XS.lloadN X23.here hx rfl (hb hby d2_28) rfl k) ?_
  show W (T23.setTop (mkF m 29 #[.val (.ref a0), .val (.long w2_4), .second] [(.long w2_4)]))
  refine stp (fun t k => XS.lloadN X23.here hx rfl (hb hby d2_29) rfl k) ?_
  show W (T23.setTop (mkF m 30 #[.val (.ref a0), .val (.long w2_4), .second] [(.long w2_4), (.long w2_4)]))
  refine stp (fun t k => XS.bipush X23.here hx rfl (hb hby d2_30) k) ?_
  show W (T23.setTop (mkF m 32 #[.val (.ref a0), .val (.long w2_4), .second] [(.int (27 : Int32)), (.long w2_4), (.long w2_4)]))
  refine stp (fun t k => XS.lushr X23.here hx rfl (hb hby d2_32) rfl k) ?_
  show W (T23.setTop (mkF m 33 #[.val (.ref a0), .val (.long w2_4), .second] [(.long ((w2_4.toUInt64 >>> ((27 : Int32) &&& 0x3f).toInt64.toUInt64).toInt64)), (.long w2_4)]))
  refine stp (fun t k => XS.lxor X23.here hx rfl (hb hby d2_33) rfl k) ?_
  show W (T23.setTop (mkF m 34 #[.val (.ref a0), .val (.long w2_4), .second] [(.long (w2_4 ^^^ ((w2_4.toUInt64 >>> ((27 : Int32) &&& 0x3f).toInt64.toUInt64).toInt64)))]))
  refine stp (fun t k => X23.ldc2Long hx hown (mvT hZ (hw _ (List.mem_of_getElem? (i := 23) rfl))) (g := (mkF m 34 #[.val (.ref a0), .val (.long w2_4), .second] [(.long (w2_4 ^^^ ((w2_4.toUInt64 >>> ((27 : Int32) &&& 0x3f).toInt64.toUInt64).toInt64)))])) rfl (hb hby d2_34) _ k) ?_
  show W (T23.setTop (mkF m 37 #[.val (.ref a0), .val (.long w2_4), .second] [(.long (-7723592293110705685 : Int64)), (.long (w2_4 ^^^ ((w2_4.toUInt64 >>> ((27 : Int32) &&& 0x3f).toInt64.toUInt64).toInt64)))]))
  refine stp (fun t k => XS.lmul X23.here hx rfl (hb hby d2_37) rfl k) ?_
  show W (T23.setTop (mkF m 38 #[.val (.ref a0), .val (.long w2_4), .second] [(.long ((w2_4 ^^^ ((w2_4.toUInt64 >>> ((27 : Int32) &&& 0x3f).toInt64.toUInt64).toInt64)) * (-7723592293110705685 : Int64)))]))
  refine stp (fun t k => XS.lstoreN X23.here hx rfl (hb hby d2_38) rfl (l' := #[.val (.ref a0), .val (.long ((w2_4 ^^^ ((w2_4.toUInt64 >>> ((27 : Int32) &&& 0x3f).toInt64.toUInt64).toInt64)) * (-7723592293110705685 : Int64))), .second]) rfl k) ?_
  show W (T23.setTop (mkF m 39 #[.val (.ref a0), .val (.long ((w2_4 ^^^ ((w2_4.toUInt64 >>> ((27 : Int32) &&& 0x3f).toInt64.toUInt64).toInt64)) * (-7723592293110705685 : Int64))), .second] []))
  generalize hw2_5 : ((w2_4 ^^^ ((w2_4.toUInt64 >>> ((27 : Int32) &&& 0x3f).toInt64.toUInt64).toInt64)) * (-7723592293110705685 : Int64)) = w2_5
  show W (T23.setTop (mkF m 39 #[.val (.ref a0), .val (.long w2_5), .second] []))
  refine stp (fun t k => XS.lloadN X23.here hx rfl (hb hby d2_39) rfl k) ?_
  show W (T23.setTop (mkF m 40 #[.val (.ref a0), .val (.long w2_5), .second] [(.long w2_5)]))
  refine stp (fun t k => XS.lloadN X23.here hx rfl (hb hby d2_40) rfl k) ?_
  show W (T23.setTop (mkF m 41 #[.val (.ref a0), .val (.long w2_5), .second] [(.long w2_5), (.long w2_5)]))
  refine stp (fun t k => XS.bipush X23.here hx rfl (hb hby d2_41) k) ?_
  show W (T23.setTop (mkF m 43 #[.val (.ref a0), .val (.long w2_5), .second] [(.int (31 : Int32)), (.long w2_5), (.long w2_5)]))
  refine stp (fun t k => XS.lushr X23.here hx rfl (hb hby d2_43) rfl k) ?_
  show W (T23.setTop (mkF m 44 #[.val (.ref a0), .val (.long w2_5), .second] [(.long ((w2_5.toUInt64 >>> ((31 : Int32) &&& 0x3f).toInt64.toUInt64).toInt64)), (.long w2_5)]))
  refine stp (fun t k => XS.lxor X23.here hx rfl (hb hby d2_44) rfl k) ?_
  show W (T23.setTop (mkF m 45 #[.val (.ref a0), .val (.long w2_5), .second] [(.long (w2_5 ^^^ ((w2_5.toUInt64 >>> ((31 : Int32) &&& 0x3f).toInt64.toUInt64).toInt64)))]))
  show W (T23.setTop (mkF m 45 #[.val (.ref a0), .val (.long w2_5), .second] [(.long (w2_5 ^^^ ((w2_5.toUInt64 >>> ((31 : Int32) &&& 0x3f).toInt64.toUInt64).toInt64)))]))
  rw [← hW]
  exact own_retJ X23 hx Bd.notSynchronized Bd.returns (hb hby d2_45) (by show Q2 Z a0 w0 h0 n0 _ T23.heap _; rw [e23]; exact ⟨(by subst hw2_4; subst hw2_5; rw [f2]), N22, K22, E_a0, F_state_a0⟩) (by decide) (by decide)
/-! the quotient of two whole doubles, held against any number of the format -/
theorem own_p2 (a b k : Nat) (h : k = a + b) : (2 : Nat) ^ k = 2 ^ a * 2 ^ b := by rw [h, Nat.pow_add]
open Jvm.FP.Core in
theorem own_sgnAbs (s : Bool) (n : Nat) : (signed s n).natAbs = n := by cases s <;> simp [signed]
open Jvm.FP.Core in
theorem own_quot {x y : UInt64} {i j : Int} (hx : DInt i x) (hy : DInt j y) (hj : 0 < j) :
    ∃ s : Bool, (i < 0 → s = true) ∧ (0 < i → s = false) ∧ val64 (ddiv x y) ≠ .nan ∧ sgn (val64 (ddiv x y)) = s ∧
      (∀ V : Datum, Jvm.FP.Core.fits b64 V → V ≠ .nan → i.natAbs * one64 ≤ zmag b64 V * j.natAbs → zmag b64 (val64 (ddiv x y)) ≤ zmag b64 V) ∧
      (∀ V : Datum, Jvm.FP.Core.fits b64 V → zmag b64 V * j.natAbs ≤ i.natAbs * one64 → zmag b64 V ≤ zmag b64 (val64 (ddiv x y))) := by
  have fx := val64_fits x
  have fy := val64_fits y
  have zx := DInt_zval hx
  have zy := DInt_zval hy
  rw [val64_ddiv]
  unfold DInt at hx hy
  cases ex : val64 x with
  | nan => rw [ex] at hx; exact hx.elim
  | inf s => rw [ex] at hx; exact hx.elim
  | fin s c q =>
  cases ey : val64 y with
  | nan => rw [ey] at hy; exact hy.elim
  | inf t => rw [ey] at hy; exact hy.elim
  | fin t d r =>
  rw [ex] at fx zx hx
  rw [ey] at fy zy hy
  have o64 := one64_pos
  have qm : b64.qmin = -1074 := by decide +kernel
  have qM : b64.qmax = 971 := by decide +kernel
  obtain ⟨-, q1, q2, -⟩ := fx
  obtain ⟨-, r1, r2, -⟩ := fy
  rw [qm] at q1 r1
  rw [qM] at q2 r2
  have mx : c * 2 ^ (q + 1074).toNat = i.natAbs * one64 := by
    have : signed s (c * 2 ^ (q - b64.qmin).toNat) = i * (one64 : Int) := zx
    rw [qm, show q - -1074 = q + 1074 by omega] at this
    have h2 : (signed s (c * 2 ^ (q + 1074).toNat)).natAbs = (i * (one64 : Int)).natAbs := by rw [this]
    rw [Int.natAbs_mul, Int.natAbs_natCast] at h2
    rw [← h2, own_sgnAbs]
  have my : d * 2 ^ (r + 1074).toNat = j.natAbs * one64 := by
    have : signed t (d * 2 ^ (r - b64.qmin).toNat) = j * (one64 : Int) := zy
    rw [qm, show r - -1074 = r + 1074 by omega] at this
    have h2 : (signed t (d * 2 ^ (r + 1074).toNat)).natAbs = (j * (one64 : Int)).natAbs := by rw [this]
    rw [Int.natAbs_mul, Int.natAbs_natCast] at h2
    rw [← h2, own_sgnAbs]
  have tf : t = false := by rw [whole_sign hy (by omega)]; simp; omega
  have dpos : 0 < d := by
    refine Nat.pos_of_ne_zero fun h0 => ?_
    rw [h0, Nat.zero_mul] at my
    have : 0 < j.natAbs * one64 := Nat.mul_pos (by omega) o64
    omega
  have hq : quotient b64 (.fin s c q) (.fin t d r) = roundRatio b64 (s != t) c d (q - r) := by
    simp only [quotient]
    rw [if_neg (by omega)]
  rw [hq]
  have st : (s != t) = s := by rw [tf]; cases s <;> rfl
  rw [st]
  have P : ∀ z : Nat, z * 2 ^ (b64.qmin - -4000).toNat * d * 2 ^ (r + 1074).toNat = z * j.natAbs * 2 ^ 4000 := fun z => by
    rw [Nat.mul_assoc (z * _), my, qm, show (-1074 - -4000 : Int).toNat = 2926 from rfl, own_p2 2926 1074 4000 rfl]
    unfold one64
    generalize 2 ^ 2926 = A
    generalize 2 ^ 1074 = B
    ac_rfl
  have U : inUnits c (q - r) (-4000) * 2 ^ (r + 1074).toNat = i.natAbs * one64 * 2 ^ 4000 := by
    unfold inUnits
    rw [← mx, Nat.mul_assoc, Nat.mul_assoc, ← Nat.pow_add, ← Nat.pow_add]
    congr 2
    omega
  have pp : 0 < 2 ^ (r + 1074).toNat := Nat.two_pow_pos _
  refine ⟨s, fun h => ?_, fun h => ?_, roundRatio_ne_nan _ _ _ _ _, sgn_roundRatio _ _ _ _ _, fun V hV hn h => ?_, fun V hV h => ?_⟩
  · rw [whole_sign hx (by omega)]; simp [h]
  · rw [whole_sign hx (by omega)]; simp; omega
  · refine zmag_roundRatio_le good_b64 dpos hV hn (e0 := -4000) (by rw [qm]; omega) (by omega) ?_
    refine Nat.le_of_mul_le_mul_right ?_ pp
    rw [U, P]
    exact Nat.mul_le_mul_right _ h
  · refine zmag_roundRatio_ge good_b64 dpos hV (e0 := -4000) (by rw [qm]; omega) (by omega) ?_
    refine Nat.le_of_mul_le_mul_right ?_ pp
    rw [U, P]
    exact Nat.mul_le_mul_right _ h
open Jvm.FP.Core in
theorem own_z1 : zval b64 (val64 4607182418800017408) = (one64 : Int) := by decide +kernel
open Jvm.FP.Core in
theorem own_zm1 : zmag b64 (val64 4607182418800017408) = one64 := by decide +kernel
open Jvm.FP.Core in
theorem own_zm0 : zmag b64 (val64 0) = 0 := by decide +kernel
open Jvm.FP.Core in
theorem own_n1 : val64 4607182418800017408 ≠ .nan := by decide +kernel
open Jvm.FP.Core in
theorem own_n0 : val64 0 ≠ .nan := by decide +kernel
open Jvm.FP.Core in
/-- 0 <= i, i <= j: the quotient lies between 0.0 and 1.0 -/
theorem own_in {x y : UInt64} {i j : Int} (hx : DInt i x) (hy : DInt j y) (hj : 0 < j) (h0 : 0 ≤ i) (h1 : i ≤ j) :
    val64 (ddiv x y) ≠ .nan ∧ (dcmp (ddiv x y) 0 = some .gt ∨ dcmp (ddiv x y) 0 = some .eq) ∧ (dcmp (ddiv x y) 4607182418800017408 = some .lt ∨ dcmp (ddiv x y) 4607182418800017408 = some .eq) := by
  obtain ⟨s, h2, h3, h4, h5, h6, h7⟩ := own_quot hx hy hj
  have hpos : 0 ≤ zval b64 (val64 (ddiv x y)) := by
    unfold zval
    rw [h5]
    rcases Int.lt_or_eq_of_le h0 with hp | hp
    · rw [h3 hp]; simp [signed]
    · have := h6 _ (val64_fits 0) own_n0 (by rw [own_zm0, ← hp]; simp)
      rw [own_zm0] at this
      rw [Nat.le_zero.mp this]; cases s <;> simp [signed]
  have hle : zval b64 (val64 (ddiv x y)) ≤ (one64 : Int) := by
    have := h6 _ (val64_fits 4607182418800017408) own_n1 (by rw [own_zm1, Nat.mul_comm]; exact Nat.mul_le_mul_left _ (by omega))
    rw [own_zm1] at this
    unfold zval
    cases sgn (val64 (ddiv x y)) <;> simp only [signed, if_true, Bool.false_eq_true, if_false] <;> omega
  exact ⟨h4, dcmp_ge.mpr ⟨h4, own_n0, by rw [zval64_zero]; exact hpos⟩, dcmp_le.mpr ⟨h4, own_n1, by rw [own_z1]; exact hle⟩⟩
open Jvm.FP.Core in
theorem own_zmU : zmag b64 (val64 4607182418800017409) = one64 + 2 ^ 1022 := by decide +kernel
open Jvm.FP.Core in
theorem own_zmS : zmag b64 (val64 1) = 1 := by decide +kernel
open Jvm.FP.Core in
/-- i > j: the quotient lies above 1.0 -/
theorem own_above {x y : UInt64} {i j : Int} (hx : DInt i x) (hy : DInt j y) (hj : 0 < j) (hj2 : j ≤ 1048576) (h1 : j < i) :
    dcmp (ddiv x y) 4607182418800017408 = some .gt := by
  obtain ⟨s, h2, h3, h4, h5, h6, h7⟩ := own_quot hx hy hj
  refine dcmp_gt.mpr ⟨h4, own_n1, ?_⟩
  have h8 := h7 _ (val64_fits 4607182418800017409) (by
    rw [own_zmU, Nat.add_mul]
    have e1 : one64 = 2 ^ 52 * 2 ^ 1022 := own_p2 52 1022 1074 rfl
    have e2 : 2 ^ 1022 * j.natAbs ≤ one64 := by
      rw [e1, Nat.mul_comm]
      exact Nat.mul_le_mul_right _ (by omega)
    have e3 : (j.natAbs + 1) * one64 ≤ i.natAbs * one64 := Nat.mul_le_mul_right _ (by omega)
    rw [Nat.add_mul, Nat.one_mul, Nat.mul_comm] at e3
    omega)
  rw [own_zmU] at h8
  have h9 : 0 < 2 ^ 1022 := Nat.two_pow_pos _
  rw [own_z1]
  unfold zval
  rw [h5, h3 (by omega)]
  show (one64 : Int) < ((zmag b64 (val64 (ddiv x y)) : Nat) : Int)
  generalize (2 : Nat) ^ 1022 = A at *
  omega
open Jvm.FP.Core in
/-- i < 0: the quotient lies below 0.0 -/
theorem own_below {x y : UInt64} {i j : Int} (hx : DInt i x) (hy : DInt j y) (hj : 0 < j) (hj2 : j ≤ 1048576) (h1 : i < 0) :
    dcmp (ddiv x y) 0 = some .lt := by
  obtain ⟨s, h2, h3, h4, h5, h6, h7⟩ := own_quot hx hy hj
  refine dcmp_lt.mpr ⟨h4, own_n0, ?_⟩
  have h8 := h7 _ (val64_fits 1) (by
    rw [own_zmS, Nat.one_mul]
    have e1 : one64 = 2 ^ 20 * 2 ^ 1054 := own_p2 20 1054 1074 rfl
    have e2 : 0 < 2 ^ 1054 := Nat.two_pow_pos _
    have e3 : 2 ^ 20 ≤ one64 := by rw [e1]; exact Nat.le_mul_of_pos_right _ e2
    have e4 : one64 ≤ i.natAbs * one64 := Nat.le_mul_of_pos_left _ (by omega)
    omega)
  rw [own_zmS] at h8
  rw [zval64_zero]
  unfold zval
  rw [h5, h2 h1]
  show -((zmag b64 (val64 (ddiv x y)) : Nat) : Int) < 0
  omega
open Jvm.FP.Core in
theorem own_z2 : zval b64 (val64 4611686018427387904) = 2 * (one64 : Int) := by decide +kernel
open Jvm.FP.Core in
theorem own_zn1 : zval b64 (val64 13830554455654793216) = -(one64 : Int) := by decide +kernel
open Jvm.FP.Core in
theorem own_l2dN (c : Int64) : val64 (l2d c) ≠ .nan := by
  obtain ⟨a, b, h⟩ := l2d_shape c
  rw [h]; exact Datum.noConfusion
open Jvm.FP.Core in
theorem own_l2dBig {c : Int64} (h : 2 ≤ c.toInt) : dcmp (l2d c) 4607182418800017408 = some .gt := by
  refine dcmp_gt.mpr ⟨own_l2dN c, own_n1, ?_⟩
  have p := one64_pos
  have := l2d_zval_ge (n := c) (V := 4611686018427387904) (by decide +kernel) (by rw [own_z2]; exact Int.mul_le_mul_of_nonneg_right h (by omega))
  rw [own_z2] at this
  rw [own_z1]
  omega
open Jvm.FP.Core in
theorem own_l2dNeg {c : Int64} (h : c.toInt < 0) : dcmp (l2d c) 0 = some .lt := by
  refine dcmp_lt.mpr ⟨own_l2dN c, own_n0, ?_⟩
  have p := one64_pos
  have := l2d_zval_le (n := c) (V := 13830554455654793216) (by decide +kernel) (by
    rw [own_zn1]
    have : c.toInt * (one64 : Int) ≤ (-1) * (one64 : Int) := Int.mul_le_mul_of_nonneg_right (by omega) (by omega)
    omega)
  rw [own_zn1] at this
  rw [zval64_zero]
  omega
open Jvm.FP.Core in
theorem own_vS : val64 4368491638549381120 = .fin false (2 ^ 52) (-105) := by decide +kernel
open Jvm.FP.Core in
theorem own_vB : val64 4845873199050653696 = .fin false (2 ^ 52) 1 := by decide +kernel
open Jvm.FP.Core in
/-- t * 2^-53 of a whole t below 2^53: exact, at least 0, below 1, and times 2^53 it is t again -/
theorem own_unit {t : Int64} (h0 : 0 ≤ t.toInt) (h1 : t.toInt < 9007199254740992) :
    val64 (dmul (l2d t) 4368491638549381120) ≠ .nan ∧ (dcmp 0 (dmul (l2d t) 4368491638549381120) = some .lt ∨ dcmp 0 (dmul (l2d t) 4368491638549381120) = some .eq) ∧
      dcmp (dmul (l2d t) 4368491638549381120) 4607182418800017408 = some .lt ∧ DInt t.toInt (dmul (dmul (l2d t) 4368491638549381120) 4845873199050653696) ∧ val64 (dmul (dmul (l2d t) 4368491638549381120) 4845873199050653696) ≠ .nan := by
  by_cases hz : t = 0
  · subst hz
    have e1 : dmul (l2d 0) 4368491638549381120 = 0 := by decide +kernel
    have e2 : dmul 0 4845873199050653696 = 0 := by decide +kernel
    rw [e1, e2]
    refine ⟨own_n0, Or.inr (by decide +kernel), by decide +kernel, ?_, own_n0⟩
    have := l2d_int (a := 0) (by decide)
    rwa [Jvm.FP.Core.l2d_zero] at this
  · have hp : 0 < t.toInt := by
      have : t.toInt ≠ 0 := fun q => hz (Int64.toInt_inj.mp q)
      omega
    have hw := l2d_int (a := t) (by omega)
    have zx := DInt_zval hw
    have fx := val64_fits (l2d t)
    obtain ⟨c, q, ex⟩ := l2d_shape t
    rw [show decide (t.toInt < 0) = false from by simp; omega] at ex
    have hw' := hw
    unfold DInt at hw'
    rw [ex] at zx fx hw'
    have qm : b64.qmin = -1074 := by decide +kernel
    have qM : b64.qmax = 971 := by decide +kernel
    have pp : b64.p = 53 := rfl
    obtain ⟨c1, q1, q2, c2⟩ := fx
    rw [qm] at q1 c2
    rw [qM] at q2
    rw [pp] at c1
    have mx : c * 2 ^ (q + 1074).toNat = t.toInt.natAbs * one64 := by
      have : signed false (c * 2 ^ (q - b64.qmin).toNat) = t.toInt * (one64 : Int) := zx
      rw [qm, show q - -1074 = q + 1074 by omega] at this
      have h2 : (signed false (c * 2 ^ (q + 1074).toNat)).natAbs = (t.toInt * (one64 : Int)).natAbs := by rw [this]
      rw [Int.natAbs_mul, Int.natAbs_natCast, own_sgnAbs] at h2
      exact h2
    have hq : -52 ≤ q := by
      refine Int.le_of_not_gt fun hlt => ?_
      have k1 : 2 ^ (q + 1074).toNat ≤ 2 ^ 1021 := Nat.pow_le_pow_right (by decide) (by omega)
      have k2 : c * 2 ^ (q + 1074).toNat ≤ c * 2 ^ 1021 := Nat.mul_le_mul_left _ k1
      have k3 : one64 = 2 ^ 53 * 2 ^ 1021 := own_p2 53 1021 1074 rfl
      have k4 : c * 2 ^ 1021 < 2 ^ 53 * 2 ^ 1021 := Nat.mul_lt_mul_of_pos_right c1 (Nat.two_pow_pos _)
      have k5 : one64 ≤ t.toInt.natAbs * one64 := Nat.le_mul_of_pos_left _ (by omega)
      rw [mx] at k2
      rw [← k3] at k4
      omega
    have hD : val64 (dmul (l2d t) 4368491638549381120) = .fin false c (q - 53) := by
      rw [val64_dmul, ex, own_vS]
      show roundRatio b64 false (c * 2 ^ 52) 1 (q + -105) = _
      refine roundRatio_exact good_b64 (by decide) ⟨c1, by rw [qm]; omega, by rw [qM]; omega, Or.inr (c2.resolve_left (by omega))⟩ ?_
      rw [show (q + -105 - (q - 53)).toNat = 0 by omega, show (q - 53 - (q + -105)).toNat = 52 by omega, Nat.pow_zero, Nat.mul_one, Nat.mul_one]
    have nD : val64 (dmul (l2d t) 4368491638549381120) ≠ .nan := by rw [hD]; exact Datum.noConfusion
    have zD : zval b64 (val64 (dmul (l2d t) 4368491638549381120)) = ((c * 2 ^ (q + 1021).toNat : Nat) : Int) := by
      rw [hD]
      show ((c * 2 ^ (q - 53 - b64.qmin).toNat : Nat) : Int) = _
      rw [qm, show q - 53 - -1074 = q + 1021 by omega]
    have mD : c * 2 ^ (q + 1021).toNat * 2 ^ 53 = t.toInt.natAbs * one64 := by
      rw [← mx, Nat.mul_assoc, ← Nat.pow_add, show (q + 1021).toNat + 53 = (q + 1074).toNat by omega]
    have hS : DInt t.toInt (dmul (dmul (l2d t) 4368491638549381120) 4845873199050653696) := by
      unfold DInt
      rw [val64_dmul, hD, own_vB]
      refine whole_round good_b64 wide_b64 (show _ ≤ 2 ^ 53 by omega) ?_
      show signed false (c * 2 ^ 52 * 2 ^ (q - 53 + 1).toNat) = t.toInt * ((2 ^ (-(q - 53 + 1)).toNat : Nat) : Int)
      have w : signed false (c * 2 ^ q.toNat) = t.toInt * ((2 ^ (-q).toNat : Nat) : Int) := hw'
      have w1 : ((c * 2 ^ q.toNat : Nat) : Int) = t.toInt * ((2 ^ (-q).toNat : Nat) : Int) := w
      show ((c * 2 ^ 52 * 2 ^ (q - 53 + 1).toNat : Nat) : Int) = _
      by_cases hq0 : 52 ≤ q
      · have a1 : (-q).toNat = 0 := by omega
        have a2 : (-(q - 53 + 1)).toNat = 0 := by omega
        rw [a1] at w1
        rw [a2, ← w1, Nat.mul_assoc, ← Nat.pow_add, show 52 + (q - 53 + 1).toNat = q.toNat by omega]
      · have a1 : (q - 53 + 1).toNat = 0 := by omega
        rw [a1, Nat.pow_zero, Nat.mul_one]
        by_cases hq1 : 0 ≤ q
        · have a3 : (-q).toNat = 0 := by omega
          rw [a3, Nat.pow_zero] at w1
          have w2 : t.toInt = ((c * 2 ^ q.toNat : Nat) : Int) := by omega
          rw [w2, ← Int.natCast_mul, Nat.mul_assoc, ← Nat.pow_add, show q.toNat + (-(q - 53 + 1)).toNat = 52 by omega]
        · have a3 : q.toNat = 0 := by omega
          rw [a3, Nat.pow_zero, Nat.mul_one] at w1
          rw [Int.natCast_mul, w1, Int.mul_assoc, ← Int.natCast_mul, ← Nat.pow_add, show (-q).toNat + 52 = (-(q - 53 + 1)).toNat by omega]
    refine ⟨nD, dcmp_le.mpr ⟨own_n0, nD, by rw [zval64_zero, zD]; omega⟩, dcmp_lt.mpr ⟨nD, own_n1, ?_⟩, hS, DInt_ne_nan hS⟩
    rw [zD, own_z1]
    have k1 : t.toInt.natAbs * one64 < 2 ^ 53 * one64 := Nat.mul_lt_mul_of_pos_right (by omega) one64_pos
    rw [← mD, Nat.mul_comm (2 ^ 53)] at k1
    have k2 := Nat.lt_of_mul_lt_mul_right k1
    omega
theorem own_noNaN {x : UInt64} (h : Jvm.FP.Core.val64 x ≠ .nan) : Jvm.Free.Fl.NoNaN64 x := by
  have h1 : Jvm.FP.Core.dcmp x x = some .eq := Jvm.FP.Core.dcmp_self h
  exact Jvm.Free.Fl.noNaN64_of_dcmp (by show FP.cmpInt (-1) (FP.dcmp x x) = 0; rw [show FP.dcmp x x = some .eq from h1]; rfl)
def own_top (x : Int64) : Int64 := ((x.toUInt64 >>> ((11 : Int32) &&& 0x3f).toInt64.toUInt64).toInt64)
theorem own_topR (x : Int64) : 0 ≤ (own_top x).toInt ∧ (own_top x).toInt < 9007199254740992 := by
  have h := c_lushr x 11 11 (by decide) (by decide)
  unfold own_top
  rw [h]
  omega
theorem own_U (x : Int64) : Jvm.FP.Core.val64 (FP.dmul (FP.l2d (own_top x)) 4368491638549381120) ≠ .nan ∧ (FP.dcmp 0 (FP.dmul (FP.l2d (own_top x)) 4368491638549381120) = some .lt ∨ FP.dcmp 0 (FP.dmul (FP.l2d (own_top x)) 4368491638549381120) = some .eq) ∧ FP.dcmp (FP.dmul (FP.l2d (own_top x)) 4368491638549381120) 4607182418800017408 = some .lt ∧ Jvm.FP.Core.DInt (own_top x).toInt (FP.dmul (FP.dmul (FP.l2d (own_top x)) 4368491638549381120) 4845873199050653696) ∧ Jvm.FP.Core.val64 (FP.dmul (FP.dmul (FP.l2d (own_top x)) 4368491638549381120) 4845873199050653696) ≠ .nan := own_unit (t := own_top x) (own_topR x).1 (own_topR x).2
def own_dd (x : Int64) : UInt64 := FP.dmul (FP.l2d (own_top x)) (4368491638549381120 : UInt64)
def own_ss (x : Int64) : UInt64 := FP.dmul (own_dd x) (4845873199050653696 : UInt64)
theorem own_nn1 (x : Int64) : Jvm.Free.Fl.NoNaN64 (own_dd x) := own_noNaN (own_U x).1
theorem own_nn2 (x : Int64) : Jvm.Free.Fl.NoNaN64 (own_ss x) := own_noNaN (own_U x).2.2.2.2
theorem own_c0 (x : Int64) : ¬ ((0 : Int32) < cmpValue (FP.dcmp (0 : UInt64) (own_dd x)) .g) := by
  rcases (own_U x).2.1 with h | h
  · rw [show FP.dcmp (0 : UInt64) (own_dd x) = some .lt from h]; decide
  · rw [show FP.dcmp (0 : UInt64) (own_dd x) = some .eq from h]; decide
theorem own_c1 (x : Int64) : cmpValue (FP.dcmp (own_dd x) (4607182418800017408 : UInt64)) .g < (0 : Int32) := by
  rw [show FP.dcmp (own_dd x) (4607182418800017408 : UInt64) = some .lt from (own_U x).2.2.1]; decide
theorem own_c2 (x : Int64) : cmpValue (FP.dcmp (own_ss x) (FP.l2d (own_top x))) .l = (0 : Int32) := by
  have h := Jvm.FP.Core.dcmp_int (own_U x).2.2.2.1 (Jvm.FP.Core.l2d_int (a := own_top x) (by have := own_topR x; omega))
  rw [show FP.dcmp (own_ss x) (FP.l2d (own_top x)) = some (compare (own_top x).toInt (own_top x).toInt) from h]
  simp [cmpValue]
theorem own_c3 (x : Int64) : FP.d2l (own_ss x) = own_top x := Jvm.FP.Core.d2l_int (own_U x).2.2.2.1
theorem d3_0 : decode prog_4_method_3_code 0 = .ok (.aload_n 0, 1) := by decide +kernel
theorem d3_1 : decode prog_4_method_3_code 1 = .ok (.invokevirtual 19, 3) := by decide +kernel
theorem d3_4 : decode prog_4_method_3_code 4 = .ok (.bipush 11, 2) := by decide +kernel
theorem d3_6 : decode prog_4_method_3_code 6 = .ok (.lushr, 1) := by decide +kernel
theorem d3_7 : decode prog_4_method_3_code 7 = .ok (.l2d, 1) := by decide +kernel
theorem d3_8 : decode prog_4_method_3_code 8 = .ok (.ldc2_w 23, 3) := by decide +kernel
theorem d3_11 : decode prog_4_method_3_code 11 = .ok (.dmul, 1) := by decide +kernel
theorem d3_12 : decode prog_4_method_3_code 12 = .ok (.dreturn, 1) := by decide +kernel
theorem pn3 : plainName "com/example/probematch/probematch/engine/SplitMix64" = true := by first | (simp [plainName, overriddenIn]; done) | decide +kernel
theorem pd3_0 : parseMethodDescriptor "()J" = some ⟨[], some .long⟩ := by decide +kernel
theorem ef3 (m : MethodId) (a0 : Addr) : entryFrame m #[(.ref a0)] 1 = mkF m 0 #[.val (.ref a0)] [] := by first | (simp [entryFrame, mkF, argsToLocals, Value.category]; done) | rfl
def f3 (w0 : Int64) : UInt64 := (FP.dmul (FP.l2d (((f2 w0).toUInt64 >>> ((11 : Int32) &&& 0x3f).toInt64.toUInt64).toInt64)) (4368491638549381120 : UInt64))
theorem own_3_11_2 (a0 : Addr) (w0 : Int64)  : Jvm.Free.Fl.NoNaN64 (FP.dmul (FP.l2d (((f2 w0).toUInt64 >>> ((11 : Int32) &&& 0x3f).toInt64.toUInt64).toInt64)) (4368491638549381120 : UInt64)) := own_nn1 (f2 w0)
def Q3 (Z : State) (a0 : Addr) (w0 : Int64) (h0 : Heap) (n0 : Nat) (v : Option Value) (h : Heap) (L : List Loc) : Prop := v = some (.double (f3 w0)) ∧ Fr n0 L ∧ Keep h0 h [a0] ∧ Exa Z h a0 "com/example/probematch/probematch/engine/SplitMix64" ∧ Fld Z h a0 "com/example/probematch/probematch/engine/SplitMix64" "state" "J" (.long (w0 + (-7046029254386353131 : Int64)))
set_option maxRecDepth 65536 in
set_option maxHeartbeats 40000000 in
theorem rm3 (l : Launch) (Z : State) (aa : Array Value) (hw : ∀ d ∈ tables_1, d.before aa Z = true) (ws : List Jvm.Cond) (a0 : Addr) (w0 : Int64) (h0 : Heap) (n0 : Nat) (Z0 : n0 ≤ h0.size) (F_state_a0 : Fld Z h0 a0 "com/example/probematch/probematch/engine/SplitMix64" "state" "J" (.long w0)) (E_a0 : Exa Z h0 a0 "com/example/probematch/probematch/engine/SplitMix64") (g_a0 : n0 ≤ a0) :
    MetFree l (⟨"com/example/probematch/probematch/engine/SplitMix64", "nextDouble", "()D"⟩ : MethodName) (head1 (Jvm.Cond.code (⟨"com/example/probematch/probematch/engine/SplitMix64", "nextDouble", "()D"⟩ : MethodName) prog_4_method_3_code 1 (some .double) :: ws) ({ frames := 1, cells := 0, slots := 0, locals := 14 } : Room)) (fun a U => a = #[(.ref a0)] ∧ Z.Warmed39 U.vm ∧ U.heap = h0) (fun _ _ _ _ _ => True) (fun _ U o U' => ∃ v L, o = .returned v ∧ Q3 Z a0 w0 h0 n0 v U'.heap L ∧ FrameEnd U o U' L ({ frames := 1, cells := 0, slots := 0, locals := 14 } : Room).cells ({ frames := 1, cells := 0, slots := 0, locals := 14 } : Room).slots) := by
  refine MetFree.of_bodySF (plainFor_of_name pn3) hisR ?_
  intro p e s m args below meth c s₁ Bd hml0 hP hK
  obtain ⟨rfl, hZ, hh⟩ := hP
  have hx := Bd.exec
  have hby := Bd.bytes
  have hml : c.maxLocals = 1 := hml0
  have hown : s.vm.findClass "com/example/probematch/probematch/engine/SplitMix64" = some m.cls := findClass_of_methodNamed Bd.named
  have hnm := (name_of_methodNamed Bd.named Bd.method).1
  have X0 : Stand p l e ({ frames := 1, cells := 0, slots := 0, locals := 14 } : Room) s m #[(.ref a0)] below meth c s₁ [] 0 0 := Stand.of_body Bd
  have e0 : s₁.heap = h0 := by rw [← hh, Bd.state]; rfl
  have N0 := Fr.nil n0
  show OwnEnd p e below s (fun v h L => Q3 Z a0 w0 h0 n0 v h L) ({ frames := 1, cells := 0, slots := 0, locals := 14 } : Room).cells ({ frames := 1, cells := 0, slots := 0, locals := 14 } : Room).slots (s₁.setTop (entryFrame m #[(.ref a0)] 1))
  rw [ef3 m a0]
  generalize hW : OwnEnd p e below s (fun v h L => Q3 Z a0 w0 h0 n0 v h L) ({ frames := 1, cells := 0, slots := 0, locals := 14 } : Room).cells ({ frames := 1, cells := 0, slots := 0, locals := 14 } : Room).slots = W
  have stp : ∀ {A B : State}, (∀ t, Steps p.tables e below B t → Steps p.tables e below A t) → W B → W A := by subst hW; exact own_step
  show W (s₁.setTop (mkF m 0 #[.val (.ref a0)] []))
  refine stp (fun t k => XS.aloadN X0.here hx rfl (hb hby d3_0) rfl rfl k) ?_
  show W (s₁.setTop (mkF m 1 #[.val (.ref a0)] [(.ref a0)]))
  obtain ⟨cq3c1, kq3c1, q3c1a, q3c1b, q3c1c⟩ := isOf hZ e0 E_a0
  obtain ⟨_, _, ⟨T3c1, L3c1, k3c1, n3c1⟩, -, X3c1, ⟨Lc3c1, hQ3c1, l3c1, y3c1, z3c1⟩, st3c1⟩ := X0.virtualBack hx (y := (⟨"com/example/probematch/probematch/engine/SplitMix64", "nextLong", "()J"⟩ : MethodName)) (z := (⟨"com/example/probematch/probematch/engine/SplitMix64", "nextLong", "()J"⟩ : MethodName)) hown (mvT hZ (hw _ (List.mem_of_getElem? (i := 16) rfl))) (mvT hZ (hw _ (List.mem_of_getElem? (i := 17) rfl))) (notFace_of_selects (args := #[]) (mvT hZ (hw _ (List.mem_of_getElem? (i := 19) rfl)))) (mvT hZ (hw _ (List.mem_of_getElem? (i := 19) rfl))) (mvT hZ (hw _ (List.mem_of_getElem? (i := 18) rfl))) (by decide) (backOf (W := 0) (rm2 l Z aa hw [] a0 w0 h0 n0 Z0 F_state_a0 E_a0 g_a0) hZ (hw _ (List.mem_of_getElem? (i := 20) rfl)) (hw _ (List.mem_of_getElem? (i := 2) rfl)) (by decide) (by decide)) q3c1a q3c1c (g := (mkF m 1 #[.val (.ref a0)] [(.ref a0)])) rfl (by rw [hml]; rfl) (Steps.refl _) (argsL := []) (rest := []) (lenOf pd3_0 rfl) rfl (by show 2 * 0 + _ ≤ _; exact Nat.le_of_eq rfl) (hb hby d3_1) (fun _ _ => ⟨rfl, e0, (by decide : 0 + 0 ≤ _), (by decide : 0 + 0 ≤ _)⟩)
  dsimp only [Pt.U, Pt.locs, Pt.cells, Pt.slots] at X3c1 l3c1 y3c1 z3c1 st3c1 hQ3c1
  subst l3c1 y3c1 z3c1
  obtain ⟨rfl, N3c1q, Kq3c1, g3c1E, g3c1F⟩ := hQ3c1
  have N3c1 := Fr.app N0 N3c1q
  obtain ⟨h3c1, e3c1⟩ : ∃ h, T3c1.heap = h := ⟨_, rfl⟩
  rw [e3c1] at Kq3c1 g3c1E g3c1F
  have E_a0 := E_a0.keep Kq3c1
  have KK3c1 := Keep.trans (Keep.refl h0 [a0]) Kq3c1 (allS (Or.inl (List.mem_of_getElem? (i := 0) rfl)) all0)
  have Z3c1 := Nat.le_trans Z0 Kq3c1.1
  have E_a0 := g3c1E
  have F_state_a0 := g3c1F
  refine stp (fun t k => st3c1.trans k) ?_
  show W (T3c1.setTop (mkF m 4 #[.val (.ref a0)] [(.long (f2 w0))]))
  refine stp (fun t k => XS.bipush X3c1.here hx rfl (hb hby d3_4) k) ?_
  show W (T3c1.setTop (mkF m 6 #[.val (.ref a0)] [(.int (11 : Int32)), (.long (f2 w0))]))
  refine stp (fun t k => XS.lushr X3c1.here hx rfl (hb hby d3_6) rfl k) ?_
  show W (T3c1.setTop (mkF m 7 #[.val (.ref a0)] [(.long (((f2 w0).toUInt64 >>> ((11 : Int32) &&& 0x3f).toInt64.toUInt64).toInt64))]))
  refine stp (fun t k => XS.l2dS X3c1.here hx rfl (hb hby d3_7) rfl rfl k) ?_
  show W (T3c1.setTop (mkF m 8 #[.val (.ref a0)] [(.double (FP.l2d (((f2 w0).toUInt64 >>> ((11 : Int32) &&& 0x3f).toInt64.toUInt64).toInt64)))]))
  refine stp (fun t k => X3c1.ldc2DoubleC hx hown (mvT hZ (hw _ (List.mem_of_getElem? (i := 24) rfl))) (g := (mkF m 8 #[.val (.ref a0)] [(.double (FP.l2d (((f2 w0).toUInt64 >>> ((11 : Int32) &&& 0x3f).toInt64.toUInt64).toInt64)))])) rfl (hb hby d3_8) _ k) ?_
  show W (T3c1.setTop (mkF m 11 #[.val (.ref a0)] [(.double (4368491638549381120 : UInt64)), (.double (FP.l2d (((f2 w0).toUInt64 >>> ((11 : Int32) &&& 0x3f).toInt64.toUInt64).toInt64)))]))
  refine stp (fun t k => XS.dmulS X3c1.here hx rfl (hb hby d3_11) rfl (by exact own_3_11_2 a0 w0 ) rfl k) ?_
  show W (T3c1.setTop (mkF m 12 #[.val (.ref a0)] [(.double (FP.dmul (FP.l2d (((f2 w0).toUInt64 >>> ((11 : Int32) &&& 0x3f).toInt64.toUInt64).toInt64)) (4368491638549381120 : UInt64)))]))
  show W (T3c1.setTop (mkF m 12 #[.val (.ref a0)] [(.double (FP.dmul (FP.l2d (((f2 w0).toUInt64 >>> ((11 : Int32) &&& 0x3f).toInt64.toUInt64).toInt64)) (4368491638549381120 : UInt64)))]))
  rw [← hW]
  exact own_retD X3c1 hx Bd.notSynchronized Bd.returns (hb hby d3_12) (by show Q3 Z a0 w0 h0 n0 _ T3c1.heap _; rw [e3c1]; exact ⟨(by rw [f3]), N3c1, KK3c1, E_a0, F_state_a0⟩) (by decide) (by decide)
theorem pn0 : plainName "com/example/probematch/probematch/engine/SplitMix64NextDoublePinLaw" = true := by first | (simp [plainName, overriddenIn]; done) | decide +kernel
theorem pd0_0 : parseMethodDescriptor "(J)V" = some ⟨[.long], none⟩ := by decide +kernel
theorem pd0_1 : parseMethodDescriptor "()D" = some ⟨[], some .double⟩ := by decide +kernel
theorem pd0_2 : parseMethodDescriptor "()J" = some ⟨[], some .long⟩ := by decide +kernel
theorem ef0 (m : MethodId) (q0 : Int64) : entryFrame m #[(.long q0)] maxLocals = mkF m 0 #[.val (.long q0), .second, .unset, .unset, .unset, .unset, .unset, .unset, .unset, .unset, .unset, .unset, .unset, .unset, .unset] [] := by first | (simp [entryFrame, mkF, argsToLocals, Value.category, maxLocals]; done) | rfl
theorem own_0_41_7 (q0 : Int64)   : ¬ ((0 : Int32) < (cmpValue (FP.dcmp (0 : UInt64) (f3 q0)) .g)) := own_c0 (f2 q0)
theorem own_0_48_8 (q0 : Int64)   : (cmpValue (FP.dcmp (f3 q0) (4607182418800017408 : UInt64)) .g) < (0 : Int32) := own_c1 (f2 q0)
theorem own_0_63_9 (q0 : Int64)   : Jvm.Free.Fl.NoNaN64 (FP.dmul (f3 q0) (4845873199050653696 : UInt64)) := own_nn2 (f2 q0)
theorem own_0_72_10 (q0 : Int64)   : (cmpValue (FP.dcmp (FP.dmul (f3 q0) (4845873199050653696 : UInt64)) (FP.l2d (((f2 q0).toUInt64 >>> ((11 : Int32) &&& 0x3f).toInt64.toUInt64).toInt64))) .l) = (0 : Int32) := own_c2 (f2 q0)
theorem own_0_81_11 (q0 : Int64)   : (FP.d2l (FP.dmul (f3 q0) (4845873199050653696 : UInt64))) = (((f2 q0).toUInt64 >>> ((11 : Int32) &&& 0x3f).toInt64.toUInt64).toInt64) := own_c3 (f2 q0)
theorem own_0_100_14 (q0 : Int64)   : (f2 (q0 + (-7046029254386353131 : Int64))) = (f2 (q0 + (-7046029254386353131 : Int64))) := rfl
theorem own_0_112_15 (q0 : Int64)   : ¬ ((1 : Int32) = (0 : Int32)) := by decide
theorem own_0_117_16 (q0 : Int64)   : ¬ ((1 : Int32) = (0 : Int32)) := by decide
theorem own_0_122_17 (q0 : Int64)   : ¬ ((1 : Int32) = (0 : Int32)) := by decide
def Q0 (Z : State) (q0 : Int64) (h0 : Heap) (n0 : Nat) (v : Option Value) (h : Heap) (L : List Loc) : Prop := v = some (.int (1 : Int32)) ∧ Fr n0 L
set_option maxRecDepth 65536 in
set_option maxHeartbeats 40000000 in
theorem rm0 (l : Launch) (Z : State) (aa : Array Value) (hw : ∀ d ∈ tables_1, d.before aa Z = true) (ws : List Jvm.Cond) (q0 : Int64) (h0 : Heap) (n0 : Nat) (Z0 : n0 ≤ h0.size) :
    MetFree l x (head1 (Jvm.Cond.code x code maxLocals ret :: ws) room_1) (fun a U => a = #[(.long q0)] ∧ Z.Warmed39 U.vm ∧ U.heap = h0) (fun _ _ _ _ _ => True) (fun _ U o U' => ∃ v L, o = .returned v ∧ Q0 Z q0 h0 n0 v U'.heap L ∧ FrameEnd U o U' L room_1.cells room_1.slots) := by
  refine MetFree.of_bodySF (plainFor_of_name pn0) hisR ?_
  intro p e s m args below meth c s₁ Bd hml0 hP hK
  obtain ⟨rfl, hZ, hh⟩ := hP
  have hx := Bd.exec
  have hby := Bd.bytes
  have hml : c.maxLocals = 15 := hml0
  have hown : s.vm.findClass "com/example/probematch/probematch/engine/SplitMix64NextDoublePinLaw" = some m.cls := findClass_of_methodNamed Bd.named
  have hnm := (name_of_methodNamed Bd.named Bd.method).1
  have X0 : Stand p l e room_1 s m #[(.long q0)] below meth c s₁ [] 0 0 := Stand.of_body Bd
  have e0 : s₁.heap = h0 := by rw [← hh, Bd.state]; rfl
  have N0 := Fr.nil n0
  show OwnEnd p e below s (fun v h L => Q0 Z q0 h0 n0 v h L) room_1.cells room_1.slots (s₁.setTop (entryFrame m #[(.long q0)] maxLocals))
  rw [ef0 m q0]
  generalize hW : OwnEnd p e below s (fun v h L => Q0 Z q0 h0 n0 v h L) room_1.cells room_1.slots = W
  have stp : ∀ {A B : State}, (∀ t, Steps p.tables e below B t → Steps p.tables e below A t) → W B → W A := by subst hW; exact own_step
  show W (s₁.setTop (mkF m 0 #[.val (.long q0), .second, .unset, .unset, .unset, .unset, .unset, .unset, .unset, .unset, .unset, .unset, .unset, .unset, .unset] []))
  obtain ⟨T01, h01, X01, e01, E01, A01, D01, -, st01⟩ := newO X0 hx hZ hown (hw _ (List.mem_of_getElem? (i := 0) rfl)) (hw _ (List.mem_of_getElem? (i := 1) rfl)) (hw _ (List.mem_of_getElem? (i := 2) rfl)) e0 (g := (mkF m 0 #[.val (.long q0), .second, .unset, .unset, .unset, .unset, .unset, .unset, .unset, .unset, .unset, .unset, .unset, .unset, .unset] [])) rfl (hb hby at_0) (by decide) (by decide)
  obtain ⟨b01, gq01⟩ : ∃ z, z = h0.size := ⟨_, rfl⟩
  rw [← gq01] at A01 D01 st01
  have g_b01 : n0 ≤ b01 := Nat.le_trans Z0 (Nat.le_of_eq gq01.symm)
  have sz_b01 : h0.size ≤ b01 := Nat.le_trans (Keep.refl h0 []).1 (Nat.le_of_eq gq01.symm)
  have K01 := (Keep.refl h0 []).ext E01
  have Z01 := Nat.le_trans Z0 E01.1
  have E_b01 := A01
  have F_state_b01 : Fld Z h01 b01 "com/example/probematch/probematch/engine/SplitMix64" "state" "J" (.long (0 : Int64)) := D01 (Or.inl (hw _ (List.mem_of_getElem? (i := 10) rfl))) (ty := .long) (by decide)
  refine stp (fun t k => st01 t k) ?_
  show W (T01.setTop (mkF m 3 #[.val (.long q0), .second, .unset, .unset, .unset, .unset, .unset, .unset, .unset, .unset, .unset, .unset, .unset, .unset, .unset] [(.ref b01)]))
  refine stp (fun t k => XS.dup X01.here hx rfl (hb hby at_3) rfl rfl k) ?_
  show W (T01.setTop (mkF m 4 #[.val (.long q0), .second, .unset, .unset, .unset, .unset, .unset, .unset, .unset, .unset, .unset, .unset, .unset, .unset, .unset] [(.ref b01), (.ref b01)]))
  refine stp (fun t k => XS.lloadN X01.here hx rfl (hb hby at_4) rfl k) ?_
  show W (T01.setTop (mkF m 5 #[.val (.long q0), .second, .unset, .unset, .unset, .unset, .unset, .unset, .unset, .unset, .unset, .unset, .unset, .unset, .unset] [(.long q0), (.ref b01), (.ref b01)]))
  obtain ⟨_, _, ⟨T0c2, L0c2, k0c2, n0c2⟩, -, X0c2, ⟨Lc0c2, hQ0c2, l0c2, y0c2, z0c2⟩, st0c2⟩ := X01.specialBack hx (y := (⟨"com/example/probematch/probematch/engine/SplitMix64", "<init>", "(J)V"⟩ : MethodName)) rfl hown (mvT hZ (hw _ (List.mem_of_getElem? (i := 3) rfl))) (mvT hZ (hw _ (List.mem_of_getElem? (i := 4) rfl))) (mvT hZ (hw _ (List.mem_of_getElem? (i := 5) rfl))) (by decide) (backOf (W := 1) (rm1 l Z aa hw [] b01 q0  h01 n0 Z01 F_state_b01 E_b01 g_b01) hZ (hw _ (List.mem_of_getElem? (i := 5) rfl)) (hw _ (List.mem_of_getElem? (i := 2) rfl)) (by decide) (by decide)) (g := (mkF m 5 #[.val (.long q0), .second, .unset, .unset, .unset, .unset, .unset, .unset, .unset, .unset, .unset, .unset, .unset, .unset, .unset] [(.long q0), (.ref b01), (.ref b01)])) rfl (by rw [hml]; rfl) (Steps.refl _) (a := b01) (argsL := [(.long q0)]) (rest := [(.ref b01)]) (lenOf pd0_0 rfl) rfl (by show 2 * 0 + _ ≤ _; exact Nat.le_of_eq rfl) (hb hby at_5) (fun _ _ => ⟨rfl, e01, (by decide : 1 + 0 ≤ _), (by decide : 1 + 0 ≤ _)⟩)
  dsimp only [Pt.U, Pt.locs, Pt.cells, Pt.slots] at X0c2 l0c2 y0c2 z0c2 st0c2 hQ0c2
  subst l0c2 y0c2 z0c2
  obtain ⟨rfl, N0c2q, Kq0c2, g0c2E, g0c2F⟩ := hQ0c2
  have N0c2 := Fr.app N0 N0c2q
  obtain ⟨h0c2, e0c2⟩ : ∃ h, T0c2.heap = h := ⟨_, rfl⟩
  rw [e0c2] at Kq0c2 g0c2E g0c2F
  have E_b01 := E_b01.keep Kq0c2
  have KK0c2 := Keep.trans K01 Kq0c2 (allS (Or.inr sz_b01) all0)
  have Z0c2 := Nat.le_trans Z01 Kq0c2.1
  have E_b01 := g0c2E
  have F_state_b01 := g0c2F
  refine stp (fun t k => st0c2.trans k) ?_
  show W (T0c2.setTop (mkF m 8 #[.val (.long q0), .second, .unset, .unset, .unset, .unset, .unset, .unset, .unset, .unset, .unset, .unset, .unset, .unset, .unset] [(.ref b01)]))
  refine stp (fun t k => XS.astoreN X0c2.here hx rfl (hb hby at_8) rfl rfl (l' := #[.val (.long q0), .second, .val (.ref b01), .unset, .unset, .unset, .unset, .unset, .unset, .unset, .unset, .unset, .unset, .unset, .unset]) rfl k) ?_
  show W (T0c2.setTop (mkF m 9 #[.val (.long q0), .second, .val (.ref b01), .unset, .unset, .unset, .unset, .unset, .unset, .unset, .unset, .unset, .unset, .unset, .unset] []))
  obtain ⟨T03, h03, X03, e03, E03, A03, D03, -, st03⟩ := newO X0c2 hx hZ hown (hw _ (List.mem_of_getElem? (i := 0) rfl)) (hw _ (List.mem_of_getElem? (i := 1) rfl)) (hw _ (List.mem_of_getElem? (i := 2) rfl)) e0c2 (g := (mkF m 9 #[.val (.long q0), .second, .val (.ref b01), .unset, .unset, .unset, .unset, .unset, .unset, .unset, .unset, .unset, .unset, .unset, .unset] [])) rfl (hb hby at_9) (by decide) (by decide)
  obtain ⟨b03, gq03⟩ : ∃ z, z = h0c2.size := ⟨_, rfl⟩
  rw [← gq03] at A03 D03 st03
  have ne_b01_b03 : b01 ≠ b03 := Nat.ne_of_lt (Nat.lt_of_lt_of_le E_b01.lt (Nat.le_of_eq gq03.symm))
  have g_b03 : n0 ≤ b03 := Nat.le_trans Z0c2 (Nat.le_of_eq gq03.symm)
  have sz_b03 : h0.size ≤ b03 := Nat.le_trans KK0c2.1 (Nat.le_of_eq gq03.symm)
  have E_b01 := E_b01.ext E03
  have F_state_b01 := F_state_b01.ext E03
  have K03 := KK0c2.ext E03
  have Z03 := Nat.le_trans Z0c2 E03.1
  have E_b03 := A03
  have F_state_b03 : Fld Z h03 b03 "com/example/probematch/probematch/engine/SplitMix64" "state" "J" (.long (0 : Int64)) := D03 (Or.inl (hw _ (List.mem_of_getElem? (i := 10) rfl))) (ty := .long) (by decide)
  refine stp (fun t k => st03 t k) ?_
  show W (T03.setTop (mkF m 12 #[.val (.long q0), .second, .val (.ref b01), .unset, .unset, .unset, .unset, .unset, .unset, .unset, .unset, .unset, .unset, .unset, .unset] [(.ref b03)]))
  refine stp (fun t k => XS.dup X03.here hx rfl (hb hby at_12) rfl rfl k) ?_
  show W (T03.setTop (mkF m 13 #[.val (.long q0), .second, .val (.ref b01), .unset, .unset, .unset, .unset, .unset, .unset, .unset, .unset, .unset, .unset, .unset, .unset] [(.ref b03), (.ref b03)]))
  refine stp (fun t k => XS.lloadN X03.here hx rfl (hb hby at_13) rfl k) ?_
  show W (T03.setTop (mkF m 14 #[.val (.long q0), .second, .val (.ref b01), .unset, .unset, .unset, .unset, .unset, .unset, .unset, .unset, .unset, .unset, .unset, .unset] [(.long q0), (.ref b03), (.ref b03)]))
  obtain ⟨_, _, ⟨T0c4, L0c4, k0c4, n0c4⟩, -, X0c4, ⟨Lc0c4, hQ0c4, l0c4, y0c4, z0c4⟩, st0c4⟩ := X03.specialBack hx (y := (⟨"com/example/probematch/probematch/engine/SplitMix64", "<init>", "(J)V"⟩ : MethodName)) rfl hown (mvT hZ (hw _ (List.mem_of_getElem? (i := 3) rfl))) (mvT hZ (hw _ (List.mem_of_getElem? (i := 4) rfl))) (mvT hZ (hw _ (List.mem_of_getElem? (i := 5) rfl))) (by decide) (backOf (W := 1) (rm1 l Z aa hw [] b03 q0  h03 n0 Z03 F_state_b03 E_b03 g_b03) hZ (hw _ (List.mem_of_getElem? (i := 5) rfl)) (hw _ (List.mem_of_getElem? (i := 2) rfl)) (by decide) (by decide)) (g := (mkF m 14 #[.val (.long q0), .second, .val (.ref b01), .unset, .unset, .unset, .unset, .unset, .unset, .unset, .unset, .unset, .unset, .unset, .unset] [(.long q0), (.ref b03), (.ref b03)])) rfl (by rw [hml]; rfl) (Steps.refl _) (a := b03) (argsL := [(.long q0)]) (rest := [(.ref b03)]) (lenOf pd0_0 rfl) rfl (by show 2 * 0 + _ ≤ _; exact Nat.le_of_eq rfl) (hb hby at_14) (fun _ _ => ⟨rfl, e03, (by decide : 2 + 0 ≤ _), (by decide : 2 + 0 ≤ _)⟩)
  dsimp only [Pt.U, Pt.locs, Pt.cells, Pt.slots] at X0c4 l0c4 y0c4 z0c4 st0c4 hQ0c4
  subst l0c4 y0c4 z0c4
  obtain ⟨rfl, N0c4q, Kq0c4, g0c4E, g0c4F⟩ := hQ0c4
  have N0c4 := Fr.app N0c2 N0c4q
  obtain ⟨h0c4, e0c4⟩ : ∃ h, T0c4.heap = h := ⟨_, rfl⟩
  rw [e0c4] at Kq0c4 g0c4E g0c4F
  have E_b01 := E_b01.keep Kq0c4
  have F_state_b01 := F_state_b01.keep Kq0c4 (ninS ne_b01_b03 nin0)
  have E_b03 := E_b03.keep Kq0c4
  have KK0c4 := Keep.trans K03 Kq0c4 (allS (Or.inr sz_b03) all0)
  have Z0c4 := Nat.le_trans Z03 Kq0c4.1
  have E_b03 := g0c4E
  have F_state_b03 := g0c4F
  refine stp (fun t k => st0c4.trans k) ?_
  show W (T0c4.setTop (mkF m 17 #[.val (.long q0), .second, .val (.ref b01), .unset, .unset, .unset, .unset, .unset, .unset, .unset, .unset, .unset, .unset, .unset, .unset] [(.ref b03)]))
  refine stp (fun t k => XS.astoreN X0c4.here hx rfl (hb hby at_17) rfl rfl (l' := #[.val (.long q0), .second, .val (.ref b01), .val (.ref b03), .unset, .unset, .unset, .unset, .unset, .unset, .unset, .unset, .unset, .unset, .unset]) rfl k) ?_
  show W (T0c4.setTop (mkF m 18 #[.val (.long q0), .second, .val (.ref b01), .val (.ref b03), .unset, .unset, .unset, .unset, .unset, .unset, .unset, .unset, .unset, .unset, .unset] []))
  refine stp (fun t k => XS.aloadN X0c4.here hx rfl (hb hby at_18) rfl rfl k) ?_
  show W (T0c4.setTop (mkF m 19 #[.val (.long q0), .second, .val (.ref b01), .val (.ref b03), .unset, .unset, .unset, .unset, .unset, .unset, .unset, .unset, .unset, .unset, .unset] [(.ref b01)]))
  obtain ⟨cq0c5, kq0c5, q0c5a, q0c5b, q0c5c⟩ := isOf hZ e0c4 E_b01
  obtain ⟨_, _, ⟨T0c5, L0c5, k0c5, n0c5⟩, -, X0c5, ⟨Lc0c5, hQ0c5, l0c5, y0c5, z0c5⟩, st0c5⟩ := X0c4.virtualBack hx (y := (⟨"com/example/probematch/probematch/engine/SplitMix64", "nextDouble", "()D"⟩ : MethodName)) (z := (⟨"com/example/probematch/probematch/engine/SplitMix64", "nextDouble", "()D"⟩ : MethodName)) hown (mvT hZ (hw _ (List.mem_of_getElem? (i := 11) rfl))) (mvT hZ (hw _ (List.mem_of_getElem? (i := 12) rfl))) (notFace_of_selects (args := #[]) (mvT hZ (hw _ (List.mem_of_getElem? (i := 14) rfl)))) (mvT hZ (hw _ (List.mem_of_getElem? (i := 14) rfl))) (mvT hZ (hw _ (List.mem_of_getElem? (i := 13) rfl))) (by decide) (backOf (W := 0) (rm3 l Z aa hw [] b01 q0 h0c4 n0 Z0c4 F_state_b01 E_b01 g_b01) hZ (hw _ (List.mem_of_getElem? (i := 15) rfl)) (hw _ (List.mem_of_getElem? (i := 2) rfl)) (by decide) (by decide)) q0c5a q0c5c (g := (mkF m 19 #[.val (.long q0), .second, .val (.ref b01), .val (.ref b03), .unset, .unset, .unset, .unset, .unset, .unset, .unset, .unset, .unset, .unset, .unset] [(.ref b01)])) rfl (by rw [hml]; rfl) (Steps.refl _) (argsL := []) (rest := []) (lenOf pd0_1 rfl) rfl (by show 2 * 0 + _ ≤ _; exact Nat.le_of_eq rfl) (hb hby at_19) (fun _ _ => ⟨rfl, e0c4, (by decide : 2 + 0 ≤ _), (by decide : 2 + 0 ≤ _)⟩)
  dsimp only [Pt.U, Pt.locs, Pt.cells, Pt.slots] at X0c5 l0c5 y0c5 z0c5 st0c5 hQ0c5
  subst l0c5 y0c5 z0c5
  obtain ⟨rfl, N0c5q, Kq0c5, g0c5E, g0c5F⟩ := hQ0c5
  have N0c5 := Fr.app N0c4 N0c5q
  obtain ⟨h0c5, e0c5⟩ : ∃ h, T0c5.heap = h := ⟨_, rfl⟩
  rw [e0c5] at Kq0c5 g0c5E g0c5F
  have E_b01 := E_b01.keep Kq0c5
  have E_b03 := E_b03.keep Kq0c5
  have F_state_b03 := F_state_b03.keep Kq0c5 (ninS (Ne.symm ne_b01_b03) nin0)
  have KK0c5 := Keep.trans KK0c4 Kq0c5 (allS (Or.inr sz_b01) all0)
  have Z0c5 := Nat.le_trans Z0c4 Kq0c5.1
  have E_b01 := g0c5E
  have F_state_b01 := g0c5F
  refine stp (fun t k => st0c5.trans k) ?_
  show W (T0c5.setTop (mkF m 22 #[.val (.long q0), .second, .val (.ref b01), .val (.ref b03), .unset, .unset, .unset, .unset, .unset, .unset, .unset, .unset, .unset, .unset, .unset] [(.double (f3 q0))]))
  refine stp (fun t k => XS.dstore X0c5.here hx rfl (hb hby at_22) rfl (l' := #[.val (.long q0), .second, .val (.ref b01), .val (.ref b03), .val (.double (f3 q0)), .second, .unset, .unset, .unset, .unset, .unset, .unset, .unset, .unset, .unset]) rfl k) ?_
  show W (T0c5.setTop (mkF m 24 #[.val (.long q0), .second, .val (.ref b01), .val (.ref b03), .val (.double (f3 q0)), .second, .unset, .unset, .unset, .unset, .unset, .unset, .unset, .unset, .unset] []))
  refine stp (fun t k => XS.aloadN X0c5.here hx rfl (hb hby at_24) rfl rfl k) ?_
  show W (T0c5.setTop (mkF m 25 #[.val (.long q0), .second, .val (.ref b01), .val (.ref b03), .val (.double (f3 q0)), .second, .unset, .unset, .unset, .unset, .unset, .unset, .unset, .unset, .unset] [(.ref b03)]))
  obtain ⟨cq0c6, kq0c6, q0c6a, q0c6b, q0c6c⟩ := isOf hZ e0c5 E_b03
  obtain ⟨_, _, ⟨T0c6, L0c6, k0c6, n0c6⟩, -, X0c6, ⟨Lc0c6, hQ0c6, l0c6, y0c6, z0c6⟩, st0c6⟩ := X0c5.virtualBack hx (y := (⟨"com/example/probematch/probematch/engine/SplitMix64", "nextLong", "()J"⟩ : MethodName)) (z := (⟨"com/example/probematch/probematch/engine/SplitMix64", "nextLong", "()J"⟩ : MethodName)) hown (mvT hZ (hw _ (List.mem_of_getElem? (i := 25) rfl))) (mvT hZ (hw _ (List.mem_of_getElem? (i := 17) rfl))) (notFace_of_selects (args := #[]) (mvT hZ (hw _ (List.mem_of_getElem? (i := 19) rfl)))) (mvT hZ (hw _ (List.mem_of_getElem? (i := 19) rfl))) (mvT hZ (hw _ (List.mem_of_getElem? (i := 18) rfl))) (by decide) (backOf (W := 0) (rm2 l Z aa hw [] b03 q0 h0c5 n0 Z0c5 F_state_b03 E_b03 g_b03) hZ (hw _ (List.mem_of_getElem? (i := 20) rfl)) (hw _ (List.mem_of_getElem? (i := 2) rfl)) (by decide) (by decide)) q0c6a q0c6c (g := (mkF m 25 #[.val (.long q0), .second, .val (.ref b01), .val (.ref b03), .val (.double (f3 q0)), .second, .unset, .unset, .unset, .unset, .unset, .unset, .unset, .unset, .unset] [(.ref b03)])) rfl (by rw [hml]; rfl) (Steps.refl _) (argsL := []) (rest := []) (lenOf pd0_2 rfl) rfl (by show 2 * 0 + _ ≤ _; exact Nat.le_of_eq rfl) (hb hby at_25) (fun _ _ => ⟨rfl, e0c5, (by decide : 2 + 0 ≤ _), (by decide : 2 + 0 ≤ _)⟩)
  dsimp only [Pt.U, Pt.locs, Pt.cells, Pt.slots] at X0c6 l0c6 y0c6 z0c6 st0c6 hQ0c6
  subst l0c6 y0c6 z0c6
  obtain ⟨rfl, N0c6q, Kq0c6, g0c6E, g0c6F⟩ := hQ0c6
  have N0c6 := Fr.app N0c5 N0c6q
  obtain ⟨h0c6, e0c6⟩ : ∃ h, T0c6.heap = h := ⟨_, rfl⟩
  rw [e0c6] at Kq0c6 g0c6E g0c6F
  have E_b01 := E_b01.keep Kq0c6
  have E_b03 := E_b03.keep Kq0c6
  have F_state_b01 := F_state_b01.keep Kq0c6 (ninS ne_b01_b03 nin0)
  have KK0c6 := Keep.trans KK0c5 Kq0c6 (allS (Or.inr sz_b03) all0)
  have Z0c6 := Nat.le_trans Z0c5 Kq0c6.1
  have E_b03 := g0c6E
  have F_state_b03 := g0c6F
  refine stp (fun t k => st0c6.trans k) ?_
  show W (T0c6.setTop (mkF m 28 #[.val (.long q0), .second, .val (.ref b01), .val (.ref b03), .val (.double (f3 q0)), .second, .unset, .unset, .unset, .unset, .unset, .unset, .unset, .unset, .unset] [(.long (f2 q0))]))
  refine stp (fun t k => XS.lstore X0c6.here hx rfl (hb hby at_28) rfl (l' := #[.val (.long q0), .second, .val (.ref b01), .val (.ref b03), .val (.double (f3 q0)), .second, .val (.long (f2 q0)), .second, .unset, .unset, .unset, .unset, .unset, .unset, .unset]) rfl k) ?_
  show W (T0c6.setTop (mkF m 30 #[.val (.long q0), .second, .val (.ref b01), .val (.ref b03), .val (.double (f3 q0)), .second, .val (.long (f2 q0)), .second, .unset, .unset, .unset, .unset, .unset, .unset, .unset] []))
  refine stp (fun t k => XS.lload X0c6.here hx rfl (hb hby at_30) rfl k) ?_
  show W (T0c6.setTop (mkF m 32 #[.val (.long q0), .second, .val (.ref b01), .val (.ref b03), .val (.double (f3 q0)), .second, .val (.long (f2 q0)), .second, .unset, .unset, .unset, .unset, .unset, .unset, .unset] [(.long (f2 q0))]))
  refine stp (fun t k => XS.bipush X0c6.here hx rfl (hb hby at_32) k) ?_
  show W (T0c6.setTop (mkF m 34 #[.val (.long q0), .second, .val (.ref b01), .val (.ref b03), .val (.double (f3 q0)), .second, .val (.long (f2 q0)), .second, .unset, .unset, .unset, .unset, .unset, .unset, .unset] [(.int (11 : Int32)), (.long (f2 q0))]))
  refine stp (fun t k => XS.lushr X0c6.here hx rfl (hb hby at_34) rfl k) ?_
  show W (T0c6.setTop (mkF m 35 #[.val (.long q0), .second, .val (.ref b01), .val (.ref b03), .val (.double (f3 q0)), .second, .val (.long (f2 q0)), .second, .unset, .unset, .unset, .unset, .unset, .unset, .unset] [(.long (((f2 q0).toUInt64 >>> ((11 : Int32) &&& 0x3f).toInt64.toUInt64).toInt64))]))
  refine stp (fun t k => XS.lstore X0c6.here hx rfl (hb hby at_35) rfl (l' := #[.val (.long q0), .second, .val (.ref b01), .val (.ref b03), .val (.double (f3 q0)), .second, .val (.long (f2 q0)), .second, .val (.long (((f2 q0).toUInt64 >>> ((11 : Int32) &&& 0x3f).toInt64.toUInt64).toInt64)), .second, .unset, .unset, .unset, .unset, .unset]) rfl k) ?_
  show W (T0c6.setTop (mkF m 37 #[.val (.long q0), .second, .val (.ref b01), .val (.ref b03), .val (.double (f3 q0)), .second, .val (.long (f2 q0)), .second, .val (.long (((f2 q0).toUInt64 >>> ((11 : Int32) &&& 0x3f).toInt64.toUInt64).toInt64)), .second, .unset, .unset, .unset, .unset, .unset] []))
  refine stp (fun t k => XS.dconst0 X0c6.here hx rfl (hb hby at_37) (v := (0 : UInt64)) rfl k) ?_
  show W (T0c6.setTop (mkF m 38 #[.val (.long q0), .second, .val (.ref b01), .val (.ref b03), .val (.double (f3 q0)), .second, .val (.long (f2 q0)), .second, .val (.long (((f2 q0).toUInt64 >>> ((11 : Int32) &&& 0x3f).toInt64.toUInt64).toInt64)), .second, .unset, .unset, .unset, .unset, .unset] [(.double (0 : UInt64))]))
  refine stp (fun t k => XS.dload X0c6.here hx rfl (hb hby at_38) rfl k) ?_
  show W (T0c6.setTop (mkF m 40 #[.val (.long q0), .second, .val (.ref b01), .val (.ref b03), .val (.double (f3 q0)), .second, .val (.long (f2 q0)), .second, .val (.long (((f2 q0).toUInt64 >>> ((11 : Int32) &&& 0x3f).toInt64.toUInt64).toInt64)), .second, .unset, .unset, .unset, .unset, .unset] [(.double (f3 q0)), (.double (0 : UInt64))]))
  refine stp (fun t k => XS.dcmpS X0c6.here hx rfl (hb hby at_40) rfl rfl k) ?_
  show W (T0c6.setTop (mkF m 41 #[.val (.long q0), .second, .val (.ref b01), .val (.ref b03), .val (.double (f3 q0)), .second, .val (.long (f2 q0)), .second, .val (.long (((f2 q0).toUInt64 >>> ((11 : Int32) &&& 0x3f).toInt64.toUInt64).toInt64)), .second, .unset, .unset, .unset, .unset, .unset] [(.int (cmpValue (FP.dcmp (0 : UInt64) (f3 q0)) .g))]))
  refine stp (fun t k => XS.ifNo X0c6.here hx rfl (hb hby at_41) rfl ((if0 _ _).trans (flt (by exact own_0_41_7 q0  )).2.2.1) k) ?_
  show W (T0c6.setTop (mkF m 44 #[.val (.long q0), .second, .val (.ref b01), .val (.ref b03), .val (.double (f3 q0)), .second, .val (.long (f2 q0)), .second, .val (.long (((f2 q0).toUInt64 >>> ((11 : Int32) &&& 0x3f).toInt64.toUInt64).toInt64)), .second, .unset, .unset, .unset, .unset, .unset] []))
  refine stp (fun t k => XS.dload X0c6.here hx rfl (hb hby at_44) rfl k) ?_
  show W (T0c6.setTop (mkF m 46 #[.val (.long q0), .second, .val (.ref b01), .val (.ref b03), .val (.double (f3 q0)), .second, .val (.long (f2 q0)), .second, .val (.long (((f2 q0).toUInt64 >>> ((11 : Int32) &&& 0x3f).toInt64.toUInt64).toInt64)), .second, .unset, .unset, .unset, .unset, .unset] [(.double (f3 q0))]))
  refine stp (fun t k => XS.dconst1 X0c6.here hx rfl (hb hby at_46) (v := (4607182418800017408 : UInt64)) rfl k) ?_
  show W (T0c6.setTop (mkF m 47 #[.val (.long q0), .second, .val (.ref b01), .val (.ref b03), .val (.double (f3 q0)), .second, .val (.long (f2 q0)), .second, .val (.long (((f2 q0).toUInt64 >>> ((11 : Int32) &&& 0x3f).toInt64.toUInt64).toInt64)), .second, .unset, .unset, .unset, .unset, .unset] [(.double (4607182418800017408 : UInt64)), (.double (f3 q0))]))
  refine stp (fun t k => XS.dcmpS X0c6.here hx rfl (hb hby at_47) rfl rfl k) ?_
  show W (T0c6.setTop (mkF m 48 #[.val (.long q0), .second, .val (.ref b01), .val (.ref b03), .val (.double (f3 q0)), .second, .val (.long (f2 q0)), .second, .val (.long (((f2 q0).toUInt64 >>> ((11 : Int32) &&& 0x3f).toInt64.toUInt64).toInt64)), .second, .unset, .unset, .unset, .unset, .unset] [(.int (cmpValue (FP.dcmp (f3 q0) (4607182418800017408 : UInt64)) .g))]))
  refine stp (fun t k => XS.ifNo X0c6.here hx rfl (hb hby at_48) rfl ((if0 _ _).trans (tlt (by exact own_0_48_8 q0  )).2.1) k) ?_
  show W (T0c6.setTop (mkF m 51 #[.val (.long q0), .second, .val (.ref b01), .val (.ref b03), .val (.double (f3 q0)), .second, .val (.long (f2 q0)), .second, .val (.long (((f2 q0).toUInt64 >>> ((11 : Int32) &&& 0x3f).toInt64.toUInt64).toInt64)), .second, .unset, .unset, .unset, .unset, .unset] []))
  refine stp (fun t k => XS.iconst X0c6.here hx rfl (hb hby at_51) k) ?_
  show W (T0c6.setTop (mkF m 52 #[.val (.long q0), .second, .val (.ref b01), .val (.ref b03), .val (.double (f3 q0)), .second, .val (.long (f2 q0)), .second, .val (.long (((f2 q0).toUInt64 >>> ((11 : Int32) &&& 0x3f).toInt64.toUInt64).toInt64)), .second, .unset, .unset, .unset, .unset, .unset] [(.int (1 : Int32))]))
  refine stp (fun t k => XS.goto X0c6.here hx rfl (pc0 := 52) (pc' := 56) rfl (hb hby at_52) (by decide) (by decide) k) ?_
  show W (T0c6.setTop (mkF m 56 #[.val (.long q0), .second, .val (.ref b01), .val (.ref b03), .val (.double (f3 q0)), .second, .val (.long (f2 q0)), .second, .val (.long (((f2 q0).toUInt64 >>> ((11 : Int32) &&& 0x3f).toInt64.toUInt64).toInt64)), .second, .unset, .unset, .unset, .unset, .unset] [(.int (1 : Int32))]))
  refine stp (fun t k => XS.istore X0c6.here hx rfl (hb hby at_56) rfl (l' := #[.val (.long q0), .second, .val (.ref b01), .val (.ref b03), .val (.double (f3 q0)), .second, .val (.long (f2 q0)), .second, .val (.long (((f2 q0).toUInt64 >>> ((11 : Int32) &&& 0x3f).toInt64.toUInt64).toInt64)), .second, .val (.int (1 : Int32)), .unset, .unset, .unset, .unset]) rfl k) ?_
  show W (T0c6.setTop (mkF m 58 #[.val (.long q0), .second, .val (.ref b01), .val (.ref b03), .val (.double (f3 q0)), .second, .val (.long (f2 q0)), .second, .val (.long (((f2 q0).toUInt64 >>> ((11 : Int32) &&& 0x3f).toInt64.toUInt64).toInt64)), .second, .val (.int (1 : Int32)), .unset, .unset, .unset, .unset] []))
  refine stp (fun t k => XS.dload X0c6.here hx rfl (hb hby at_58) rfl k) ?_
  show W (T0c6.setTop (mkF m 60 #[.val (.long q0), .second, .val (.ref b01), .val (.ref b03), .val (.double (f3 q0)), .second, .val (.long (f2 q0)), .second, .val (.long (((f2 q0).toUInt64 >>> ((11 : Int32) &&& 0x3f).toInt64.toUInt64).toInt64)), .second, .val (.int (1 : Int32)), .unset, .unset, .unset, .unset] [(.double (f3 q0))]))
  refine stp (fun t k => X0c6.ldc2DoubleC hx hown (mvT hZ (hw _ (List.mem_of_getElem? (i := 26) rfl))) (g := (mkF m 60 #[.val (.long q0), .second, .val (.ref b01), .val (.ref b03), .val (.double (f3 q0)), .second, .val (.long (f2 q0)), .second, .val (.long (((f2 q0).toUInt64 >>> ((11 : Int32) &&& 0x3f).toInt64.toUInt64).toInt64)), .second, .val (.int (1 : Int32)), .unset, .unset, .unset, .unset] [(.double (f3 q0))])) rfl (hb hby at_60) _ k) ?_
  show W (T0c6.setTop (mkF m 63 #[.val (.long q0), .second, .val (.ref b01), .val (.ref b03), .val (.double (f3 q0)), .second, .val (.long (f2 q0)), .second, .val (.long (((f2 q0).toUInt64 >>> ((11 : Int32) &&& 0x3f).toInt64.toUInt64).toInt64)), .second, .val (.int (1 : Int32)), .unset, .unset, .unset, .unset] [(.double (4845873199050653696 : UInt64)), (.double (f3 q0))]))
  refine stp (fun t k => XS.dmulS X0c6.here hx rfl (hb hby at_63) rfl (by exact own_0_63_9 q0  ) rfl k) ?_
  show W (T0c6.setTop (mkF m 64 #[.val (.long q0), .second, .val (.ref b01), .val (.ref b03), .val (.double (f3 q0)), .second, .val (.long (f2 q0)), .second, .val (.long (((f2 q0).toUInt64 >>> ((11 : Int32) &&& 0x3f).toInt64.toUInt64).toInt64)), .second, .val (.int (1 : Int32)), .unset, .unset, .unset, .unset] [(.double (FP.dmul (f3 q0) (4845873199050653696 : UInt64)))]))
  refine stp (fun t k => XS.dstore X0c6.here hx rfl (hb hby at_64) rfl (l' := #[.val (.long q0), .second, .val (.ref b01), .val (.ref b03), .val (.double (f3 q0)), .second, .val (.long (f2 q0)), .second, .val (.long (((f2 q0).toUInt64 >>> ((11 : Int32) &&& 0x3f).toInt64.toUInt64).toInt64)), .second, .val (.int (1 : Int32)), .val (.double (FP.dmul (f3 q0) (4845873199050653696 : UInt64))), .second, .unset, .unset]) rfl k) ?_
  show W (T0c6.setTop (mkF m 66 #[.val (.long q0), .second, .val (.ref b01), .val (.ref b03), .val (.double (f3 q0)), .second, .val (.long (f2 q0)), .second, .val (.long (((f2 q0).toUInt64 >>> ((11 : Int32) &&& 0x3f).toInt64.toUInt64).toInt64)), .second, .val (.int (1 : Int32)), .val (.double (FP.dmul (f3 q0) (4845873199050653696 : UInt64))), .second, .unset, .unset] []))
  refine stp (fun t k => XS.dload X0c6.here hx rfl (hb hby at_66) rfl k) ?_
  show W (T0c6.setTop (mkF m 68 #[.val (.long q0), .second, .val (.ref b01), .val (.ref b03), .val (.double (f3 q0)), .second, .val (.long (f2 q0)), .second, .val (.long (((f2 q0).toUInt64 >>> ((11 : Int32) &&& 0x3f).toInt64.toUInt64).toInt64)), .second, .val (.int (1 : Int32)), .val (.double (FP.dmul (f3 q0) (4845873199050653696 : UInt64))), .second, .unset, .unset] [(.double (FP.dmul (f3 q0) (4845873199050653696 : UInt64)))]))
  refine stp (fun t k => XS.lload X0c6.here hx rfl (hb hby at_68) rfl k) ?_
  show W (T0c6.setTop (mkF m 70 #[.val (.long q0), .second, .val (.ref b01), .val (.ref b03), .val (.double (f3 q0)), .second, .val (.long (f2 q0)), .second, .val (.long (((f2 q0).toUInt64 >>> ((11 : Int32) &&& 0x3f).toInt64.toUInt64).toInt64)), .second, .val (.int (1 : Int32)), .val (.double (FP.dmul (f3 q0) (4845873199050653696 : UInt64))), .second, .unset, .unset] [(.long (((f2 q0).toUInt64 >>> ((11 : Int32) &&& 0x3f).toInt64.toUInt64).toInt64)), (.double (FP.dmul (f3 q0) (4845873199050653696 : UInt64)))]))
  refine stp (fun t k => XS.l2dS X0c6.here hx rfl (hb hby at_70) rfl rfl k) ?_
  show W (T0c6.setTop (mkF m 71 #[.val (.long q0), .second, .val (.ref b01), .val (.ref b03), .val (.double (f3 q0)), .second, .val (.long (f2 q0)), .second, .val (.long (((f2 q0).toUInt64 >>> ((11 : Int32) &&& 0x3f).toInt64.toUInt64).toInt64)), .second, .val (.int (1 : Int32)), .val (.double (FP.dmul (f3 q0) (4845873199050653696 : UInt64))), .second, .unset, .unset] [(.double (FP.l2d (((f2 q0).toUInt64 >>> ((11 : Int32) &&& 0x3f).toInt64.toUInt64).toInt64))), (.double (FP.dmul (f3 q0) (4845873199050653696 : UInt64)))]))
  refine stp (fun t k => XS.dcmpS X0c6.here hx rfl (hb hby at_71) rfl rfl k) ?_
  show W (T0c6.setTop (mkF m 72 #[.val (.long q0), .second, .val (.ref b01), .val (.ref b03), .val (.double (f3 q0)), .second, .val (.long (f2 q0)), .second, .val (.long (((f2 q0).toUInt64 >>> ((11 : Int32) &&& 0x3f).toInt64.toUInt64).toInt64)), .second, .val (.int (1 : Int32)), .val (.double (FP.dmul (f3 q0) (4845873199050653696 : UInt64))), .second, .unset, .unset] [(.int (cmpValue (FP.dcmp (FP.dmul (f3 q0) (4845873199050653696 : UInt64)) (FP.l2d (((f2 q0).toUInt64 >>> ((11 : Int32) &&& 0x3f).toInt64.toUInt64).toInt64))) .l))]))
  refine stp (fun t k => XS.ifNo X0c6.here hx rfl (hb hby at_72) rfl ((if0 _ _).trans (teq (by exact own_0_72_10 q0  )).2) k) ?_
  show W (T0c6.setTop (mkF m 75 #[.val (.long q0), .second, .val (.ref b01), .val (.ref b03), .val (.double (f3 q0)), .second, .val (.long (f2 q0)), .second, .val (.long (((f2 q0).toUInt64 >>> ((11 : Int32) &&& 0x3f).toInt64.toUInt64).toInt64)), .second, .val (.int (1 : Int32)), .val (.double (FP.dmul (f3 q0) (4845873199050653696 : UInt64))), .second, .unset, .unset] []))
  refine stp (fun t k => XS.dload X0c6.here hx rfl (hb hby at_75) rfl k) ?_
  show W (T0c6.setTop (mkF m 77 #[.val (.long q0), .second, .val (.ref b01), .val (.ref b03), .val (.double (f3 q0)), .second, .val (.long (f2 q0)), .second, .val (.long (((f2 q0).toUInt64 >>> ((11 : Int32) &&& 0x3f).toInt64.toUInt64).toInt64)), .second, .val (.int (1 : Int32)), .val (.double (FP.dmul (f3 q0) (4845873199050653696 : UInt64))), .second, .unset, .unset] [(.double (FP.dmul (f3 q0) (4845873199050653696 : UInt64)))]))
  refine stp (fun t k => XS.d2lS X0c6.here hx rfl (hb hby at_77) rfl rfl k) ?_
  show W (T0c6.setTop (mkF m 78 #[.val (.long q0), .second, .val (.ref b01), .val (.ref b03), .val (.double (f3 q0)), .second, .val (.long (f2 q0)), .second, .val (.long (((f2 q0).toUInt64 >>> ((11 : Int32) &&& 0x3f).toInt64.toUInt64).toInt64)), .second, .val (.int (1 : Int32)), .val (.double (FP.dmul (f3 q0) (4845873199050653696 : UInt64))), .second, .unset, .unset] [(.long (FP.d2l (FP.dmul (f3 q0) (4845873199050653696 : UInt64))))]))
  refine stp (fun t k => XS.lload X0c6.here hx rfl (hb hby at_78) rfl k) ?_
  show W (T0c6.setTop (mkF m 80 #[.val (.long q0), .second, .val (.ref b01), .val (.ref b03), .val (.double (f3 q0)), .second, .val (.long (f2 q0)), .second, .val (.long (((f2 q0).toUInt64 >>> ((11 : Int32) &&& 0x3f).toInt64.toUInt64).toInt64)), .second, .val (.int (1 : Int32)), .val (.double (FP.dmul (f3 q0) (4845873199050653696 : UInt64))), .second, .unset, .unset] [(.long (((f2 q0).toUInt64 >>> ((11 : Int32) &&& 0x3f).toInt64.toUInt64).toInt64)), (.long (FP.d2l (FP.dmul (f3 q0) (4845873199050653696 : UInt64))))]))
  refine stp (fun t k => XS.lcmp X0c6.here hx rfl (hb hby at_80) rfl k) ?_
  show W (T0c6.setTop (mkF m 81 #[.val (.long q0), .second, .val (.ref b01), .val (.ref b03), .val (.double (f3 q0)), .second, .val (.long (f2 q0)), .second, .val (.long (((f2 q0).toUInt64 >>> ((11 : Int32) &&& 0x3f).toInt64.toUInt64).toInt64)), .second, .val (.int (1 : Int32)), .val (.double (FP.dmul (f3 q0) (4845873199050653696 : UInt64))), .second, .unset, .unset] [(.int (lcmpW (FP.d2l (FP.dmul (f3 q0) (4845873199050653696 : UInt64))) (((f2 q0).toUInt64 >>> ((11 : Int32) &&& 0x3f).toInt64.toUInt64).toInt64)))]))
  refine stp (fun t k => XS.ifNo X0c6.here hx rfl (hb hby at_81) rfl ((if0 _ _).trans (teq ((lw_eq (FP.d2l (FP.dmul (f3 q0) (4845873199050653696 : UInt64))) (((f2 q0).toUInt64 >>> ((11 : Int32) &&& 0x3f).toInt64.toUInt64).toInt64)).mpr (by exact own_0_81_11 q0  ))).2) k) ?_
  show W (T0c6.setTop (mkF m 84 #[.val (.long q0), .second, .val (.ref b01), .val (.ref b03), .val (.double (f3 q0)), .second, .val (.long (f2 q0)), .second, .val (.long (((f2 q0).toUInt64 >>> ((11 : Int32) &&& 0x3f).toInt64.toUInt64).toInt64)), .second, .val (.int (1 : Int32)), .val (.double (FP.dmul (f3 q0) (4845873199050653696 : UInt64))), .second, .unset, .unset] []))
  refine stp (fun t k => XS.iconst X0c6.here hx rfl (hb hby at_84) k) ?_
  show W (T0c6.setTop (mkF m 85 #[.val (.long q0), .second, .val (.ref b01), .val (.ref b03), .val (.double (f3 q0)), .second, .val (.long (f2 q0)), .second, .val (.long (((f2 q0).toUInt64 >>> ((11 : Int32) &&& 0x3f).toInt64.toUInt64).toInt64)), .second, .val (.int (1 : Int32)), .val (.double (FP.dmul (f3 q0) (4845873199050653696 : UInt64))), .second, .unset, .unset] [(.int (1 : Int32))]))
  refine stp (fun t k => XS.goto X0c6.here hx rfl (pc0 := 85) (pc' := 89) rfl (hb hby at_85) (by decide) (by decide) k) ?_
  show W (T0c6.setTop (mkF m 89 #[.val (.long q0), .second, .val (.ref b01), .val (.ref b03), .val (.double (f3 q0)), .second, .val (.long (f2 q0)), .second, .val (.long (((f2 q0).toUInt64 >>> ((11 : Int32) &&& 0x3f).toInt64.toUInt64).toInt64)), .second, .val (.int (1 : Int32)), .val (.double (FP.dmul (f3 q0) (4845873199050653696 : UInt64))), .second, .unset, .unset] [(.int (1 : Int32))]))
  refine stp (fun t k => XS.istore X0c6.here hx rfl (hb hby at_89) rfl (l' := #[.val (.long q0), .second, .val (.ref b01), .val (.ref b03), .val (.double (f3 q0)), .second, .val (.long (f2 q0)), .second, .val (.long (((f2 q0).toUInt64 >>> ((11 : Int32) &&& 0x3f).toInt64.toUInt64).toInt64)), .second, .val (.int (1 : Int32)), .val (.double (FP.dmul (f3 q0) (4845873199050653696 : UInt64))), .second, .val (.int (1 : Int32)), .unset]) rfl k) ?_
  show W (T0c6.setTop (mkF m 91 #[.val (.long q0), .second, .val (.ref b01), .val (.ref b03), .val (.double (f3 q0)), .second, .val (.long (f2 q0)), .second, .val (.long (((f2 q0).toUInt64 >>> ((11 : Int32) &&& 0x3f).toInt64.toUInt64).toInt64)), .second, .val (.int (1 : Int32)), .val (.double (FP.dmul (f3 q0) (4845873199050653696 : UInt64))), .second, .val (.int (1 : Int32)), .unset] []))
  refine stp (fun t k => XS.aloadN X0c6.here hx rfl (hb hby at_91) rfl rfl k) ?_
  show W (T0c6.setTop (mkF m 92 #[.val (.long q0), .second, .val (.ref b01), .val (.ref b03), .val (.double (f3 q0)), .second, .val (.long (f2 q0)), .second, .val (.long (((f2 q0).toUInt64 >>> ((11 : Int32) &&& 0x3f).toInt64.toUInt64).toInt64)), .second, .val (.int (1 : Int32)), .val (.double (FP.dmul (f3 q0) (4845873199050653696 : UInt64))), .second, .val (.int (1 : Int32)), .unset] [(.ref b01)]))
  obtain ⟨cq0c12, kq0c12, q0c12a, q0c12b, q0c12c⟩ := isOf hZ e0c6 E_b01
  obtain ⟨_, _, ⟨T0c12, L0c12, k0c12, n0c12⟩, -, X0c12, ⟨Lc0c12, hQ0c12, l0c12, y0c12, z0c12⟩, st0c12⟩ := X0c6.virtualBack hx (y := (⟨"com/example/probematch/probematch/engine/SplitMix64", "nextLong", "()J"⟩ : MethodName)) (z := (⟨"com/example/probematch/probematch/engine/SplitMix64", "nextLong", "()J"⟩ : MethodName)) hown (mvT hZ (hw _ (List.mem_of_getElem? (i := 25) rfl))) (mvT hZ (hw _ (List.mem_of_getElem? (i := 17) rfl))) (notFace_of_selects (args := #[]) (mvT hZ (hw _ (List.mem_of_getElem? (i := 19) rfl)))) (mvT hZ (hw _ (List.mem_of_getElem? (i := 19) rfl))) (mvT hZ (hw _ (List.mem_of_getElem? (i := 18) rfl))) (by decide) (backOf (W := 0) (rm2 l Z aa hw [] b01 (q0 + (-7046029254386353131 : Int64)) h0c6 n0 Z0c6 F_state_b01 E_b01 g_b01) hZ (hw _ (List.mem_of_getElem? (i := 20) rfl)) (hw _ (List.mem_of_getElem? (i := 2) rfl)) (by decide) (by decide)) q0c12a q0c12c (g := (mkF m 92 #[.val (.long q0), .second, .val (.ref b01), .val (.ref b03), .val (.double (f3 q0)), .second, .val (.long (f2 q0)), .second, .val (.long (((f2 q0).toUInt64 >>> ((11 : Int32) &&& 0x3f).toInt64.toUInt64).toInt64)), .second, .val (.int (1 : Int32)), .val (.double (FP.dmul (f3 q0) (4845873199050653696 : UInt64))), .second, .val (.int (1 : Int32)), .unset] [(.ref b01)])) rfl (by rw [hml]; rfl) (Steps.refl _) (argsL := []) (rest := []) (lenOf pd0_2 rfl) rfl (by show 2 * 0 + _ ≤ _; exact Nat.le_of_eq rfl) (hb hby at_92) (fun _ _ => ⟨rfl, e0c6, (by decide : 2 + 0 ≤ _), (by decide : 2 + 0 ≤ _)⟩)
  dsimp only [Pt.U, Pt.locs, Pt.cells, Pt.slots] at X0c12 l0c12 y0c12 z0c12 st0c12 hQ0c12
  subst l0c12 y0c12 z0c12
  obtain ⟨rfl, N0c12q, Kq0c12, g0c12E, g0c12F⟩ := hQ0c12
  have N0c12 := Fr.app N0c6 N0c12q
  obtain ⟨h0c12, e0c12⟩ : ∃ h, T0c12.heap = h := ⟨_, rfl⟩
  rw [e0c12] at Kq0c12 g0c12E g0c12F
  have E_b01 := E_b01.keep Kq0c12
  have E_b03 := E_b03.keep Kq0c12
  have F_state_b03 := F_state_b03.keep Kq0c12 (ninS (Ne.symm ne_b01_b03) nin0)
  have KK0c12 := Keep.trans KK0c6 Kq0c12 (allS (Or.inr sz_b01) all0)
  have Z0c12 := Nat.le_trans Z0c6 Kq0c12.1
  have E_b01 := g0c12E
  have F_state_b01 := g0c12F
  refine stp (fun t k => st0c12.trans k) ?_
  show W (T0c12.setTop (mkF m 95 #[.val (.long q0), .second, .val (.ref b01), .val (.ref b03), .val (.double (f3 q0)), .second, .val (.long (f2 q0)), .second, .val (.long (((f2 q0).toUInt64 >>> ((11 : Int32) &&& 0x3f).toInt64.toUInt64).toInt64)), .second, .val (.int (1 : Int32)), .val (.double (FP.dmul (f3 q0) (4845873199050653696 : UInt64))), .second, .val (.int (1 : Int32)), .unset] [(.long (f2 (q0 + (-7046029254386353131 : Int64))))]))
  refine stp (fun t k => XS.aloadN X0c12.here hx rfl (hb hby at_95) rfl rfl k) ?_
  show W (T0c12.setTop (mkF m 96 #[.val (.long q0), .second, .val (.ref b01), .val (.ref b03), .val (.double (f3 q0)), .second, .val (.long (f2 q0)), .second, .val (.long (((f2 q0).toUInt64 >>> ((11 : Int32) &&& 0x3f).toInt64.toUInt64).toInt64)), .second, .val (.int (1 : Int32)), .val (.double (FP.dmul (f3 q0) (4845873199050653696 : UInt64))), .second, .val (.int (1 : Int32)), .unset] [(.ref b03), (.long (f2 (q0 + (-7046029254386353131 : Int64))))]))
  obtain ⟨cq0c13, kq0c13, q0c13a, q0c13b, q0c13c⟩ := isOf hZ e0c12 E_b03
  obtain ⟨_, _, ⟨T0c13, L0c13, k0c13, n0c13⟩, -, X0c13, ⟨Lc0c13, hQ0c13, l0c13, y0c13, z0c13⟩, st0c13⟩ := X0c12.virtualBack hx (y := (⟨"com/example/probematch/probematch/engine/SplitMix64", "nextLong", "()J"⟩ : MethodName)) (z := (⟨"com/example/probematch/probematch/engine/SplitMix64", "nextLong", "()J"⟩ : MethodName)) hown (mvT hZ (hw _ (List.mem_of_getElem? (i := 25) rfl))) (mvT hZ (hw _ (List.mem_of_getElem? (i := 17) rfl))) (notFace_of_selects (args := #[]) (mvT hZ (hw _ (List.mem_of_getElem? (i := 19) rfl)))) (mvT hZ (hw _ (List.mem_of_getElem? (i := 19) rfl))) (mvT hZ (hw _ (List.mem_of_getElem? (i := 18) rfl))) (by decide) (backOf (W := 2) (rm2 l Z aa hw [] b03 (q0 + (-7046029254386353131 : Int64)) h0c12 n0 Z0c12 F_state_b03 E_b03 g_b03) hZ (hw _ (List.mem_of_getElem? (i := 20) rfl)) (hw _ (List.mem_of_getElem? (i := 2) rfl)) (by decide) (by decide)) q0c13a q0c13c (g := (mkF m 96 #[.val (.long q0), .second, .val (.ref b01), .val (.ref b03), .val (.double (f3 q0)), .second, .val (.long (f2 q0)), .second, .val (.long (((f2 q0).toUInt64 >>> ((11 : Int32) &&& 0x3f).toInt64.toUInt64).toInt64)), .second, .val (.int (1 : Int32)), .val (.double (FP.dmul (f3 q0) (4845873199050653696 : UInt64))), .second, .val (.int (1 : Int32)), .unset] [(.ref b03), (.long (f2 (q0 + (-7046029254386353131 : Int64))))])) rfl (by rw [hml]; rfl) (Steps.refl _) (argsL := []) (rest := [(.long (f2 (q0 + (-7046029254386353131 : Int64))))]) (lenOf pd0_2 rfl) rfl (by show 2 * 0 + _ ≤ _; exact Nat.le_of_eq rfl) (hb hby at_96) (fun _ _ => ⟨rfl, e0c12, (by decide : 2 + 0 ≤ _), (by decide : 2 + 0 ≤ _)⟩)
  dsimp only [Pt.U, Pt.locs, Pt.cells, Pt.slots] at X0c13 l0c13 y0c13 z0c13 st0c13 hQ0c13
  subst l0c13 y0c13 z0c13
  obtain ⟨rfl, N0c13q, Kq0c13, g0c13E, g0c13F⟩ := hQ0c13
  have N0c13 := Fr.app N0c12 N0c13q
  obtain ⟨h0c13, e0c13⟩ : ∃ h, T0c13.heap = h := ⟨_, rfl⟩
  rw [e0c13] at Kq0c13 g0c13E g0c13F
  have E_b01 := E_b01.keep Kq0c13
  have E_b03 := E_b03.keep Kq0c13
  have F_state_b01 := F_state_b01.keep Kq0c13 (ninS ne_b01_b03 nin0)
  have KK0c13 := Keep.trans KK0c12 Kq0c13 (allS (Or.inr sz_b03) all0)
  have Z0c13 := Nat.le_trans Z0c12 Kq0c13.1
  have E_b03 := g0c13E
  have F_state_b03 := g0c13F
  refine stp (fun t k => st0c13.trans k) ?_
  show W (T0c13.setTop (mkF m 99 #[.val (.long q0), .second, .val (.ref b01), .val (.ref b03), .val (.double (f3 q0)), .second, .val (.long (f2 q0)), .second, .val (.long (((f2 q0).toUInt64 >>> ((11 : Int32) &&& 0x3f).toInt64.toUInt64).toInt64)), .second, .val (.int (1 : Int32)), .val (.double (FP.dmul (f3 q0) (4845873199050653696 : UInt64))), .second, .val (.int (1 : Int32)), .unset] [(.long (f2 (q0 + (-7046029254386353131 : Int64)))), (.long (f2 (q0 + (-7046029254386353131 : Int64))))]))
  refine stp (fun t k => XS.lcmp X0c13.here hx rfl (hb hby at_99) rfl k) ?_
  show W (T0c13.setTop (mkF m 100 #[.val (.long q0), .second, .val (.ref b01), .val (.ref b03), .val (.double (f3 q0)), .second, .val (.long (f2 q0)), .second, .val (.long (((f2 q0).toUInt64 >>> ((11 : Int32) &&& 0x3f).toInt64.toUInt64).toInt64)), .second, .val (.int (1 : Int32)), .val (.double (FP.dmul (f3 q0) (4845873199050653696 : UInt64))), .second, .val (.int (1 : Int32)), .unset] [(.int (lcmpW (f2 (q0 + (-7046029254386353131 : Int64))) (f2 (q0 + (-7046029254386353131 : Int64)))))]))
  refine stp (fun t k => XS.ifNo X0c13.here hx rfl (hb hby at_100) rfl ((if0 _ _).trans (teq ((lw_eq (f2 (q0 + (-7046029254386353131 : Int64))) (f2 (q0 + (-7046029254386353131 : Int64)))).mpr (by exact own_0_100_14 q0  ))).2) k) ?_
  show W (T0c13.setTop (mkF m 103 #[.val (.long q0), .second, .val (.ref b01), .val (.ref b03), .val (.double (f3 q0)), .second, .val (.long (f2 q0)), .second, .val (.long (((f2 q0).toUInt64 >>> ((11 : Int32) &&& 0x3f).toInt64.toUInt64).toInt64)), .second, .val (.int (1 : Int32)), .val (.double (FP.dmul (f3 q0) (4845873199050653696 : UInt64))), .second, .val (.int (1 : Int32)), .unset] []))
  refine stp (fun t k => XS.iconst X0c13.here hx rfl (hb hby at_103) k) ?_
  show W (T0c13.setTop (mkF m 104 #[.val (.long q0), .second, .val (.ref b01), .val (.ref b03), .val (.double (f3 q0)), .second, .val (.long (f2 q0)), .second, .val (.long (((f2 q0).toUInt64 >>> ((11 : Int32) &&& 0x3f).toInt64.toUInt64).toInt64)), .second, .val (.int (1 : Int32)), .val (.double (FP.dmul (f3 q0) (4845873199050653696 : UInt64))), .second, .val (.int (1 : Int32)), .unset] [(.int (1 : Int32))]))
  refine stp (fun t k => XS.goto X0c13.here hx rfl (pc0 := 104) (pc' := 108) rfl (hb hby at_104) (by decide) (by decide) k) ?_
  show W (T0c13.setTop (mkF m 108 #[.val (.long q0), .second, .val (.ref b01), .val (.ref b03), .val (.double (f3 q0)), .second, .val (.long (f2 q0)), .second, .val (.long (((f2 q0).toUInt64 >>> ((11 : Int32) &&& 0x3f).toInt64.toUInt64).toInt64)), .second, .val (.int (1 : Int32)), .val (.double (FP.dmul (f3 q0) (4845873199050653696 : UInt64))), .second, .val (.int (1 : Int32)), .unset] [(.int (1 : Int32))]))
  refine stp (fun t k => XS.istore X0c13.here hx rfl (hb hby at_108) rfl (l' := #[.val (.long q0), .second, .val (.ref b01), .val (.ref b03), .val (.double (f3 q0)), .second, .val (.long (f2 q0)), .second, .val (.long (((f2 q0).toUInt64 >>> ((11 : Int32) &&& 0x3f).toInt64.toUInt64).toInt64)), .second, .val (.int (1 : Int32)), .val (.double (FP.dmul (f3 q0) (4845873199050653696 : UInt64))), .second, .val (.int (1 : Int32)), .val (.int (1 : Int32))]) rfl k) ?_
  show W (T0c13.setTop (mkF m 110 #[.val (.long q0), .second, .val (.ref b01), .val (.ref b03), .val (.double (f3 q0)), .second, .val (.long (f2 q0)), .second, .val (.long (((f2 q0).toUInt64 >>> ((11 : Int32) &&& 0x3f).toInt64.toUInt64).toInt64)), .second, .val (.int (1 : Int32)), .val (.double (FP.dmul (f3 q0) (4845873199050653696 : UInt64))), .second, .val (.int (1 : Int32)), .val (.int (1 : Int32))] []))
  refine stp (fun t k => XS.iload X0c13.here hx rfl (hb hby at_110) rfl k) ?_
  show W (T0c13.setTop (mkF m 112 #[.val (.long q0), .second, .val (.ref b01), .val (.ref b03), .val (.double (f3 q0)), .second, .val (.long (f2 q0)), .second, .val (.long (((f2 q0).toUInt64 >>> ((11 : Int32) &&& 0x3f).toInt64.toUInt64).toInt64)), .second, .val (.int (1 : Int32)), .val (.double (FP.dmul (f3 q0) (4845873199050653696 : UInt64))), .second, .val (.int (1 : Int32)), .val (.int (1 : Int32))] [(.int (1 : Int32))]))
  refine stp (fun t k => XS.ifNo X0c13.here hx rfl (hb hby at_112) rfl ((if0 _ _).trans (feq (by exact own_0_112_15 q0  )).1) k) ?_
  show W (T0c13.setTop (mkF m 115 #[.val (.long q0), .second, .val (.ref b01), .val (.ref b03), .val (.double (f3 q0)), .second, .val (.long (f2 q0)), .second, .val (.long (((f2 q0).toUInt64 >>> ((11 : Int32) &&& 0x3f).toInt64.toUInt64).toInt64)), .second, .val (.int (1 : Int32)), .val (.double (FP.dmul (f3 q0) (4845873199050653696 : UInt64))), .second, .val (.int (1 : Int32)), .val (.int (1 : Int32))] []))
  refine stp (fun t k => XS.iload X0c13.here hx rfl (hb hby at_115) rfl k) ?_
  show W (T0c13.setTop (mkF m 117 #[.val (.long q0), .second, .val (.ref b01), .val (.ref b03), .val (.double (f3 q0)), .second, .val (.long (f2 q0)), .second, .val (.long (((f2 q0).toUInt64 >>> ((11 : Int32) &&& 0x3f).toInt64.toUInt64).toInt64)), .second, .val (.int (1 : Int32)), .val (.double (FP.dmul (f3 q0) (4845873199050653696 : UInt64))), .second, .val (.int (1 : Int32)), .val (.int (1 : Int32))] [(.int (1 : Int32))]))
  refine stp (fun t k => XS.ifNo X0c13.here hx rfl (hb hby at_117) rfl ((if0 _ _).trans (feq (by exact own_0_117_16 q0  )).1) k) ?_
  show W (T0c13.setTop (mkF m 120 #[.val (.long q0), .second, .val (.ref b01), .val (.ref b03), .val (.double (f3 q0)), .second, .val (.long (f2 q0)), .second, .val (.long (((f2 q0).toUInt64 >>> ((11 : Int32) &&& 0x3f).toInt64.toUInt64).toInt64)), .second, .val (.int (1 : Int32)), .val (.double (FP.dmul (f3 q0) (4845873199050653696 : UInt64))), .second, .val (.int (1 : Int32)), .val (.int (1 : Int32))] []))
  refine stp (fun t k => XS.iload X0c13.here hx rfl (hb hby at_120) rfl k) ?_
  show W (T0c13.setTop (mkF m 122 #[.val (.long q0), .second, .val (.ref b01), .val (.ref b03), .val (.double (f3 q0)), .second, .val (.long (f2 q0)), .second, .val (.long (((f2 q0).toUInt64 >>> ((11 : Int32) &&& 0x3f).toInt64.toUInt64).toInt64)), .second, .val (.int (1 : Int32)), .val (.double (FP.dmul (f3 q0) (4845873199050653696 : UInt64))), .second, .val (.int (1 : Int32)), .val (.int (1 : Int32))] [(.int (1 : Int32))]))
  refine stp (fun t k => XS.ifNo X0c13.here hx rfl (hb hby at_122) rfl ((if0 _ _).trans (feq (by exact own_0_122_17 q0  )).1) k) ?_
  show W (T0c13.setTop (mkF m 125 #[.val (.long q0), .second, .val (.ref b01), .val (.ref b03), .val (.double (f3 q0)), .second, .val (.long (f2 q0)), .second, .val (.long (((f2 q0).toUInt64 >>> ((11 : Int32) &&& 0x3f).toInt64.toUInt64).toInt64)), .second, .val (.int (1 : Int32)), .val (.double (FP.dmul (f3 q0) (4845873199050653696 : UInt64))), .second, .val (.int (1 : Int32)), .val (.int (1 : Int32))] []))
  refine stp (fun t k => XS.iconst X0c13.here hx rfl (hb hby at_125) k) ?_
  show W (T0c13.setTop (mkF m 126 #[.val (.long q0), .second, .val (.ref b01), .val (.ref b03), .val (.double (f3 q0)), .second, .val (.long (f2 q0)), .second, .val (.long (((f2 q0).toUInt64 >>> ((11 : Int32) &&& 0x3f).toInt64.toUInt64).toInt64)), .second, .val (.int (1 : Int32)), .val (.double (FP.dmul (f3 q0) (4845873199050653696 : UInt64))), .second, .val (.int (1 : Int32)), .val (.int (1 : Int32))] [(.int (1 : Int32))]))
  refine stp (fun t k => XS.goto X0c13.here hx rfl (pc0 := 126) (pc' := 130) rfl (hb hby at_126) (by decide) (by decide) k) ?_
  show W (T0c13.setTop (mkF m 130 #[.val (.long q0), .second, .val (.ref b01), .val (.ref b03), .val (.double (f3 q0)), .second, .val (.long (f2 q0)), .second, .val (.long (((f2 q0).toUInt64 >>> ((11 : Int32) &&& 0x3f).toInt64.toUInt64).toInt64)), .second, .val (.int (1 : Int32)), .val (.double (FP.dmul (f3 q0) (4845873199050653696 : UInt64))), .second, .val (.int (1 : Int32)), .val (.int (1 : Int32))] [(.int (1 : Int32))]))
  show W (T0c13.setTop (mkF m 130 #[.val (.long q0), .second, .val (.ref b01), .val (.ref b03), .val (.double (f3 q0)), .second, .val (.long (f2 q0)), .second, .val (.long (((f2 q0).toUInt64 >>> ((11 : Int32) &&& 0x3f).toInt64.toUInt64).toInt64)), .second, .val (.int (1 : Int32)), .val (.double (FP.dmul (f3 q0) (4845873199050653696 : UInt64))), .second, .val (.int (1 : Int32)), .val (.int (1 : Int32))] [(.int (1 : Int32))]))
  rw [← hW]
  exact own_retN X0c13 hx Bd.notSynchronized Bd.returns (w := (1 : Int32)) (by simp) (hb hby at_130) rfl (by show Q0 Z q0 h0 n0 _ T0c13.heap _; rw [e0c13]; exact ⟨rfl, N0c13⟩) (by decide) (by decide)
set_option maxRecDepth 65536 in
set_option maxHeartbeats 40000000 in
theorem comes_1 {Post : Tables → Env → Array Value → State → Outcome → State → Prop} (hpost : ∀ tb e args s v u, (limb_1_1.after args s (.returned v) u = true ∧ limb_1_2.after args s (.returned v) u = true ∧ True) → FrameEnd s (.returned v) u (Jvm.fieldLocs frame_1_writes args s ++ Jvm.arrayLocs frame_1_arrays args s ++ Jvm.staticLocs frame_1_statics s) 16 128 → Post tb e args s (.returned v) u) :
    ArmFor flags0 classFile x code maxLocals ret World_1 tables_1 room_1 Calls_1 rest_1 Pre_1 Post := by
  intro l hfl _ _ p e ha hc hk s m args below hf hA hF happ hP
  obtain ⟨hcalls, hrest, hpre⟩ := hP
  obtain ⟨-, -, -, hnamed, -, -, -, hat⟩ := (Spec.applies_iff hf).mp happ
  obtain ⟨hg, hn⟩ := and_e (Cond.before_iff.mp (show (Jvm.Cond.and given_1 narrow_1).before args s = true from hpre))
  obtain ⟨gc, hg⟩ := and_e hg
  have g0 := hg
  obtain ⟨w0, rfl⟩ : ∃ w0 : Value, args = #[w0] := by
    have hs : args.size = 1 := by simpa [Cond.value, given_1] using gc
    obtain ⟨L⟩ := args
    match L, hs with
    | [w0], _ => exact ⟨w0, rfl⟩
  have hw := fun d (hd : d ∈ tables_1) => atoms_spec (ws := Jvm.Cond.code x code maxLocals ret :: tables_1) hat d (List.mem_cons_of_mem _ hd)
  have hfit : Fit s := fun {y c} hc i hi => by
    obtain ⟨ha, rfl⟩ := Array.getElem?_eq_some_iff.mp hc
    have q := List.all_eq_true.mp ((Array.all_eq_true_iff_forall_mem.mp hF) _ (Array.getElem_mem ha)) i (List.mem_range.mpr hi)
    simpa [Array.getElem?_eq_getElem hi] using q
  obtain ⟨i0, ei0⟩ := isL_v g0
  obtain rfl : w0 = (.long i0) := Option.some.inj ei0
  obtain ⟨n, o, h1, h2, h3, _, L, rfl, ⟨rfl, N⟩, hq⟩ := rm0 l s _ hw tables_1 i0 s.heap s.heap.size (Nat.le_refl _) p e ha hc hk s m _ below hf ((Spec.applies_iff_loose hf).mp happ).1 ⟨rfl, State.Warmed39.refl s, rfl⟩ trivial
  refine ⟨n, _, h1, h2, h3, hpost _ _ _ _ _ _ ⟨Cond.after_iff.mpr rfl, Cond.after_iff.mpr (eq_i res_at (Term.int_eval (1)) rfl), trivial⟩ ⟨hq.1, hq.2.1, (hq.2.2.sift fun y hy => Or.inr (N y hy)).mono (by decide) (by decide)⟩⟩
theorem main_1_1 : Claimed_1_1 := comes_1 fun _ _ _ _ _ _ h hF => ⟨h.1, hF⟩
theorem main_1_2 : Claimed_1_2 := comes_1 fun _ _ _ _ _ _ h hF => ⟨h.2.1, hF⟩
end Jvm.Pilot.@@N@@
namespace Jvm.Pilot.@@N@@
open Jvm Jvm.ClassFile Sem Op Lib Jvm.Free Jvm.Stand Jvm.Pilot.@@N@@.Jvm.D
/-! MADE BY PROGRAM (witnessworld.py) out of the Statement's table words and the real class files: 10 classes; the members and pool entries that the words name. The judged class is class 1, her method 1. -/
namespace start1
open Jvm.ClassFile
def u (s : String) : CpInfo := .utf8 (stringToUtf16 s)
/-- a pool by its gaps: so many unusable entries, then the entry; so many at the end -/
def gap : Nat → List CpInfo → List CpInfo
  | 0, r => r
  | n + 1, r => .unusable :: gap n r
def poolList (es : List (Nat × CpInfo)) (last : Nat) : List CpInfo := es.foldr (fun e r => gap e.1 (e.2 :: r)) (gap last [])
def pool (es : List (Nat × CpInfo)) (last : Nat) : Array CpInfo := ⟨poolList es last⟩
def fileOf (pool : Array CpInfo) (this : Nat) (attrs : Array Attribute := #[]) (ms : Array MethodInfo := #[]) (fl : Nat := 33) (sup : Nat := 0) (ifs : Array Nat := #[]) (fds : Array FieldInfo := #[]) : ClassFile where
  minorVersion := 0
  majorVersion := 65
  constantPool := pool
  accessFlags := fl
  thisClass := this
  superClass := sup
  interfaces := ifs
  fields := fds
  methods := ms
  attributes := attrs
def plain (name : String) (sup : Option ClassId) : Class where
  name := name
  kind := .ordinary
  loader := none
  accessFlags := 33
  super := sup
  interfaces := #[]
  cf := none
  fields := #[]
  methods := #[]
  instanceTypes := #[]
  staticTypes := #[]
  resolved := #[]
  callSites := []
  init := .initialized
  statics := none
  mirror := none

def pool0 : Array CpInfo := pool [(5, u "<init>"), (0, u "()V"), (1, .class_ 10), (1, u "java/lang/Object")] 113

def k0c0 : Code := { maxStack := 0, maxLocals := 1, code := object_method_1_code, exceptionTable := #[], attributes := #[] }
def k0m0 : Method := { name := "<init>", desc := "()V", sig := { parameters := [], returnType := none }, accessFlags := 1, code := some k0c0 }
/-- java/lang/Object -/
def k0 : Class := { plain "java/lang/Object" none with
  accessFlags := 33
  interfaces := #[]
  cf := some (fileOf pool0 8 #[] #[{ accessFlags := 1, nameIndex := 5, descriptorIndex := 6, attributes := #[] }] 33 0 #[] #[])
  fields := #[]
  methods := #[k0m0]
  instanceTypes := #[]
  staticTypes := #[]
  resolved := Array.replicate 124 none
  statics := none }

def pool1 : Array CpInfo := pool [(2, .class_ 4), (1, u "java/lang/Object"), (0, u "<init>"), (0, u "()V"), (0, .class_ 8), (0, u "com/example/probematch/probematch/engine/SplitMix64"), (0, .methodref 7 10), (0, .nameAndType 5 11), (0, u "(J)V"), (0, .methodref 7 13), (0, .nameAndType 14 15), (0, u "nextDouble"), (0, u "()D"), (0, .methodref 7 17), (0, .nameAndType 18 19), (0, u "nextLong"), (0, u "()J"), (0, .double 4845873199050653696), (1, .class_ 23), (0, u "com/example/probematch/probematch/engine/SplitMix64NextDoublePinLaw"), (2, u "law"), (0, u "(J)Z")] 3

def k1m0 : Method := { name := "<init>", desc := "()V", sig := { parameters := [], returnType := none }, accessFlags := 2, code := none }
def k1c1 : Code := { maxStack := 4, maxLocals := 15, code := code, exceptionTable := #[], attributes := #[] }
def k1m1 : Method := { name := "law", desc := "(J)Z", sig := { parameters := [.long], returnType := some .boolean }, accessFlags := 9, code := some k1c1 }
/-- com/example/probematch/probematch/engine/SplitMix64NextDoublePinLaw -/
def k1 : Class := { plain "com/example/probematch/probematch/engine/SplitMix64NextDoublePinLaw" (some 0) with
  accessFlags := 49
  interfaces := #[]
  cf := some (fileOf pool1 22 #[] #[{ accessFlags := 2, nameIndex := 5, descriptorIndex := 6, attributes := #[] }, { accessFlags := 9, nameIndex := 26, descriptorIndex := 27, attributes := #[] }] 49 2 #[] #[])
  fields := #[]
  methods := #[k1m0, k1m1]
  instanceTypes := #[]
  staticTypes := #[]
  resolved := Array.replicate 31 none
  statics := none }

def pool2 : Array CpInfo := pool [(7, .class_ 8), (0, u "java/util/random/RandomGenerator"), (199, .class_ 209), (0, u "java/lang/Object"), (52, .class_ 263), (0, u "java/util/random/RandomGenerator$ArbitrarilyJumpableGenerator"), (0, .class_ 265), (0, u "java/util/random/RandomGenerator$LeapableGenerator"), (0, .class_ 267), (0, u "java/util/random/RandomGenerator$JumpableGenerator"), (0, .class_ 269), (0, u "java/util/random/RandomGenerator$SplittableGenerator"), (0, .class_ 271), (0, u "java/util/random/RandomGenerator$StreamableGenerator")] 36

/-- java/util/random/RandomGenerator -/
def k2 : Class := { plain "java/util/random/RandomGenerator" (some 0) with
  accessFlags := 1537
  interfaces := #[]
  cf := some (fileOf pool2 7 #[.nestMembers #[262, 264, 266, 268, 270]] #[] 1537 208 #[] #[])
  fields := #[]
  methods := #[]
  instanceTypes := #[]
  staticTypes := #[]
  resolved := Array.replicate 308 none
  statics := none }

def pool3 : Array CpInfo := pool [(1, .methodref 2 3), (0, .class_ 4), (0, .nameAndType 5 6), (0, u "java/lang/Object"), (0, u "<init>"), (0, u "()V"), (0, .fieldref 8 9), (0, .class_ 10), (0, .nameAndType 11 12), (0, u "com/example/probematch/probematch/engine/SplitMix64"), (0, u "state"), (0, u "J"), (0, .long 11400714819323198485), (1, .long 13787848793156543929), (1, .long 10723151780598845931), (1, .methodref 8 20), (0, .nameAndType 21 22), (0, u "nextLong"), (0, u "()J"), (0, .double 4368491638549381120), (1, .class_ 26), (0, u "java/util/random/RandomGenerator"), (0, u "STEP"), (1, u "(J)V"), (2, u "nextDouble"), (0, u "()D")] 2

def k3c0 : Code := { maxStack := 3, maxLocals := 3, code := prog_4_method_1_code, exceptionTable := #[], attributes := #[] }
def k3m0 : Method := { name := "<init>", desc := "(J)V", sig := { parameters := [.long], returnType := none }, accessFlags := 0, code := some k3c0 }
def k3c1 : Code := { maxStack := 5, maxLocals := 3, code := prog_4_method_2_code, exceptionTable := #[], attributes := #[] }
def k3m1 : Method := { name := "nextLong", desc := "()J", sig := { parameters := [], returnType := some .long }, accessFlags := 1, code := some k3c1 }
def k3c2 : Code := { maxStack := 4, maxLocals := 1, code := prog_4_method_3_code, exceptionTable := #[], attributes := #[] }
def k3m2 : Method := { name := "nextDouble", desc := "()D", sig := { parameters := [], returnType := some .double }, accessFlags := 1, code := some k3c2 }
/-- com/example/probematch/probematch/engine/SplitMix64 -/
def k3 : Class := { plain "com/example/probematch/probematch/engine/SplitMix64" (some 0) with
  accessFlags := 48
  interfaces := #[2]
  cf := some (fileOf pool3 8 #[] #[{ accessFlags := 0, nameIndex := 5, descriptorIndex := 29, attributes := #[] }, { accessFlags := 1, nameIndex := 21, descriptorIndex := 22, attributes := #[] }, { accessFlags := 1, nameIndex := 32, descriptorIndex := 33, attributes := #[] }] 48 2 #[25] #[{ accessFlags := 26, nameIndex := 27, descriptorIndex := 12, attributes := #[] }, { accessFlags := 2, nameIndex := 11, descriptorIndex := 12, attributes := #[] }])
  fields := #[{ name := "STEP", type := .long, accessFlags := 26, slot := 0, constantValue := 0 }, { name := "state", type := .long, accessFlags := 2, slot := 0, constantValue := 0 }]
  methods := #[k3m0, k3m1, k3m2]
  instanceTypes := #[.long]
  staticTypes := #[.long]
  resolved := Array.replicate 36 none
  statics := none }

def pool4 : Array CpInfo := pool [(1, u "java/lang/Cloneable"), (0, .class_ 1), (0, u "java/lang/Object"), (0, .class_ 3)] 3

/-- java/lang/Cloneable -/
def k4 : Class := { plain "java/lang/Cloneable" (some 0) with
  accessFlags := 1537
  interfaces := #[]
  cf := some (fileOf pool4 2 #[] #[] 1537 4 #[] #[])
  fields := #[]
  methods := #[]
  instanceTypes := #[]
  staticTypes := #[]
  resolved := Array.replicate 8 none
  statics := none }

def pool5 : Array CpInfo := pool [(1, u "java/io/Serializable"), (0, .class_ 1), (0, u "java/lang/Object"), (0, .class_ 3)] 3

/-- java/io/Serializable -/
def k5 : Class := { plain "java/io/Serializable" (some 0) with
  accessFlags := 1537
  interfaces := #[]
  cf := some (fileOf pool5 2 #[] #[] 1537 4 #[] #[])
  fields := #[]
  methods := #[]
  instanceTypes := #[]
  staticTypes := #[]
  resolved := Array.replicate 8 none
  statics := none }

/-- the primitive byte -/
def k6 : Class := { plain "byte" none with kind := .primitive 'B', accessFlags := 0x411 }
/-- [B -/
def k7 : Class := { plain "[B" (some 0) with kind := .array 6 .byte, interfaces := #[4, 5], accessFlags := 1041 }

/-- the primitive int -/
def k8 : Class := { plain "int" none with kind := .primitive 'I', accessFlags := 0x411 }
/-- [I -/
def k9 : Class := { plain "[I" (some 0) with kind := .array 8 .int, interfaces := #[4, 5], accessFlags := 1041 }

def heap : Heap := #[]
def classes : Array Class := #[k0, k1, k2, k3, k4, k5, k6, k7, k8, k9]
def interned : List (Array UInt16 × Addr) := []
def slotsUsed : Nat := 0
def theMethod : MethodId := ⟨1, 1⟩
def args0 : Array Value := #[.long 5]
def aboutOver (below : List Frame) : State where
  vm := { classes := classes, interned := interned.toArray }
  heap := heap
  slotsUsed := slotsUsed
  threads := #[{ frames := .invoking theMethod args0 :: below }]
def below0 : List Frame := [.native { method := ⟨0, 0⟩, args := #[] }]
def about1 : State := aboutOver below0
def p0 : Program := .bare "" "" ""
def e0 : Env := launch0.env 0 0 0
theorem w_frames : about1.frames = Frame.invoking theMethod args0 :: below0 := rfl
set_option maxRecDepth 65536 in
theorem w_args : argsFit about1.vm theMethod args0 = true := by decide +kernel
set_option maxRecDepth 65536 in
theorem w_heap : heapFits about1 = true := by decide +kernel
set_option maxRecDepth 65536 in
theorem w_runnable : about1.curStatus? = some .runnable := by decide +kernel
set_option maxRecDepth 65536 in
theorem w_alone : about1.alone = true := by decide +kernel
set_option maxRecDepth 65536 in
theorem w_named : about1.methodNamed? x = some theMethod := by decide +kernel
set_option maxRecDepth 65536 in
theorem w_hears : about1.hears theMethod below0 = true := by decide +kernel
set_option maxRecDepth 65536 in
theorem w_ripe : about1.ripe theMethod args0 below0 = true := by decide +kernel
theorem w_running : about1.status = .running := rfl
set_option maxRecDepth 65536 in
theorem w_room : about1.hasRoom e0.platform room_1 = true :=
  launch0.hasRoom_least _ room_1 (by decide +kernel) (by decide +kernel) (by decide +kernel) (by decide +kernel) (by decide +kernel) (by decide +kernel)
theorem allAtoms_all (ts : List Jvm.Cond) (a : Array Jvm.Value) (st : Jvm.State) : (allAtoms ts).before a st = ts.all (fun c => c.before a st) := by
  induction ts with
  | nil => rfl
  | cons c t ih =>
    show (Jvm.Cond.and c (allAtoms t)).before a st = _
    rw [Jvm.Cond.before_and, ih, List.all_cons]
def words1 : List Jvm.Cond := Jvm.Cond.code x code maxLocals ret :: tables_1
/-- a 'code' word, met by the world's own term for the bytes: nothing is compared byte by byte -/
theorem code_word {y : MethodName} {bytes : ByteArray} {mx : Nat} {rt : Option FieldType} {a : Array Value} {s : State} {m : MethodId} {meth : Method} {c : Code} (h1 : s.methodNamed? y = some m) (h2 : s.vm.method? m = some meth) (h3 : meth.code = some c) (h4 : c.code = bytes)
    (h5 : (c.maxLocals == mx && c.exceptionTable.isEmpty && decide (c.maxStack ≤ mostOperands) && decide (meth.sig.returnType = rt) && !meth.locks && decide (parseMethodDescriptor y.desc = some meth.sig)) = true) : (Jvm.Cond.code y bytes mx rt).before a s = true := by
  simp only [Bool.and_eq_true, beq_iff_eq, Bool.not_eq_true', decide_eq_true_eq] at h5
  obtain ⟨⟨⟨⟨⟨g1, g2⟩, g3⟩, g4⟩, g5⟩, g6⟩ := h5
  simp [Cond.before, Cond.holds, Cond.value, h1, h2, h3, h4, g1, g2, g3, g4, g5, g6]
def isCode : Jvm.Cond → Bool
  | .code _ _ _ _ => true
  | _ => false
theorem all_split {L : List Jvm.Cond} {P : Jvm.Cond → Bool} (h1 : L.all (fun c => isCode c || P c) = true) (h2 : ∀ c ∈ L.filter isCode, P c = true) : L.all P = true := by
  refine List.all_eq_true.mpr fun c hc => ?_
  have h := List.all_eq_true.mp h1 c hc
  rcases Bool.eq_false_or_eq_true (isCode c) with hi | hi
  · exact h2 c (List.mem_filter.mpr ⟨hc, hi⟩)
  · simpa [hi] using h
set_option maxRecDepth 65536 in
theorem w_c0 : (Jvm.Cond.code x code maxLocals ret).before args0 about1 = true := code_word (m := ⟨1, 1⟩) (meth := k1m1) (c := k1c1) (by decide +kernel) rfl rfl rfl (by decide +kernel)
set_option maxRecDepth 65536 in
theorem w_c1 : (Jvm.Cond.code ({ cls := "com/example/probematch/probematch/engine/SplitMix64", name := "<init>", desc := "(J)V" } : Jvm.MethodName) prog_4_method_1_code (3 : Nat) (Option.none : Option Jvm.ClassFile.FieldType)).before args0 about1 = true := code_word (m := ⟨3, 0⟩) (meth := k3m0) (c := k3c0) (by decide +kernel) rfl rfl rfl (by decide +kernel)
set_option maxRecDepth 65536 in
theorem w_c2 : (Jvm.Cond.code ({ cls := "java/lang/Object", name := "<init>", desc := "()V" } : Jvm.MethodName) object_method_1_code (1 : Nat) (Option.none : Option Jvm.ClassFile.FieldType)).before args0 about1 = true := code_word (m := ⟨0, 0⟩) (meth := k0m0) (c := k0c0) (by decide +kernel) rfl rfl rfl (by decide +kernel)
set_option maxRecDepth 65536 in
theorem w_c3 : (Jvm.Cond.code ({ cls := "com/example/probematch/probematch/engine/SplitMix64", name := "nextDouble", desc := "()D" } : Jvm.MethodName) prog_4_method_3_code (1 : Nat) (Option.some Jvm.ClassFile.FieldType.double)).before args0 about1 = true := code_word (m := ⟨3, 2⟩) (meth := k3m2) (c := k3c2) (by decide +kernel) rfl rfl rfl (by decide +kernel)
set_option maxRecDepth 65536 in
theorem w_c4 : (Jvm.Cond.code ({ cls := "com/example/probematch/probematch/engine/SplitMix64", name := "nextLong", desc := "()J" } : Jvm.MethodName) prog_4_method_2_code (3 : Nat) (Option.some Jvm.ClassFile.FieldType.long)).before args0 about1 = true := code_word (m := ⟨3, 1⟩) (meth := k3m1) (c := k3c1) (by decide +kernel) rfl rfl rfl (by decide +kernel)
def codes1 : List Jvm.Cond := [Jvm.Cond.code x code maxLocals ret, Jvm.Cond.code ({ cls := "com/example/probematch/probematch/engine/SplitMix64", name := "<init>", desc := "(J)V" } : Jvm.MethodName) prog_4_method_1_code (3 : Nat) (Option.none : Option Jvm.ClassFile.FieldType), Jvm.Cond.code ({ cls := "java/lang/Object", name := "<init>", desc := "()V" } : Jvm.MethodName) object_method_1_code (1 : Nat) (Option.none : Option Jvm.ClassFile.FieldType), Jvm.Cond.code ({ cls := "com/example/probematch/probematch/engine/SplitMix64", name := "nextDouble", desc := "()D" } : Jvm.MethodName) prog_4_method_3_code (1 : Nat) (Option.some Jvm.ClassFile.FieldType.double), Jvm.Cond.code ({ cls := "com/example/probematch/probematch/engine/SplitMix64", name := "nextLong", desc := "()J" } : Jvm.MethodName) prog_4_method_2_code (3 : Nat) (Option.some Jvm.ClassFile.FieldType.long)]
set_option maxRecDepth 65536 in
theorem codes_eq : words1.filter isCode = codes1 := rfl
theorem w_codes : ∀ c ∈ words1.filter isCode, c.before args0 about1 = true := by
  rw [codes_eq]
  intro c hc
  simp only [codes1, List.mem_cons, List.not_mem_nil, or_false] at hc
  rcases hc with rfl | rfl | rfl | rfl | rfl
  · exact w_c0
  · exact w_c1
  · exact w_c2
  · exact w_c3
  · exact w_c4
set_option maxRecDepth 65536 in
theorem w_t1 : (words1.take 24).all (fun c => isCode c || c.before args0 about1) = true := by decide +kernel
set_option maxRecDepth 65536 in
theorem w_t2 : (words1.drop 24).all (fun c => isCode c || c.before args0 about1) = true := by decide +kernel
theorem w_tables : (allAtoms (Jvm.Cond.code x code maxLocals ret :: tables_1)).before args0 about1 = true := by
  rw [allAtoms_all]
  show words1.all (fun c => c.before args0 about1) = true
  refine all_split ?_ w_codes
  rw [← List.take_append_drop 24 words1, List.all_append, w_t1, w_t2]
  rfl
set_option maxRecDepth 65536 in
theorem w_case : (Jvm.Cond.and given_1 narrow_1).before args0 about1 = true := by decide +kernel
theorem w_applies : (headSpec (Jvm.Cond.code x code maxLocals ret :: tables_1) room_1).applies x e0.platform about1 = true :=
  (Spec.applies_iff w_frames).mpr ⟨w_running, w_runnable, w_alone, w_named, w_hears, w_ripe, w_room, w_tables⟩
theorem atStart : AtStart classFile x code maxLocals ret World_1 tables_1 room_1 Calls_1 rest_1 Pre_1 launch0 p0 e0 about1 theMethod args0 below0 :=
  ⟨lists_1, trivial, launch0.admits_env _ _ _, launch0.least_env, fairChoices_fair.cas, fairChoices_fair.clock, w_frames, w_args, w_heap, w_applies, trivial, trivial, w_case⟩
end start1
theorem witness_1 : WitnessClaimed_1 := ⟨start1.p0, start1.e0, start1.about1, start1.theMethod, start1.args0, start1.below0, start1.atStart⟩
end Jvm.Pilot.@@N@@
