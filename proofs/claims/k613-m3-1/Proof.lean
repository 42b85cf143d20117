import JvmDerived
import JvmDerived.Pilot.@@N@@Statement
import JvmDerived.Pilot.@@N@@Code
set_option linter.unusedVariables false
set_option linter.unusedSimpArgs false
namespace Jvm.Pilot.@@N@@
open Jvm Jvm.ClassFile Sem Op Lib Jvm.Free Jvm.Stand Jvm.LawKit Jvm.RoadKit Bundle Jvm.Pilot.@@N@@.Jvm.D
/-! the walk's goal: from the state A the run ends, returning what Qv says -/
def OwnEnd (p : Program) (e : Env) (below : List Frame) (s : State) (Qv : Option Value → Heap → List Loc → Prop) (k n : Nat) (A : State) : Prop :=
  ∃ s₂ o, Steps p.tables e below A s₂ ∧ s₂.status = .running ∧ Ended s₂ below o ∧ ∃ v L, o = .returned v ∧ Qv v s₂.heap L ∧ FrameEnd s o s₂ L k n
theorem own_step {p : Program} {e : Env} {below : List Frame} {s : State} {Qv : Option Value → Heap → List Loc → Prop} {k n : Nat} {A B : State} (h : ∀ t, Steps p.tables e below B t → Steps p.tables e below A t) (q : OwnEnd p e below s Qv k n B) : OwnEnd p e below s Qv k n A := by
  obtain ⟨s₂, o, h1, h2⟩ := q
  exact ⟨s₂, o, h _ h1, h2⟩
theorem own_arvEq {Z : State} {h : Heap} {a : Addr} {k : ClassId} {ty : FieldType} {z : Int32} {vs vs' : List Value} {d : Value} (e : vs = vs') (F : Arv Z h a k ty z vs d) : Arv Z h a k ty z vs' d := by subst e; exact F
theorem own_fldEq {Z : State} {h : Heap} {a : Addr} {C n d : String} {x y : Int32} (e : x = y) (F : Fld Z h a C n d (.int x)) : Fld Z h a C n d (.int y) := by subst e; exact F
section OwnRet
variable {p : Program} {l : Launch} {e : Env} {R : Room} {s : State} {m : MethodId} {args : Array Value} {below : List Frame} {meth : Method} {c : Code} {T : State} {locs : List Loc} {cells slots k n : Nat} {Qv : Option Value → Heap → List Loc → Prop}
theorem own_retN (X : Stand p l e R s m args below meth c T locs cells slots) (hx : p.tables.exec = Jvm.exec) (hlocks : meth.locks = false) {pc : Nat} {Ls : Array Slot} {z w : Int32} {t : FieldType} {rest : List Value} (hret : meth.sig.returnType = some t) (ht : t = .boolean ∨ t = .byte ∨ t = .char ∨ t = .short) (hd : decode c.code pc = .ok (.ireturn, 1)) (hz : nar t z = w) (hq : Qv (some (.int w)) T.heap locs) (hk : cells ≤ k) (hn : slots ≤ n) :
    OwnEnd p e below s Qv k n (T.setTop (mkF m pc Ls (.int z :: rest))) := by
  obtain ⟨fs, hr, hrun, hended, hW, hsame⟩ := X.leave (v := some (.int w)) (fun h => by rw [hret] at h; cases h) hlocks
  exact ⟨_, _, retN X hx hret ht hd (fs := fs) (by rw [hz]; exact hr), hrun, hended, _, _, rfl, hq, ⟨_, rfl⟩, hW, hsame.mono hk hn⟩
theorem own_retI (X : Stand p l e R s m args below meth c T locs cells slots) (hx : p.tables.exec = Jvm.exec) (hlocks : meth.locks = false) {pc : Nat} {Ls : Array Slot} {z : Int32} {rest : List Value} (hret : meth.sig.returnType = some .int) (hd : decode c.code pc = .ok (.ireturn, 1)) (hq : Qv (some (.int z)) T.heap locs) (hk : cells ≤ k) (hn : slots ≤ n) :
    OwnEnd p e below s Qv k n (T.setTop (mkF m pc Ls (.int z :: rest))) := by
  obtain ⟨fs, hr, hrun, hended, hW, hsame⟩ := X.leave (v := some (.int z)) (fun h => by rw [hret] at h; cases h) hlocks
  refine ⟨T.setFrames fs, _, ?_, hrun, hended, _, _, rfl, hq, ⟨_, rfl⟩, hW, hsame.mono hk hn⟩
  have hm' : T.vm.method? m = some meth := X.method'
  have hn' : narrow .int (.int z) = .int z := rfl
  show Steps p.tables e below (T.setTop { method := m, pc := pc, locals := Ls, stack := _ :: rest, locked := none }) _
  jvm_step X.here [X.here.top, hx, hd, hm', hret, hn']
  first | (intro acts; rw [hr _ acts rfl rfl rfl]) | rw [hr _ _ rfl rfl rfl]
  exact Steps.refl _
theorem own_retJ (X : Stand p l e R s m args below meth c T locs cells slots) (hx : p.tables.exec = Jvm.exec) (hlocks : meth.locks = false) {pc : Nat} {Ls : Array Slot} {z : Int64} {rest : List Value} (hret : meth.sig.returnType = some .long) (hd : decode c.code pc = .ok (.lreturn, 1)) (hq : Qv (some (.long z)) T.heap locs) (hk : cells ≤ k) (hn : slots ≤ n) :
    OwnEnd p e below s Qv k n (T.setTop (mkF m pc Ls (.long z :: rest))) := by
  obtain ⟨fs, hr, hrun, hended, hW, hsame⟩ := X.leave (v := some (.long z)) (fun h => by rw [hret] at h; cases h) hlocks
  refine ⟨T.setFrames fs, _, ?_, hrun, hended, _, _, rfl, hq, ⟨_, rfl⟩, hW, hsame.mono hk hn⟩
  have hm' : T.vm.method? m = some meth := X.method'
  have hn' : narrow .long (.long z) = .long z := rfl
  show Steps p.tables e below (T.setTop { method := m, pc := pc, locals := Ls, stack := _ :: rest, locked := none }) _
  jvm_step X.here [X.here.top, hx, hd, hm', hret, hn']
  first | (intro acts; rw [hr _ acts rfl rfl rfl]) | rw [hr _ _ rfl rfl rfl]
  exact Steps.refl _
theorem own_retD (X : Stand p l e R s m args below meth c T locs cells slots) (hx : p.tables.exec = Jvm.exec) (hlocks : meth.locks = false) {pc : Nat} {Ls : Array Slot} {z : UInt64} {rest : List Value} (hret : meth.sig.returnType = some .double) (hd : decode c.code pc = .ok (.dreturn, 1)) (hq : Qv (some (.double z)) T.heap locs) (hk : cells ≤ k) (hn : slots ≤ n) :
    OwnEnd p e below s Qv k n (T.setTop (mkF m pc Ls (.double z :: rest))) := by
  obtain ⟨fs, hr, hrun, hended, hW, hsame⟩ := X.leave (v := some (.double z)) (fun h => by rw [hret] at h; cases h) hlocks
  refine ⟨T.setFrames fs, _, ?_, hrun, hended, _, _, rfl, hq, ⟨_, rfl⟩, hW, hsame.mono hk hn⟩
  have hm' : T.vm.method? m = some meth := X.method'
  have hn' : narrow .double (.double z) = .double z := rfl
  show Steps p.tables e below (T.setTop { method := m, pc := pc, locals := Ls, stack := _ :: rest, locked := none }) _
  jvm_step X.here [X.here.top, hx, hd, hm', hret, hn']
  first | (intro acts; rw [hr _ acts rfl rfl rfl]) | rw [hr _ _ rfl rfl rfl]
  exact Steps.refl _
theorem own_retR (X : Stand p l e R s m args below meth c T locs cells slots) (hx : p.tables.exec = Jvm.exec) (hlocks : meth.locks = false) {pc : Nat} {Ls : Array Slot} {z : Addr} {t : FieldType} {rest : List Value} (hret : meth.sig.returnType = some t) (ht : t.isReference = true) (hd : decode c.code pc = .ok (.areturn, 1)) (hq : Qv (some (.ref z)) T.heap locs) (hk : cells ≤ k) (hn : slots ≤ n) :
    OwnEnd p e below s Qv k n (T.setTop (mkF m pc Ls (.ref z :: rest))) := by
  obtain ⟨fs, hr, hrun, hended, hW, hsame⟩ := X.leave (v := some (.ref z)) (fun h => by rw [hret] at h; cases h) hlocks
  refine ⟨T.setFrames fs, _, ?_, hrun, hended, _, _, rfl, hq, ⟨_, rfl⟩, hW, hsame.mono hk hn⟩
  have hm' : T.vm.method? m = some meth := X.method'
  show Steps p.tables e below (T.setTop { method := m, pc := pc, locals := Ls, stack := _ :: rest, locked := none }) _
  jvm_step X.here [X.here.top, hx, hd, hm', hret, ht, Value.isRef]
  first | (intro acts; rw [hr _ acts rfl rfl rfl]) | rw [hr _ _ rfl rfl rfl]
  exact Steps.refl _
theorem own_ret0 (X : Stand p l e R s m args below meth c T locs cells slots) (hx : p.tables.exec = Jvm.exec) (hlocks : meth.locks = false) {pc : Nat} {Ls : Array Slot} (hret : meth.sig.returnType = none) (hd : decode c.code pc = .ok (.return_, 1)) (hq : Qv none T.heap locs) (hk : cells ≤ k) (hn : slots ≤ n) :
    OwnEnd p e below s Qv k n (T.setTop (mkF m pc Ls [])) := by
  obtain ⟨fs, hr, hrun, hended, hW, hsame⟩ := X.leave (v := none) (fun _ => rfl) hlocks
  exact ⟨_, _, X.returnOut hx hret hd hr, hrun, hended, _, _, rfl, hq, ⟨_, rfl⟩, hW, hsame.mono hk hn⟩
end OwnRet
theorem d1_0 : decode jdk_30_method_1_code 0 = .ok (.aload_n 0, 1) := by decide +kernel
theorem d1_1 : decode jdk_30_method_1_code 1 = .ok (.invokespecial 1, 3) := by decide +kernel
theorem d1_4 : decode jdk_30_method_1_code 4 = .ok (.return_, 1) := by decide +kernel
theorem pn1 : plainName "java/lang/Record" = true := by first | (simp [plainName, overriddenIn]; done) | decide +kernel
theorem ef1 (m : MethodId) (a0 : Addr) : entryFrame m #[(.ref a0)] 1 = mkF m 0 #[.val (.ref a0)] [] := by first | (simp [entryFrame, mkF, argsToLocals, Value.category]; done) | rfl
def Q1 (Z : State) (a0 : Addr) (h0 : Heap) (n0 : Nat) (v : Option Value) (h : Heap) (L : List Loc) : Prop := v = none ∧ Fr n0 L ∧ h = h0
set_option maxRecDepth 65536 in
set_option maxHeartbeats 40000000 in
theorem rm1 (l : Launch) (Z : State) (aa : Array Value) (hw : ∀ d ∈ tables_1, d.before aa Z = true) (ws : List Jvm.Cond) (a0 : Addr) (h0 : Heap) (n0 : Nat) (Z0 : n0 ≤ h0.size) :
    MetFree l (⟨"java/lang/Record", "<init>", "()V"⟩ : MethodName) (head1 (Jvm.Cond.code (⟨"java/lang/Record", "<init>", "()V"⟩ : MethodName) jdk_30_method_1_code 1 none :: ws) ({ frames := 1, cells := 0, slots := 0, locals := 12 } : Room)) (fun a U => a = #[(.ref a0)] ∧ Z.Warmed39 U.vm ∧ U.heap = h0) (fun _ _ _ _ _ => True) (fun _ U o U' => ∃ v L, o = .returned v ∧ Q1 Z a0 h0 n0 v U'.heap L ∧ FrameEnd U o U' L ({ frames := 1, cells := 0, slots := 0, locals := 12 } : Room).cells ({ frames := 1, cells := 0, slots := 0, locals := 12 } : Room).slots) := by
  refine MetFree.of_bodySF (plainFor_of_name pn1) hisR ?_
  intro p e s m args below meth c s₁ Bd hml0 hP hK
  obtain ⟨rfl, hZ, hh⟩ := hP
  have hx := Bd.exec
  have hby := Bd.bytes
  have hml : c.maxLocals = 1 := hml0
  have hown : s.vm.findClass "java/lang/Record" = some m.cls := findClass_of_methodNamed Bd.named
  have hnm := (name_of_methodNamed Bd.named Bd.method).1
  have X0 : Stand p l e ({ frames := 1, cells := 0, slots := 0, locals := 12 } : Room) s m #[(.ref a0)] below meth c s₁ [] 0 0 := Stand.of_body Bd
  have e0 : s₁.heap = h0 := by rw [← hh, Bd.state]; rfl
  have N0 := Fr.nil n0
  show OwnEnd p e below s (fun v h L => Q1 Z a0 h0 n0 v h L) ({ frames := 1, cells := 0, slots := 0, locals := 12 } : Room).cells ({ frames := 1, cells := 0, slots := 0, locals := 12 } : Room).slots (s₁.setTop (entryFrame m #[(.ref a0)] 1))
  rw [ef1 m a0]
  generalize hW : OwnEnd p e below s (fun v h L => Q1 Z a0 h0 n0 v h L) ({ frames := 1, cells := 0, slots := 0, locals := 12 } : Room).cells ({ frames := 1, cells := 0, slots := 0, locals := 12 } : Room).slots = W
  have stp : ∀ {A B : State}, (∀ t, Steps p.tables e below B t → Steps p.tables e below A t) → W B → W A := by subst hW; exact own_step
  show W (s₁.setTop (mkF m 0 #[.val (.ref a0)] []))
  refine stp (fun t k => XS.aloadN X0.here hx rfl (hb hby d1_0) rfl rfl k) ?_
  show W (s₁.setTop (mkF m 1 #[.val (.ref a0)] [(.ref a0)]))
  obtain ⟨T1, X1, e1, st1⟩ := initO X0 hx hZ hown (hw _ (List.mem_of_getElem? (i := 14) rfl)) (hw _ (List.mem_of_getElem? (i := 15) rfl)) (hw _ (List.mem_of_getElem? (i := 16) rfl)) e0 (g := (mkF m 1 #[.val (.ref a0)] [(.ref a0)])) rfl (by rw [hml]; rfl) rfl (hb hby d1_1) (by decide) (W := 0) (by show 2 * 0 + _ ≤ _; exact Nat.le_of_eq rfl) (by decide)
  refine stp (fun t k => st1 t k) ?_
  show W (T1.setTop (mkF m 4 #[.val (.ref a0)] []))
  show W (T1.setTop (mkF m 4 #[.val (.ref a0)] []))
  rw [← hW]
  exact own_ret0 X1 hx Bd.notSynchronized Bd.returns (hb hby d1_4) (by show Q1 Z a0 h0 n0 _ T1.heap _; rw [e1]; exact ⟨rfl, N0, rfl⟩) (by decide) (by decide)
theorem d2_0 : decode jdk_117_method_8_code 0 = .ok (.dload_n 0, 1) := by decide +kernel
theorem d2_1 : decode jdk_117_method_8_code 1 = .ok (.invokestatic 38, 3) := by decide +kernel
theorem d2_4 : decode jdk_117_method_8_code 4 = .ok (.ldc2_w 111, 3) := by decide +kernel
theorem d2_7 : decode jdk_117_method_8_code 7 = .ok (.dcmp .g, 1) := by decide +kernel
theorem d2_8 : decode jdk_117_method_8_code 8 = .ok (.ifCond .gt 7, 3) := by decide +kernel
theorem d2_11 : decode jdk_117_method_8_code 11 = .ok (.iconst 1, 1) := by decide +kernel
theorem d2_12 : decode jdk_117_method_8_code 12 = .ok (.goto 4, 3) := by decide +kernel
theorem d2_15 : decode jdk_117_method_8_code 15 = .ok (.iconst 0, 1) := by decide +kernel
theorem d2_16 : decode jdk_117_method_8_code 16 = .ok (.ireturn, 1) := by decide +kernel
theorem pn2 : plainName "java/lang/Double" = true := by first | (simp [plainName, overriddenIn]; done) | decide +kernel
theorem pd2_0 : parseMethodDescriptor "(D)D" = some ⟨[.double], some .double⟩ := by decide +kernel
theorem ef2 (m : MethodId) (d0 : UInt64) : entryFrame m #[(.double d0)] 2 = mkF m 0 #[.val (.double d0), .second] [] := by first | (simp [entryFrame, mkF, argsToLocals, Value.category]; done) | rfl
def f2 (d0 : UInt64) : Int32 := (if (0 : Int32) < (cmpValue (FP.dcmp (d0 &&& 0x7fffffffffffffff) (9218868437227405311 : UInt64)) .g) then (0 : Int32) else (1 : Int32))
def Q2 (Z : State) (d0 : UInt64) (h0 : Heap) (n0 : Nat) (v : Option Value) (h : Heap) (L : List Loc) : Prop := v = some (.int (f2 d0)) ∧ Fr n0 L ∧ h = h0
set_option maxRecDepth 65536 in
set_option maxHeartbeats 40000000 in
theorem rm2 (l : Launch) (Z : State) (aa : Array Value) (hw : ∀ d ∈ tables_1, d.before aa Z = true) (ws : List Jvm.Cond) (d0 : UInt64) (h0 : Heap) (n0 : Nat) (Z0 : n0 ≤ h0.size) (hfin : Jvm.Free.Fl.Fin64 d0) :
    MetFree l (⟨"java/lang/Double", "isFinite", "(D)Z"⟩ : MethodName) (head1 (Jvm.Cond.code (⟨"java/lang/Double", "isFinite", "(D)Z"⟩ : MethodName) jdk_117_method_8_code 2 (some .boolean) :: ws) ({ frames := 1, cells := 0, slots := 0, locals := 13 } : Room)) (fun a U => a = #[(.double d0)] ∧ Z.Warmed39 U.vm ∧ U.heap = h0) (fun _ _ _ _ _ => True) (fun _ U o U' => ∃ v L, o = .returned v ∧ Q2 Z d0 h0 n0 v U'.heap L ∧ FrameEnd U o U' L ({ frames := 1, cells := 0, slots := 0, locals := 13 } : Room).cells ({ frames := 1, cells := 0, slots := 0, locals := 13 } : Room).slots) := by
  refine MetFree.of_bodySF (plainFor_of_name pn2) hisR ?_
  intro p e s m args below meth c s₁ Bd hml0 hP hK
  obtain ⟨rfl, hZ, hh⟩ := hP
  have hx := Bd.exec
  have hby := Bd.bytes
  have hml : c.maxLocals = 2 := hml0
  have hown : s.vm.findClass "java/lang/Double" = some m.cls := findClass_of_methodNamed Bd.named
  have hnm := (name_of_methodNamed Bd.named Bd.method).1
  have X0 : Stand p l e ({ frames := 1, cells := 0, slots := 0, locals := 13 } : Room) s m #[(.double d0)] below meth c s₁ [] 0 0 := Stand.of_body Bd
  have e0 : s₁.heap = h0 := by rw [← hh, Bd.state]; rfl
  have N0 := Fr.nil n0
  show OwnEnd p e below s (fun v h L => Q2 Z d0 h0 n0 v h L) ({ frames := 1, cells := 0, slots := 0, locals := 13 } : Room).cells ({ frames := 1, cells := 0, slots := 0, locals := 13 } : Room).slots (s₁.setTop (entryFrame m #[(.double d0)] 2))
  rw [ef2 m d0]
  generalize hW : OwnEnd p e below s (fun v h L => Q2 Z d0 h0 n0 v h L) ({ frames := 1, cells := 0, slots := 0, locals := 13 } : Room).cells ({ frames := 1, cells := 0, slots := 0, locals := 13 } : Room).slots = W
  have stp : ∀ {A B : State}, (∀ t, Steps p.tables e below B t → Steps p.tables e below A t) → W B → W A := by subst hW; exact own_step
  show W (s₁.setTop (mkF m 0 #[.val (.double d0), .second] []))
  refine stp (fun t k => XS.dloadN X0.here hx rfl (hb hby d2_0) rfl k) ?_
  show W (s₁.setTop (mkF m 1 #[.val (.double d0), .second] [(.double d0)]))
  obtain ⟨T1, X1, e1, st1⟩ := natS X0 hx hZ (y := (⟨"java/lang/Math", "abs", "(D)D"⟩ : MethodName)) hown (hw _ (List.mem_of_getElem? (i := 22) rfl)) (hw _ (List.mem_of_getElem? (i := 23) rfl)) (hw _ (List.mem_of_getElem? (i := 24) rfl)) (hw _ (List.mem_of_getElem? (i := 25) rfl)) (by decide) e0 (W := 0) (fun h => Jvm.Free.Fl.Abs.absD_pays d0 h (by decide) (by decide)) (g := (mkF m 1 #[.val (.double d0), .second] [(.double d0)])) rfl (by rw [hml]; rfl) (argsL := [(.double d0)]) (rest := []) (lenOf pd2_0 rfl) rfl (by show 2 * 0 + _ ≤ _; exact Nat.le_of_eq rfl) (hb hby d2_1) (by decide) (by decide) ⟨rfl, hfin.noNaN⟩ rfl
  refine stp (fun t k => st1 t k) ?_
  show W (T1.setTop (mkF m 4 #[.val (.double d0), .second] [(.double (d0 &&& 0x7fffffffffffffff))]))
  refine stp (fun t k => X1.ldc2DoubleC hx hown (mvT hZ (hw _ (List.mem_of_getElem? (i := 26) rfl))) (g := (mkF m 4 #[.val (.double d0), .second] [(.double (d0 &&& 0x7fffffffffffffff))])) rfl (hb hby d2_4) _ k) ?_
  show W (T1.setTop (mkF m 7 #[.val (.double d0), .second] [(.double (9218868437227405311 : UInt64)), (.double (d0 &&& 0x7fffffffffffffff))]))
  refine stp (fun t k => XS.dcmpS X1.here hx rfl (hb hby d2_7) rfl rfl k) ?_
  show W (T1.setTop (mkF m 8 #[.val (.double d0), .second] [(.int (cmpValue (FP.dcmp (d0 &&& 0x7fffffffffffffff) (9218868437227405311 : UInt64)) .g))]))
  by_cases hc2_2 : (0 : Int32) < (cmpValue (FP.dcmp (d0 &&& 0x7fffffffffffffff) (9218868437227405311 : UInt64)) .g)
  · refine stp (fun t k => XS.ifYes X1.here hx rfl (pc0 := 8) (pc' := 15) rfl (hb hby d2_8) rfl ((if0 _ _).trans (tlt hc2_2).2.2.1) (by decide) (by decide) k) ?_
    show W (T1.setTop (mkF m 15 #[.val (.double d0), .second] []))
    refine stp (fun t k => XS.iconst X1.here hx rfl (hb hby d2_15) k) ?_
    show W (T1.setTop (mkF m 16 #[.val (.double d0), .second] [(.int (0 : Int32))]))
    show W (T1.setTop (mkF m 16 #[.val (.double d0), .second] [(.int (0 : Int32))]))
    rw [← hW]
    exact own_retN X1 hx Bd.notSynchronized Bd.returns (w := (0 : Int32)) (by simp) (hb hby d2_16) rfl (by show Q2 Z d0 h0 n0 _ T1.heap _; rw [e1]; exact ⟨(by rw [f2, if_pos hc2_2]), N0, rfl⟩) (by decide) (by decide)
  · refine stp (fun t k => XS.ifNo X1.here hx rfl (hb hby d2_8) rfl ((if0 _ _).trans (flt hc2_2).2.2.1) k) ?_
    show W (T1.setTop (mkF m 11 #[.val (.double d0), .second] []))
    refine stp (fun t k => XS.iconst X1.here hx rfl (hb hby d2_11) k) ?_
    show W (T1.setTop (mkF m 12 #[.val (.double d0), .second] [(.int (1 : Int32))]))
    refine stp (fun t k => XS.goto X1.here hx rfl (pc0 := 12) (pc' := 16) rfl (hb hby d2_12) (by decide) (by decide) k) ?_
    show W (T1.setTop (mkF m 16 #[.val (.double d0), .second] [(.int (1 : Int32))]))
    show W (T1.setTop (mkF m 16 #[.val (.double d0), .second] [(.int (1 : Int32))]))
    rw [← hW]
    exact own_retN X1 hx Bd.notSynchronized Bd.returns (w := (1 : Int32)) (by simp) (hb hby d2_16) rfl (by show Q2 Z d0 h0 n0 _ T1.heap _; rw [e1]; exact ⟨(by rw [f2, if_neg hc2_2]), N0, rfl⟩) (by decide) (by decide)
theorem d3_0 : decode prog_82_method_1_code 0 = .ok (.aload_n 0, 1) := by decide +kernel
theorem d3_1 : decode prog_82_method_1_code 1 = .ok (.invokespecial 1, 3) := by decide +kernel
theorem d3_4 : decode prog_82_method_1_code 4 = .ok (.iload_n 1, 1) := by decide +kernel
theorem d3_5 : decode prog_82_method_1_code 5 = .ok (.iconst 1, 1) := by decide +kernel
theorem d3_6 : decode prog_82_method_1_code 6 = .ok (.if_icmp .ge 17, 3) := by decide +kernel
theorem d3_23 : decode prog_82_method_1_code 23 = .ok (.aload_n 0, 1) := by decide +kernel
theorem d3_24 : decode prog_82_method_1_code 24 = .ok (.iload_n 1, 1) := by decide +kernel
theorem d3_25 : decode prog_82_method_1_code 25 = .ok (.putfield 16, 3) := by decide +kernel
theorem d3_28 : decode prog_82_method_1_code 28 = .ok (.aload_n 0, 1) := by decide +kernel
theorem d3_29 : decode prog_82_method_1_code 29 = .ok (.lload_n 2, 1) := by decide +kernel
theorem d3_30 : decode prog_82_method_1_code 30 = .ok (.putfield 22, 3) := by decide +kernel
theorem d3_33 : decode prog_82_method_1_code 33 = .ok (.return_, 1) := by decide +kernel
theorem pn3 : plainName "com/example/astute_scheduler/astutescheduler/model/TraceSampling" = true := by first | (simp [plainName, overriddenIn]; done) | decide +kernel
theorem pd3_0 : parseMethodDescriptor "()V" = some ⟨[], none⟩ := by decide +kernel
theorem ef3 (m : MethodId) (a0 : Addr) (p1 : Int32) (q2 : Int64) : entryFrame m #[(.ref a0), (.int p1), (.long q2)] 4 = mkF m 0 #[.val (.ref a0), .val (.int p1), .val (.long q2), .second] [] := by first | (simp [entryFrame, mkF, argsToLocals, Value.category]; done) | rfl
def Q3 (Z : State) (a0 : Addr) (p1 : Int32) (q2 : Int64) (h0 : Heap) (n0 : Nat) (v : Option Value) (h : Heap) (L : List Loc) : Prop := v = none ∧ Fr n0 L ∧ Keep h0 h [a0] ∧ Exa Z h a0 "com/example/astute_scheduler/astutescheduler/model/TraceSampling" ∧ Fld Z h a0 "com/example/astute_scheduler/astutescheduler/model/TraceSampling" "traces" "I" (.int p1) ∧ Fld Z h a0 "com/example/astute_scheduler/astutescheduler/model/TraceSampling" "seed" "J" (.long q2)
set_option maxRecDepth 65536 in
set_option maxHeartbeats 40000000 in
theorem rm3 (l : Launch) (Z : State) (aa : Array Value) (hw : ∀ d ∈ tables_1, d.before aa Z = true) (ws : List Jvm.Cond) (a0 : Addr) (p1 : Int32) (q2 : Int64) (h0 : Heap) (n0 : Nat) (Z0 : n0 ≤ h0.size) (F_traces_a0 : Fld Z h0 a0 "com/example/astute_scheduler/astutescheduler/model/TraceSampling" "traces" "I" (.int (0 : Int32))) (F_seed_a0 : Fld Z h0 a0 "com/example/astute_scheduler/astutescheduler/model/TraceSampling" "seed" "J" (.long (0 : Int64))) (E_a0 : Exa Z h0 a0 "com/example/astute_scheduler/astutescheduler/model/TraceSampling") (g_a0 : n0 ≤ a0) (ht : ¬ (p1 < (1 : Int32))) :
    MetFree l (⟨"com/example/astute_scheduler/astutescheduler/model/TraceSampling", "<init>", "(IJ)V"⟩ : MethodName) (head1 (Jvm.Cond.code (⟨"com/example/astute_scheduler/astutescheduler/model/TraceSampling", "<init>", "(IJ)V"⟩ : MethodName) prog_82_method_1_code 4 none :: ws) ({ frames := 2, cells := 0, slots := 0, locals := 24 } : Room)) (fun a U => a = #[(.ref a0), (.int p1), (.long q2)] ∧ Z.Warmed39 U.vm ∧ U.heap = h0) (fun _ _ _ _ _ => True) (fun _ U o U' => ∃ v L, o = .returned v ∧ Q3 Z a0 p1 q2 h0 n0 v U'.heap L ∧ FrameEnd U o U' L ({ frames := 2, cells := 0, slots := 0, locals := 24 } : Room).cells ({ frames := 2, cells := 0, slots := 0, locals := 24 } : Room).slots) := by
  refine MetFree.of_bodySF (plainFor_of_name pn3) hisR ?_
  intro p e s m args below meth c s₁ Bd hml0 hP hK
  obtain ⟨rfl, hZ, hh⟩ := hP
  have hx := Bd.exec
  have hby := Bd.bytes
  have hml : c.maxLocals = 4 := hml0
  have hown : s.vm.findClass "com/example/astute_scheduler/astutescheduler/model/TraceSampling" = some m.cls := findClass_of_methodNamed Bd.named
  have hnm := (name_of_methodNamed Bd.named Bd.method).1
  have X0 : Stand p l e ({ frames := 2, cells := 0, slots := 0, locals := 24 } : Room) s m #[(.ref a0), (.int p1), (.long q2)] below meth c s₁ [] 0 0 := Stand.of_body Bd
  have e0 : s₁.heap = h0 := by rw [← hh, Bd.state]; rfl
  have N0 := Fr.nil n0
  show OwnEnd p e below s (fun v h L => Q3 Z a0 p1 q2 h0 n0 v h L) ({ frames := 2, cells := 0, slots := 0, locals := 24 } : Room).cells ({ frames := 2, cells := 0, slots := 0, locals := 24 } : Room).slots (s₁.setTop (entryFrame m #[(.ref a0), (.int p1), (.long q2)] 4))
  rw [ef3 m a0 p1 q2]
  generalize hW : OwnEnd p e below s (fun v h L => Q3 Z a0 p1 q2 h0 n0 v h L) ({ frames := 2, cells := 0, slots := 0, locals := 24 } : Room).cells ({ frames := 2, cells := 0, slots := 0, locals := 24 } : Room).slots = W
  have stp : ∀ {A B : State}, (∀ t, Steps p.tables e below B t → Steps p.tables e below A t) → W B → W A := by subst hW; exact own_step
  show W (s₁.setTop (mkF m 0 #[.val (.ref a0), .val (.int p1), .val (.long q2), .second] []))
  refine stp (fun t k => XS.aloadN X0.here hx rfl (hb hby d3_0) rfl rfl k) ?_
  show W (s₁.setTop (mkF m 1 #[.val (.ref a0), .val (.int p1), .val (.long q2), .second] [(.ref a0)]))
  obtain ⟨_, _, ⟨T3c1, L3c1, k3c1, n3c1⟩, -, X3c1, ⟨Lc3c1, hQ3c1, l3c1, y3c1, z3c1⟩, st3c1⟩ := X0.specialBack hx (y := (⟨"java/lang/Record", "<init>", "()V"⟩ : MethodName)) rfl hown (mvT hZ (hw _ (List.mem_of_getElem? (i := 33) rfl))) (mvT hZ (hw _ (List.mem_of_getElem? (i := 10) rfl))) (mvT hZ (hw _ (List.mem_of_getElem? (i := 13) rfl))) (by decide) (backOf (W := 0) (rm1 l Z aa hw [] a0  h0 n0 Z0 ) hZ (hw _ (List.mem_of_getElem? (i := 13) rfl)) (hw _ (List.mem_of_getElem? (i := 12) rfl)) (by decide) (by decide)) (g := (mkF m 1 #[.val (.ref a0), .val (.int p1), .val (.long q2), .second] [(.ref a0)])) rfl (by rw [hml]; rfl) (Steps.refl _) (a := a0) (argsL := []) (rest := []) (lenOf pd3_0 rfl) rfl (by show 2 * 0 + _ ≤ _; exact Nat.le_of_eq rfl) (hb hby d3_1) (fun _ _ => ⟨rfl, e0, (by decide : 0 + 0 ≤ _), (by decide : 0 + 0 ≤ _)⟩)
  dsimp only [Pt.U, Pt.locs, Pt.cells, Pt.slots] at X3c1 l3c1 y3c1 z3c1 st3c1 hQ3c1
  subst l3c1 y3c1 z3c1
  obtain ⟨rfl, N3c1q, e3c1⟩ := hQ3c1
  have N3c1 := Fr.app N0 N3c1q
  refine stp (fun t k => st3c1.trans k) ?_
  show W (T3c1.setTop (mkF m 4 #[.val (.ref a0), .val (.int p1), .val (.long q2), .second] []))
  refine stp (fun t k => XS.iloadN X3c1.here hx rfl (hb hby d3_4) rfl k) ?_
  show W (T3c1.setTop (mkF m 5 #[.val (.ref a0), .val (.int p1), .val (.long q2), .second] [(.int p1)]))
  refine stp (fun t k => XS.iconst X3c1.here hx rfl (hb hby d3_5) k) ?_
  show W (T3c1.setTop (mkF m 6 #[.val (.ref a0), .val (.int p1), .val (.long q2), .second] [(.int (1 : Int32)), (.int p1)]))
  refine stp (fun t k => XS.icmpYes X3c1.here hx rfl (pc0 := 6) (pc' := 23) rfl (hb hby d3_6) rfl ((flt (ht)).2.1) (by decide) (by decide) k) ?_
  show W (T3c1.setTop (mkF m 23 #[.val (.ref a0), .val (.int p1), .val (.long q2), .second] []))
  refine stp (fun t k => XS.aloadN X3c1.here hx rfl (hb hby d3_23) rfl rfl k) ?_
  show W (T3c1.setTop (mkF m 24 #[.val (.ref a0), .val (.int p1), .val (.long q2), .second] [(.ref a0)]))
  refine stp (fun t k => XS.iloadN X3c1.here hx rfl (hb hby d3_24) rfl k) ?_
  show W (T3c1.setTop (mkF m 25 #[.val (.ref a0), .val (.int p1), .val (.long q2), .second] [(.int p1), (.ref a0)]))
  obtain ⟨T32, h32, X32, e32, W32, st32⟩ := putF X3c1 hx hZ hown (host := "") (Or.inl (hw _ (List.mem_of_getElem? (i := 34) rfl))) Via.refl e3c1 F_traces_a0 E_a0 (Or.inr ⟨(hw _ (List.mem_of_getElem? (i := 35) rfl)), rfl, hnm⟩) (hw _ (List.mem_of_getElem? (i := 28) rfl)) (ty := .int) (by decide) rfl rfl (g := (mkF m 25 #[.val (.ref a0), .val (.int p1), .val (.long q2), .second] [(.int p1), (.ref a0)])) rfl rfl (hb hby d3_25)
  have N32 := Fr.snoc X32 N3c1 g_a0
  have F_traces_a0x := F_traces_a0.same W32
  have F_seed_a0 := F_seed_a0.other W32 (Or.inr (slot_ne (Or.inr (hw _ (List.mem_of_getElem? (i := 37) rfl))) (Or.inr (hw _ (List.mem_of_getElem? (i := 35) rfl))) (by decide) (t := .long) (t' := .int) (by decide) (by decide)))
  have E_a0 := E_a0.wr W32
  have K32 := (Keep.refl h0 [a0]).wr W32 (Or.inl (List.mem_of_getElem? (i := 0) rfl))
  have Z32 := Nat.le_trans Z0 (Keep.of_wr W32).1
  have F_traces_a0 := F_traces_a0x
  refine stp (fun t k => st32 t k) ?_
  show W (T32.setTop (mkF m 28 #[.val (.ref a0), .val (.int p1), .val (.long q2), .second] []))
  refine stp (fun t k => XS.aloadN X32.here hx rfl (hb hby d3_28) rfl rfl k) ?_
  show W (T32.setTop (mkF m 29 #[.val (.ref a0), .val (.int p1), .val (.long q2), .second] [(.ref a0)]))
  refine stp (fun t k => XS.lloadN X32.here hx rfl (hb hby d3_29) rfl k) ?_
  show W (T32.setTop (mkF m 30 #[.val (.ref a0), .val (.int p1), .val (.long q2), .second] [(.long q2), (.ref a0)]))
  obtain ⟨T33, h33, X33, e33, W33, st33⟩ := putF X32 hx hZ hown (host := "") (Or.inl (hw _ (List.mem_of_getElem? (i := 36) rfl))) Via.refl e32 F_seed_a0 E_a0 (Or.inr ⟨(hw _ (List.mem_of_getElem? (i := 37) rfl)), rfl, hnm⟩) (hw _ (List.mem_of_getElem? (i := 28) rfl)) (ty := .long) (by decide) rfl rfl (g := (mkF m 30 #[.val (.ref a0), .val (.int p1), .val (.long q2), .second] [(.long q2), (.ref a0)])) rfl rfl (hb hby d3_30)
  have N33 := Fr.snoc X33 N32 g_a0
  have F_seed_a0x := F_seed_a0.same W33
  have F_traces_a0 := F_traces_a0.other W33 (Or.inr (slot_ne (Or.inr (hw _ (List.mem_of_getElem? (i := 35) rfl))) (Or.inr (hw _ (List.mem_of_getElem? (i := 37) rfl))) (by decide) (t := .int) (t' := .long) (by decide) (by decide)))
  have E_a0 := E_a0.wr W33
  have K33 := K32.wr W33 (Or.inl (List.mem_of_getElem? (i := 0) rfl))
  have Z33 := Nat.le_trans Z32 (Keep.of_wr W33).1
  have F_seed_a0 := F_seed_a0x
  refine stp (fun t k => st33 t k) ?_
  show W (T33.setTop (mkF m 33 #[.val (.ref a0), .val (.int p1), .val (.long q2), .second] []))
  show W (T33.setTop (mkF m 33 #[.val (.ref a0), .val (.int p1), .val (.long q2), .second] []))
  rw [← hW]
  exact own_ret0 X33 hx Bd.notSynchronized Bd.returns (hb hby d3_33) (by show Q3 Z a0 p1 q2 h0 n0 _ T33.heap _; rw [e33]; exact ⟨rfl, N33, K33, E_a0, F_traces_a0, F_seed_a0⟩) (by decide) (by decide)
theorem d4_0 : decode prog_30_method_1_code 0 = .ok (.aload_n 0, 1) := by decide +kernel
theorem d4_1 : decode prog_30_method_1_code 1 = .ok (.invokespecial 1, 3) := by decide +kernel
theorem d4_4 : decode prog_30_method_1_code 4 = .ok (.lload_n 1, 1) := by decide +kernel
theorem d4_5 : decode prog_30_method_1_code 5 = .ok (.lconst 1, 1) := by decide +kernel
theorem d4_6 : decode prog_30_method_1_code 6 = .ok (.lcmp, 1) := by decide +kernel
theorem d4_7 : decode prog_30_method_1_code 7 = .ok (.ifCond .ge 17, 3) := by decide +kernel
theorem d4_24 : decode prog_30_method_1_code 24 = .ok (.lload_n 3, 1) := by decide +kernel
theorem d4_25 : decode prog_30_method_1_code 25 = .ok (.lconst 1, 1) := by decide +kernel
theorem d4_26 : decode prog_30_method_1_code 26 = .ok (.lcmp, 1) := by decide +kernel
theorem d4_27 : decode prog_30_method_1_code 27 = .ok (.ifCond .ge 17, 3) := by decide +kernel
theorem d4_44 : decode prog_30_method_1_code 44 = .ok (.dload 5, 2) := by decide +kernel
theorem d4_46 : decode prog_30_method_1_code 46 = .ok (.dconst 0, 1) := by decide +kernel
theorem d4_47 : decode prog_30_method_1_code 47 = .ok (.dcmp .l, 1) := by decide +kernel
theorem d4_48 : decode prog_30_method_1_code 48 = .ok (.ifCond .lt 12, 3) := by decide +kernel
theorem d4_51 : decode prog_30_method_1_code 51 = .ok (.dload 5, 2) := by decide +kernel
theorem d4_53 : decode prog_30_method_1_code 53 = .ok (.ldc2_w 19, 3) := by decide +kernel
theorem d4_56 : decode prog_30_method_1_code 56 = .ok (.dcmp .g, 1) := by decide +kernel
theorem d4_57 : decode prog_30_method_1_code 57 = .ok (.ifCond .lt 18, 3) := by decide +kernel
theorem d4_75 : decode prog_30_method_1_code 75 = .ok (.dload 9, 2) := by decide +kernel
theorem d4_77 : decode prog_30_method_1_code 77 = .ok (.invokestatic 24, 3) := by decide +kernel
theorem d4_80 : decode prog_30_method_1_code 80 = .ok (.ifCond .ne 18, 3) := by decide +kernel
theorem d4_98 : decode prog_30_method_1_code 98 = .ok (.dload 11, 2) := by decide +kernel
theorem d4_100 : decode prog_30_method_1_code 100 = .ok (.invokestatic 24, 3) := by decide +kernel
theorem d4_103 : decode prog_30_method_1_code 103 = .ok (.ifCond .ne 18, 3) := by decide +kernel
theorem d4_121 : decode prog_30_method_1_code 121 = .ok (.new 30, 3) := by decide +kernel
theorem d4_124 : decode prog_30_method_1_code 124 = .ok (.dup, 1) := by decide +kernel
theorem d4_125 : decode prog_30_method_1_code 125 = .ok (.iload 13, 2) := by decide +kernel
theorem d4_127 : decode prog_30_method_1_code 127 = .ok (.lload 7, 2) := by decide +kernel
theorem d4_129 : decode prog_30_method_1_code 129 = .ok (.invokespecial 32, 3) := by decide +kernel
theorem d4_132 : decode prog_30_method_1_code 132 = .ok (.pop, 1) := by decide +kernel
theorem d4_133 : decode prog_30_method_1_code 133 = .ok (.aload_n 0, 1) := by decide +kernel
theorem d4_134 : decode prog_30_method_1_code 134 = .ok (.lload_n 1, 1) := by decide +kernel
theorem d4_135 : decode prog_30_method_1_code 135 = .ok (.putfield 35, 3) := by decide +kernel
theorem d4_138 : decode prog_30_method_1_code 138 = .ok (.aload_n 0, 1) := by decide +kernel
theorem d4_139 : decode prog_30_method_1_code 139 = .ok (.lload_n 3, 1) := by decide +kernel
theorem d4_140 : decode prog_30_method_1_code 140 = .ok (.putfield 41, 3) := by decide +kernel
theorem d4_143 : decode prog_30_method_1_code 143 = .ok (.aload_n 0, 1) := by decide +kernel
theorem d4_144 : decode prog_30_method_1_code 144 = .ok (.dload 5, 2) := by decide +kernel
theorem d4_146 : decode prog_30_method_1_code 146 = .ok (.putfield 44, 3) := by decide +kernel
theorem d4_149 : decode prog_30_method_1_code 149 = .ok (.aload_n 0, 1) := by decide +kernel
theorem d4_150 : decode prog_30_method_1_code 150 = .ok (.lload 7, 2) := by decide +kernel
theorem d4_152 : decode prog_30_method_1_code 152 = .ok (.putfield 48, 3) := by decide +kernel
theorem d4_155 : decode prog_30_method_1_code 155 = .ok (.aload_n 0, 1) := by decide +kernel
theorem d4_156 : decode prog_30_method_1_code 156 = .ok (.dload 9, 2) := by decide +kernel
theorem d4_158 : decode prog_30_method_1_code 158 = .ok (.putfield 51, 3) := by decide +kernel
theorem d4_161 : decode prog_30_method_1_code 161 = .ok (.aload_n 0, 1) := by decide +kernel
theorem d4_162 : decode prog_30_method_1_code 162 = .ok (.dload 11, 2) := by decide +kernel
theorem d4_164 : decode prog_30_method_1_code 164 = .ok (.putfield 54, 3) := by decide +kernel
theorem d4_167 : decode prog_30_method_1_code 167 = .ok (.aload_n 0, 1) := by decide +kernel
theorem d4_168 : decode prog_30_method_1_code 168 = .ok (.iload 13, 2) := by decide +kernel
theorem d4_170 : decode prog_30_method_1_code 170 = .ok (.putfield 57, 3) := by decide +kernel
theorem d4_173 : decode prog_30_method_1_code 173 = .ok (.return_, 1) := by decide +kernel
theorem pn4 : plainName "com/example/astute_scheduler/astutescheduler/core/SchedulerOptions" = true := by first | (simp [plainName, overriddenIn]; done) | decide +kernel
theorem pd4_0 : parseMethodDescriptor "()V" = some ⟨[], none⟩ := by decide +kernel
theorem pd4_1 : parseMethodDescriptor "(D)Z" = some ⟨[.double], some .boolean⟩ := by decide +kernel
theorem pd4_2 : parseMethodDescriptor "(IJ)V" = some ⟨[.int, .long], none⟩ := by decide +kernel
theorem ef4 (m : MethodId) (a0 : Addr) (q1 : Int64) (q2 : Int64) (d3 : UInt64) (q4 : Int64) (d5 : UInt64) (d6 : UInt64) (p7 : Int32) : entryFrame m #[(.ref a0), (.long q1), (.long q2), (.double d3), (.long q4), (.double d5), (.double d6), (.int p7)] 14 = mkF m 0 #[.val (.ref a0), .val (.long q1), .second, .val (.long q2), .second, .val (.double d3), .second, .val (.long q4), .second, .val (.double d5), .second, .val (.double d6), .second, .val (.int p7)] [] := by first | (simp [entryFrame, mkF, argsToLocals, Value.category]; done) | rfl
def Q4 (Z : State) (a0 : Addr) (q1 : Int64) (q2 : Int64) (d3 : UInt64) (q4 : Int64) (d5 : UInt64) (d6 : UInt64) (p7 : Int32) (h0 : Heap) (n0 : Nat) (v : Option Value) (h : Heap) (L : List Loc) : Prop := v = none ∧ Fr n0 L ∧ Keep h0 h [a0] ∧ Exa Z h a0 "com/example/astute_scheduler/astutescheduler/core/SchedulerOptions" ∧ Fld Z h a0 "com/example/astute_scheduler/astutescheduler/core/SchedulerOptions" "traces" "I" (.int p7) ∧ Fld Z h a0 "com/example/astute_scheduler/astutescheduler/core/SchedulerOptions" "seed" "J" (.long q4)
set_option maxRecDepth 65536 in
set_option maxHeartbeats 40000000 in
theorem rm4 (l : Launch) (Z : State) (aa : Array Value) (hw : ∀ d ∈ tables_1, d.before aa Z = true) (ws : List Jvm.Cond) (a0 : Addr) (q1 : Int64) (q2 : Int64) (d3 : UInt64) (q4 : Int64) (d5 : UInt64) (d6 : UInt64) (p7 : Int32) (h0 : Heap) (n0 : Nat) (Z0 : n0 ≤ h0.size) (F_alpha_a0 : Fld Z h0 a0 "com/example/astute_scheduler/astutescheduler/core/SchedulerOptions" "alpha" "J" (.long (0 : Int64))) (F_beta_a0 : Fld Z h0 a0 "com/example/astute_scheduler/astutescheduler/core/SchedulerOptions" "beta" "J" (.long (0 : Int64))) (F_c_a0 : Fld Z h0 a0 "com/example/astute_scheduler/astutescheduler/core/SchedulerOptions" "c" "D" (.double (0 : UInt64))) (F_seed_a0 : Fld Z h0 a0 "com/example/astute_scheduler/astutescheduler/core/SchedulerOptions" "seed" "J" (.long (0 : Int64))) (F_gamma_a0 : Fld Z h0 a0 "com/example/astute_scheduler/astutescheduler/core/SchedulerOptions" "gamma" "D" (.double (0 : UInt64))) (F_delta_a0 : Fld Z h0 a0 "com/example/astute_scheduler/astutescheduler/core/SchedulerOptions" "delta" "D" (.double (0 : UInt64))) (F_traces_a0 : Fld Z h0 a0 "com/example/astute_scheduler/astutescheduler/core/SchedulerOptions" "traces" "I" (.int (0 : Int32))) (E_a0 : Exa Z h0 a0 "com/example/astute_scheduler/astutescheduler/core/SchedulerOptions") (g_a0 : n0 ≤ a0) (hal : ¬ (q1 < (1 : Int64))) (hbe : ¬ (q2 < (1 : Int64))) (hc0 : ¬ (cmpValue (FP.dcmp d3 (0 : UInt64)) .l < (0 : Int32))) (hc1 : cmpValue (FP.dcmp d3 (9218868437227405312 : UInt64)) .g < (0 : Int32)) (hfin_d5 : Jvm.Free.Fl.Fin64 d5) (hfin_d6 : Jvm.Free.Fl.Fin64 d6) (hf5 : ¬ (f2 d5 = (0 : Int32))) (hf6 : ¬ (f2 d6 = (0 : Int32))) (ht : ¬ (p7 < (1 : Int32))) :
    MetFree l (⟨"com/example/astute_scheduler/astutescheduler/core/SchedulerOptions", "<init>", "(JJDJDDI)V"⟩ : MethodName) (head1 (Jvm.Cond.code (⟨"com/example/astute_scheduler/astutescheduler/core/SchedulerOptions", "<init>", "(JJDJDDI)V"⟩ : MethodName) prog_30_method_1_code 14 none :: ws) ({ frames := 3, cells := 1, slots := 2, locals := 40 } : Room)) (fun a U => a = #[(.ref a0), (.long q1), (.long q2), (.double d3), (.long q4), (.double d5), (.double d6), (.int p7)] ∧ Z.Warmed39 U.vm ∧ U.heap = h0) (fun _ _ _ _ _ => True) (fun _ U o U' => ∃ v L, o = .returned v ∧ Q4 Z a0 q1 q2 d3 q4 d5 d6 p7 h0 n0 v U'.heap L ∧ FrameEnd U o U' L ({ frames := 3, cells := 1, slots := 2, locals := 40 } : Room).cells ({ frames := 3, cells := 1, slots := 2, locals := 40 } : Room).slots) := by
  refine MetFree.of_bodySF (plainFor_of_name pn4) hisR ?_
  intro p e s m args below meth c s₁ Bd hml0 hP hK
  obtain ⟨rfl, hZ, hh⟩ := hP
  have hx := Bd.exec
  have hby := Bd.bytes
  have hml : c.maxLocals = 14 := hml0
  have hown : s.vm.findClass "com/example/astute_scheduler/astutescheduler/core/SchedulerOptions" = some m.cls := findClass_of_methodNamed Bd.named
  have hnm := (name_of_methodNamed Bd.named Bd.method).1
  have X0 : Stand p l e ({ frames := 3, cells := 1, slots := 2, locals := 40 } : Room) s m #[(.ref a0), (.long q1), (.long q2), (.double d3), (.long q4), (.double d5), (.double d6), (.int p7)] below meth c s₁ [] 0 0 := Stand.of_body Bd
  have e0 : s₁.heap = h0 := by rw [← hh, Bd.state]; rfl
  have N0 := Fr.nil n0
  show OwnEnd p e below s (fun v h L => Q4 Z a0 q1 q2 d3 q4 d5 d6 p7 h0 n0 v h L) ({ frames := 3, cells := 1, slots := 2, locals := 40 } : Room).cells ({ frames := 3, cells := 1, slots := 2, locals := 40 } : Room).slots (s₁.setTop (entryFrame m #[(.ref a0), (.long q1), (.long q2), (.double d3), (.long q4), (.double d5), (.double d6), (.int p7)] 14))
  rw [ef4 m a0 q1 q2 d3 q4 d5 d6 p7]
  generalize hW : OwnEnd p e below s (fun v h L => Q4 Z a0 q1 q2 d3 q4 d5 d6 p7 h0 n0 v h L) ({ frames := 3, cells := 1, slots := 2, locals := 40 } : Room).cells ({ frames := 3, cells := 1, slots := 2, locals := 40 } : Room).slots = W
  have stp : ∀ {A B : State}, (∀ t, Steps p.tables e below B t → Steps p.tables e below A t) → W B → W A := by subst hW; exact own_step
  show W (s₁.setTop (mkF m 0 #[.val (.ref a0), .val (.long q1), .second, .val (.long q2), .second, .val (.double d3), .second, .val (.long q4), .second, .val (.double d5), .second, .val (.double d6), .second, .val (.int p7)] []))
  refine stp (fun t k => XS.aloadN X0.here hx rfl (hb hby d4_0) rfl rfl k) ?_
  show W (s₁.setTop (mkF m 1 #[.val (.ref a0), .val (.long q1), .second, .val (.long q2), .second, .val (.double d3), .second, .val (.long q4), .second, .val (.double d5), .second, .val (.double d6), .second, .val (.int p7)] [(.ref a0)]))
  obtain ⟨_, _, ⟨T4c1, L4c1, k4c1, n4c1⟩, -, X4c1, ⟨Lc4c1, hQ4c1, l4c1, y4c1, z4c1⟩, st4c1⟩ := X0.specialBack hx (y := (⟨"java/lang/Record", "<init>", "()V"⟩ : MethodName)) rfl hown (mvT hZ (hw _ (List.mem_of_getElem? (i := 9) rfl))) (mvT hZ (hw _ (List.mem_of_getElem? (i := 10) rfl))) (mvT hZ (hw _ (List.mem_of_getElem? (i := 13) rfl))) (by decide) (backOf (W := 0) (rm1 l Z aa hw [] a0  h0 n0 Z0 ) hZ (hw _ (List.mem_of_getElem? (i := 13) rfl)) (hw _ (List.mem_of_getElem? (i := 12) rfl)) (by decide) (by decide)) (g := (mkF m 1 #[.val (.ref a0), .val (.long q1), .second, .val (.long q2), .second, .val (.double d3), .second, .val (.long q4), .second, .val (.double d5), .second, .val (.double d6), .second, .val (.int p7)] [(.ref a0)])) rfl (by rw [hml]; rfl) (Steps.refl _) (a := a0) (argsL := []) (rest := []) (lenOf pd4_0 rfl) rfl (by show 2 * 0 + _ ≤ _; exact Nat.le_of_eq rfl) (hb hby d4_1) (fun _ _ => ⟨rfl, e0, (by decide : 0 + 0 ≤ _), (by decide : 0 + 0 ≤ _)⟩)
  dsimp only [Pt.U, Pt.locs, Pt.cells, Pt.slots] at X4c1 l4c1 y4c1 z4c1 st4c1 hQ4c1
  subst l4c1 y4c1 z4c1
  obtain ⟨rfl, N4c1q, e4c1⟩ := hQ4c1
  have N4c1 := Fr.app N0 N4c1q
  refine stp (fun t k => st4c1.trans k) ?_
  show W (T4c1.setTop (mkF m 4 #[.val (.ref a0), .val (.long q1), .second, .val (.long q2), .second, .val (.double d3), .second, .val (.long q4), .second, .val (.double d5), .second, .val (.double d6), .second, .val (.int p7)] []))
  refine stp (fun t k => XS.lloadN X4c1.here hx rfl (hb hby d4_4) rfl k) ?_
  show W (T4c1.setTop (mkF m 5 #[.val (.ref a0), .val (.long q1), .second, .val (.long q2), .second, .val (.double d3), .second, .val (.long q4), .second, .val (.double d5), .second, .val (.double d6), .second, .val (.int p7)] [(.long q1)]))
  refine stp (fun t k => XS.lconst X4c1.here hx rfl (hb hby d4_5) k) ?_
  show W (T4c1.setTop (mkF m 6 #[.val (.ref a0), .val (.long q1), .second, .val (.long q2), .second, .val (.double d3), .second, .val (.long q4), .second, .val (.double d5), .second, .val (.double d6), .second, .val (.int p7)] [(.long (1 : Int64)), (.long q1)]))
  refine stp (fun t k => XS.lcmp X4c1.here hx rfl (hb hby d4_6) rfl k) ?_
  show W (T4c1.setTop (mkF m 7 #[.val (.ref a0), .val (.long q1), .second, .val (.long q2), .second, .val (.double d3), .second, .val (.long q4), .second, .val (.double d5), .second, .val (.double d6), .second, .val (.int p7)] [(.int (lcmpW q1 (1 : Int64)))]))
  refine stp (fun t k => XS.ifYes X4c1.here hx rfl (pc0 := 7) (pc' := 24) rfl (hb hby d4_7) rfl ((if0 _ _).trans (flt (fun q => (hal) ((lw_lt q1 (1 : Int64)).mp q))).2.1) (by decide) (by decide) k) ?_
  show W (T4c1.setTop (mkF m 24 #[.val (.ref a0), .val (.long q1), .second, .val (.long q2), .second, .val (.double d3), .second, .val (.long q4), .second, .val (.double d5), .second, .val (.double d6), .second, .val (.int p7)] []))
  refine stp (fun t k => XS.lloadN X4c1.here hx rfl (hb hby d4_24) rfl k) ?_
  show W (T4c1.setTop (mkF m 25 #[.val (.ref a0), .val (.long q1), .second, .val (.long q2), .second, .val (.double d3), .second, .val (.long q4), .second, .val (.double d5), .second, .val (.double d6), .second, .val (.int p7)] [(.long q2)]))
  refine stp (fun t k => XS.lconst X4c1.here hx rfl (hb hby d4_25) k) ?_
  show W (T4c1.setTop (mkF m 26 #[.val (.ref a0), .val (.long q1), .second, .val (.long q2), .second, .val (.double d3), .second, .val (.long q4), .second, .val (.double d5), .second, .val (.double d6), .second, .val (.int p7)] [(.long (1 : Int64)), (.long q2)]))
  refine stp (fun t k => XS.lcmp X4c1.here hx rfl (hb hby d4_26) rfl k) ?_
  show W (T4c1.setTop (mkF m 27 #[.val (.ref a0), .val (.long q1), .second, .val (.long q2), .second, .val (.double d3), .second, .val (.long q4), .second, .val (.double d5), .second, .val (.double d6), .second, .val (.int p7)] [(.int (lcmpW q2 (1 : Int64)))]))
  refine stp (fun t k => XS.ifYes X4c1.here hx rfl (pc0 := 27) (pc' := 44) rfl (hb hby d4_27) rfl ((if0 _ _).trans (flt (fun q => (hbe) ((lw_lt q2 (1 : Int64)).mp q))).2.1) (by decide) (by decide) k) ?_
  show W (T4c1.setTop (mkF m 44 #[.val (.ref a0), .val (.long q1), .second, .val (.long q2), .second, .val (.double d3), .second, .val (.long q4), .second, .val (.double d5), .second, .val (.double d6), .second, .val (.int p7)] []))
  refine stp (fun t k => XS.dload X4c1.here hx rfl (hb hby d4_44) rfl k) ?_
  show W (T4c1.setTop (mkF m 46 #[.val (.ref a0), .val (.long q1), .second, .val (.long q2), .second, .val (.double d3), .second, .val (.long q4), .second, .val (.double d5), .second, .val (.double d6), .second, .val (.int p7)] [(.double d3)]))
  refine stp (fun t k => XS.dconst0 X4c1.here hx rfl (hb hby d4_46) (v := (0 : UInt64)) rfl k) ?_
  show W (T4c1.setTop (mkF m 47 #[.val (.ref a0), .val (.long q1), .second, .val (.long q2), .second, .val (.double d3), .second, .val (.long q4), .second, .val (.double d5), .second, .val (.double d6), .second, .val (.int p7)] [(.double (0 : UInt64)), (.double d3)]))
  refine stp (fun t k => XS.dcmpS X4c1.here hx rfl (hb hby d4_47) rfl rfl k) ?_
  show W (T4c1.setTop (mkF m 48 #[.val (.ref a0), .val (.long q1), .second, .val (.long q2), .second, .val (.double d3), .second, .val (.long q4), .second, .val (.double d5), .second, .val (.double d6), .second, .val (.int p7)] [(.int (cmpValue (FP.dcmp d3 (0 : UInt64)) .l))]))
  refine stp (fun t k => XS.ifNo X4c1.here hx rfl (hb hby d4_48) rfl ((if0 _ _).trans (flt (hc0)).1) k) ?_
  show W (T4c1.setTop (mkF m 51 #[.val (.ref a0), .val (.long q1), .second, .val (.long q2), .second, .val (.double d3), .second, .val (.long q4), .second, .val (.double d5), .second, .val (.double d6), .second, .val (.int p7)] []))
  refine stp (fun t k => XS.dload X4c1.here hx rfl (hb hby d4_51) rfl k) ?_
  show W (T4c1.setTop (mkF m 53 #[.val (.ref a0), .val (.long q1), .second, .val (.long q2), .second, .val (.double d3), .second, .val (.long q4), .second, .val (.double d5), .second, .val (.double d6), .second, .val (.int p7)] [(.double d3)]))
  refine stp (fun t k => X4c1.ldc2DoubleC hx hown (mvT hZ (hw _ (List.mem_of_getElem? (i := 17) rfl))) (g := (mkF m 53 #[.val (.ref a0), .val (.long q1), .second, .val (.long q2), .second, .val (.double d3), .second, .val (.long q4), .second, .val (.double d5), .second, .val (.double d6), .second, .val (.int p7)] [(.double d3)])) rfl (hb hby d4_53) _ k) ?_
  show W (T4c1.setTop (mkF m 56 #[.val (.ref a0), .val (.long q1), .second, .val (.long q2), .second, .val (.double d3), .second, .val (.long q4), .second, .val (.double d5), .second, .val (.double d6), .second, .val (.int p7)] [(.double (9218868437227405312 : UInt64)), (.double d3)]))
  refine stp (fun t k => XS.dcmpS X4c1.here hx rfl (hb hby d4_56) rfl rfl k) ?_
  show W (T4c1.setTop (mkF m 57 #[.val (.ref a0), .val (.long q1), .second, .val (.long q2), .second, .val (.double d3), .second, .val (.long q4), .second, .val (.double d5), .second, .val (.double d6), .second, .val (.int p7)] [(.int (cmpValue (FP.dcmp d3 (9218868437227405312 : UInt64)) .g))]))
  refine stp (fun t k => XS.ifYes X4c1.here hx rfl (pc0 := 57) (pc' := 75) rfl (hb hby d4_57) rfl ((if0 _ _).trans (tlt (hc1)).1) (by decide) (by decide) k) ?_
  show W (T4c1.setTop (mkF m 75 #[.val (.ref a0), .val (.long q1), .second, .val (.long q2), .second, .val (.double d3), .second, .val (.long q4), .second, .val (.double d5), .second, .val (.double d6), .second, .val (.int p7)] []))
  refine stp (fun t k => XS.dload X4c1.here hx rfl (hb hby d4_75) rfl k) ?_
  show W (T4c1.setTop (mkF m 77 #[.val (.ref a0), .val (.long q1), .second, .val (.long q2), .second, .val (.double d3), .second, .val (.long q4), .second, .val (.double d5), .second, .val (.double d6), .second, .val (.int p7)] [(.double d5)]))
  obtain ⟨_, _, ⟨T4c2, L4c2, k4c2, n4c2⟩, -, X4c2, ⟨Lc4c2, hQ4c2, l4c2, y4c2, z4c2⟩, st4c2⟩ := Jvm.LawKit.callS X4c1 hx (y := (⟨"java/lang/Double", "isFinite", "(D)Z"⟩ : MethodName)) hown (mvT hZ (hw _ (List.mem_of_getElem? (i := 18) rfl))) (mvT hZ (hw _ (List.mem_of_getElem? (i := 19) rfl))) (mvT hZ (hw _ (List.mem_of_getElem? (i := 20) rfl))) (mvT hZ (hw _ (List.mem_of_getElem? (i := 21) rfl))) (by decide) (backOf (W := 0) (rm2 l Z aa hw [] d5  h0 n0 Z0 hfin_d5) hZ (hw _ (List.mem_of_getElem? (i := 21) rfl)) (hw _ (List.mem_of_getElem? (i := 20) rfl)) (by decide) (by decide)) (g := (mkF m 77 #[.val (.ref a0), .val (.long q1), .second, .val (.long q2), .second, .val (.double d3), .second, .val (.long q4), .second, .val (.double d5), .second, .val (.double d6), .second, .val (.int p7)] [(.double d5)])) rfl (by rw [hml]; rfl) (argsL := [(.double d5)]) (rest := []) (lenOf pd4_1 rfl) rfl (by show 2 * 0 + _ ≤ _; exact Nat.le_of_eq rfl) (hb hby d4_77) (fun _ _ => ⟨rfl, e4c1, (by decide : 0 + 0 ≤ _), (by decide : 0 + 0 ≤ _)⟩)
  dsimp only [Pt.U, Pt.locs, Pt.cells, Pt.slots] at X4c2 l4c2 y4c2 z4c2 st4c2 hQ4c2
  subst l4c2 y4c2 z4c2
  obtain ⟨rfl, N4c2q, e4c2⟩ := hQ4c2
  have N4c2 := Fr.app N4c1 N4c2q
  refine stp (fun t k => st4c2 t k) ?_
  show W (T4c2.setTop (mkF m 80 #[.val (.ref a0), .val (.long q1), .second, .val (.long q2), .second, .val (.double d3), .second, .val (.long q4), .second, .val (.double d5), .second, .val (.double d6), .second, .val (.int p7)] [(.int (f2 d5))]))
  refine stp (fun t k => XS.ifYes X4c2.here hx rfl (pc0 := 80) (pc' := 98) rfl (hb hby d4_80) rfl ((if0 _ _).trans (feq (hf5)).2) (by decide) (by decide) k) ?_
  show W (T4c2.setTop (mkF m 98 #[.val (.ref a0), .val (.long q1), .second, .val (.long q2), .second, .val (.double d3), .second, .val (.long q4), .second, .val (.double d5), .second, .val (.double d6), .second, .val (.int p7)] []))
  refine stp (fun t k => XS.dload X4c2.here hx rfl (hb hby d4_98) rfl k) ?_
  show W (T4c2.setTop (mkF m 100 #[.val (.ref a0), .val (.long q1), .second, .val (.long q2), .second, .val (.double d3), .second, .val (.long q4), .second, .val (.double d5), .second, .val (.double d6), .second, .val (.int p7)] [(.double d6)]))
  obtain ⟨_, _, ⟨T4c3, L4c3, k4c3, n4c3⟩, -, X4c3, ⟨Lc4c3, hQ4c3, l4c3, y4c3, z4c3⟩, st4c3⟩ := Jvm.LawKit.callS X4c2 hx (y := (⟨"java/lang/Double", "isFinite", "(D)Z"⟩ : MethodName)) hown (mvT hZ (hw _ (List.mem_of_getElem? (i := 18) rfl))) (mvT hZ (hw _ (List.mem_of_getElem? (i := 19) rfl))) (mvT hZ (hw _ (List.mem_of_getElem? (i := 20) rfl))) (mvT hZ (hw _ (List.mem_of_getElem? (i := 21) rfl))) (by decide) (backOf (W := 0) (rm2 l Z aa hw [] d6  h0 n0 Z0 hfin_d6) hZ (hw _ (List.mem_of_getElem? (i := 21) rfl)) (hw _ (List.mem_of_getElem? (i := 20) rfl)) (by decide) (by decide)) (g := (mkF m 100 #[.val (.ref a0), .val (.long q1), .second, .val (.long q2), .second, .val (.double d3), .second, .val (.long q4), .second, .val (.double d5), .second, .val (.double d6), .second, .val (.int p7)] [(.double d6)])) rfl (by rw [hml]; rfl) (argsL := [(.double d6)]) (rest := []) (lenOf pd4_1 rfl) rfl (by show 2 * 0 + _ ≤ _; exact Nat.le_of_eq rfl) (hb hby d4_100) (fun _ _ => ⟨rfl, e4c2, (by decide : 0 + 0 ≤ _), (by decide : 0 + 0 ≤ _)⟩)
  dsimp only [Pt.U, Pt.locs, Pt.cells, Pt.slots] at X4c3 l4c3 y4c3 z4c3 st4c3 hQ4c3
  subst l4c3 y4c3 z4c3
  obtain ⟨rfl, N4c3q, e4c3⟩ := hQ4c3
  have N4c3 := Fr.app N4c2 N4c3q
  refine stp (fun t k => st4c3 t k) ?_
  show W (T4c3.setTop (mkF m 103 #[.val (.ref a0), .val (.long q1), .second, .val (.long q2), .second, .val (.double d3), .second, .val (.long q4), .second, .val (.double d5), .second, .val (.double d6), .second, .val (.int p7)] [(.int (f2 d6))]))
  refine stp (fun t k => XS.ifYes X4c3.here hx rfl (pc0 := 103) (pc' := 121) rfl (hb hby d4_103) rfl ((if0 _ _).trans (feq (hf6)).2) (by decide) (by decide) k) ?_
  show W (T4c3.setTop (mkF m 121 #[.val (.ref a0), .val (.long q1), .second, .val (.long q2), .second, .val (.double d3), .second, .val (.long q4), .second, .val (.double d5), .second, .val (.double d6), .second, .val (.int p7)] []))
  obtain ⟨T44, h44, X44, e44, E44, A44, D44, -, st44⟩ := newO X4c3 hx hZ hown (hw _ (List.mem_of_getElem? (i := 27) rfl)) (hw _ (List.mem_of_getElem? (i := 28) rfl)) (hw _ (List.mem_of_getElem? (i := 29) rfl)) e4c3 (g := (mkF m 121 #[.val (.ref a0), .val (.long q1), .second, .val (.long q2), .second, .val (.double d3), .second, .val (.long q4), .second, .val (.double d5), .second, .val (.double d6), .second, .val (.int p7)] [])) rfl (hb hby d4_121) (by decide) (by decide)
  obtain ⟨b44, gq44⟩ : ∃ z, z = h0.size := ⟨_, rfl⟩
  rw [← gq44] at A44 D44 st44
  have ne_a0_b44 : a0 ≠ b44 := Nat.ne_of_lt (Nat.lt_of_lt_of_le F_alpha_a0.lt (Nat.le_of_eq gq44.symm))
  have g_b44 : n0 ≤ b44 := Nat.le_trans Z0 (Nat.le_of_eq gq44.symm)
  have sz_b44 : h0.size ≤ b44 := Nat.le_trans (Keep.refl h0 [a0]).1 (Nat.le_of_eq gq44.symm)
  have F_alpha_a0 := F_alpha_a0.ext E44
  have F_beta_a0 := F_beta_a0.ext E44
  have F_c_a0 := F_c_a0.ext E44
  have F_seed_a0 := F_seed_a0.ext E44
  have F_gamma_a0 := F_gamma_a0.ext E44
  have F_delta_a0 := F_delta_a0.ext E44
  have F_traces_a0 := F_traces_a0.ext E44
  have E_a0 := E_a0.ext E44
  have K44 := (Keep.refl h0 [a0]).ext E44
  have Z44 := Nat.le_trans Z0 E44.1
  have E_b44 := A44
  have F_traces_b44 : Fld Z h44 b44 "com/example/astute_scheduler/astutescheduler/model/TraceSampling" "traces" "I" (.int (0 : Int32)) := D44 (Or.inr (hw _ (List.mem_of_getElem? (i := 35) rfl))) (ty := .int) (by decide)
  have F_seed_b44 : Fld Z h44 b44 "com/example/astute_scheduler/astutescheduler/model/TraceSampling" "seed" "J" (.long (0 : Int64)) := D44 (Or.inr (hw _ (List.mem_of_getElem? (i := 37) rfl))) (ty := .long) (by decide)
  refine stp (fun t k => st44 t k) ?_
  show W (T44.setTop (mkF m 124 #[.val (.ref a0), .val (.long q1), .second, .val (.long q2), .second, .val (.double d3), .second, .val (.long q4), .second, .val (.double d5), .second, .val (.double d6), .second, .val (.int p7)] [(.ref b44)]))
  refine stp (fun t k => XS.dup X44.here hx rfl (hb hby d4_124) rfl rfl k) ?_
  show W (T44.setTop (mkF m 125 #[.val (.ref a0), .val (.long q1), .second, .val (.long q2), .second, .val (.double d3), .second, .val (.long q4), .second, .val (.double d5), .second, .val (.double d6), .second, .val (.int p7)] [(.ref b44), (.ref b44)]))
  refine stp (fun t k => XS.iload X44.here hx rfl (hb hby d4_125) rfl k) ?_
  show W (T44.setTop (mkF m 127 #[.val (.ref a0), .val (.long q1), .second, .val (.long q2), .second, .val (.double d3), .second, .val (.long q4), .second, .val (.double d5), .second, .val (.double d6), .second, .val (.int p7)] [(.int p7), (.ref b44), (.ref b44)]))
  refine stp (fun t k => XS.lload X44.here hx rfl (hb hby d4_127) rfl k) ?_
  show W (T44.setTop (mkF m 129 #[.val (.ref a0), .val (.long q1), .second, .val (.long q2), .second, .val (.double d3), .second, .val (.long q4), .second, .val (.double d5), .second, .val (.double d6), .second, .val (.int p7)] [(.long q4), (.int p7), (.ref b44), (.ref b44)]))
  obtain ⟨_, _, ⟨T4c5, L4c5, k4c5, n4c5⟩, -, X4c5, ⟨Lc4c5, hQ4c5, l4c5, y4c5, z4c5⟩, st4c5⟩ := X44.specialBack hx (y := (⟨"com/example/astute_scheduler/astutescheduler/model/TraceSampling", "<init>", "(IJ)V"⟩ : MethodName)) rfl hown (mvT hZ (hw _ (List.mem_of_getElem? (i := 30) rfl))) (mvT hZ (hw _ (List.mem_of_getElem? (i := 31) rfl))) (mvT hZ (hw _ (List.mem_of_getElem? (i := 32) rfl))) (by decide) (backOf (W := 1) (rm3 l Z aa hw [] b44 p7 q4  h44 n0 Z44 F_traces_b44 F_seed_b44 E_b44 g_b44 ht) hZ (hw _ (List.mem_of_getElem? (i := 32) rfl)) (hw _ (List.mem_of_getElem? (i := 29) rfl)) (by decide) (by decide)) (g := (mkF m 129 #[.val (.ref a0), .val (.long q1), .second, .val (.long q2), .second, .val (.double d3), .second, .val (.long q4), .second, .val (.double d5), .second, .val (.double d6), .second, .val (.int p7)] [(.long q4), (.int p7), (.ref b44), (.ref b44)])) rfl (by rw [hml]; rfl) (Steps.refl _) (a := b44) (argsL := [(.int p7), (.long q4)]) (rest := [(.ref b44)]) (lenOf pd4_2 rfl) rfl (by show 2 * 0 + _ ≤ _; exact Nat.le_of_eq rfl) (hb hby d4_129) (fun _ _ => ⟨rfl, e44, (by decide : 1 + 0 ≤ _), (by decide : 2 + 0 ≤ _)⟩)
  dsimp only [Pt.U, Pt.locs, Pt.cells, Pt.slots] at X4c5 l4c5 y4c5 z4c5 st4c5 hQ4c5
  subst l4c5 y4c5 z4c5
  obtain ⟨rfl, N4c5q, Kq4c5, g4c5E, g4c5T, g4c5S⟩ := hQ4c5
  have N4c5 := Fr.app N4c3 N4c5q
  obtain ⟨h4c5, e4c5⟩ : ∃ h, T4c5.heap = h := ⟨_, rfl⟩
  rw [e4c5] at Kq4c5 g4c5E g4c5T g4c5S
  have F_alpha_a0 := F_alpha_a0.keep Kq4c5 (ninS ne_a0_b44 nin0)
  have F_beta_a0 := F_beta_a0.keep Kq4c5 (ninS ne_a0_b44 nin0)
  have F_c_a0 := F_c_a0.keep Kq4c5 (ninS ne_a0_b44 nin0)
  have F_seed_a0 := F_seed_a0.keep Kq4c5 (ninS ne_a0_b44 nin0)
  have F_gamma_a0 := F_gamma_a0.keep Kq4c5 (ninS ne_a0_b44 nin0)
  have F_delta_a0 := F_delta_a0.keep Kq4c5 (ninS ne_a0_b44 nin0)
  have F_traces_a0 := F_traces_a0.keep Kq4c5 (ninS ne_a0_b44 nin0)
  have E_a0 := E_a0.keep Kq4c5
  have E_b44 := E_b44.keep Kq4c5
  have KK4c5 := Keep.trans K44 Kq4c5 (allS (Or.inr sz_b44) all0)
  have Z4c5 := Nat.le_trans Z44 Kq4c5.1
  have E_b44 := g4c5E
  have F_traces_b44 := g4c5T
  have F_seed_b44 := g4c5S
  refine stp (fun t k => st4c5.trans k) ?_
  show W (T4c5.setTop (mkF m 132 #[.val (.ref a0), .val (.long q1), .second, .val (.long q2), .second, .val (.double d3), .second, .val (.long q4), .second, .val (.double d5), .second, .val (.double d6), .second, .val (.int p7)] [(.ref b44)]))
  refine stp (fun t k => XS.pop X4c5.here hx rfl (hb hby d4_132) rfl rfl k) ?_
  show W (T4c5.setTop (mkF m 133 #[.val (.ref a0), .val (.long q1), .second, .val (.long q2), .second, .val (.double d3), .second, .val (.long q4), .second, .val (.double d5), .second, .val (.double d6), .second, .val (.int p7)] []))
  refine stp (fun t k => XS.aloadN X4c5.here hx rfl (hb hby d4_133) rfl rfl k) ?_
  show W (T4c5.setTop (mkF m 134 #[.val (.ref a0), .val (.long q1), .second, .val (.long q2), .second, .val (.double d3), .second, .val (.long q4), .second, .val (.double d5), .second, .val (.double d6), .second, .val (.int p7)] [(.ref a0)]))
  refine stp (fun t k => XS.lloadN X4c5.here hx rfl (hb hby d4_134) rfl k) ?_
  show W (T4c5.setTop (mkF m 135 #[.val (.ref a0), .val (.long q1), .second, .val (.long q2), .second, .val (.double d3), .second, .val (.long q4), .second, .val (.double d5), .second, .val (.double d6), .second, .val (.int p7)] [(.long q1), (.ref a0)]))
  obtain ⟨T46, h46, X46, e46, W46, st46⟩ := putF X4c5 hx hZ hown (host := "") (Or.inl (hw _ (List.mem_of_getElem? (i := 38) rfl))) Via.refl e4c5 F_alpha_a0 E_a0 (Or.inr ⟨(hw _ (List.mem_of_getElem? (i := 39) rfl)), rfl, hnm⟩) (hw _ (List.mem_of_getElem? (i := 4) rfl)) (ty := .long) (by decide) rfl rfl (g := (mkF m 135 #[.val (.ref a0), .val (.long q1), .second, .val (.long q2), .second, .val (.double d3), .second, .val (.long q4), .second, .val (.double d5), .second, .val (.double d6), .second, .val (.int p7)] [(.long q1), (.ref a0)])) rfl rfl (hb hby d4_135)
  have N46 := Fr.snoc X46 N4c5 g_a0
  have F_alpha_a0x := F_alpha_a0.same W46
  have F_beta_a0 := F_beta_a0.other W46 (Or.inr (slot_ne (Or.inr (hw _ (List.mem_of_getElem? (i := 41) rfl))) (Or.inr (hw _ (List.mem_of_getElem? (i := 39) rfl))) (by decide) (t := .long) (t' := .long) (by decide) (by decide)))
  have F_c_a0 := F_c_a0.other W46 (Or.inr (slot_ne (Or.inr (hw _ (List.mem_of_getElem? (i := 43) rfl))) (Or.inr (hw _ (List.mem_of_getElem? (i := 39) rfl))) (by decide) (t := .double) (t' := .long) (by decide) (by decide)))
  have F_seed_a0 := F_seed_a0.other W46 (Or.inr (slot_ne (Or.inr (hw _ (List.mem_of_getElem? (i := 45) rfl))) (Or.inr (hw _ (List.mem_of_getElem? (i := 39) rfl))) (by decide) (t := .long) (t' := .long) (by decide) (by decide)))
  have F_gamma_a0 := F_gamma_a0.other W46 (Or.inr (slot_ne (Or.inr (hw _ (List.mem_of_getElem? (i := 47) rfl))) (Or.inr (hw _ (List.mem_of_getElem? (i := 39) rfl))) (by decide) (t := .double) (t' := .long) (by decide) (by decide)))
  have F_delta_a0 := F_delta_a0.other W46 (Or.inr (slot_ne (Or.inr (hw _ (List.mem_of_getElem? (i := 49) rfl))) (Or.inr (hw _ (List.mem_of_getElem? (i := 39) rfl))) (by decide) (t := .double) (t' := .long) (by decide) (by decide)))
  have F_traces_a0 := F_traces_a0.other W46 (Or.inr (slot_ne (Or.inr (hw _ (List.mem_of_getElem? (i := 51) rfl))) (Or.inr (hw _ (List.mem_of_getElem? (i := 39) rfl))) (by decide) (t := .int) (t' := .long) (by decide) (by decide)))
  have E_a0 := E_a0.wr W46
  have E_b44 := E_b44.wr W46
  have F_traces_b44 := F_traces_b44.other W46 (Or.inl (Ne.symm ne_a0_b44))
  have F_seed_b44 := F_seed_b44.other W46 (Or.inl (Ne.symm ne_a0_b44))
  have K46 := KK4c5.wr W46 (Or.inl (List.mem_of_getElem? (i := 0) rfl))
  have Z46 := Nat.le_trans Z4c5 (Keep.of_wr W46).1
  have F_alpha_a0 := F_alpha_a0x
  refine stp (fun t k => st46 t k) ?_
  show W (T46.setTop (mkF m 138 #[.val (.ref a0), .val (.long q1), .second, .val (.long q2), .second, .val (.double d3), .second, .val (.long q4), .second, .val (.double d5), .second, .val (.double d6), .second, .val (.int p7)] []))
  refine stp (fun t k => XS.aloadN X46.here hx rfl (hb hby d4_138) rfl rfl k) ?_
  show W (T46.setTop (mkF m 139 #[.val (.ref a0), .val (.long q1), .second, .val (.long q2), .second, .val (.double d3), .second, .val (.long q4), .second, .val (.double d5), .second, .val (.double d6), .second, .val (.int p7)] [(.ref a0)]))
  refine stp (fun t k => XS.lloadN X46.here hx rfl (hb hby d4_139) rfl k) ?_
  show W (T46.setTop (mkF m 140 #[.val (.ref a0), .val (.long q1), .second, .val (.long q2), .second, .val (.double d3), .second, .val (.long q4), .second, .val (.double d5), .second, .val (.double d6), .second, .val (.int p7)] [(.long q2), (.ref a0)]))
  obtain ⟨T47, h47, X47, e47, W47, st47⟩ := putF X46 hx hZ hown (host := "") (Or.inl (hw _ (List.mem_of_getElem? (i := 40) rfl))) Via.refl e46 F_beta_a0 E_a0 (Or.inr ⟨(hw _ (List.mem_of_getElem? (i := 41) rfl)), rfl, hnm⟩) (hw _ (List.mem_of_getElem? (i := 4) rfl)) (ty := .long) (by decide) rfl rfl (g := (mkF m 140 #[.val (.ref a0), .val (.long q1), .second, .val (.long q2), .second, .val (.double d3), .second, .val (.long q4), .second, .val (.double d5), .second, .val (.double d6), .second, .val (.int p7)] [(.long q2), (.ref a0)])) rfl rfl (hb hby d4_140)
  have N47 := Fr.snoc X47 N46 g_a0
  have F_beta_a0x := F_beta_a0.same W47
  have F_alpha_a0 := F_alpha_a0.other W47 (Or.inr (slot_ne (Or.inr (hw _ (List.mem_of_getElem? (i := 39) rfl))) (Or.inr (hw _ (List.mem_of_getElem? (i := 41) rfl))) (by decide) (t := .long) (t' := .long) (by decide) (by decide)))
  have F_c_a0 := F_c_a0.other W47 (Or.inr (slot_ne (Or.inr (hw _ (List.mem_of_getElem? (i := 43) rfl))) (Or.inr (hw _ (List.mem_of_getElem? (i := 41) rfl))) (by decide) (t := .double) (t' := .long) (by decide) (by decide)))
  have F_seed_a0 := F_seed_a0.other W47 (Or.inr (slot_ne (Or.inr (hw _ (List.mem_of_getElem? (i := 45) rfl))) (Or.inr (hw _ (List.mem_of_getElem? (i := 41) rfl))) (by decide) (t := .long) (t' := .long) (by decide) (by decide)))
  have F_gamma_a0 := F_gamma_a0.other W47 (Or.inr (slot_ne (Or.inr (hw _ (List.mem_of_getElem? (i := 47) rfl))) (Or.inr (hw _ (List.mem_of_getElem? (i := 41) rfl))) (by decide) (t := .double) (t' := .long) (by decide) (by decide)))
  have F_delta_a0 := F_delta_a0.other W47 (Or.inr (slot_ne (Or.inr (hw _ (List.mem_of_getElem? (i := 49) rfl))) (Or.inr (hw _ (List.mem_of_getElem? (i := 41) rfl))) (by decide) (t := .double) (t' := .long) (by decide) (by decide)))
  have F_traces_a0 := F_traces_a0.other W47 (Or.inr (slot_ne (Or.inr (hw _ (List.mem_of_getElem? (i := 51) rfl))) (Or.inr (hw _ (List.mem_of_getElem? (i := 41) rfl))) (by decide) (t := .int) (t' := .long) (by decide) (by decide)))
  have E_a0 := E_a0.wr W47
  have E_b44 := E_b44.wr W47
  have F_traces_b44 := F_traces_b44.other W47 (Or.inl (Ne.symm ne_a0_b44))
  have F_seed_b44 := F_seed_b44.other W47 (Or.inl (Ne.symm ne_a0_b44))
  have K47 := K46.wr W47 (Or.inl (List.mem_of_getElem? (i := 0) rfl))
  have Z47 := Nat.le_trans Z46 (Keep.of_wr W47).1
  have F_beta_a0 := F_beta_a0x
  refine stp (fun t k => st47 t k) ?_
  show W (T47.setTop (mkF m 143 #[.val (.ref a0), .val (.long q1), .second, .val (.long q2), .second, .val (.double d3), .second, .val (.long q4), .second, .val (.double d5), .second, .val (.double d6), .second, .val (.int p7)] []))
  refine stp (fun t k => XS.aloadN X47.here hx rfl (hb hby d4_143) rfl rfl k) ?_
  show W (T47.setTop (mkF m 144 #[.val (.ref a0), .val (.long q1), .second, .val (.long q2), .second, .val (.double d3), .second, .val (.long q4), .second, .val (.double d5), .second, .val (.double d6), .second, .val (.int p7)] [(.ref a0)]))
  refine stp (fun t k => XS.dload X47.here hx rfl (hb hby d4_144) rfl k) ?_
  show W (T47.setTop (mkF m 146 #[.val (.ref a0), .val (.long q1), .second, .val (.long q2), .second, .val (.double d3), .second, .val (.long q4), .second, .val (.double d5), .second, .val (.double d6), .second, .val (.int p7)] [(.double d3), (.ref a0)]))
  obtain ⟨T48, h48, X48, e48, W48, st48⟩ := putF X47 hx hZ hown (host := "") (Or.inl (hw _ (List.mem_of_getElem? (i := 42) rfl))) Via.refl e47 F_c_a0 E_a0 (Or.inr ⟨(hw _ (List.mem_of_getElem? (i := 43) rfl)), rfl, hnm⟩) (hw _ (List.mem_of_getElem? (i := 4) rfl)) (ty := .double) (by decide) rfl rfl (g := (mkF m 146 #[.val (.ref a0), .val (.long q1), .second, .val (.long q2), .second, .val (.double d3), .second, .val (.long q4), .second, .val (.double d5), .second, .val (.double d6), .second, .val (.int p7)] [(.double d3), (.ref a0)])) rfl rfl (hb hby d4_146)
  have N48 := Fr.snoc X48 N47 g_a0
  have F_c_a0x := F_c_a0.same W48
  have F_alpha_a0 := F_alpha_a0.other W48 (Or.inr (slot_ne (Or.inr (hw _ (List.mem_of_getElem? (i := 39) rfl))) (Or.inr (hw _ (List.mem_of_getElem? (i := 43) rfl))) (by decide) (t := .long) (t' := .double) (by decide) (by decide)))
  have F_beta_a0 := F_beta_a0.other W48 (Or.inr (slot_ne (Or.inr (hw _ (List.mem_of_getElem? (i := 41) rfl))) (Or.inr (hw _ (List.mem_of_getElem? (i := 43) rfl))) (by decide) (t := .long) (t' := .double) (by decide) (by decide)))
  have F_seed_a0 := F_seed_a0.other W48 (Or.inr (slot_ne (Or.inr (hw _ (List.mem_of_getElem? (i := 45) rfl))) (Or.inr (hw _ (List.mem_of_getElem? (i := 43) rfl))) (by decide) (t := .long) (t' := .double) (by decide) (by decide)))
  have F_gamma_a0 := F_gamma_a0.other W48 (Or.inr (slot_ne (Or.inr (hw _ (List.mem_of_getElem? (i := 47) rfl))) (Or.inr (hw _ (List.mem_of_getElem? (i := 43) rfl))) (by decide) (t := .double) (t' := .double) (by decide) (by decide)))
  have F_delta_a0 := F_delta_a0.other W48 (Or.inr (slot_ne (Or.inr (hw _ (List.mem_of_getElem? (i := 49) rfl))) (Or.inr (hw _ (List.mem_of_getElem? (i := 43) rfl))) (by decide) (t := .double) (t' := .double) (by decide) (by decide)))
  have F_traces_a0 := F_traces_a0.other W48 (Or.inr (slot_ne (Or.inr (hw _ (List.mem_of_getElem? (i := 51) rfl))) (Or.inr (hw _ (List.mem_of_getElem? (i := 43) rfl))) (by decide) (t := .int) (t' := .double) (by decide) (by decide)))
  have E_a0 := E_a0.wr W48
  have E_b44 := E_b44.wr W48
  have F_traces_b44 := F_traces_b44.other W48 (Or.inl (Ne.symm ne_a0_b44))
  have F_seed_b44 := F_seed_b44.other W48 (Or.inl (Ne.symm ne_a0_b44))
  have K48 := K47.wr W48 (Or.inl (List.mem_of_getElem? (i := 0) rfl))
  have Z48 := Nat.le_trans Z47 (Keep.of_wr W48).1
  have F_c_a0 := F_c_a0x
  refine stp (fun t k => st48 t k) ?_
  show W (T48.setTop (mkF m 149 #[.val (.ref a0), .val (.long q1), .second, .val (.long q2), .second, .val (.double d3), .second, .val (.long q4), .second, .val (.double d5), .second, .val (.double d6), .second, .val (.int p7)] []))
  refine stp (fun t k => XS.aloadN X48.here hx rfl (hb hby d4_149) rfl rfl k) ?_
  show W (T48.setTop (mkF m 150 #[.val (.ref a0), .val (.long q1), .second, .val (.long q2), .second, .val (.double d3), .second, .val (.long q4), .second, .val (.double d5), .second, .val (.double d6), .second, .val (.int p7)] [(.ref a0)]))
  refine stp (fun t k => XS.lload X48.here hx rfl (hb hby d4_150) rfl k) ?_
  show W (T48.setTop (mkF m 152 #[.val (.ref a0), .val (.long q1), .second, .val (.long q2), .second, .val (.double d3), .second, .val (.long q4), .second, .val (.double d5), .second, .val (.double d6), .second, .val (.int p7)] [(.long q4), (.ref a0)]))
  obtain ⟨T49, h49, X49, e49, W49, st49⟩ := putF X48 hx hZ hown (host := "") (Or.inl (hw _ (List.mem_of_getElem? (i := 44) rfl))) Via.refl e48 F_seed_a0 E_a0 (Or.inr ⟨(hw _ (List.mem_of_getElem? (i := 45) rfl)), rfl, hnm⟩) (hw _ (List.mem_of_getElem? (i := 4) rfl)) (ty := .long) (by decide) rfl rfl (g := (mkF m 152 #[.val (.ref a0), .val (.long q1), .second, .val (.long q2), .second, .val (.double d3), .second, .val (.long q4), .second, .val (.double d5), .second, .val (.double d6), .second, .val (.int p7)] [(.long q4), (.ref a0)])) rfl rfl (hb hby d4_152)
  have N49 := Fr.snoc X49 N48 g_a0
  have F_seed_a0x := F_seed_a0.same W49
  have F_alpha_a0 := F_alpha_a0.other W49 (Or.inr (slot_ne (Or.inr (hw _ (List.mem_of_getElem? (i := 39) rfl))) (Or.inr (hw _ (List.mem_of_getElem? (i := 45) rfl))) (by decide) (t := .long) (t' := .long) (by decide) (by decide)))
  have F_beta_a0 := F_beta_a0.other W49 (Or.inr (slot_ne (Or.inr (hw _ (List.mem_of_getElem? (i := 41) rfl))) (Or.inr (hw _ (List.mem_of_getElem? (i := 45) rfl))) (by decide) (t := .long) (t' := .long) (by decide) (by decide)))
  have F_c_a0 := F_c_a0.other W49 (Or.inr (slot_ne (Or.inr (hw _ (List.mem_of_getElem? (i := 43) rfl))) (Or.inr (hw _ (List.mem_of_getElem? (i := 45) rfl))) (by decide) (t := .double) (t' := .long) (by decide) (by decide)))
  have F_gamma_a0 := F_gamma_a0.other W49 (Or.inr (slot_ne (Or.inr (hw _ (List.mem_of_getElem? (i := 47) rfl))) (Or.inr (hw _ (List.mem_of_getElem? (i := 45) rfl))) (by decide) (t := .double) (t' := .long) (by decide) (by decide)))
  have F_delta_a0 := F_delta_a0.other W49 (Or.inr (slot_ne (Or.inr (hw _ (List.mem_of_getElem? (i := 49) rfl))) (Or.inr (hw _ (List.mem_of_getElem? (i := 45) rfl))) (by decide) (t := .double) (t' := .long) (by decide) (by decide)))
  have F_traces_a0 := F_traces_a0.other W49 (Or.inr (slot_ne (Or.inr (hw _ (List.mem_of_getElem? (i := 51) rfl))) (Or.inr (hw _ (List.mem_of_getElem? (i := 45) rfl))) (by decide) (t := .int) (t' := .long) (by decide) (by decide)))
  have E_a0 := E_a0.wr W49
  have E_b44 := E_b44.wr W49
  have F_traces_b44 := F_traces_b44.other W49 (Or.inl (Ne.symm ne_a0_b44))
  have F_seed_b44 := F_seed_b44.other W49 (Or.inl (Ne.symm ne_a0_b44))
  have K49 := K48.wr W49 (Or.inl (List.mem_of_getElem? (i := 0) rfl))
  have Z49 := Nat.le_trans Z48 (Keep.of_wr W49).1
  have F_seed_a0 := F_seed_a0x
  refine stp (fun t k => st49 t k) ?_
  show W (T49.setTop (mkF m 155 #[.val (.ref a0), .val (.long q1), .second, .val (.long q2), .second, .val (.double d3), .second, .val (.long q4), .second, .val (.double d5), .second, .val (.double d6), .second, .val (.int p7)] []))
  refine stp (fun t k => XS.aloadN X49.here hx rfl (hb hby d4_155) rfl rfl k) ?_
  show W (T49.setTop (mkF m 156 #[.val (.ref a0), .val (.long q1), .second, .val (.long q2), .second, .val (.double d3), .second, .val (.long q4), .second, .val (.double d5), .second, .val (.double d6), .second, .val (.int p7)] [(.ref a0)]))
  refine stp (fun t k => XS.dload X49.here hx rfl (hb hby d4_156) rfl k) ?_
  show W (T49.setTop (mkF m 158 #[.val (.ref a0), .val (.long q1), .second, .val (.long q2), .second, .val (.double d3), .second, .val (.long q4), .second, .val (.double d5), .second, .val (.double d6), .second, .val (.int p7)] [(.double d5), (.ref a0)]))
  obtain ⟨T410, h410, X410, e410, W410, st410⟩ := putF X49 hx hZ hown (host := "") (Or.inl (hw _ (List.mem_of_getElem? (i := 46) rfl))) Via.refl e49 F_gamma_a0 E_a0 (Or.inr ⟨(hw _ (List.mem_of_getElem? (i := 47) rfl)), rfl, hnm⟩) (hw _ (List.mem_of_getElem? (i := 4) rfl)) (ty := .double) (by decide) rfl rfl (g := (mkF m 158 #[.val (.ref a0), .val (.long q1), .second, .val (.long q2), .second, .val (.double d3), .second, .val (.long q4), .second, .val (.double d5), .second, .val (.double d6), .second, .val (.int p7)] [(.double d5), (.ref a0)])) rfl rfl (hb hby d4_158)
  have N410 := Fr.snoc X410 N49 g_a0
  have F_gamma_a0x := F_gamma_a0.same W410
  have F_alpha_a0 := F_alpha_a0.other W410 (Or.inr (slot_ne (Or.inr (hw _ (List.mem_of_getElem? (i := 39) rfl))) (Or.inr (hw _ (List.mem_of_getElem? (i := 47) rfl))) (by decide) (t := .long) (t' := .double) (by decide) (by decide)))
  have F_beta_a0 := F_beta_a0.other W410 (Or.inr (slot_ne (Or.inr (hw _ (List.mem_of_getElem? (i := 41) rfl))) (Or.inr (hw _ (List.mem_of_getElem? (i := 47) rfl))) (by decide) (t := .long) (t' := .double) (by decide) (by decide)))
  have F_c_a0 := F_c_a0.other W410 (Or.inr (slot_ne (Or.inr (hw _ (List.mem_of_getElem? (i := 43) rfl))) (Or.inr (hw _ (List.mem_of_getElem? (i := 47) rfl))) (by decide) (t := .double) (t' := .double) (by decide) (by decide)))
  have F_seed_a0 := F_seed_a0.other W410 (Or.inr (slot_ne (Or.inr (hw _ (List.mem_of_getElem? (i := 45) rfl))) (Or.inr (hw _ (List.mem_of_getElem? (i := 47) rfl))) (by decide) (t := .long) (t' := .double) (by decide) (by decide)))
  have F_delta_a0 := F_delta_a0.other W410 (Or.inr (slot_ne (Or.inr (hw _ (List.mem_of_getElem? (i := 49) rfl))) (Or.inr (hw _ (List.mem_of_getElem? (i := 47) rfl))) (by decide) (t := .double) (t' := .double) (by decide) (by decide)))
  have F_traces_a0 := F_traces_a0.other W410 (Or.inr (slot_ne (Or.inr (hw _ (List.mem_of_getElem? (i := 51) rfl))) (Or.inr (hw _ (List.mem_of_getElem? (i := 47) rfl))) (by decide) (t := .int) (t' := .double) (by decide) (by decide)))
  have E_a0 := E_a0.wr W410
  have E_b44 := E_b44.wr W410
  have F_traces_b44 := F_traces_b44.other W410 (Or.inl (Ne.symm ne_a0_b44))
  have F_seed_b44 := F_seed_b44.other W410 (Or.inl (Ne.symm ne_a0_b44))
  have K410 := K49.wr W410 (Or.inl (List.mem_of_getElem? (i := 0) rfl))
  have Z410 := Nat.le_trans Z49 (Keep.of_wr W410).1
  have F_gamma_a0 := F_gamma_a0x
  refine stp (fun t k => st410 t k) ?_
  show W (T410.setTop (mkF m 161 #[.val (.ref a0), .val (.long q1), .second, .val (.long q2), .second, .val (.double d3), .second, .val (.long q4), .second, .val (.double d5), .second, .val (.double d6), .second, .val (.int p7)] []))
  refine stp (fun t k => XS.aloadN X410.here hx rfl (hb hby d4_161) rfl rfl k) ?_
  show W (T410.setTop (mkF m 162 #[.val (.ref a0), .val (.long q1), .second, .val (.long q2), .second, .val (.double d3), .second, .val (.long q4), .second, .val (.double d5), .second, .val (.double d6), .second, .val (.int p7)] [(.ref a0)]))
  refine stp (fun t k => XS.dload X410.here hx rfl (hb hby d4_162) rfl k) ?_
  show W (T410.setTop (mkF m 164 #[.val (.ref a0), .val (.long q1), .second, .val (.long q2), .second, .val (.double d3), .second, .val (.long q4), .second, .val (.double d5), .second, .val (.double d6), .second, .val (.int p7)] [(.double d6), (.ref a0)]))
  obtain ⟨T411, h411, X411, e411, W411, st411⟩ := putF X410 hx hZ hown (host := "") (Or.inl (hw _ (List.mem_of_getElem? (i := 48) rfl))) Via.refl e410 F_delta_a0 E_a0 (Or.inr ⟨(hw _ (List.mem_of_getElem? (i := 49) rfl)), rfl, hnm⟩) (hw _ (List.mem_of_getElem? (i := 4) rfl)) (ty := .double) (by decide) rfl rfl (g := (mkF m 164 #[.val (.ref a0), .val (.long q1), .second, .val (.long q2), .second, .val (.double d3), .second, .val (.long q4), .second, .val (.double d5), .second, .val (.double d6), .second, .val (.int p7)] [(.double d6), (.ref a0)])) rfl rfl (hb hby d4_164)
  have N411 := Fr.snoc X411 N410 g_a0
  have F_delta_a0x := F_delta_a0.same W411
  have F_alpha_a0 := F_alpha_a0.other W411 (Or.inr (slot_ne (Or.inr (hw _ (List.mem_of_getElem? (i := 39) rfl))) (Or.inr (hw _ (List.mem_of_getElem? (i := 49) rfl))) (by decide) (t := .long) (t' := .double) (by decide) (by decide)))
  have F_beta_a0 := F_beta_a0.other W411 (Or.inr (slot_ne (Or.inr (hw _ (List.mem_of_getElem? (i := 41) rfl))) (Or.inr (hw _ (List.mem_of_getElem? (i := 49) rfl))) (by decide) (t := .long) (t' := .double) (by decide) (by decide)))
  have F_c_a0 := F_c_a0.other W411 (Or.inr (slot_ne (Or.inr (hw _ (List.mem_of_getElem? (i := 43) rfl))) (Or.inr (hw _ (List.mem_of_getElem? (i := 49) rfl))) (by decide) (t := .double) (t' := .double) (by decide) (by decide)))
  have F_seed_a0 := F_seed_a0.other W411 (Or.inr (slot_ne (Or.inr (hw _ (List.mem_of_getElem? (i := 45) rfl))) (Or.inr (hw _ (List.mem_of_getElem? (i := 49) rfl))) (by decide) (t := .long) (t' := .double) (by decide) (by decide)))
  have F_gamma_a0 := F_gamma_a0.other W411 (Or.inr (slot_ne (Or.inr (hw _ (List.mem_of_getElem? (i := 47) rfl))) (Or.inr (hw _ (List.mem_of_getElem? (i := 49) rfl))) (by decide) (t := .double) (t' := .double) (by decide) (by decide)))
  have F_traces_a0 := F_traces_a0.other W411 (Or.inr (slot_ne (Or.inr (hw _ (List.mem_of_getElem? (i := 51) rfl))) (Or.inr (hw _ (List.mem_of_getElem? (i := 49) rfl))) (by decide) (t := .int) (t' := .double) (by decide) (by decide)))
  have E_a0 := E_a0.wr W411
  have E_b44 := E_b44.wr W411
  have F_traces_b44 := F_traces_b44.other W411 (Or.inl (Ne.symm ne_a0_b44))
  have F_seed_b44 := F_seed_b44.other W411 (Or.inl (Ne.symm ne_a0_b44))
  have K411 := K410.wr W411 (Or.inl (List.mem_of_getElem? (i := 0) rfl))
  have Z411 := Nat.le_trans Z410 (Keep.of_wr W411).1
  have F_delta_a0 := F_delta_a0x
  refine stp (fun t k => st411 t k) ?_
  show W (T411.setTop (mkF m 167 #[.val (.ref a0), .val (.long q1), .second, .val (.long q2), .second, .val (.double d3), .second, .val (.long q4), .second, .val (.double d5), .second, .val (.double d6), .second, .val (.int p7)] []))
  refine stp (fun t k => XS.aloadN X411.here hx rfl (hb hby d4_167) rfl rfl k) ?_
  show W (T411.setTop (mkF m 168 #[.val (.ref a0), .val (.long q1), .second, .val (.long q2), .second, .val (.double d3), .second, .val (.long q4), .second, .val (.double d5), .second, .val (.double d6), .second, .val (.int p7)] [(.ref a0)]))
  refine stp (fun t k => XS.iload X411.here hx rfl (hb hby d4_168) rfl k) ?_
  show W (T411.setTop (mkF m 170 #[.val (.ref a0), .val (.long q1), .second, .val (.long q2), .second, .val (.double d3), .second, .val (.long q4), .second, .val (.double d5), .second, .val (.double d6), .second, .val (.int p7)] [(.int p7), (.ref a0)]))
  obtain ⟨T412, h412, X412, e412, W412, st412⟩ := putF X411 hx hZ hown (host := "") (Or.inl (hw _ (List.mem_of_getElem? (i := 50) rfl))) Via.refl e411 F_traces_a0 E_a0 (Or.inr ⟨(hw _ (List.mem_of_getElem? (i := 51) rfl)), rfl, hnm⟩) (hw _ (List.mem_of_getElem? (i := 4) rfl)) (ty := .int) (by decide) rfl rfl (g := (mkF m 170 #[.val (.ref a0), .val (.long q1), .second, .val (.long q2), .second, .val (.double d3), .second, .val (.long q4), .second, .val (.double d5), .second, .val (.double d6), .second, .val (.int p7)] [(.int p7), (.ref a0)])) rfl rfl (hb hby d4_170)
  have N412 := Fr.snoc X412 N411 g_a0
  have F_traces_a0x := F_traces_a0.same W412
  have F_alpha_a0 := F_alpha_a0.other W412 (Or.inr (slot_ne (Or.inr (hw _ (List.mem_of_getElem? (i := 39) rfl))) (Or.inr (hw _ (List.mem_of_getElem? (i := 51) rfl))) (by decide) (t := .long) (t' := .int) (by decide) (by decide)))
  have F_beta_a0 := F_beta_a0.other W412 (Or.inr (slot_ne (Or.inr (hw _ (List.mem_of_getElem? (i := 41) rfl))) (Or.inr (hw _ (List.mem_of_getElem? (i := 51) rfl))) (by decide) (t := .long) (t' := .int) (by decide) (by decide)))
  have F_c_a0 := F_c_a0.other W412 (Or.inr (slot_ne (Or.inr (hw _ (List.mem_of_getElem? (i := 43) rfl))) (Or.inr (hw _ (List.mem_of_getElem? (i := 51) rfl))) (by decide) (t := .double) (t' := .int) (by decide) (by decide)))
  have F_seed_a0 := F_seed_a0.other W412 (Or.inr (slot_ne (Or.inr (hw _ (List.mem_of_getElem? (i := 45) rfl))) (Or.inr (hw _ (List.mem_of_getElem? (i := 51) rfl))) (by decide) (t := .long) (t' := .int) (by decide) (by decide)))
  have F_gamma_a0 := F_gamma_a0.other W412 (Or.inr (slot_ne (Or.inr (hw _ (List.mem_of_getElem? (i := 47) rfl))) (Or.inr (hw _ (List.mem_of_getElem? (i := 51) rfl))) (by decide) (t := .double) (t' := .int) (by decide) (by decide)))
  have F_delta_a0 := F_delta_a0.other W412 (Or.inr (slot_ne (Or.inr (hw _ (List.mem_of_getElem? (i := 49) rfl))) (Or.inr (hw _ (List.mem_of_getElem? (i := 51) rfl))) (by decide) (t := .double) (t' := .int) (by decide) (by decide)))
  have E_a0 := E_a0.wr W412
  have E_b44 := E_b44.wr W412
  have F_traces_b44 := F_traces_b44.other W412 (Or.inl (Ne.symm ne_a0_b44))
  have F_seed_b44 := F_seed_b44.other W412 (Or.inl (Ne.symm ne_a0_b44))
  have K412 := K411.wr W412 (Or.inl (List.mem_of_getElem? (i := 0) rfl))
  have Z412 := Nat.le_trans Z411 (Keep.of_wr W412).1
  have F_traces_a0 := F_traces_a0x
  refine stp (fun t k => st412 t k) ?_
  show W (T412.setTop (mkF m 173 #[.val (.ref a0), .val (.long q1), .second, .val (.long q2), .second, .val (.double d3), .second, .val (.long q4), .second, .val (.double d5), .second, .val (.double d6), .second, .val (.int p7)] []))
  show W (T412.setTop (mkF m 173 #[.val (.ref a0), .val (.long q1), .second, .val (.long q2), .second, .val (.double d3), .second, .val (.long q4), .second, .val (.double d5), .second, .val (.double d6), .second, .val (.int p7)] []))
  rw [← hW]
  exact own_ret0 X412 hx Bd.notSynchronized Bd.returns (hb hby d4_173) (by show Q4 Z a0 q1 q2 d3 q4 d5 d6 p7 h0 n0 _ T412.heap _; rw [e412]; exact ⟨rfl, N412, K412, E_a0, F_traces_a0, F_seed_a0⟩) (by decide) (by decide)
theorem d5_0 : decode prog_30_method_3_code 0 = .ok (.new 30, 3) := by decide +kernel
theorem d5_3 : decode prog_30_method_3_code 3 = .ok (.dup, 1) := by decide +kernel
theorem d5_4 : decode prog_30_method_3_code 4 = .ok (.aload_n 0, 1) := by decide +kernel
theorem d5_5 : decode prog_30_method_3_code 5 = .ok (.getfield 57, 3) := by decide +kernel
theorem d5_8 : decode prog_30_method_3_code 8 = .ok (.aload_n 0, 1) := by decide +kernel
theorem d5_9 : decode prog_30_method_3_code 9 = .ok (.getfield 48, 3) := by decide +kernel
theorem d5_12 : decode prog_30_method_3_code 12 = .ok (.invokespecial 32, 3) := by decide +kernel
theorem d5_15 : decode prog_30_method_3_code 15 = .ok (.areturn, 1) := by decide +kernel
theorem pn5 : plainName "com/example/astute_scheduler/astutescheduler/core/SchedulerOptions" = true := by first | (simp [plainName, overriddenIn]; done) | decide +kernel
theorem pd5_0 : parseMethodDescriptor "(IJ)V" = some ⟨[.int, .long], none⟩ := by decide +kernel
theorem ef5 (m : MethodId) (a0 : Addr) : entryFrame m #[(.ref a0)] 1 = mkF m 0 #[.val (.ref a0)] [] := by first | (simp [entryFrame, mkF, argsToLocals, Value.category]; done) | rfl
def Q5 (Z : State) (a0 : Addr) (tr : Int32) (sd : Int64) (h0 : Heap) (n0 : Nat) (v : Option Value) (h : Heap) (L : List Loc) : Prop := ∃ b : Addr, v = some (.ref b) ∧ Fr n0 L ∧ Keep h0 h [] ∧ h0.size ≤ b ∧ Exa Z h b "com/example/astute_scheduler/astutescheduler/model/TraceSampling" ∧ Fld Z h b "com/example/astute_scheduler/astutescheduler/model/TraceSampling" "traces" "I" (.int tr) ∧ Fld Z h b "com/example/astute_scheduler/astutescheduler/model/TraceSampling" "seed" "J" (.long sd)
set_option maxRecDepth 65536 in
set_option maxHeartbeats 40000000 in
theorem rm5 (l : Launch) (Z : State) (aa : Array Value) (hw : ∀ d ∈ tables_1, d.before aa Z = true) (ws : List Jvm.Cond) (a0 : Addr) (tr : Int32) (sd : Int64) (h0 : Heap) (n0 : Nat) (Z0 : n0 ≤ h0.size) (F_traces_a0 : Fld Z h0 a0 "com/example/astute_scheduler/astutescheduler/core/SchedulerOptions" "traces" "I" (.int tr)) (F_seed_a0 : Fld Z h0 a0 "com/example/astute_scheduler/astutescheduler/core/SchedulerOptions" "seed" "J" (.long sd)) (E_a0 : Exa Z h0 a0 "com/example/astute_scheduler/astutescheduler/core/SchedulerOptions") (ht : ¬ (tr < (1 : Int32))) :
    MetFree l (⟨"com/example/astute_scheduler/astutescheduler/core/SchedulerOptions", "sampling", "()Lcom/example/astute_scheduler/astutescheduler/model/TraceSampling;"⟩ : MethodName) (head1 (Jvm.Cond.code (⟨"com/example/astute_scheduler/astutescheduler/core/SchedulerOptions", "sampling", "()Lcom/example/astute_scheduler/astutescheduler/model/TraceSampling;"⟩ : MethodName) prog_30_method_3_code 1 (some (.object "com/example/astute_scheduler/astutescheduler/model/TraceSampling")) :: ws) ({ frames := 3, cells := 1, slots := 2, locals := 40 } : Room)) (fun a U => a = #[(.ref a0)] ∧ Z.Warmed39 U.vm ∧ U.heap = h0) (fun _ _ _ _ _ => True) (fun _ U o U' => ∃ v L, o = .returned v ∧ Q5 Z a0 tr sd h0 n0 v U'.heap L ∧ FrameEnd U o U' L ({ frames := 3, cells := 1, slots := 2, locals := 40 } : Room).cells ({ frames := 3, cells := 1, slots := 2, locals := 40 } : Room).slots) := by
  refine MetFree.of_bodySF (plainFor_of_name pn5) hisR ?_
  intro p e s m args below meth c s₁ Bd hml0 hP hK
  obtain ⟨rfl, hZ, hh⟩ := hP
  have hx := Bd.exec
  have hby := Bd.bytes
  have hml : c.maxLocals = 1 := hml0
  have hown : s.vm.findClass "com/example/astute_scheduler/astutescheduler/core/SchedulerOptions" = some m.cls := findClass_of_methodNamed Bd.named
  have hnm := (name_of_methodNamed Bd.named Bd.method).1
  have X0 : Stand p l e ({ frames := 3, cells := 1, slots := 2, locals := 40 } : Room) s m #[(.ref a0)] below meth c s₁ [] 0 0 := Stand.of_body Bd
  have e0 : s₁.heap = h0 := by rw [← hh, Bd.state]; rfl
  have N0 := Fr.nil n0
  show OwnEnd p e below s (fun v h L => Q5 Z a0 tr sd h0 n0 v h L) ({ frames := 3, cells := 1, slots := 2, locals := 40 } : Room).cells ({ frames := 3, cells := 1, slots := 2, locals := 40 } : Room).slots (s₁.setTop (entryFrame m #[(.ref a0)] 1))
  rw [ef5 m a0]
  generalize hW : OwnEnd p e below s (fun v h L => Q5 Z a0 tr sd h0 n0 v h L) ({ frames := 3, cells := 1, slots := 2, locals := 40 } : Room).cells ({ frames := 3, cells := 1, slots := 2, locals := 40 } : Room).slots = W
  have stp : ∀ {A B : State}, (∀ t, Steps p.tables e below B t → Steps p.tables e below A t) → W B → W A := by subst hW; exact own_step
  show W (s₁.setTop (mkF m 0 #[.val (.ref a0)] []))
  obtain ⟨T51, h51, X51, e51, E51, A51, D51, -, st51⟩ := newO X0 hx hZ hown (hw _ (List.mem_of_getElem? (i := 27) rfl)) (hw _ (List.mem_of_getElem? (i := 28) rfl)) (hw _ (List.mem_of_getElem? (i := 29) rfl)) e0 (g := (mkF m 0 #[.val (.ref a0)] [])) rfl (hb hby d5_0) (by decide) (by decide)
  obtain ⟨b51, gq51⟩ : ∃ z, z = h0.size := ⟨_, rfl⟩
  rw [← gq51] at A51 D51 st51
  have ne_a0_b51 : a0 ≠ b51 := Nat.ne_of_lt (Nat.lt_of_lt_of_le F_traces_a0.lt (Nat.le_of_eq gq51.symm))
  have g_b51 : n0 ≤ b51 := Nat.le_trans Z0 (Nat.le_of_eq gq51.symm)
  have sz_b51 : h0.size ≤ b51 := Nat.le_trans (Keep.refl h0 []).1 (Nat.le_of_eq gq51.symm)
  have F_traces_a0 := F_traces_a0.ext E51
  have F_seed_a0 := F_seed_a0.ext E51
  have E_a0 := E_a0.ext E51
  have K51 := (Keep.refl h0 []).ext E51
  have Z51 := Nat.le_trans Z0 E51.1
  have E_b51 := A51
  have F_traces_b51 : Fld Z h51 b51 "com/example/astute_scheduler/astutescheduler/model/TraceSampling" "traces" "I" (.int (0 : Int32)) := D51 (Or.inr (hw _ (List.mem_of_getElem? (i := 35) rfl))) (ty := .int) (by decide)
  have F_seed_b51 : Fld Z h51 b51 "com/example/astute_scheduler/astutescheduler/model/TraceSampling" "seed" "J" (.long (0 : Int64)) := D51 (Or.inr (hw _ (List.mem_of_getElem? (i := 37) rfl))) (ty := .long) (by decide)
  refine stp (fun t k => st51 t k) ?_
  show W (T51.setTop (mkF m 3 #[.val (.ref a0)] [(.ref b51)]))
  refine stp (fun t k => XS.dup X51.here hx rfl (hb hby d5_3) rfl rfl k) ?_
  show W (T51.setTop (mkF m 4 #[.val (.ref a0)] [(.ref b51), (.ref b51)]))
  refine stp (fun t k => XS.aloadN X51.here hx rfl (hb hby d5_4) rfl rfl k) ?_
  show W (T51.setTop (mkF m 5 #[.val (.ref a0)] [(.ref a0), (.ref b51), (.ref b51)]))
  obtain ⟨T52, X52, e52, st52⟩ := getF X51 hx hZ hown (host := "") (Or.inl (hw _ (List.mem_of_getElem? (i := 50) rfl))) Via.refl e51 F_traces_a0 (g := (mkF m 5 #[.val (.ref a0)] [(.ref a0), (.ref b51), (.ref b51)])) rfl rfl (hb hby d5_5)
  refine stp (fun t k => st52 t k) ?_
  show W (T52.setTop (mkF m 8 #[.val (.ref a0)] [(.int tr), (.ref b51), (.ref b51)]))
  refine stp (fun t k => XS.aloadN X52.here hx rfl (hb hby d5_8) rfl rfl k) ?_
  show W (T52.setTop (mkF m 9 #[.val (.ref a0)] [(.ref a0), (.int tr), (.ref b51), (.ref b51)]))
  obtain ⟨T53, X53, e53, st53⟩ := getF X52 hx hZ hown (host := "") (Or.inl (hw _ (List.mem_of_getElem? (i := 44) rfl))) Via.refl e52 F_seed_a0 (g := (mkF m 9 #[.val (.ref a0)] [(.ref a0), (.int tr), (.ref b51), (.ref b51)])) rfl rfl (hb hby d5_9)
  refine stp (fun t k => st53 t k) ?_
  show W (T53.setTop (mkF m 12 #[.val (.ref a0)] [(.long sd), (.int tr), (.ref b51), (.ref b51)]))
  obtain ⟨_, _, ⟨T5c4, L5c4, k5c4, n5c4⟩, -, X5c4, ⟨Lc5c4, hQ5c4, l5c4, y5c4, z5c4⟩, st5c4⟩ := X53.specialBack hx (y := (⟨"com/example/astute_scheduler/astutescheduler/model/TraceSampling", "<init>", "(IJ)V"⟩ : MethodName)) rfl hown (mvT hZ (hw _ (List.mem_of_getElem? (i := 30) rfl))) (mvT hZ (hw _ (List.mem_of_getElem? (i := 31) rfl))) (mvT hZ (hw _ (List.mem_of_getElem? (i := 32) rfl))) (by decide) (backOf (W := 1) (rm3 l Z aa hw [] b51 tr sd  h51 n0 Z51 F_traces_b51 F_seed_b51 E_b51 g_b51 ht) hZ (hw _ (List.mem_of_getElem? (i := 32) rfl)) (hw _ (List.mem_of_getElem? (i := 29) rfl)) (by decide) (by decide)) (g := (mkF m 12 #[.val (.ref a0)] [(.long sd), (.int tr), (.ref b51), (.ref b51)])) rfl (by rw [hml]; rfl) (Steps.refl _) (a := b51) (argsL := [(.int tr), (.long sd)]) (rest := [(.ref b51)]) (lenOf pd5_0 rfl) rfl (by show 2 * 0 + _ ≤ _; exact Nat.le_of_eq rfl) (hb hby d5_12) (fun _ _ => ⟨rfl, e53, (by decide : 1 + 0 ≤ _), (by decide : 2 + 0 ≤ _)⟩)
  dsimp only [Pt.U, Pt.locs, Pt.cells, Pt.slots] at X5c4 l5c4 y5c4 z5c4 st5c4 hQ5c4
  subst l5c4 y5c4 z5c4
  obtain ⟨rfl, N5c4q, Kq5c4, g5c4E, g5c4T, g5c4S⟩ := hQ5c4
  have N5c4 := Fr.app N0 N5c4q
  obtain ⟨h5c4, e5c4⟩ : ∃ h, T5c4.heap = h := ⟨_, rfl⟩
  rw [e5c4] at Kq5c4 g5c4E g5c4T g5c4S
  have F_traces_a0 := F_traces_a0.keep Kq5c4 (ninS ne_a0_b51 nin0)
  have F_seed_a0 := F_seed_a0.keep Kq5c4 (ninS ne_a0_b51 nin0)
  have E_a0 := E_a0.keep Kq5c4
  have E_b51 := E_b51.keep Kq5c4
  have KK5c4 := Keep.trans K51 Kq5c4 (allS (Or.inr sz_b51) all0)
  have Z5c4 := Nat.le_trans Z51 Kq5c4.1
  have E_b51 := g5c4E
  have F_traces_b51 := g5c4T
  have F_seed_b51 := g5c4S
  refine stp (fun t k => st5c4.trans k) ?_
  show W (T5c4.setTop (mkF m 15 #[.val (.ref a0)] [(.ref b51)]))
  show W (T5c4.setTop (mkF m 15 #[.val (.ref a0)] [(.ref b51)]))
  rw [← hW]
  exact own_retR X5c4 hx Bd.notSynchronized Bd.returns rfl (hb hby d5_15) (by show Q5 Z a0 tr sd h0 n0 _ T5c4.heap _; rw [e5c4]; exact ⟨b51, rfl, N5c4, KK5c4, sz_b51, E_b51, F_traces_b51, F_seed_b51⟩) (by decide) (by decide)
theorem d6_0 : decode prog_82_method_5_code 0 = .ok (.aload_n 0, 1) := by decide +kernel
theorem d6_1 : decode prog_82_method_5_code 1 = .ok (.getfield 16, 3) := by decide +kernel
theorem d6_4 : decode prog_82_method_5_code 4 = .ok (.ireturn, 1) := by decide +kernel
theorem pn6 : plainName "com/example/astute_scheduler/astutescheduler/model/TraceSampling" = true := by first | (simp [plainName, overriddenIn]; done) | decide +kernel
theorem ef6 (m : MethodId) (a0 : Addr) : entryFrame m #[(.ref a0)] 1 = mkF m 0 #[.val (.ref a0)] [] := by first | (simp [entryFrame, mkF, argsToLocals, Value.category]; done) | rfl
def f6 (traces_ : Int32) : Int32 := traces_
def Q6 (Z : State) (a0 : Addr) (traces_ : Int32) (h0 : Heap) (n0 : Nat) (v : Option Value) (h : Heap) (L : List Loc) : Prop := v = some (.int (f6 traces_)) ∧ Fr n0 L ∧ h = h0
set_option maxRecDepth 65536 in
set_option maxHeartbeats 40000000 in
theorem rm6 (l : Launch) (Z : State) (aa : Array Value) (hw : ∀ d ∈ tables_1, d.before aa Z = true) (ws : List Jvm.Cond) (a0 : Addr) (traces_ : Int32) (h0 : Heap) (n0 : Nat) (Z0 : n0 ≤ h0.size) (F_traces_a0 : Fld Z h0 a0 "com/example/astute_scheduler/astutescheduler/model/TraceSampling" "traces" "I" (.int traces_)) :
    MetFree l (⟨"com/example/astute_scheduler/astutescheduler/model/TraceSampling", "traces", "()I"⟩ : MethodName) (head1 (Jvm.Cond.code (⟨"com/example/astute_scheduler/astutescheduler/model/TraceSampling", "traces", "()I"⟩ : MethodName) prog_82_method_5_code 1 (some .int) :: ws) ({ frames := 0, cells := 0, slots := 0, locals := 0 } : Room)) (fun a U => a = #[(.ref a0)] ∧ Z.Warmed39 U.vm ∧ U.heap = h0) (fun _ _ _ _ _ => True) (fun _ U o U' => ∃ v L, o = .returned v ∧ Q6 Z a0 traces_ h0 n0 v U'.heap L ∧ FrameEnd U o U' L ({ frames := 0, cells := 0, slots := 0, locals := 0 } : Room).cells ({ frames := 0, cells := 0, slots := 0, locals := 0 } : Room).slots) := by
  refine MetFree.of_bodySF (plainFor_of_name pn6) hisR ?_
  intro p e s m args below meth c s₁ Bd hml0 hP hK
  obtain ⟨rfl, hZ, hh⟩ := hP
  have hx := Bd.exec
  have hby := Bd.bytes
  have hml : c.maxLocals = 1 := hml0
  have hown : s.vm.findClass "com/example/astute_scheduler/astutescheduler/model/TraceSampling" = some m.cls := findClass_of_methodNamed Bd.named
  have hnm := (name_of_methodNamed Bd.named Bd.method).1
  have X0 : Stand p l e ({ frames := 0, cells := 0, slots := 0, locals := 0 } : Room) s m #[(.ref a0)] below meth c s₁ [] 0 0 := Stand.of_body Bd
  have e0 : s₁.heap = h0 := by rw [← hh, Bd.state]; rfl
  have N0 := Fr.nil n0
  show OwnEnd p e below s (fun v h L => Q6 Z a0 traces_ h0 n0 v h L) ({ frames := 0, cells := 0, slots := 0, locals := 0 } : Room).cells ({ frames := 0, cells := 0, slots := 0, locals := 0 } : Room).slots (s₁.setTop (entryFrame m #[(.ref a0)] 1))
  rw [ef6 m a0]
  generalize hW : OwnEnd p e below s (fun v h L => Q6 Z a0 traces_ h0 n0 v h L) ({ frames := 0, cells := 0, slots := 0, locals := 0 } : Room).cells ({ frames := 0, cells := 0, slots := 0, locals := 0 } : Room).slots = W
  have stp : ∀ {A B : State}, (∀ t, Steps p.tables e below B t → Steps p.tables e below A t) → W B → W A := by subst hW; exact own_step
  show W (s₁.setTop (mkF m 0 #[.val (.ref a0)] []))
  refine stp (fun t k => XS.aloadN X0.here hx rfl (hb hby d6_0) rfl rfl k) ?_
  show W (s₁.setTop (mkF m 1 #[.val (.ref a0)] [(.ref a0)]))
  obtain ⟨T61, X61, e61, st61⟩ := getF X0 hx hZ hown (host := "") (Or.inl (hw _ (List.mem_of_getElem? (i := 34) rfl))) Via.refl e0 F_traces_a0 (g := (mkF m 1 #[.val (.ref a0)] [(.ref a0)])) rfl rfl (hb hby d6_1)
  refine stp (fun t k => st61 t k) ?_
  show W (T61.setTop (mkF m 4 #[.val (.ref a0)] [(.int traces_)]))
  show W (T61.setTop (mkF m 4 #[.val (.ref a0)] [(.int traces_)]))
  rw [← hW]
  exact own_retI X61 hx Bd.notSynchronized Bd.returns (hb hby d6_4) (by show Q6 Z a0 traces_ h0 n0 _ T61.heap _; rw [e61]; exact ⟨rfl, N0, rfl⟩) (by decide) (by decide)
theorem d7_0 : decode prog_82_method_6_code 0 = .ok (.aload_n 0, 1) := by decide +kernel
theorem d7_1 : decode prog_82_method_6_code 1 = .ok (.getfield 22, 3) := by decide +kernel
theorem d7_4 : decode prog_82_method_6_code 4 = .ok (.lreturn, 1) := by decide +kernel
theorem pn7 : plainName "com/example/astute_scheduler/astutescheduler/model/TraceSampling" = true := by first | (simp [plainName, overriddenIn]; done) | decide +kernel
theorem ef7 (m : MethodId) (a0 : Addr) : entryFrame m #[(.ref a0)] 1 = mkF m 0 #[.val (.ref a0)] [] := by first | (simp [entryFrame, mkF, argsToLocals, Value.category]; done) | rfl
def f7 (seed_ : Int64) : Int64 := seed_
def Q7 (Z : State) (a0 : Addr) (seed_ : Int64) (h0 : Heap) (n0 : Nat) (v : Option Value) (h : Heap) (L : List Loc) : Prop := v = some (.long (f7 seed_)) ∧ Fr n0 L ∧ h = h0
set_option maxRecDepth 65536 in
set_option maxHeartbeats 40000000 in
theorem rm7 (l : Launch) (Z : State) (aa : Array Value) (hw : ∀ d ∈ tables_1, d.before aa Z = true) (ws : List Jvm.Cond) (a0 : Addr) (seed_ : Int64) (h0 : Heap) (n0 : Nat) (Z0 : n0 ≤ h0.size) (F_seed_a0 : Fld Z h0 a0 "com/example/astute_scheduler/astutescheduler/model/TraceSampling" "seed" "J" (.long seed_)) :
    MetFree l (⟨"com/example/astute_scheduler/astutescheduler/model/TraceSampling", "seed", "()J"⟩ : MethodName) (head1 (Jvm.Cond.code (⟨"com/example/astute_scheduler/astutescheduler/model/TraceSampling", "seed", "()J"⟩ : MethodName) prog_82_method_6_code 1 (some .long) :: ws) ({ frames := 0, cells := 0, slots := 0, locals := 0 } : Room)) (fun a U => a = #[(.ref a0)] ∧ Z.Warmed39 U.vm ∧ U.heap = h0) (fun _ _ _ _ _ => True) (fun _ U o U' => ∃ v L, o = .returned v ∧ Q7 Z a0 seed_ h0 n0 v U'.heap L ∧ FrameEnd U o U' L ({ frames := 0, cells := 0, slots := 0, locals := 0 } : Room).cells ({ frames := 0, cells := 0, slots := 0, locals := 0 } : Room).slots) := by
  refine MetFree.of_bodySF (plainFor_of_name pn7) hisR ?_
  intro p e s m args below meth c s₁ Bd hml0 hP hK
  obtain ⟨rfl, hZ, hh⟩ := hP
  have hx := Bd.exec
  have hby := Bd.bytes
  have hml : c.maxLocals = 1 := hml0
  have hown : s.vm.findClass "com/example/astute_scheduler/astutescheduler/model/TraceSampling" = some m.cls := findClass_of_methodNamed Bd.named
  have hnm := (name_of_methodNamed Bd.named Bd.method).1
  have X0 : Stand p l e ({ frames := 0, cells := 0, slots := 0, locals := 0 } : Room) s m #[(.ref a0)] below meth c s₁ [] 0 0 := Stand.of_body Bd
  have e0 : s₁.heap = h0 := by rw [← hh, Bd.state]; rfl
  have N0 := Fr.nil n0
  show OwnEnd p e below s (fun v h L => Q7 Z a0 seed_ h0 n0 v h L) ({ frames := 0, cells := 0, slots := 0, locals := 0 } : Room).cells ({ frames := 0, cells := 0, slots := 0, locals := 0 } : Room).slots (s₁.setTop (entryFrame m #[(.ref a0)] 1))
  rw [ef7 m a0]
  generalize hW : OwnEnd p e below s (fun v h L => Q7 Z a0 seed_ h0 n0 v h L) ({ frames := 0, cells := 0, slots := 0, locals := 0 } : Room).cells ({ frames := 0, cells := 0, slots := 0, locals := 0 } : Room).slots = W
  have stp : ∀ {A B : State}, (∀ t, Steps p.tables e below B t → Steps p.tables e below A t) → W B → W A := by subst hW; exact own_step
  show W (s₁.setTop (mkF m 0 #[.val (.ref a0)] []))
  refine stp (fun t k => XS.aloadN X0.here hx rfl (hb hby d7_0) rfl rfl k) ?_
  show W (s₁.setTop (mkF m 1 #[.val (.ref a0)] [(.ref a0)]))
  obtain ⟨T71, X71, e71, st71⟩ := getF X0 hx hZ hown (host := "") (Or.inl (hw _ (List.mem_of_getElem? (i := 36) rfl))) Via.refl e0 F_seed_a0 (g := (mkF m 1 #[.val (.ref a0)] [(.ref a0)])) rfl rfl (hb hby d7_1)
  refine stp (fun t k => st71 t k) ?_
  show W (T71.setTop (mkF m 4 #[.val (.ref a0)] [(.long seed_)]))
  show W (T71.setTop (mkF m 4 #[.val (.ref a0)] [(.long seed_)]))
  rw [← hW]
  exact own_retJ X71 hx Bd.notSynchronized Bd.returns (hb hby d7_4) (by show Q7 Z a0 seed_ h0 n0 _ T71.heap _; rw [e71]; exact ⟨rfl, N0, rfl⟩) (by decide) (by decide)
theorem own_al (q : Int64) : ¬ ((if (q &&& (9223372036854775807 : Int64)) = (0 : Int64) then (1 : Int64) else (q &&& (9223372036854775807 : Int64))) < (1 : Int64)) := by
  have h := c_maskL q 9223372036854775807 63 (by decide) (by decide)
  have k1 : (1 : Int64).toInt = 1 := by decide
  have k0 : (0 : Int64).toInt = 0 := by decide
  split
  · rw [Int64.lt_iff_toInt_lt]; omega
  · rename_i hn
    rw [Int64.lt_iff_toInt_lt]
    have : (q &&& 9223372036854775807).toInt ≠ 0 := fun e => hn (Int64.toInt_inj.mp e)
    omega
theorem own_tr (p : Int32) : ¬ ((if (p &&& (2147483647 : Int32)) = (0 : Int32) then (1 : Int32) else (p &&& (2147483647 : Int32))) < (1 : Int32)) := by
  have h := c_mask p 2147483647 31 (by decide) (by decide)
  have k1 : (1 : Int32).toInt = 1 := by decide
  have k0 : (0 : Int32).toInt = 0 := by decide
  split
  · rw [Int32.lt_iff_toInt_lt]; omega
  · rename_i hn
    rw [Int32.lt_iff_toInt_lt]
    have : (p &&& 2147483647).toInt ≠ 0 := fun e => hn (Int32.toInt_inj.mp e)
    omega
theorem own_cge (p : Int32) : ¬ (cmpValue (FP.dcmp (FP.i2d (p &&& (65535 : Int32))) (0 : UInt64)) .l < (0 : Int32)) := by
  have h := c_mask p 65535 16 (by decide) (by decide)
  have d0 : Jvm.FP.Core.DInt 0 0 := by
    have := Jvm.FP.Core.l2d_int (a := 0) (by decide)
    rwa [Jvm.FP.Core.l2d_zero] at this
  have e := Jvm.FP.Core.dcmp_int (Jvm.FP.Core.i2d_int (p &&& 65535)) d0
  rw [show FP.dcmp (FP.i2d (p &&& (65535 : Int32))) (0 : UInt64) = some (compare (p &&& 65535).toInt 0) from e]
  have hp : 0 ≤ (p &&& 65535).toInt := by omega
  generalize (p &&& 65535).toInt = z at *
  rcases Int.lt_or_eq_of_le hp with q | q
  · rw [show compare z 0 = .gt from Int.compare_eq_gt.mpr q]; decide
  · rw [← q]; decide
theorem own_cinf (p : Int32) : cmpValue (FP.dcmp (FP.i2d (p &&& (65535 : Int32))) (9218868437227405312 : UInt64)) .g < (0 : Int32) := by
  rw [dcmp_pinf (Jvm.Free.Fl.i2d_fin _)]; decide
theorem own_fin {x : UInt64} (h : Jvm.Free.Fl.Fin64 x) : ¬ (f2 x = (0 : Int32)) := by
  have ha := abs_fin h
  have hm : (x &&& 0x7fffffffffffffff).toNat ≤ 9218868437227405311 ∧ (x &&& 0x7fffffffffffffff).toNat < 2 ^ 63 := by
    have h1 := Jvm.FP.Core.mask_toNat x
    have h2 := h
    unfold Jvm.Free.Fl.Fin64 at h2
    rw [UInt64.lt_iff_toNat_lt] at h2
    rw [h1] at h2 ⊢
    have : (0x7ff0000000000000 : UInt64).toNat = 9218868437227405312 := by decide
    omega
  have hv : Jvm.FP.Core.val64 (x &&& 0x7fffffffffffffff) ≠ .nan := fun q => by
    have hn := ha.noNaN
    have := Jvm.Free.Fl.noNaN64_no.mp hn
    have q2 : Jvm.FP.Core.dIsNaN (x &&& 0x7fffffffffffffff) = true := by
      show decide (Jvm.FP.Core.val64 _ = .nan) = true
      rw [q]; rfl
    rw [q2] at this
    cases this
  have hM : Jvm.FP.Core.val64 9218868437227405311 ≠ .nan := by decide +kernel
  have hk := Jvm.FP.Core.dcmp_key hv hM
  have e1 : Jvm.FP.Core.dkey (x &&& 0x7fffffffffffffff) = ((x &&& 0x7fffffffffffffff).toNat : Int) := by
    unfold Jvm.FP.Core.dkey; rw [if_neg (by omega)]
  have e2 : Jvm.FP.Core.dkey 9218868437227405311 = 9218868437227405311 := by decide
  rw [e1, e2] at hk
  unfold f2
  rw [show FP.dcmp (x &&& 0x7fffffffffffffff) (9218868437227405311 : UInt64) = _ from hk]
  rcases Nat.lt_or_eq_of_le hm.1 with q | q
  · rw [show compare (((x &&& 0x7fffffffffffffff).toNat : Nat) : Int) 9218868437227405311 = .lt from Int.compare_eq_lt.mpr (by omega)]; decide
  · rw [q]; decide
theorem pn0 : plainName "com/example/astute_scheduler/astutescheduler/core/SchedulerOptionsSamplingPinLaw" = true := by first | (simp [plainName, overriddenIn]; done) | decide +kernel
theorem pd0_0 : parseMethodDescriptor "(JJDJDDI)V" = some ⟨[.long, .long, .double, .long, .double, .double, .int], none⟩ := by decide +kernel
theorem pd0_1 : parseMethodDescriptor "()Lcom/example/astute_scheduler/astutescheduler/model/TraceSampling;" = some ⟨[], some (.object "com/example/astute_scheduler/astutescheduler/model/TraceSampling")⟩ := by decide +kernel
theorem pd0_2 : parseMethodDescriptor "()I" = some ⟨[], some .int⟩ := by decide +kernel
theorem pd0_3 : parseMethodDescriptor "()J" = some ⟨[], some .long⟩ := by decide +kernel
theorem ef0 (m : MethodId) (q0 : Int64) (q1 : Int64) (p2 : Int32) (q3 : Int64) (p4 : Int32) (p5 : Int32) : entryFrame m #[(.long q0), (.long q1), (.int p2), (.long q3), (.int p4), (.int p5)] maxLocals = mkF m 0 #[.val (.long q0), .second, .val (.long q1), .second, .val (.int p2), .val (.long q3), .second, .val (.int p4), .val (.int p5), .unset, .unset, .unset, .unset, .unset, .unset, .unset, .unset, .unset, .unset, .unset, .unset, .unset] [] := by first | (simp [entryFrame, mkF, argsToLocals, Value.category, maxLocals]; done) | rfl
theorem own_0_108_14 (q0 : Int64) (q1 : Int64) (p2 : Int32) (q3 : Int64) (p4 : Int32) (p5 : Int32)   : (f6 (if (p5 &&& (2147483647 : Int32)) = (0 : Int32) then (1 : Int32) else (p5 &&& (2147483647 : Int32)))) = (if (p5 &&& (2147483647 : Int32)) = (0 : Int32) then (1 : Int32) else (p5 &&& (2147483647 : Int32))) := rfl
theorem own_0_119_16 (q0 : Int64) (q1 : Int64) (p2 : Int32) (q3 : Int64) (p4 : Int32) (p5 : Int32)   : (f7 q3) = q3 := rfl
def Q0 (Z : State) (q0 : Int64) (q1 : Int64) (p2 : Int32) (q3 : Int64) (p4 : Int32) (p5 : Int32) (h0 : Heap) (n0 : Nat) (v : Option Value) (h : Heap) (L : List Loc) : Prop := v = some (.int (1 : Int32)) ∧ Fr n0 L
set_option maxRecDepth 65536 in
set_option maxHeartbeats 40000000 in
theorem rm0 (l : Launch) (Z : State) (aa : Array Value) (hw : ∀ d ∈ tables_1, d.before aa Z = true) (ws : List Jvm.Cond) (q0 : Int64) (q1 : Int64) (p2 : Int32) (q3 : Int64) (p4 : Int32) (p5 : Int32) (h0 : Heap) (n0 : Nat) (Z0 : n0 ≤ h0.size) :
    MetFree l x (head1 (Jvm.Cond.code x code maxLocals ret :: ws) room_1) (fun a U => a = #[(.long q0), (.long q1), (.int p2), (.long q3), (.int p4), (.int p5)] ∧ Z.Warmed39 U.vm ∧ U.heap = h0) (fun _ _ _ _ _ => True) (fun _ U o U' => ∃ v L, o = .returned v ∧ Q0 Z q0 q1 p2 q3 p4 p5 h0 n0 v U'.heap L ∧ FrameEnd U o U' L room_1.cells room_1.slots) := by
  refine MetFree.of_bodySF (plainFor_of_name pn0) hisR ?_
  intro p e s m args below meth c s₁ Bd hml0 hP hK
  obtain ⟨rfl, hZ, hh⟩ := hP
  have hx := Bd.exec
  have hby := Bd.bytes
  have hml : c.maxLocals = 22 := hml0
  have hown : s.vm.findClass "com/example/astute_scheduler/astutescheduler/core/SchedulerOptionsSamplingPinLaw" = some m.cls := findClass_of_methodNamed Bd.named
  have hnm := (name_of_methodNamed Bd.named Bd.method).1
  have X0 : Stand p l e room_1 s m #[(.long q0), (.long q1), (.int p2), (.long q3), (.int p4), (.int p5)] below meth c s₁ [] 0 0 := Stand.of_body Bd
  have e0 : s₁.heap = h0 := by rw [← hh, Bd.state]; rfl
  have N0 := Fr.nil n0
  show OwnEnd p e below s (fun v h L => Q0 Z q0 q1 p2 q3 p4 p5 h0 n0 v h L) room_1.cells room_1.slots (s₁.setTop (entryFrame m #[(.long q0), (.long q1), (.int p2), (.long q3), (.int p4), (.int p5)] maxLocals))
  rw [ef0 m q0 q1 p2 q3 p4 p5]
  generalize hW : OwnEnd p e below s (fun v h L => Q0 Z q0 q1 p2 q3 p4 p5 h0 n0 v h L) room_1.cells room_1.slots = W
  have stp : ∀ {A B : State}, (∀ t, Steps p.tables e below B t → Steps p.tables e below A t) → W B → W A := by subst hW; exact own_step
  show W (s₁.setTop (mkF m 0 #[.val (.long q0), .second, .val (.long q1), .second, .val (.int p2), .val (.long q3), .second, .val (.int p4), .val (.int p5), .unset, .unset, .unset, .unset, .unset, .unset, .unset, .unset, .unset, .unset, .unset, .unset, .unset] []))
  refine stp (fun t k => XS.lloadN X0.here hx rfl (hb hby at_0) rfl k) ?_
  show W (s₁.setTop (mkF m 1 #[.val (.long q0), .second, .val (.long q1), .second, .val (.int p2), .val (.long q3), .second, .val (.int p4), .val (.int p5), .unset, .unset, .unset, .unset, .unset, .unset, .unset, .unset, .unset, .unset, .unset, .unset, .unset] [(.long q0)]))
  refine stp (fun t k => X0.ldc2Long hx hown (mvT hZ (hw _ (List.mem_of_getElem? (i := 0) rfl))) (g := (mkF m 1 #[.val (.long q0), .second, .val (.long q1), .second, .val (.int p2), .val (.long q3), .second, .val (.int p4), .val (.int p5), .unset, .unset, .unset, .unset, .unset, .unset, .unset, .unset, .unset, .unset, .unset, .unset, .unset] [(.long q0)])) rfl (hb hby at_1) _ k) ?_
  show W (s₁.setTop (mkF m 4 #[.val (.long q0), .second, .val (.long q1), .second, .val (.int p2), .val (.long q3), .second, .val (.int p4), .val (.int p5), .unset, .unset, .unset, .unset, .unset, .unset, .unset, .unset, .unset, .unset, .unset, .unset, .unset] [(.long (9223372036854775807 : Int64)), (.long q0)]))
  refine stp (fun t k => XS.land X0.here hx rfl (hb hby at_4) rfl k) ?_
  show W (s₁.setTop (mkF m 5 #[.val (.long q0), .second, .val (.long q1), .second, .val (.int p2), .val (.long q3), .second, .val (.int p4), .val (.int p5), .unset, .unset, .unset, .unset, .unset, .unset, .unset, .unset, .unset, .unset, .unset, .unset, .unset] [(.long (q0 &&& (9223372036854775807 : Int64)))]))
  refine stp (fun t k => XS.lstore X0.here hx rfl (hb hby at_5) rfl (l' := #[.val (.long q0), .second, .val (.long q1), .second, .val (.int p2), .val (.long q3), .second, .val (.int p4), .val (.int p5), .val (.long (q0 &&& (9223372036854775807 : Int64))), .second, .unset, .unset, .unset, .unset, .unset, .unset, .unset, .unset, .unset, .unset, .unset]) rfl k) ?_
  show W (s₁.setTop (mkF m 7 #[.val (.long q0), .second, .val (.long q1), .second, .val (.int p2), .val (.long q3), .second, .val (.int p4), .val (.int p5), .val (.long (q0 &&& (9223372036854775807 : Int64))), .second, .unset, .unset, .unset, .unset, .unset, .unset, .unset, .unset, .unset, .unset, .unset] []))
  refine stp (fun t k => XS.lload X0.here hx rfl (hb hby at_7) rfl k) ?_
  show W (s₁.setTop (mkF m 9 #[.val (.long q0), .second, .val (.long q1), .second, .val (.int p2), .val (.long q3), .second, .val (.int p4), .val (.int p5), .val (.long (q0 &&& (9223372036854775807 : Int64))), .second, .unset, .unset, .unset, .unset, .unset, .unset, .unset, .unset, .unset, .unset, .unset] [(.long (q0 &&& (9223372036854775807 : Int64)))]))
  refine stp (fun t k => XS.lconst X0.here hx rfl (hb hby at_9) k) ?_
  show W (s₁.setTop (mkF m 10 #[.val (.long q0), .second, .val (.long q1), .second, .val (.int p2), .val (.long q3), .second, .val (.int p4), .val (.int p5), .val (.long (q0 &&& (9223372036854775807 : Int64))), .second, .unset, .unset, .unset, .unset, .unset, .unset, .unset, .unset, .unset, .unset, .unset] [(.long (0 : Int64)), (.long (q0 &&& (9223372036854775807 : Int64)))]))
  refine stp (fun t k => XS.lcmp X0.here hx rfl (hb hby at_10) rfl k) ?_
  show W (s₁.setTop (mkF m 11 #[.val (.long q0), .second, .val (.long q1), .second, .val (.int p2), .val (.long q3), .second, .val (.int p4), .val (.int p5), .val (.long (q0 &&& (9223372036854775807 : Int64))), .second, .unset, .unset, .unset, .unset, .unset, .unset, .unset, .unset, .unset, .unset, .unset] [(.int (lcmpW (q0 &&& (9223372036854775807 : Int64)) (0 : Int64)))]))
  have J0_17_3 : ∀ (T03 : State) (lc03 : List Loc) (z0_2 : Int64) (hz0_2 : z0_2 = (if (q0 &&& (9223372036854775807 : Int64)) = (0 : Int64) then (1 : Int64) else (q0 &&& (9223372036854775807 : Int64)))) (X03 : Stand p l e room_1 s m #[(.long q0), (.long q1), (.int p2), (.long q3), (.int p4), (.int p5)] below meth c T03 lc03 0 0) (e03 : T03.heap = h0) (N03 : Fr n0 lc03), W (T03.setTop (mkF m 17 #[.val (.long q0), .second, .val (.long q1), .second, .val (.int p2), .val (.long q3), .second, .val (.int p4), .val (.int p5), .val (.long z0_2), .second, .unset, .unset, .unset, .unset, .unset, .unset, .unset, .unset, .unset, .unset, .unset] [])) := by
    intro T03 lc03 z0_2 hz0_2  X03 e03 N03
    show W (T03.setTop (mkF m 17 #[.val (.long q0), .second, .val (.long q1), .second, .val (.int p2), .val (.long q3), .second, .val (.int p4), .val (.int p5), .val (.long z0_2), .second, .unset, .unset, .unset, .unset, .unset, .unset, .unset, .unset, .unset, .unset, .unset] []))
    refine stp (fun t k => XS.lloadN X03.here hx rfl (hb hby at_17) rfl k) ?_
    show W (T03.setTop (mkF m 18 #[.val (.long q0), .second, .val (.long q1), .second, .val (.int p2), .val (.long q3), .second, .val (.int p4), .val (.int p5), .val (.long z0_2), .second, .unset, .unset, .unset, .unset, .unset, .unset, .unset, .unset, .unset, .unset, .unset] [(.long q1)]))
    refine stp (fun t k => X03.ldc2Long hx hown (mvT hZ (hw _ (List.mem_of_getElem? (i := 0) rfl))) (g := (mkF m 18 #[.val (.long q0), .second, .val (.long q1), .second, .val (.int p2), .val (.long q3), .second, .val (.int p4), .val (.int p5), .val (.long z0_2), .second, .unset, .unset, .unset, .unset, .unset, .unset, .unset, .unset, .unset, .unset, .unset] [(.long q1)])) rfl (hb hby at_18) _ k) ?_
    show W (T03.setTop (mkF m 21 #[.val (.long q0), .second, .val (.long q1), .second, .val (.int p2), .val (.long q3), .second, .val (.int p4), .val (.int p5), .val (.long z0_2), .second, .unset, .unset, .unset, .unset, .unset, .unset, .unset, .unset, .unset, .unset, .unset] [(.long (9223372036854775807 : Int64)), (.long q1)]))
    refine stp (fun t k => XS.land X03.here hx rfl (hb hby at_21) rfl k) ?_
    show W (T03.setTop (mkF m 22 #[.val (.long q0), .second, .val (.long q1), .second, .val (.int p2), .val (.long q3), .second, .val (.int p4), .val (.int p5), .val (.long z0_2), .second, .unset, .unset, .unset, .unset, .unset, .unset, .unset, .unset, .unset, .unset, .unset] [(.long (q1 &&& (9223372036854775807 : Int64)))]))
    refine stp (fun t k => XS.lstore X03.here hx rfl (hb hby at_22) rfl (l' := #[.val (.long q0), .second, .val (.long q1), .second, .val (.int p2), .val (.long q3), .second, .val (.int p4), .val (.int p5), .val (.long z0_2), .second, .val (.long (q1 &&& (9223372036854775807 : Int64))), .second, .unset, .unset, .unset, .unset, .unset, .unset, .unset, .unset, .unset]) rfl k) ?_
    show W (T03.setTop (mkF m 24 #[.val (.long q0), .second, .val (.long q1), .second, .val (.int p2), .val (.long q3), .second, .val (.int p4), .val (.int p5), .val (.long z0_2), .second, .val (.long (q1 &&& (9223372036854775807 : Int64))), .second, .unset, .unset, .unset, .unset, .unset, .unset, .unset, .unset, .unset] []))
    refine stp (fun t k => XS.lload X03.here hx rfl (hb hby at_24) rfl k) ?_
    show W (T03.setTop (mkF m 26 #[.val (.long q0), .second, .val (.long q1), .second, .val (.int p2), .val (.long q3), .second, .val (.int p4), .val (.int p5), .val (.long z0_2), .second, .val (.long (q1 &&& (9223372036854775807 : Int64))), .second, .unset, .unset, .unset, .unset, .unset, .unset, .unset, .unset, .unset] [(.long (q1 &&& (9223372036854775807 : Int64)))]))
    refine stp (fun t k => XS.lconst X03.here hx rfl (hb hby at_26) k) ?_
    show W (T03.setTop (mkF m 27 #[.val (.long q0), .second, .val (.long q1), .second, .val (.int p2), .val (.long q3), .second, .val (.int p4), .val (.int p5), .val (.long z0_2), .second, .val (.long (q1 &&& (9223372036854775807 : Int64))), .second, .unset, .unset, .unset, .unset, .unset, .unset, .unset, .unset, .unset] [(.long (0 : Int64)), (.long (q1 &&& (9223372036854775807 : Int64)))]))
    refine stp (fun t k => XS.lcmp X03.here hx rfl (hb hby at_27) rfl k) ?_
    show W (T03.setTop (mkF m 28 #[.val (.long q0), .second, .val (.long q1), .second, .val (.int p2), .val (.long q3), .second, .val (.int p4), .val (.int p5), .val (.long z0_2), .second, .val (.long (q1 &&& (9223372036854775807 : Int64))), .second, .unset, .unset, .unset, .unset, .unset, .unset, .unset, .unset, .unset] [(.int (lcmpW (q1 &&& (9223372036854775807 : Int64)) (0 : Int64)))]))
    have J0_34_6 : ∀ (T06 : State) (lc06 : List Loc) (z0_5 : Int64) (hz0_5 : z0_5 = (if (q1 &&& (9223372036854775807 : Int64)) = (0 : Int64) then (1 : Int64) else (q1 &&& (9223372036854775807 : Int64)))) (X06 : Stand p l e room_1 s m #[(.long q0), (.long q1), (.int p2), (.long q3), (.int p4), (.int p5)] below meth c T06 lc06 0 0) (e06 : T06.heap = h0) (N06 : Fr n0 lc06), W (T06.setTop (mkF m 34 #[.val (.long q0), .second, .val (.long q1), .second, .val (.int p2), .val (.long q3), .second, .val (.int p4), .val (.int p5), .val (.long z0_2), .second, .val (.long z0_5), .second, .unset, .unset, .unset, .unset, .unset, .unset, .unset, .unset, .unset] [])) := by
      intro T06 lc06 z0_5 hz0_5  X06 e06 N06
      show W (T06.setTop (mkF m 34 #[.val (.long q0), .second, .val (.long q1), .second, .val (.int p2), .val (.long q3), .second, .val (.int p4), .val (.int p5), .val (.long z0_2), .second, .val (.long z0_5), .second, .unset, .unset, .unset, .unset, .unset, .unset, .unset, .unset, .unset] []))
      refine stp (fun t k => XS.iload X06.here hx rfl (hb hby at_34) rfl k) ?_
      show W (T06.setTop (mkF m 36 #[.val (.long q0), .second, .val (.long q1), .second, .val (.int p2), .val (.long q3), .second, .val (.int p4), .val (.int p5), .val (.long z0_2), .second, .val (.long z0_5), .second, .unset, .unset, .unset, .unset, .unset, .unset, .unset, .unset, .unset] [(.int p2)]))
      refine stp (fun t k => X06.ldcInt hx hown (mvT hZ (hw _ (List.mem_of_getElem? (i := 1) rfl))) (g := (mkF m 36 #[.val (.long q0), .second, .val (.long q1), .second, .val (.int p2), .val (.long q3), .second, .val (.int p4), .val (.int p5), .val (.long z0_2), .second, .val (.long z0_5), .second, .unset, .unset, .unset, .unset, .unset, .unset, .unset, .unset, .unset] [(.int p2)])) rfl (hb hby at_36) _ k) ?_
      show W (T06.setTop (mkF m 38 #[.val (.long q0), .second, .val (.long q1), .second, .val (.int p2), .val (.long q3), .second, .val (.int p4), .val (.int p5), .val (.long z0_2), .second, .val (.long z0_5), .second, .unset, .unset, .unset, .unset, .unset, .unset, .unset, .unset, .unset] [(.int (65535 : Int32)), (.int p2)]))
      refine stp (fun t k => XS.iand X06.here hx rfl (hb hby at_38) rfl k) ?_
      show W (T06.setTop (mkF m 39 #[.val (.long q0), .second, .val (.long q1), .second, .val (.int p2), .val (.long q3), .second, .val (.int p4), .val (.int p5), .val (.long z0_2), .second, .val (.long z0_5), .second, .unset, .unset, .unset, .unset, .unset, .unset, .unset, .unset, .unset] [(.int (p2 &&& (65535 : Int32)))]))
      refine stp (fun t k => XS.i2dS X06.here hx rfl (hb hby at_39) rfl rfl k) ?_
      show W (T06.setTop (mkF m 40 #[.val (.long q0), .second, .val (.long q1), .second, .val (.int p2), .val (.long q3), .second, .val (.int p4), .val (.int p5), .val (.long z0_2), .second, .val (.long z0_5), .second, .unset, .unset, .unset, .unset, .unset, .unset, .unset, .unset, .unset] [(.double (FP.i2d (p2 &&& (65535 : Int32))))]))
      refine stp (fun t k => XS.dstore X06.here hx rfl (hb hby at_40) rfl (l' := #[.val (.long q0), .second, .val (.long q1), .second, .val (.int p2), .val (.long q3), .second, .val (.int p4), .val (.int p5), .val (.long z0_2), .second, .val (.long z0_5), .second, .val (.double (FP.i2d (p2 &&& (65535 : Int32)))), .second, .unset, .unset, .unset, .unset, .unset, .unset, .unset]) rfl k) ?_
      show W (T06.setTop (mkF m 42 #[.val (.long q0), .second, .val (.long q1), .second, .val (.int p2), .val (.long q3), .second, .val (.int p4), .val (.int p5), .val (.long z0_2), .second, .val (.long z0_5), .second, .val (.double (FP.i2d (p2 &&& (65535 : Int32)))), .second, .unset, .unset, .unset, .unset, .unset, .unset, .unset] []))
      refine stp (fun t k => XS.iload X06.here hx rfl (hb hby at_42) rfl k) ?_
      show W (T06.setTop (mkF m 44 #[.val (.long q0), .second, .val (.long q1), .second, .val (.int p2), .val (.long q3), .second, .val (.int p4), .val (.int p5), .val (.long z0_2), .second, .val (.long z0_5), .second, .val (.double (FP.i2d (p2 &&& (65535 : Int32)))), .second, .unset, .unset, .unset, .unset, .unset, .unset, .unset] [(.int p4)]))
      refine stp (fun t k => XS.bipush X06.here hx rfl (hb hby at_44) k) ?_
      show W (T06.setTop (mkF m 46 #[.val (.long q0), .second, .val (.long q1), .second, .val (.int p2), .val (.long q3), .second, .val (.int p4), .val (.int p5), .val (.long z0_2), .second, .val (.long z0_5), .second, .val (.double (FP.i2d (p2 &&& (65535 : Int32)))), .second, .unset, .unset, .unset, .unset, .unset, .unset, .unset] [(.int (16 : Int32)), (.int p4)]))
      refine stp (fun t k => XS.ishr X06.here hx rfl (hb hby at_46) rfl k) ?_
      show W (T06.setTop (mkF m 47 #[.val (.long q0), .second, .val (.long q1), .second, .val (.int p2), .val (.long q3), .second, .val (.int p4), .val (.int p5), .val (.long z0_2), .second, .val (.long z0_5), .second, .val (.double (FP.i2d (p2 &&& (65535 : Int32)))), .second, .unset, .unset, .unset, .unset, .unset, .unset, .unset] [(.int (p4 >>> ((16 : Int32) &&& 31)))]))
      refine stp (fun t k => XS.i2dS X06.here hx rfl (hb hby at_47) rfl rfl k) ?_
      show W (T06.setTop (mkF m 48 #[.val (.long q0), .second, .val (.long q1), .second, .val (.int p2), .val (.long q3), .second, .val (.int p4), .val (.int p5), .val (.long z0_2), .second, .val (.long z0_5), .second, .val (.double (FP.i2d (p2 &&& (65535 : Int32)))), .second, .unset, .unset, .unset, .unset, .unset, .unset, .unset] [(.double (FP.i2d (p4 >>> ((16 : Int32) &&& 31))))]))
      refine stp (fun t k => XS.dstore X06.here hx rfl (hb hby at_48) rfl (l' := #[.val (.long q0), .second, .val (.long q1), .second, .val (.int p2), .val (.long q3), .second, .val (.int p4), .val (.int p5), .val (.long z0_2), .second, .val (.long z0_5), .second, .val (.double (FP.i2d (p2 &&& (65535 : Int32)))), .second, .val (.double (FP.i2d (p4 >>> ((16 : Int32) &&& 31)))), .second, .unset, .unset, .unset, .unset, .unset]) rfl k) ?_
      show W (T06.setTop (mkF m 50 #[.val (.long q0), .second, .val (.long q1), .second, .val (.int p2), .val (.long q3), .second, .val (.int p4), .val (.int p5), .val (.long z0_2), .second, .val (.long z0_5), .second, .val (.double (FP.i2d (p2 &&& (65535 : Int32)))), .second, .val (.double (FP.i2d (p4 >>> ((16 : Int32) &&& 31)))), .second, .unset, .unset, .unset, .unset, .unset] []))
      refine stp (fun t k => XS.iload X06.here hx rfl (hb hby at_50) rfl k) ?_
      show W (T06.setTop (mkF m 52 #[.val (.long q0), .second, .val (.long q1), .second, .val (.int p2), .val (.long q3), .second, .val (.int p4), .val (.int p5), .val (.long z0_2), .second, .val (.long z0_5), .second, .val (.double (FP.i2d (p2 &&& (65535 : Int32)))), .second, .val (.double (FP.i2d (p4 >>> ((16 : Int32) &&& 31)))), .second, .unset, .unset, .unset, .unset, .unset] [(.int p4)]))
      refine stp (fun t k => XS.i2s X06.here hx rfl (hb hby at_52) rfl k) ?_
      show W (T06.setTop (mkF m 53 #[.val (.long q0), .second, .val (.long q1), .second, .val (.int p2), .val (.long q3), .second, .val (.int p4), .val (.int p5), .val (.long z0_2), .second, .val (.long z0_5), .second, .val (.double (FP.i2d (p2 &&& (65535 : Int32)))), .second, .val (.double (FP.i2d (p4 >>> ((16 : Int32) &&& 31)))), .second, .unset, .unset, .unset, .unset, .unset] [(.int (p4.toInt16.toInt32))]))
      refine stp (fun t k => XS.i2dS X06.here hx rfl (hb hby at_53) rfl rfl k) ?_
      show W (T06.setTop (mkF m 54 #[.val (.long q0), .second, .val (.long q1), .second, .val (.int p2), .val (.long q3), .second, .val (.int p4), .val (.int p5), .val (.long z0_2), .second, .val (.long z0_5), .second, .val (.double (FP.i2d (p2 &&& (65535 : Int32)))), .second, .val (.double (FP.i2d (p4 >>> ((16 : Int32) &&& 31)))), .second, .unset, .unset, .unset, .unset, .unset] [(.double (FP.i2d (p4.toInt16.toInt32)))]))
      refine stp (fun t k => XS.dstore X06.here hx rfl (hb hby at_54) rfl (l' := #[.val (.long q0), .second, .val (.long q1), .second, .val (.int p2), .val (.long q3), .second, .val (.int p4), .val (.int p5), .val (.long z0_2), .second, .val (.long z0_5), .second, .val (.double (FP.i2d (p2 &&& (65535 : Int32)))), .second, .val (.double (FP.i2d (p4 >>> ((16 : Int32) &&& 31)))), .second, .val (.double (FP.i2d (p4.toInt16.toInt32))), .second, .unset, .unset, .unset]) rfl k) ?_
      show W (T06.setTop (mkF m 56 #[.val (.long q0), .second, .val (.long q1), .second, .val (.int p2), .val (.long q3), .second, .val (.int p4), .val (.int p5), .val (.long z0_2), .second, .val (.long z0_5), .second, .val (.double (FP.i2d (p2 &&& (65535 : Int32)))), .second, .val (.double (FP.i2d (p4 >>> ((16 : Int32) &&& 31)))), .second, .val (.double (FP.i2d (p4.toInt16.toInt32))), .second, .unset, .unset, .unset] []))
      refine stp (fun t k => XS.iload X06.here hx rfl (hb hby at_56) rfl k) ?_
      show W (T06.setTop (mkF m 58 #[.val (.long q0), .second, .val (.long q1), .second, .val (.int p2), .val (.long q3), .second, .val (.int p4), .val (.int p5), .val (.long z0_2), .second, .val (.long z0_5), .second, .val (.double (FP.i2d (p2 &&& (65535 : Int32)))), .second, .val (.double (FP.i2d (p4 >>> ((16 : Int32) &&& 31)))), .second, .val (.double (FP.i2d (p4.toInt16.toInt32))), .second, .unset, .unset, .unset] [(.int p5)]))
      refine stp (fun t k => X06.ldcInt hx hown (mvT hZ (hw _ (List.mem_of_getElem? (i := 2) rfl))) (g := (mkF m 58 #[.val (.long q0), .second, .val (.long q1), .second, .val (.int p2), .val (.long q3), .second, .val (.int p4), .val (.int p5), .val (.long z0_2), .second, .val (.long z0_5), .second, .val (.double (FP.i2d (p2 &&& (65535 : Int32)))), .second, .val (.double (FP.i2d (p4 >>> ((16 : Int32) &&& 31)))), .second, .val (.double (FP.i2d (p4.toInt16.toInt32))), .second, .unset, .unset, .unset] [(.int p5)])) rfl (hb hby at_58) _ k) ?_
      show W (T06.setTop (mkF m 60 #[.val (.long q0), .second, .val (.long q1), .second, .val (.int p2), .val (.long q3), .second, .val (.int p4), .val (.int p5), .val (.long z0_2), .second, .val (.long z0_5), .second, .val (.double (FP.i2d (p2 &&& (65535 : Int32)))), .second, .val (.double (FP.i2d (p4 >>> ((16 : Int32) &&& 31)))), .second, .val (.double (FP.i2d (p4.toInt16.toInt32))), .second, .unset, .unset, .unset] [(.int (2147483647 : Int32)), (.int p5)]))
      refine stp (fun t k => XS.iand X06.here hx rfl (hb hby at_60) rfl k) ?_
      show W (T06.setTop (mkF m 61 #[.val (.long q0), .second, .val (.long q1), .second, .val (.int p2), .val (.long q3), .second, .val (.int p4), .val (.int p5), .val (.long z0_2), .second, .val (.long z0_5), .second, .val (.double (FP.i2d (p2 &&& (65535 : Int32)))), .second, .val (.double (FP.i2d (p4 >>> ((16 : Int32) &&& 31)))), .second, .val (.double (FP.i2d (p4.toInt16.toInt32))), .second, .unset, .unset, .unset] [(.int (p5 &&& (2147483647 : Int32)))]))
      refine stp (fun t k => XS.istore X06.here hx rfl (hb hby at_61) rfl (l' := #[.val (.long q0), .second, .val (.long q1), .second, .val (.int p2), .val (.long q3), .second, .val (.int p4), .val (.int p5), .val (.long z0_2), .second, .val (.long z0_5), .second, .val (.double (FP.i2d (p2 &&& (65535 : Int32)))), .second, .val (.double (FP.i2d (p4 >>> ((16 : Int32) &&& 31)))), .second, .val (.double (FP.i2d (p4.toInt16.toInt32))), .second, .val (.int (p5 &&& (2147483647 : Int32))), .unset, .unset]) rfl k) ?_
      show W (T06.setTop (mkF m 63 #[.val (.long q0), .second, .val (.long q1), .second, .val (.int p2), .val (.long q3), .second, .val (.int p4), .val (.int p5), .val (.long z0_2), .second, .val (.long z0_5), .second, .val (.double (FP.i2d (p2 &&& (65535 : Int32)))), .second, .val (.double (FP.i2d (p4 >>> ((16 : Int32) &&& 31)))), .second, .val (.double (FP.i2d (p4.toInt16.toInt32))), .second, .val (.int (p5 &&& (2147483647 : Int32))), .unset, .unset] []))
      refine stp (fun t k => XS.iload X06.here hx rfl (hb hby at_63) rfl k) ?_
      show W (T06.setTop (mkF m 65 #[.val (.long q0), .second, .val (.long q1), .second, .val (.int p2), .val (.long q3), .second, .val (.int p4), .val (.int p5), .val (.long z0_2), .second, .val (.long z0_5), .second, .val (.double (FP.i2d (p2 &&& (65535 : Int32)))), .second, .val (.double (FP.i2d (p4 >>> ((16 : Int32) &&& 31)))), .second, .val (.double (FP.i2d (p4.toInt16.toInt32))), .second, .val (.int (p5 &&& (2147483647 : Int32))), .unset, .unset] [(.int (p5 &&& (2147483647 : Int32)))]))
      have J0_71_9 : ∀ (T09 : State) (lc09 : List Loc) (v0_8 : Int32) (hv0_8 : v0_8 = (if (p5 &&& (2147483647 : Int32)) = (0 : Int32) then (1 : Int32) else (p5 &&& (2147483647 : Int32)))) (X09 : Stand p l e room_1 s m #[(.long q0), (.long q1), (.int p2), (.long q3), (.int p4), (.int p5)] below meth c T09 lc09 0 0) (e09 : T09.heap = h0) (N09 : Fr n0 lc09), W (T09.setTop (mkF m 71 #[.val (.long q0), .second, .val (.long q1), .second, .val (.int p2), .val (.long q3), .second, .val (.int p4), .val (.int p5), .val (.long z0_2), .second, .val (.long z0_5), .second, .val (.double (FP.i2d (p2 &&& (65535 : Int32)))), .second, .val (.double (FP.i2d (p4 >>> ((16 : Int32) &&& 31)))), .second, .val (.double (FP.i2d (p4.toInt16.toInt32))), .second, .val (.int v0_8), .unset, .unset] [])) := by
        intro T09 lc09 v0_8 hv0_8  X09 e09 N09
        show W (T09.setTop (mkF m 71 #[.val (.long q0), .second, .val (.long q1), .second, .val (.int p2), .val (.long q3), .second, .val (.int p4), .val (.int p5), .val (.long z0_2), .second, .val (.long z0_5), .second, .val (.double (FP.i2d (p2 &&& (65535 : Int32)))), .second, .val (.double (FP.i2d (p4 >>> ((16 : Int32) &&& 31)))), .second, .val (.double (FP.i2d (p4.toInt16.toInt32))), .second, .val (.int v0_8), .unset, .unset] []))
        obtain ⟨T010, h010, X010, e010, E010, A010, D010, -, st010⟩ := newO X09 hx hZ hown (hw _ (List.mem_of_getElem? (i := 3) rfl)) (hw _ (List.mem_of_getElem? (i := 4) rfl)) (hw _ (List.mem_of_getElem? (i := 5) rfl)) e09 (g := (mkF m 71 #[.val (.long q0), .second, .val (.long q1), .second, .val (.int p2), .val (.long q3), .second, .val (.int p4), .val (.int p5), .val (.long z0_2), .second, .val (.long z0_5), .second, .val (.double (FP.i2d (p2 &&& (65535 : Int32)))), .second, .val (.double (FP.i2d (p4 >>> ((16 : Int32) &&& 31)))), .second, .val (.double (FP.i2d (p4.toInt16.toInt32))), .second, .val (.int v0_8), .unset, .unset] [])) rfl (hb hby at_71) (by decide) (by decide)
        obtain ⟨b010, gq010⟩ : ∃ z, z = h0.size := ⟨_, rfl⟩
        rw [← gq010] at A010 D010 st010
        have g_b010 : n0 ≤ b010 := Nat.le_trans Z0 (Nat.le_of_eq gq010.symm)
        have sz_b010 : h0.size ≤ b010 := Nat.le_trans (Keep.refl h0 []).1 (Nat.le_of_eq gq010.symm)
        have K010 := (Keep.refl h0 []).ext E010
        have Z010 := Nat.le_trans Z0 E010.1
        have E_b010 := A010
        have F_alpha_b010 : Fld Z h010 b010 "com/example/astute_scheduler/astutescheduler/core/SchedulerOptions" "alpha" "J" (.long (0 : Int64)) := D010 (Or.inr (hw _ (List.mem_of_getElem? (i := 39) rfl))) (ty := .long) (by decide)
        have F_beta_b010 : Fld Z h010 b010 "com/example/astute_scheduler/astutescheduler/core/SchedulerOptions" "beta" "J" (.long (0 : Int64)) := D010 (Or.inr (hw _ (List.mem_of_getElem? (i := 41) rfl))) (ty := .long) (by decide)
        have F_c_b010 : Fld Z h010 b010 "com/example/astute_scheduler/astutescheduler/core/SchedulerOptions" "c" "D" (.double (0 : UInt64)) := D010 (Or.inr (hw _ (List.mem_of_getElem? (i := 43) rfl))) (ty := .double) (by decide)
        have F_seed_b010 : Fld Z h010 b010 "com/example/astute_scheduler/astutescheduler/core/SchedulerOptions" "seed" "J" (.long (0 : Int64)) := D010 (Or.inr (hw _ (List.mem_of_getElem? (i := 45) rfl))) (ty := .long) (by decide)
        have F_gamma_b010 : Fld Z h010 b010 "com/example/astute_scheduler/astutescheduler/core/SchedulerOptions" "gamma" "D" (.double (0 : UInt64)) := D010 (Or.inr (hw _ (List.mem_of_getElem? (i := 47) rfl))) (ty := .double) (by decide)
        have F_delta_b010 : Fld Z h010 b010 "com/example/astute_scheduler/astutescheduler/core/SchedulerOptions" "delta" "D" (.double (0 : UInt64)) := D010 (Or.inr (hw _ (List.mem_of_getElem? (i := 49) rfl))) (ty := .double) (by decide)
        have F_traces_b010 : Fld Z h010 b010 "com/example/astute_scheduler/astutescheduler/core/SchedulerOptions" "traces" "I" (.int (0 : Int32)) := D010 (Or.inr (hw _ (List.mem_of_getElem? (i := 51) rfl))) (ty := .int) (by decide)
        refine stp (fun t k => st010 t k) ?_
        show W (T010.setTop (mkF m 74 #[.val (.long q0), .second, .val (.long q1), .second, .val (.int p2), .val (.long q3), .second, .val (.int p4), .val (.int p5), .val (.long z0_2), .second, .val (.long z0_5), .second, .val (.double (FP.i2d (p2 &&& (65535 : Int32)))), .second, .val (.double (FP.i2d (p4 >>> ((16 : Int32) &&& 31)))), .second, .val (.double (FP.i2d (p4.toInt16.toInt32))), .second, .val (.int v0_8), .unset, .unset] [(.ref b010)]))
        refine stp (fun t k => XS.dup X010.here hx rfl (hb hby at_74) rfl rfl k) ?_
        show W (T010.setTop (mkF m 75 #[.val (.long q0), .second, .val (.long q1), .second, .val (.int p2), .val (.long q3), .second, .val (.int p4), .val (.int p5), .val (.long z0_2), .second, .val (.long z0_5), .second, .val (.double (FP.i2d (p2 &&& (65535 : Int32)))), .second, .val (.double (FP.i2d (p4 >>> ((16 : Int32) &&& 31)))), .second, .val (.double (FP.i2d (p4.toInt16.toInt32))), .second, .val (.int v0_8), .unset, .unset] [(.ref b010), (.ref b010)]))
        refine stp (fun t k => XS.lload X010.here hx rfl (hb hby at_75) rfl k) ?_
        show W (T010.setTop (mkF m 77 #[.val (.long q0), .second, .val (.long q1), .second, .val (.int p2), .val (.long q3), .second, .val (.int p4), .val (.int p5), .val (.long z0_2), .second, .val (.long z0_5), .second, .val (.double (FP.i2d (p2 &&& (65535 : Int32)))), .second, .val (.double (FP.i2d (p4 >>> ((16 : Int32) &&& 31)))), .second, .val (.double (FP.i2d (p4.toInt16.toInt32))), .second, .val (.int v0_8), .unset, .unset] [(.long z0_2), (.ref b010), (.ref b010)]))
        refine stp (fun t k => XS.lload X010.here hx rfl (hb hby at_77) rfl k) ?_
        show W (T010.setTop (mkF m 79 #[.val (.long q0), .second, .val (.long q1), .second, .val (.int p2), .val (.long q3), .second, .val (.int p4), .val (.int p5), .val (.long z0_2), .second, .val (.long z0_5), .second, .val (.double (FP.i2d (p2 &&& (65535 : Int32)))), .second, .val (.double (FP.i2d (p4 >>> ((16 : Int32) &&& 31)))), .second, .val (.double (FP.i2d (p4.toInt16.toInt32))), .second, .val (.int v0_8), .unset, .unset] [(.long z0_5), (.long z0_2), (.ref b010), (.ref b010)]))
        refine stp (fun t k => XS.dload X010.here hx rfl (hb hby at_79) rfl k) ?_
        show W (T010.setTop (mkF m 81 #[.val (.long q0), .second, .val (.long q1), .second, .val (.int p2), .val (.long q3), .second, .val (.int p4), .val (.int p5), .val (.long z0_2), .second, .val (.long z0_5), .second, .val (.double (FP.i2d (p2 &&& (65535 : Int32)))), .second, .val (.double (FP.i2d (p4 >>> ((16 : Int32) &&& 31)))), .second, .val (.double (FP.i2d (p4.toInt16.toInt32))), .second, .val (.int v0_8), .unset, .unset] [(.double (FP.i2d (p2 &&& (65535 : Int32)))), (.long z0_5), (.long z0_2), (.ref b010), (.ref b010)]))
        refine stp (fun t k => XS.lload X010.here hx rfl (hb hby at_81) rfl k) ?_
        show W (T010.setTop (mkF m 83 #[.val (.long q0), .second, .val (.long q1), .second, .val (.int p2), .val (.long q3), .second, .val (.int p4), .val (.int p5), .val (.long z0_2), .second, .val (.long z0_5), .second, .val (.double (FP.i2d (p2 &&& (65535 : Int32)))), .second, .val (.double (FP.i2d (p4 >>> ((16 : Int32) &&& 31)))), .second, .val (.double (FP.i2d (p4.toInt16.toInt32))), .second, .val (.int v0_8), .unset, .unset] [(.long q3), (.double (FP.i2d (p2 &&& (65535 : Int32)))), (.long z0_5), (.long z0_2), (.ref b010), (.ref b010)]))
        refine stp (fun t k => XS.dload X010.here hx rfl (hb hby at_83) rfl k) ?_
        show W (T010.setTop (mkF m 85 #[.val (.long q0), .second, .val (.long q1), .second, .val (.int p2), .val (.long q3), .second, .val (.int p4), .val (.int p5), .val (.long z0_2), .second, .val (.long z0_5), .second, .val (.double (FP.i2d (p2 &&& (65535 : Int32)))), .second, .val (.double (FP.i2d (p4 >>> ((16 : Int32) &&& 31)))), .second, .val (.double (FP.i2d (p4.toInt16.toInt32))), .second, .val (.int v0_8), .unset, .unset] [(.double (FP.i2d (p4 >>> ((16 : Int32) &&& 31)))), (.long q3), (.double (FP.i2d (p2 &&& (65535 : Int32)))), (.long z0_5), (.long z0_2), (.ref b010), (.ref b010)]))
        refine stp (fun t k => XS.dload X010.here hx rfl (hb hby at_85) rfl k) ?_
        show W (T010.setTop (mkF m 87 #[.val (.long q0), .second, .val (.long q1), .second, .val (.int p2), .val (.long q3), .second, .val (.int p4), .val (.int p5), .val (.long z0_2), .second, .val (.long z0_5), .second, .val (.double (FP.i2d (p2 &&& (65535 : Int32)))), .second, .val (.double (FP.i2d (p4 >>> ((16 : Int32) &&& 31)))), .second, .val (.double (FP.i2d (p4.toInt16.toInt32))), .second, .val (.int v0_8), .unset, .unset] [(.double (FP.i2d (p4.toInt16.toInt32))), (.double (FP.i2d (p4 >>> ((16 : Int32) &&& 31)))), (.long q3), (.double (FP.i2d (p2 &&& (65535 : Int32)))), (.long z0_5), (.long z0_2), (.ref b010), (.ref b010)]))
        refine stp (fun t k => XS.iload X010.here hx rfl (hb hby at_87) rfl k) ?_
        show W (T010.setTop (mkF m 89 #[.val (.long q0), .second, .val (.long q1), .second, .val (.int p2), .val (.long q3), .second, .val (.int p4), .val (.int p5), .val (.long z0_2), .second, .val (.long z0_5), .second, .val (.double (FP.i2d (p2 &&& (65535 : Int32)))), .second, .val (.double (FP.i2d (p4 >>> ((16 : Int32) &&& 31)))), .second, .val (.double (FP.i2d (p4.toInt16.toInt32))), .second, .val (.int v0_8), .unset, .unset] [(.int v0_8), (.double (FP.i2d (p4.toInt16.toInt32))), (.double (FP.i2d (p4 >>> ((16 : Int32) &&& 31)))), (.long q3), (.double (FP.i2d (p2 &&& (65535 : Int32)))), (.long z0_5), (.long z0_2), (.ref b010), (.ref b010)]))
        obtain ⟨_, _, ⟨T0c11, L0c11, k0c11, n0c11⟩, -, X0c11, ⟨Lc0c11, hQ0c11, l0c11, y0c11, z0c11⟩, st0c11⟩ := X010.specialBack hx (y := (⟨"com/example/astute_scheduler/astutescheduler/core/SchedulerOptions", "<init>", "(JJDJDDI)V"⟩ : MethodName)) rfl hown (mvT hZ (hw _ (List.mem_of_getElem? (i := 6) rfl))) (mvT hZ (hw _ (List.mem_of_getElem? (i := 7) rfl))) (mvT hZ (hw _ (List.mem_of_getElem? (i := 8) rfl))) (by decide) (backOf (W := 1) (rm4 l Z aa hw [] b010 z0_2 z0_5 (FP.i2d (p2 &&& (65535 : Int32))) q3 (FP.i2d (p4 >>> ((16 : Int32) &&& 31))) (FP.i2d (p4.toInt16.toInt32)) v0_8  h010 n0 Z010 F_alpha_b010 F_beta_b010 F_c_b010 F_seed_b010 F_gamma_b010 F_delta_b010 F_traces_b010 E_b010 g_b010 (by subst hz0_2; subst hz0_5; subst hv0_8; exact own_al q0) (by subst hz0_2; subst hz0_5; subst hv0_8; exact own_al q1) (by subst hz0_2; subst hz0_5; subst hv0_8; exact own_cge p2) (by subst hz0_2; subst hz0_5; subst hv0_8; exact own_cinf p2) (by subst hz0_2; subst hz0_5; subst hv0_8; exact (Jvm.Free.Fl.i2d_fin _)) (by subst hz0_2; subst hz0_5; subst hv0_8; exact (Jvm.Free.Fl.i2d_fin _)) (by subst hz0_2; subst hz0_5; subst hv0_8; exact own_fin (Jvm.Free.Fl.i2d_fin _)) (by subst hz0_2; subst hz0_5; subst hv0_8; exact own_fin (Jvm.Free.Fl.i2d_fin _)) (by subst hz0_2; subst hz0_5; subst hv0_8; exact own_tr p5)) hZ (hw _ (List.mem_of_getElem? (i := 8) rfl)) (hw _ (List.mem_of_getElem? (i := 5) rfl)) (by decide) (by decide)) (g := (mkF m 89 #[.val (.long q0), .second, .val (.long q1), .second, .val (.int p2), .val (.long q3), .second, .val (.int p4), .val (.int p5), .val (.long z0_2), .second, .val (.long z0_5), .second, .val (.double (FP.i2d (p2 &&& (65535 : Int32)))), .second, .val (.double (FP.i2d (p4 >>> ((16 : Int32) &&& 31)))), .second, .val (.double (FP.i2d (p4.toInt16.toInt32))), .second, .val (.int v0_8), .unset, .unset] [(.int v0_8), (.double (FP.i2d (p4.toInt16.toInt32))), (.double (FP.i2d (p4 >>> ((16 : Int32) &&& 31)))), (.long q3), (.double (FP.i2d (p2 &&& (65535 : Int32)))), (.long z0_5), (.long z0_2), (.ref b010), (.ref b010)])) rfl (by rw [hml]; rfl) (Steps.refl _) (a := b010) (argsL := [(.long z0_2), (.long z0_5), (.double (FP.i2d (p2 &&& (65535 : Int32)))), (.long q3), (.double (FP.i2d (p4 >>> ((16 : Int32) &&& 31)))), (.double (FP.i2d (p4.toInt16.toInt32))), (.int v0_8)]) (rest := [(.ref b010)]) (lenOf pd0_0 rfl) rfl (by show 2 * 0 + _ ≤ _; exact Nat.le_of_eq rfl) (hb hby at_89) (fun _ _ => ⟨rfl, e010, (by decide : 1 + 1 ≤ _), (by decide : 7 + 2 ≤ _)⟩)
        dsimp only [Pt.U, Pt.locs, Pt.cells, Pt.slots] at X0c11 l0c11 y0c11 z0c11 st0c11 hQ0c11
        subst l0c11 y0c11 z0c11
        obtain ⟨rfl, N0c11q, Kq0c11, g0c11E, g0c11T, g0c11S⟩ := hQ0c11
        have N0c11 := Fr.app N09 N0c11q
        obtain ⟨h0c11, e0c11⟩ : ∃ h, T0c11.heap = h := ⟨_, rfl⟩
        rw [e0c11] at Kq0c11 g0c11E g0c11T g0c11S
        have E_b010 := E_b010.keep Kq0c11
        have KK0c11 := Keep.trans K010 Kq0c11 (allS (Or.inr sz_b010) all0)
        have Z0c11 := Nat.le_trans Z010 Kq0c11.1
        have E_b010 := g0c11E
        have F_traces_b010 := g0c11T
        have F_seed_b010 := g0c11S
        refine stp (fun t k => st0c11.trans k) ?_
        show W (T0c11.setTop (mkF m 92 #[.val (.long q0), .second, .val (.long q1), .second, .val (.int p2), .val (.long q3), .second, .val (.int p4), .val (.int p5), .val (.long z0_2), .second, .val (.long z0_5), .second, .val (.double (FP.i2d (p2 &&& (65535 : Int32)))), .second, .val (.double (FP.i2d (p4 >>> ((16 : Int32) &&& 31)))), .second, .val (.double (FP.i2d (p4.toInt16.toInt32))), .second, .val (.int v0_8), .unset, .unset] [(.ref b010)]))
        refine stp (fun t k => XS.astore X0c11.here hx rfl (hb hby at_92) rfl rfl (l' := #[.val (.long q0), .second, .val (.long q1), .second, .val (.int p2), .val (.long q3), .second, .val (.int p4), .val (.int p5), .val (.long z0_2), .second, .val (.long z0_5), .second, .val (.double (FP.i2d (p2 &&& (65535 : Int32)))), .second, .val (.double (FP.i2d (p4 >>> ((16 : Int32) &&& 31)))), .second, .val (.double (FP.i2d (p4.toInt16.toInt32))), .second, .val (.int v0_8), .val (.ref b010), .unset]) rfl k) ?_
        show W (T0c11.setTop (mkF m 94 #[.val (.long q0), .second, .val (.long q1), .second, .val (.int p2), .val (.long q3), .second, .val (.int p4), .val (.int p5), .val (.long z0_2), .second, .val (.long z0_5), .second, .val (.double (FP.i2d (p2 &&& (65535 : Int32)))), .second, .val (.double (FP.i2d (p4 >>> ((16 : Int32) &&& 31)))), .second, .val (.double (FP.i2d (p4.toInt16.toInt32))), .second, .val (.int v0_8), .val (.ref b010), .unset] []))
        refine stp (fun t k => XS.aload X0c11.here hx rfl (hb hby at_94) rfl rfl k) ?_
        show W (T0c11.setTop (mkF m 96 #[.val (.long q0), .second, .val (.long q1), .second, .val (.int p2), .val (.long q3), .second, .val (.int p4), .val (.int p5), .val (.long z0_2), .second, .val (.long z0_5), .second, .val (.double (FP.i2d (p2 &&& (65535 : Int32)))), .second, .val (.double (FP.i2d (p4 >>> ((16 : Int32) &&& 31)))), .second, .val (.double (FP.i2d (p4.toInt16.toInt32))), .second, .val (.int v0_8), .val (.ref b010), .unset] [(.ref b010)]))
        obtain ⟨cq0c12, kq0c12, q0c12a, q0c12b, q0c12c⟩ := isOf hZ e0c11 E_b010
        obtain ⟨_, _, ⟨T0c12, L0c12, k0c12, n0c12⟩, -, X0c12, ⟨Lc0c12, hQ0c12, l0c12, y0c12, z0c12⟩, st0c12⟩ := X0c11.virtualBack hx (y := (⟨"com/example/astute_scheduler/astutescheduler/core/SchedulerOptions", "sampling", "()Lcom/example/astute_scheduler/astutescheduler/model/TraceSampling;"⟩ : MethodName)) (z := (⟨"com/example/astute_scheduler/astutescheduler/core/SchedulerOptions", "sampling", "()Lcom/example/astute_scheduler/astutescheduler/model/TraceSampling;"⟩ : MethodName)) hown (mvT hZ (hw _ (List.mem_of_getElem? (i := 52) rfl))) (mvT hZ (hw _ (List.mem_of_getElem? (i := 53) rfl))) (notFace_of_selects (args := #[]) (mvT hZ (hw _ (List.mem_of_getElem? (i := 55) rfl)))) (mvT hZ (hw _ (List.mem_of_getElem? (i := 55) rfl))) (mvT hZ (hw _ (List.mem_of_getElem? (i := 54) rfl))) (by decide) (backOf (W := 0) (rm5 l Z aa hw [] b010 v0_8 q3 h0c11 n0 Z0c11 F_traces_b010 F_seed_b010 E_b010 (by subst hz0_2; subst hz0_5; subst hv0_8; exact own_tr p5)) hZ (hw _ (List.mem_of_getElem? (i := 56) rfl)) (hw _ (List.mem_of_getElem? (i := 5) rfl)) (by decide) (by decide)) q0c12a q0c12c (g := (mkF m 96 #[.val (.long q0), .second, .val (.long q1), .second, .val (.int p2), .val (.long q3), .second, .val (.int p4), .val (.int p5), .val (.long z0_2), .second, .val (.long z0_5), .second, .val (.double (FP.i2d (p2 &&& (65535 : Int32)))), .second, .val (.double (FP.i2d (p4 >>> ((16 : Int32) &&& 31)))), .second, .val (.double (FP.i2d (p4.toInt16.toInt32))), .second, .val (.int v0_8), .val (.ref b010), .unset] [(.ref b010)])) rfl (by rw [hml]; rfl) (Steps.refl _) (argsL := []) (rest := []) (lenOf pd0_1 rfl) rfl (by show 2 * 0 + _ ≤ _; exact Nat.le_of_eq rfl) (hb hby at_96) (fun _ _ => ⟨rfl, e0c11, (by decide : 2 + 1 ≤ _), (by decide : 9 + 2 ≤ _)⟩)
        dsimp only [Pt.U, Pt.locs, Pt.cells, Pt.slots] at X0c12 l0c12 y0c12 z0c12 st0c12 hQ0c12
        subst l0c12 y0c12 z0c12
        obtain ⟨b0c12, rfl, N0c12q, Kq0c12, sz_b0c12, E_b0c12, F_traces_b0c12, F_seed_b0c12⟩ := hQ0c12
        have N0c12 := Fr.app N0c11 N0c12q
        obtain ⟨h0c12, e0c12⟩ : ∃ h, T0c12.heap = h := ⟨_, rfl⟩
        rw [e0c12] at Kq0c12 E_b0c12 F_traces_b0c12 F_seed_b0c12
        have E_b010 := E_b010.keep Kq0c12
        have F_traces_b010 := F_traces_b010.keep Kq0c12 nin0
        have F_seed_b010 := F_seed_b010.keep Kq0c12 nin0
        have KK0c12 := Keep.trans KK0c11 Kq0c12 all0
        have Z0c12 := Nat.le_trans Z0c11 Kq0c12.1
        refine stp (fun t k => st0c12.trans k) ?_
        show W (T0c12.setTop (mkF m 99 #[.val (.long q0), .second, .val (.long q1), .second, .val (.int p2), .val (.long q3), .second, .val (.int p4), .val (.int p5), .val (.long z0_2), .second, .val (.long z0_5), .second, .val (.double (FP.i2d (p2 &&& (65535 : Int32)))), .second, .val (.double (FP.i2d (p4 >>> ((16 : Int32) &&& 31)))), .second, .val (.double (FP.i2d (p4.toInt16.toInt32))), .second, .val (.int v0_8), .val (.ref b010), .unset] [(.ref b0c12)]))
        refine stp (fun t k => XS.astore X0c12.here hx rfl (hb hby at_99) rfl rfl (l' := #[.val (.long q0), .second, .val (.long q1), .second, .val (.int p2), .val (.long q3), .second, .val (.int p4), .val (.int p5), .val (.long z0_2), .second, .val (.long z0_5), .second, .val (.double (FP.i2d (p2 &&& (65535 : Int32)))), .second, .val (.double (FP.i2d (p4 >>> ((16 : Int32) &&& 31)))), .second, .val (.double (FP.i2d (p4.toInt16.toInt32))), .second, .val (.int v0_8), .val (.ref b010), .val (.ref b0c12)]) rfl k) ?_
        show W (T0c12.setTop (mkF m 101 #[.val (.long q0), .second, .val (.long q1), .second, .val (.int p2), .val (.long q3), .second, .val (.int p4), .val (.int p5), .val (.long z0_2), .second, .val (.long z0_5), .second, .val (.double (FP.i2d (p2 &&& (65535 : Int32)))), .second, .val (.double (FP.i2d (p4 >>> ((16 : Int32) &&& 31)))), .second, .val (.double (FP.i2d (p4.toInt16.toInt32))), .second, .val (.int v0_8), .val (.ref b010), .val (.ref b0c12)] []))
        refine stp (fun t k => XS.aload X0c12.here hx rfl (hb hby at_101) rfl rfl k) ?_
        show W (T0c12.setTop (mkF m 103 #[.val (.long q0), .second, .val (.long q1), .second, .val (.int p2), .val (.long q3), .second, .val (.int p4), .val (.int p5), .val (.long z0_2), .second, .val (.long z0_5), .second, .val (.double (FP.i2d (p2 &&& (65535 : Int32)))), .second, .val (.double (FP.i2d (p4 >>> ((16 : Int32) &&& 31)))), .second, .val (.double (FP.i2d (p4.toInt16.toInt32))), .second, .val (.int v0_8), .val (.ref b010), .val (.ref b0c12)] [(.ref b0c12)]))
        obtain ⟨cq0c13, kq0c13, q0c13a, q0c13b, q0c13c⟩ := isOf hZ e0c12 E_b0c12
        obtain ⟨_, _, ⟨T0c13, L0c13, k0c13, n0c13⟩, -, X0c13, ⟨Lc0c13, hQ0c13, l0c13, y0c13, z0c13⟩, st0c13⟩ := X0c12.virtualBack hx (y := (⟨"com/example/astute_scheduler/astutescheduler/model/TraceSampling", "traces", "()I"⟩ : MethodName)) (z := (⟨"com/example/astute_scheduler/astutescheduler/model/TraceSampling", "traces", "()I"⟩ : MethodName)) hown (mvT hZ (hw _ (List.mem_of_getElem? (i := 57) rfl))) (mvT hZ (hw _ (List.mem_of_getElem? (i := 58) rfl))) (notFace_of_selects (args := #[]) (mvT hZ (hw _ (List.mem_of_getElem? (i := 60) rfl)))) (mvT hZ (hw _ (List.mem_of_getElem? (i := 60) rfl))) (mvT hZ (hw _ (List.mem_of_getElem? (i := 59) rfl))) (by decide) (backOf (W := 0) (rm6 l Z aa hw [] b0c12 v0_8 h0c12 n0 Z0c12 F_traces_b0c12) hZ (hw _ (List.mem_of_getElem? (i := 61) rfl)) (hw _ (List.mem_of_getElem? (i := 29) rfl)) (by decide) (by decide)) q0c13a q0c13c (g := (mkF m 103 #[.val (.long q0), .second, .val (.long q1), .second, .val (.int p2), .val (.long q3), .second, .val (.int p4), .val (.int p5), .val (.long z0_2), .second, .val (.long z0_5), .second, .val (.double (FP.i2d (p2 &&& (65535 : Int32)))), .second, .val (.double (FP.i2d (p4 >>> ((16 : Int32) &&& 31)))), .second, .val (.double (FP.i2d (p4.toInt16.toInt32))), .second, .val (.int v0_8), .val (.ref b010), .val (.ref b0c12)] [(.ref b0c12)])) rfl (by rw [hml]; rfl) (Steps.refl _) (argsL := []) (rest := []) (lenOf pd0_2 rfl) rfl (by show 2 * 0 + _ ≤ _; exact Nat.le_of_eq rfl) (hb hby at_103) (fun _ _ => ⟨rfl, e0c12, (by decide : 3 + 0 ≤ _), (by decide : 11 + 0 ≤ _)⟩)
        dsimp only [Pt.U, Pt.locs, Pt.cells, Pt.slots] at X0c13 l0c13 y0c13 z0c13 st0c13 hQ0c13
        subst l0c13 y0c13 z0c13
        obtain ⟨rfl, N0c13q, e0c13⟩ := hQ0c13
        have N0c13 := Fr.app N0c12 N0c13q
        refine stp (fun t k => st0c13.trans k) ?_
        show W (T0c13.setTop (mkF m 106 #[.val (.long q0), .second, .val (.long q1), .second, .val (.int p2), .val (.long q3), .second, .val (.int p4), .val (.int p5), .val (.long z0_2), .second, .val (.long z0_5), .second, .val (.double (FP.i2d (p2 &&& (65535 : Int32)))), .second, .val (.double (FP.i2d (p4 >>> ((16 : Int32) &&& 31)))), .second, .val (.double (FP.i2d (p4.toInt16.toInt32))), .second, .val (.int v0_8), .val (.ref b010), .val (.ref b0c12)] [(.int (f6 v0_8))]))
        refine stp (fun t k => XS.iload X0c13.here hx rfl (hb hby at_106) rfl k) ?_
        show W (T0c13.setTop (mkF m 108 #[.val (.long q0), .second, .val (.long q1), .second, .val (.int p2), .val (.long q3), .second, .val (.int p4), .val (.int p5), .val (.long z0_2), .second, .val (.long z0_5), .second, .val (.double (FP.i2d (p2 &&& (65535 : Int32)))), .second, .val (.double (FP.i2d (p4 >>> ((16 : Int32) &&& 31)))), .second, .val (.double (FP.i2d (p4.toInt16.toInt32))), .second, .val (.int v0_8), .val (.ref b010), .val (.ref b0c12)] [(.int v0_8), (.int (f6 v0_8))]))
        refine stp (fun t k => XS.icmpNo X0c13.here hx rfl (hb hby at_108) rfl ((teq (by subst hz0_2; subst hz0_5; subst hv0_8; exact own_0_108_14 q0 q1 p2 q3 p4 p5  )).2) k) ?_
        show W (T0c13.setTop (mkF m 111 #[.val (.long q0), .second, .val (.long q1), .second, .val (.int p2), .val (.long q3), .second, .val (.int p4), .val (.int p5), .val (.long z0_2), .second, .val (.long z0_5), .second, .val (.double (FP.i2d (p2 &&& (65535 : Int32)))), .second, .val (.double (FP.i2d (p4 >>> ((16 : Int32) &&& 31)))), .second, .val (.double (FP.i2d (p4.toInt16.toInt32))), .second, .val (.int v0_8), .val (.ref b010), .val (.ref b0c12)] []))
        refine stp (fun t k => XS.aload X0c13.here hx rfl (hb hby at_111) rfl rfl k) ?_
        show W (T0c13.setTop (mkF m 113 #[.val (.long q0), .second, .val (.long q1), .second, .val (.int p2), .val (.long q3), .second, .val (.int p4), .val (.int p5), .val (.long z0_2), .second, .val (.long z0_5), .second, .val (.double (FP.i2d (p2 &&& (65535 : Int32)))), .second, .val (.double (FP.i2d (p4 >>> ((16 : Int32) &&& 31)))), .second, .val (.double (FP.i2d (p4.toInt16.toInt32))), .second, .val (.int v0_8), .val (.ref b010), .val (.ref b0c12)] [(.ref b0c12)]))
        obtain ⟨cq0c15, kq0c15, q0c15a, q0c15b, q0c15c⟩ := isOf hZ e0c13 E_b0c12
        obtain ⟨_, _, ⟨T0c15, L0c15, k0c15, n0c15⟩, -, X0c15, ⟨Lc0c15, hQ0c15, l0c15, y0c15, z0c15⟩, st0c15⟩ := X0c13.virtualBack hx (y := (⟨"com/example/astute_scheduler/astutescheduler/model/TraceSampling", "seed", "()J"⟩ : MethodName)) (z := (⟨"com/example/astute_scheduler/astutescheduler/model/TraceSampling", "seed", "()J"⟩ : MethodName)) hown (mvT hZ (hw _ (List.mem_of_getElem? (i := 62) rfl))) (mvT hZ (hw _ (List.mem_of_getElem? (i := 63) rfl))) (notFace_of_selects (args := #[]) (mvT hZ (hw _ (List.mem_of_getElem? (i := 65) rfl)))) (mvT hZ (hw _ (List.mem_of_getElem? (i := 65) rfl))) (mvT hZ (hw _ (List.mem_of_getElem? (i := 64) rfl))) (by decide) (backOf (W := 0) (rm7 l Z aa hw [] b0c12 q3 h0c12 n0 Z0c12 F_seed_b0c12) hZ (hw _ (List.mem_of_getElem? (i := 66) rfl)) (hw _ (List.mem_of_getElem? (i := 29) rfl)) (by decide) (by decide)) q0c15a q0c15c (g := (mkF m 113 #[.val (.long q0), .second, .val (.long q1), .second, .val (.int p2), .val (.long q3), .second, .val (.int p4), .val (.int p5), .val (.long z0_2), .second, .val (.long z0_5), .second, .val (.double (FP.i2d (p2 &&& (65535 : Int32)))), .second, .val (.double (FP.i2d (p4 >>> ((16 : Int32) &&& 31)))), .second, .val (.double (FP.i2d (p4.toInt16.toInt32))), .second, .val (.int v0_8), .val (.ref b010), .val (.ref b0c12)] [(.ref b0c12)])) rfl (by rw [hml]; rfl) (Steps.refl _) (argsL := []) (rest := []) (lenOf pd0_3 rfl) rfl (by show 2 * 0 + _ ≤ _; exact Nat.le_of_eq rfl) (hb hby at_113) (fun _ _ => ⟨rfl, e0c13, (by decide : 3 + 0 ≤ _), (by decide : 11 + 0 ≤ _)⟩)
        dsimp only [Pt.U, Pt.locs, Pt.cells, Pt.slots] at X0c15 l0c15 y0c15 z0c15 st0c15 hQ0c15
        subst l0c15 y0c15 z0c15
        obtain ⟨rfl, N0c15q, e0c15⟩ := hQ0c15
        have N0c15 := Fr.app N0c13 N0c15q
        refine stp (fun t k => st0c15.trans k) ?_
        show W (T0c15.setTop (mkF m 116 #[.val (.long q0), .second, .val (.long q1), .second, .val (.int p2), .val (.long q3), .second, .val (.int p4), .val (.int p5), .val (.long z0_2), .second, .val (.long z0_5), .second, .val (.double (FP.i2d (p2 &&& (65535 : Int32)))), .second, .val (.double (FP.i2d (p4 >>> ((16 : Int32) &&& 31)))), .second, .val (.double (FP.i2d (p4.toInt16.toInt32))), .second, .val (.int v0_8), .val (.ref b010), .val (.ref b0c12)] [(.long (f7 q3))]))
        refine stp (fun t k => XS.lload X0c15.here hx rfl (hb hby at_116) rfl k) ?_
        show W (T0c15.setTop (mkF m 118 #[.val (.long q0), .second, .val (.long q1), .second, .val (.int p2), .val (.long q3), .second, .val (.int p4), .val (.int p5), .val (.long z0_2), .second, .val (.long z0_5), .second, .val (.double (FP.i2d (p2 &&& (65535 : Int32)))), .second, .val (.double (FP.i2d (p4 >>> ((16 : Int32) &&& 31)))), .second, .val (.double (FP.i2d (p4.toInt16.toInt32))), .second, .val (.int v0_8), .val (.ref b010), .val (.ref b0c12)] [(.long q3), (.long (f7 q3))]))
        refine stp (fun t k => XS.lcmp X0c15.here hx rfl (hb hby at_118) rfl k) ?_
        show W (T0c15.setTop (mkF m 119 #[.val (.long q0), .second, .val (.long q1), .second, .val (.int p2), .val (.long q3), .second, .val (.int p4), .val (.int p5), .val (.long z0_2), .second, .val (.long z0_5), .second, .val (.double (FP.i2d (p2 &&& (65535 : Int32)))), .second, .val (.double (FP.i2d (p4 >>> ((16 : Int32) &&& 31)))), .second, .val (.double (FP.i2d (p4.toInt16.toInt32))), .second, .val (.int v0_8), .val (.ref b010), .val (.ref b0c12)] [(.int (lcmpW (f7 q3) q3))]))
        refine stp (fun t k => XS.ifNo X0c15.here hx rfl (hb hby at_119) rfl ((if0 _ _).trans (teq ((lw_eq (f7 q3) q3).mpr (by subst hz0_2; subst hz0_5; subst hv0_8; exact own_0_119_16 q0 q1 p2 q3 p4 p5  ))).2) k) ?_
        show W (T0c15.setTop (mkF m 122 #[.val (.long q0), .second, .val (.long q1), .second, .val (.int p2), .val (.long q3), .second, .val (.int p4), .val (.int p5), .val (.long z0_2), .second, .val (.long z0_5), .second, .val (.double (FP.i2d (p2 &&& (65535 : Int32)))), .second, .val (.double (FP.i2d (p4 >>> ((16 : Int32) &&& 31)))), .second, .val (.double (FP.i2d (p4.toInt16.toInt32))), .second, .val (.int v0_8), .val (.ref b010), .val (.ref b0c12)] []))
        refine stp (fun t k => XS.iconst X0c15.here hx rfl (hb hby at_122) k) ?_
        show W (T0c15.setTop (mkF m 123 #[.val (.long q0), .second, .val (.long q1), .second, .val (.int p2), .val (.long q3), .second, .val (.int p4), .val (.int p5), .val (.long z0_2), .second, .val (.long z0_5), .second, .val (.double (FP.i2d (p2 &&& (65535 : Int32)))), .second, .val (.double (FP.i2d (p4 >>> ((16 : Int32) &&& 31)))), .second, .val (.double (FP.i2d (p4.toInt16.toInt32))), .second, .val (.int v0_8), .val (.ref b010), .val (.ref b0c12)] [(.int (1 : Int32))]))
        refine stp (fun t k => XS.goto X0c15.here hx rfl (pc0 := 123) (pc' := 127) rfl (hb hby at_123) (by decide) (by decide) k) ?_
        show W (T0c15.setTop (mkF m 127 #[.val (.long q0), .second, .val (.long q1), .second, .val (.int p2), .val (.long q3), .second, .val (.int p4), .val (.int p5), .val (.long z0_2), .second, .val (.long z0_5), .second, .val (.double (FP.i2d (p2 &&& (65535 : Int32)))), .second, .val (.double (FP.i2d (p4 >>> ((16 : Int32) &&& 31)))), .second, .val (.double (FP.i2d (p4.toInt16.toInt32))), .second, .val (.int v0_8), .val (.ref b010), .val (.ref b0c12)] [(.int (1 : Int32))]))
        show W (T0c15.setTop (mkF m 127 #[.val (.long q0), .second, .val (.long q1), .second, .val (.int p2), .val (.long q3), .second, .val (.int p4), .val (.int p5), .val (.long z0_2), .second, .val (.long z0_5), .second, .val (.double (FP.i2d (p2 &&& (65535 : Int32)))), .second, .val (.double (FP.i2d (p4 >>> ((16 : Int32) &&& 31)))), .second, .val (.double (FP.i2d (p4.toInt16.toInt32))), .second, .val (.int v0_8), .val (.ref b010), .val (.ref b0c12)] [(.int (1 : Int32))]))
        rw [← hW]
        exact own_retN X0c15 hx Bd.notSynchronized Bd.returns (w := (1 : Int32)) (by simp) (hb hby at_127) rfl (by show Q0 Z q0 q1 p2 q3 p4 p5 h0 n0 _ T0c15.heap _; rw [e0c15]; exact ⟨rfl, N0c15⟩) (by decide) (by decide)
      by_cases hc0_7 : (p5 &&& (2147483647 : Int32)) = (0 : Int32)
      · refine stp (fun t k => XS.ifNo X06.here hx rfl (hb hby at_65) rfl ((if0 _ _).trans (teq hc0_7).2) k) ?_
        show W (T06.setTop (mkF m 68 #[.val (.long q0), .second, .val (.long q1), .second, .val (.int p2), .val (.long q3), .second, .val (.int p4), .val (.int p5), .val (.long z0_2), .second, .val (.long z0_5), .second, .val (.double (FP.i2d (p2 &&& (65535 : Int32)))), .second, .val (.double (FP.i2d (p4 >>> ((16 : Int32) &&& 31)))), .second, .val (.double (FP.i2d (p4.toInt16.toInt32))), .second, .val (.int (p5 &&& (2147483647 : Int32))), .unset, .unset] []))
        refine stp (fun t k => XS.iconst X06.here hx rfl (hb hby at_68) k) ?_
        show W (T06.setTop (mkF m 69 #[.val (.long q0), .second, .val (.long q1), .second, .val (.int p2), .val (.long q3), .second, .val (.int p4), .val (.int p5), .val (.long z0_2), .second, .val (.long z0_5), .second, .val (.double (FP.i2d (p2 &&& (65535 : Int32)))), .second, .val (.double (FP.i2d (p4 >>> ((16 : Int32) &&& 31)))), .second, .val (.double (FP.i2d (p4.toInt16.toInt32))), .second, .val (.int (p5 &&& (2147483647 : Int32))), .unset, .unset] [(.int (1 : Int32))]))
        refine stp (fun t k => XS.istore X06.here hx rfl (hb hby at_69) rfl (l' := #[.val (.long q0), .second, .val (.long q1), .second, .val (.int p2), .val (.long q3), .second, .val (.int p4), .val (.int p5), .val (.long z0_2), .second, .val (.long z0_5), .second, .val (.double (FP.i2d (p2 &&& (65535 : Int32)))), .second, .val (.double (FP.i2d (p4 >>> ((16 : Int32) &&& 31)))), .second, .val (.double (FP.i2d (p4.toInt16.toInt32))), .second, .val (.int (1 : Int32)), .unset, .unset]) rfl k) ?_
        show W (T06.setTop (mkF m 71 #[.val (.long q0), .second, .val (.long q1), .second, .val (.int p2), .val (.long q3), .second, .val (.int p4), .val (.int p5), .val (.long z0_2), .second, .val (.long z0_5), .second, .val (.double (FP.i2d (p2 &&& (65535 : Int32)))), .second, .val (.double (FP.i2d (p4 >>> ((16 : Int32) &&& 31)))), .second, .val (.double (FP.i2d (p4.toInt16.toInt32))), .second, .val (.int (1 : Int32)), .unset, .unset] []))
        exact J0_71_9 _ _ (1 : Int32) (by first | rfl | simp only [if_pos hc0_7]) X06 e06 N06
      · refine stp (fun t k => XS.ifYes X06.here hx rfl (pc0 := 65) (pc' := 71) rfl (hb hby at_65) rfl ((if0 _ _).trans (feq hc0_7).2) (by decide) (by decide) k) ?_
        show W (T06.setTop (mkF m 71 #[.val (.long q0), .second, .val (.long q1), .second, .val (.int p2), .val (.long q3), .second, .val (.int p4), .val (.int p5), .val (.long z0_2), .second, .val (.long z0_5), .second, .val (.double (FP.i2d (p2 &&& (65535 : Int32)))), .second, .val (.double (FP.i2d (p4 >>> ((16 : Int32) &&& 31)))), .second, .val (.double (FP.i2d (p4.toInt16.toInt32))), .second, .val (.int (p5 &&& (2147483647 : Int32))), .unset, .unset] []))
        exact J0_71_9 _ _ (p5 &&& (2147483647 : Int32)) (by first | rfl | simp only [if_neg hc0_7]) X06 e06 N06
    by_cases hc0_4 : (q1 &&& (9223372036854775807 : Int64)) = (0 : Int64)
    · refine stp (fun t k => XS.ifNo X03.here hx rfl (hb hby at_28) rfl ((if0 _ _).trans (teq ((lw_eq (q1 &&& (9223372036854775807 : Int64)) (0 : Int64)).mpr hc0_4)).2) k) ?_
      show W (T03.setTop (mkF m 31 #[.val (.long q0), .second, .val (.long q1), .second, .val (.int p2), .val (.long q3), .second, .val (.int p4), .val (.int p5), .val (.long z0_2), .second, .val (.long (q1 &&& (9223372036854775807 : Int64))), .second, .unset, .unset, .unset, .unset, .unset, .unset, .unset, .unset, .unset] []))
      refine stp (fun t k => XS.lconst X03.here hx rfl (hb hby at_31) k) ?_
      show W (T03.setTop (mkF m 32 #[.val (.long q0), .second, .val (.long q1), .second, .val (.int p2), .val (.long q3), .second, .val (.int p4), .val (.int p5), .val (.long z0_2), .second, .val (.long (q1 &&& (9223372036854775807 : Int64))), .second, .unset, .unset, .unset, .unset, .unset, .unset, .unset, .unset, .unset] [(.long (1 : Int64))]))
      refine stp (fun t k => XS.lstore X03.here hx rfl (hb hby at_32) rfl (l' := #[.val (.long q0), .second, .val (.long q1), .second, .val (.int p2), .val (.long q3), .second, .val (.int p4), .val (.int p5), .val (.long z0_2), .second, .val (.long (1 : Int64)), .second, .unset, .unset, .unset, .unset, .unset, .unset, .unset, .unset, .unset]) rfl k) ?_
      show W (T03.setTop (mkF m 34 #[.val (.long q0), .second, .val (.long q1), .second, .val (.int p2), .val (.long q3), .second, .val (.int p4), .val (.int p5), .val (.long z0_2), .second, .val (.long (1 : Int64)), .second, .unset, .unset, .unset, .unset, .unset, .unset, .unset, .unset, .unset] []))
      exact J0_34_6 _ _ (1 : Int64) (by first | rfl | simp only [if_pos hc0_4]) X03 e03 N03
    · refine stp (fun t k => XS.ifYes X03.here hx rfl (pc0 := 28) (pc' := 34) rfl (hb hby at_28) rfl ((if0 _ _).trans (feq (fun q => hc0_4 ((lw_eq (q1 &&& (9223372036854775807 : Int64)) (0 : Int64)).mp q))).2) (by decide) (by decide) k) ?_
      show W (T03.setTop (mkF m 34 #[.val (.long q0), .second, .val (.long q1), .second, .val (.int p2), .val (.long q3), .second, .val (.int p4), .val (.int p5), .val (.long z0_2), .second, .val (.long (q1 &&& (9223372036854775807 : Int64))), .second, .unset, .unset, .unset, .unset, .unset, .unset, .unset, .unset, .unset] []))
      exact J0_34_6 _ _ (q1 &&& (9223372036854775807 : Int64)) (by first | rfl | simp only [if_neg hc0_4]) X03 e03 N03
  by_cases hc0_1 : (q0 &&& (9223372036854775807 : Int64)) = (0 : Int64)
  · refine stp (fun t k => XS.ifNo X0.here hx rfl (hb hby at_11) rfl ((if0 _ _).trans (teq ((lw_eq (q0 &&& (9223372036854775807 : Int64)) (0 : Int64)).mpr hc0_1)).2) k) ?_
    show W (s₁.setTop (mkF m 14 #[.val (.long q0), .second, .val (.long q1), .second, .val (.int p2), .val (.long q3), .second, .val (.int p4), .val (.int p5), .val (.long (q0 &&& (9223372036854775807 : Int64))), .second, .unset, .unset, .unset, .unset, .unset, .unset, .unset, .unset, .unset, .unset, .unset] []))
    refine stp (fun t k => XS.lconst X0.here hx rfl (hb hby at_14) k) ?_
    show W (s₁.setTop (mkF m 15 #[.val (.long q0), .second, .val (.long q1), .second, .val (.int p2), .val (.long q3), .second, .val (.int p4), .val (.int p5), .val (.long (q0 &&& (9223372036854775807 : Int64))), .second, .unset, .unset, .unset, .unset, .unset, .unset, .unset, .unset, .unset, .unset, .unset] [(.long (1 : Int64))]))
    refine stp (fun t k => XS.lstore X0.here hx rfl (hb hby at_15) rfl (l' := #[.val (.long q0), .second, .val (.long q1), .second, .val (.int p2), .val (.long q3), .second, .val (.int p4), .val (.int p5), .val (.long (1 : Int64)), .second, .unset, .unset, .unset, .unset, .unset, .unset, .unset, .unset, .unset, .unset, .unset]) rfl k) ?_
    show W (s₁.setTop (mkF m 17 #[.val (.long q0), .second, .val (.long q1), .second, .val (.int p2), .val (.long q3), .second, .val (.int p4), .val (.int p5), .val (.long (1 : Int64)), .second, .unset, .unset, .unset, .unset, .unset, .unset, .unset, .unset, .unset, .unset, .unset] []))
    exact J0_17_3 _ _ (1 : Int64) (by first | rfl | simp only [if_pos hc0_1]) X0 e0 N0
  · refine stp (fun t k => XS.ifYes X0.here hx rfl (pc0 := 11) (pc' := 17) rfl (hb hby at_11) rfl ((if0 _ _).trans (feq (fun q => hc0_1 ((lw_eq (q0 &&& (9223372036854775807 : Int64)) (0 : Int64)).mp q))).2) (by decide) (by decide) k) ?_
    show W (s₁.setTop (mkF m 17 #[.val (.long q0), .second, .val (.long q1), .second, .val (.int p2), .val (.long q3), .second, .val (.int p4), .val (.int p5), .val (.long (q0 &&& (9223372036854775807 : Int64))), .second, .unset, .unset, .unset, .unset, .unset, .unset, .unset, .unset, .unset, .unset, .unset] []))
    exact J0_17_3 _ _ (q0 &&& (9223372036854775807 : Int64)) (by first | rfl | simp only [if_neg hc0_1]) X0 e0 N0
set_option maxRecDepth 65536 in
set_option maxHeartbeats 40000000 in
theorem comes_1 {Post : Tables → Env → Array Value → State → Outcome → State → Prop} (hpost : ∀ tb e args s v u, (limb_1_1.after args s (.returned v) u = true ∧ limb_1_2.after args s (.returned v) u = true ∧ True) → FrameEnd s (.returned v) u (Jvm.fieldLocs frame_1_writes args s ++ Jvm.arrayLocs frame_1_arrays args s ++ Jvm.staticLocs frame_1_statics s) 16 128 → Post tb e args s (.returned v) u) :
    ArmFor flags0 classFile x code maxLocals ret World_1 tables_1 room_1 Calls_1 rest_1 Pre_1 Post := by
  intro l hfl _ _ p e ha hc hk s m args below hf hA hF happ hP
  obtain ⟨hcalls, hrest, hpre⟩ := hP
  obtain ⟨-, -, -, hnamed, -, -, -, hat⟩ := (Spec.applies_iff hf).mp happ
  obtain ⟨hg, hn⟩ := and_e (Cond.before_iff.mp (show (Jvm.Cond.and given_1 narrow_1).before args s = true from hpre))
  obtain ⟨gc, hg⟩ := and_e hg
  obtain ⟨g0, hg⟩ := and_e hg
  obtain ⟨g1, hg⟩ := and_e hg
  obtain ⟨g2, hg⟩ := and_e hg
  obtain ⟨g3, hg⟩ := and_e hg
  obtain ⟨g4, hg⟩ := and_e hg
  have g5 := hg
  obtain ⟨w0, w1, w2, w3, w4, w5, rfl⟩ : ∃ w0 w1 w2 w3 w4 w5 : Value, args = #[w0, w1, w2, w3, w4, w5] := by
    have hs : args.size = 6 := by simpa [Cond.value, given_1] using gc
    obtain ⟨L⟩ := args
    match L, hs with
    | [w0, w1, w2, w3, w4, w5], _ => exact ⟨w0, w1, w2, w3, w4, w5, rfl⟩
  have hw := fun d (hd : d ∈ tables_1) => atoms_spec (ws := Jvm.Cond.code x code maxLocals ret :: tables_1) hat d (List.mem_cons_of_mem _ hd)
  have hfit : Fit s := fun {y c} hc i hi => by
    obtain ⟨ha, rfl⟩ := Array.getElem?_eq_some_iff.mp hc
    have q := List.all_eq_true.mp ((Array.all_eq_true_iff_forall_mem.mp hF) _ (Array.getElem_mem ha)) i (List.mem_range.mpr hi)
    simpa [Array.getElem?_eq_getElem hi] using q
  obtain ⟨i0, ei0⟩ := isL_v g0
  obtain rfl : w0 = (.long i0) := Option.some.inj ei0
  obtain ⟨i1, ei1⟩ := isL_v g1
  obtain rfl : w1 = (.long i1) := Option.some.inj ei1
  obtain ⟨i2, ei2⟩ := is_v g2
  obtain rfl : w2 = (.int i2) := Option.some.inj ei2
  obtain ⟨i3, ei3⟩ := isL_v g3
  obtain rfl : w3 = (.long i3) := Option.some.inj ei3
  obtain ⟨i4, ei4⟩ := is_v g4
  obtain rfl : w4 = (.int i4) := Option.some.inj ei4
  obtain ⟨i5, ei5⟩ := is_v g5
  obtain rfl : w5 = (.int i5) := Option.some.inj ei5
  obtain ⟨n, o, h1, h2, h3, _, L, rfl, ⟨rfl, N⟩, hq⟩ := rm0 l s _ hw tables_1 i0 i1 i2 i3 i4 i5 s.heap s.heap.size (Nat.le_refl _) p e ha hc hk s m _ below hf ((Spec.applies_iff_loose hf).mp happ).1 ⟨rfl, State.Warmed39.refl s, rfl⟩ trivial
  refine ⟨n, _, h1, h2, h3, hpost _ _ _ _ _ _ ⟨Cond.after_iff.mpr rfl, Cond.after_iff.mpr (eq_i res_at (Term.int_eval (1)) rfl), trivial⟩ ⟨hq.1, hq.2.1, (hq.2.2.sift fun y hy => Or.inr (N y hy)).mono (by decide) (by decide)⟩⟩
theorem main_1_1 : Claimed_1_1 := comes_1 fun _ _ _ _ _ _ h hF => ⟨h.1, hF⟩
theorem main_1_2 : Claimed_1_2 := comes_1 fun _ _ _ _ _ _ h hF => ⟨h.2.1, hF⟩
end Jvm.Pilot.@@N@@
namespace Jvm.Pilot.@@N@@
open Jvm Jvm.ClassFile Sem Op Lib Jvm.Free Jvm.Stand Jvm.Pilot.@@N@@.Jvm.D
/-! MADE BY PROGRAM (witnessworld.py) out of the Statement's table words and the real class files: 17 classes; the members and pool entries that the words name. The judged class is class 1, her method 1. -/
namespace start1
open Jvm.ClassFile
def u (s : String) : CpInfo := .utf8 (stringToUtf16 s)
/-- a pool by its gaps: so many unusable entries, then the entry; so many at the end -/
def gap : Nat → List CpInfo → List CpInfo
  | 0, r => r
  | n + 1, r => .unusable :: gap n r
def poolList (es : List (Nat × CpInfo)) (last : Nat) : List CpInfo := es.foldr (fun e r => gap e.1 (e.2 :: r)) (gap last [])
def pool (es : List (Nat × CpInfo)) (last : Nat) : Array CpInfo := ⟨poolList es last⟩
def fileOf (pool : Array CpInfo) (this : Nat) (attrs : Array Attribute := #[]) (ms : Array MethodInfo := #[]) (fl : Nat := 33) (sup : Nat := 0) (ifs : Array Nat := #[]) (fds : Array FieldInfo := #[]) : ClassFile where
  minorVersion := 0
  majorVersion := 65
  constantPool := pool
  accessFlags := fl
  thisClass := this
  superClass := sup
  interfaces := ifs
  fields := fds
  methods := ms
  attributes := attrs
def plain (name : String) (sup : Option ClassId) : Class where
  name := name
  kind := .ordinary
  loader := none
  accessFlags := 33
  super := sup
  interfaces := #[]
  cf := none
  fields := #[]
  methods := #[]
  instanceTypes := #[]
  staticTypes := #[]
  resolved := #[]
  callSites := []
  init := .initialized
  statics := none
  mirror := none

def pool0 : Array CpInfo := pool [(5, u "<init>"), (0, u "()V"), (1, .class_ 10), (1, u "java/lang/Object")] 113

def k0c0 : Code := { maxStack := 0, maxLocals := 1, code := object_method_1_code, exceptionTable := #[], attributes := #[] }
def k0m0 : Method := { name := "<init>", desc := "()V", sig := { parameters := [], returnType := none }, accessFlags := 1, code := some k0c0 }
/-- java/lang/Object -/
def k0 : Class := { plain "java/lang/Object" none with
  accessFlags := 33
  interfaces := #[]
  cf := some (fileOf pool0 8 #[] #[{ accessFlags := 1, nameIndex := 5, descriptorIndex := 6, attributes := #[] }] 33 0 #[] #[])
  fields := #[]
  methods := #[k0m0]
  instanceTypes := #[]
  staticTypes := #[]
  resolved := Array.replicate 124 none
  statics := none }

def pool1 : Array CpInfo := pool [(2, .class_ 4), (1, u "java/lang/Object"), (0, u "<init>"), (0, u "()V"), (2, .long 9223372036854775807), (1, .integer 65535), (0, .integer 2147483647), (0, .class_ 14), (0, u "com/example/astute_scheduler/astutescheduler/core/SchedulerOptions"), (0, .methodref 13 16), (0, .nameAndType 5 17), (0, u "(JJDJDDI)V"), (0, .methodref 13 19), (0, .nameAndType 20 21), (0, u "sampling"), (0, u "()Lcom/example/astute_scheduler/astutescheduler/model/TraceSampling;"), (0, .methodref 23 24), (0, .class_ 25), (0, .nameAndType 26 27), (0, u "com/example/astute_scheduler/astutescheduler/model/TraceSampling"), (0, u "traces"), (0, u "()I"), (0, .methodref 23 29), (0, .nameAndType 30 31), (0, u "seed"), (0, u "()J"), (0, .class_ 33), (0, u "com/example/astute_scheduler/astutescheduler/core/SchedulerOptionsSamplingPinLaw"), (2, u "law"), (0, u "(JJIJII)Z")] 3

def k1m0 : Method := { name := "<init>", desc := "()V", sig := { parameters := [], returnType := none }, accessFlags := 2, code := none }
def k1c1 : Code := { maxStack := 15, maxLocals := 22, code := code, exceptionTable := #[], attributes := #[] }
def k1m1 : Method := { name := "law", desc := "(JJIJII)Z", sig := { parameters := [.long, .long, .int, .long, .int, .int], returnType := some .boolean }, accessFlags := 9, code := some k1c1 }
/-- com/example/astute_scheduler/astutescheduler/core/SchedulerOptionsSamplingPinLaw -/
def k1 : Class := { plain "com/example/astute_scheduler/astutescheduler/core/SchedulerOptionsSamplingPinLaw" (some 0) with
  accessFlags := 49
  interfaces := #[]
  cf := some (fileOf pool1 32 #[] #[{ accessFlags := 2, nameIndex := 5, descriptorIndex := 6, attributes := #[] }, { accessFlags := 9, nameIndex := 36, descriptorIndex := 37, attributes := #[] }] 49 2 #[] #[])
  fields := #[]
  methods := #[k1m0, k1m1]
  instanceTypes := #[]
  staticTypes := #[]
  resolved := Array.replicate 41 none
  statics := none }

def pool2 : Array CpInfo := pool [(1, .methodref 2 3), (0, .class_ 4), (0, .nameAndType 5 6), (0, u "java/lang/Object"), (0, u "<init>"), (0, u "()V"), (0, .class_ 8), (0, u "java/lang/Record")] 13

def k2c0 : Code := { maxStack := 1, maxLocals := 1, code := jdk_30_method_1_code, exceptionTable := #[], attributes := #[] }
def k2m0 : Method := { name := "<init>", desc := "()V", sig := { parameters := [], returnType := none }, accessFlags := 4, code := some k2c0 }
/-- java/lang/Record -/
def k2 : Class := { plain "java/lang/Record" (some 0) with
  accessFlags := 1057
  interfaces := #[]
  cf := some (fileOf pool2 7 #[] #[{ accessFlags := 4, nameIndex := 5, descriptorIndex := 6, attributes := #[] }] 1057 2 #[] #[])
  fields := #[]
  methods := #[k2m0]
  instanceTypes := #[]
  staticTypes := #[]
  resolved := Array.replicate 22 none
  statics := none }

def pool3 : Array CpInfo := pool [(1, .methodref 2 3), (0, .class_ 4), (0, .nameAndType 5 6), (0, u "java/lang/Record"), (0, u "<init>"), (0, u "()V"), (10, .class_ 18), (0, u "java/lang/Double"), (0, .double 9218868437227405312), (4, .methodref 17 25), (0, .nameAndType 26 27), (0, u "isFinite"), (0, u "(D)Z"), (2, .class_ 31), (0, u "com/example/astute_scheduler/astutescheduler/model/TraceSampling"), (0, .methodref 30 33), (0, .nameAndType 5 34), (0, u "(IJ)V"), (0, .fieldref 36 37), (0, .class_ 38), (0, .nameAndType 39 40), (0, u "com/example/astute_scheduler/astutescheduler/core/SchedulerOptions"), (0, u "alpha"), (0, u "J"), (0, .fieldref 36 42), (0, .nameAndType 43 40), (0, u "beta"), (0, .fieldref 36 45), (0, .nameAndType 46 47), (0, u "c"), (0, u "D"), (0, .fieldref 36 49), (0, .nameAndType 50 40), (0, u "seed"), (0, .fieldref 36 52), (0, .nameAndType 53 47), (0, u "gamma"), (0, .fieldref 36 55), (0, .nameAndType 56 47), (0, u "delta"), (0, .fieldref 36 58), (0, .nameAndType 59 60), (0, u "traces"), (0, u "I"), (6, u "DEFAULTS"), (6, u "(JJDJDDI)V"), (23, u "Lcom/example/astute_scheduler/astutescheduler/core/SchedulerOptions;"), (4, u "sampling"), (0, u "()Lcom/example/astute_scheduler/astutescheduler/model/TraceSampling;")] 47

def k3c0 : Code := { maxStack := 5, maxLocals := 14, code := prog_30_method_1_code, exceptionTable := #[], attributes := #[] }
def k3m0 : Method := { name := "<init>", desc := "(JJDJDDI)V", sig := { parameters := [.long, .long, .double, .long, .double, .double, .int], returnType := none }, accessFlags := 1, code := some k3c0 }
def k3c1 : Code := { maxStack := 5, maxLocals := 1, code := prog_30_method_3_code, exceptionTable := #[], attributes := #[] }
def k3m1 : Method := { name := "sampling", desc := "()Lcom/example/astute_scheduler/astutescheduler/model/TraceSampling;", sig := { parameters := [], returnType := some (.object "com/example/astute_scheduler/astutescheduler/model/TraceSampling") }, accessFlags := 1, code := some k3c1 }
/-- com/example/astute_scheduler/astutescheduler/core/SchedulerOptions -/
def k3 : Class := { plain "com/example/astute_scheduler/astutescheduler/core/SchedulerOptions" (some 2) with
  accessFlags := 49
  interfaces := #[]
  cf := some (fileOf pool3 36 #[] #[{ accessFlags := 1, nameIndex := 5, descriptorIndex := 74, attributes := #[] }, { accessFlags := 1, nameIndex := 103, descriptorIndex := 104, attributes := #[] }] 49 2 #[] #[{ accessFlags := 18, nameIndex := 39, descriptorIndex := 40, attributes := #[] }, { accessFlags := 18, nameIndex := 43, descriptorIndex := 40, attributes := #[] }, { accessFlags := 18, nameIndex := 46, descriptorIndex := 47, attributes := #[] }, { accessFlags := 18, nameIndex := 50, descriptorIndex := 40, attributes := #[] }, { accessFlags := 18, nameIndex := 53, descriptorIndex := 47, attributes := #[] }, { accessFlags := 18, nameIndex := 56, descriptorIndex := 47, attributes := #[] }, { accessFlags := 18, nameIndex := 59, descriptorIndex := 60, attributes := #[] }, { accessFlags := 25, nameIndex := 67, descriptorIndex := 98, attributes := #[] }])
  fields := #[{ name := "alpha", type := .long, accessFlags := 18, slot := 0, constantValue := 0 }, { name := "beta", type := .long, accessFlags := 18, slot := 1, constantValue := 0 }, { name := "c", type := .double, accessFlags := 18, slot := 2, constantValue := 0 }, { name := "seed", type := .long, accessFlags := 18, slot := 3, constantValue := 0 }, { name := "gamma", type := .double, accessFlags := 18, slot := 4, constantValue := 0 }, { name := "delta", type := .double, accessFlags := 18, slot := 5, constantValue := 0 }, { name := "traces", type := .int, accessFlags := 18, slot := 6, constantValue := 0 }, { name := "DEFAULTS", type := (.object "com/example/astute_scheduler/astutescheduler/core/SchedulerOptions"), accessFlags := 25, slot := 0, constantValue := 0 }]
  methods := #[k3m0, k3m1]
  instanceTypes := #[.long, .long, .double, .long, .double, .double, .int]
  staticTypes := #[(.object "com/example/astute_scheduler/astutescheduler/core/SchedulerOptions")]
  resolved := Array.replicate 152 none
  statics := none }

def pool4 : Array CpInfo := pool [(1, .class_ 2), (0, u "java/io/Serializable"), (0, .class_ 4), (0, u "java/lang/Object")] 2

/-- java/io/Serializable -/
def k4 : Class := { plain "java/io/Serializable" (some 0) with
  accessFlags := 1537
  interfaces := #[]
  cf := some (fileOf pool4 1 #[] #[] 1537 3 #[] #[])
  fields := #[]
  methods := #[]
  instanceTypes := #[]
  staticTypes := #[]
  resolved := Array.replicate 7 none
  statics := none }

def pool5 : Array CpInfo := pool [(2, .class_ 4), (1, u "java/lang/Object"), (0, u "<init>"), (0, u "()V"), (1, .class_ 10), (1, u "java/lang/Number"), (2, .class_ 14), (0, u "java/io/Serializable"), (0, u "serialVersionUID"), (0, u "J")] 20

def k5m0 : Method := { name := "<init>", desc := "()V", sig := { parameters := [], returnType := none }, accessFlags := 1, code := none }
/-- java/lang/Number -/
def k5 : Class := { plain "java/lang/Number" (some 0) with
  accessFlags := 1057
  interfaces := #[4]
  cf := some (fileOf pool5 8 #[] #[{ accessFlags := 1, nameIndex := 5, descriptorIndex := 6, attributes := #[] }] 1057 2 #[13] #[{ accessFlags := 26, nameIndex := 15, descriptorIndex := 16, attributes := #[] }])
  fields := #[{ name := "serialVersionUID", type := .long, accessFlags := 26, slot := 0, constantValue := 0 }]
  methods := #[k5m0]
  instanceTypes := #[]
  staticTypes := #[.long]
  resolved := Array.replicate 37 none
  statics := none }

def pool6 : Array CpInfo := pool [(1, .class_ 2), (0, u "java/lang/Comparable"), (0, .class_ 4), (0, u "java/lang/Object")] 7

/-- java/lang/Comparable -/
def k6 : Class := { plain "java/lang/Comparable" (some 0) with
  accessFlags := 1537
  interfaces := #[]
  cf := some (fileOf pool6 1 #[] #[] 1537 3 #[] #[])
  fields := #[]
  methods := #[]
  instanceTypes := #[]
  staticTypes := #[]
  resolved := Array.replicate 12 none
  statics := none }

def pool7 : Array CpInfo := pool [(1, .class_ 2), (0, u "java/lang/constant/Constable"), (0, .class_ 4), (0, u "java/lang/Object")] 6

/-- java/lang/constant/Constable -/
def k7 : Class := { plain "java/lang/constant/Constable" (some 0) with
  accessFlags := 1537
  interfaces := #[]
  cf := some (fileOf pool7 1 #[] #[] 1537 3 #[] #[])
  fields := #[]
  methods := #[]
  instanceTypes := #[]
  staticTypes := #[]
  resolved := Array.replicate 11 none
  statics := none }

def pool8 : Array CpInfo := pool [(1, .class_ 2), (0, u "java/lang/constant/ConstantDesc"), (0, .class_ 4), (0, u "java/lang/Object")] 32

/-- java/lang/constant/ConstantDesc -/
def k8 : Class := { plain "java/lang/constant/ConstantDesc" (some 0) with
  accessFlags := 1537
  interfaces := #[]
  cf := some (fileOf pool8 1 #[] #[] 1537 3 #[] #[])
  fields := #[]
  methods := #[]
  instanceTypes := #[]
  staticTypes := #[]
  resolved := Array.replicate 37 none
  statics := none }

def pool9 : Array CpInfo := pool [(1, .class_ 2), (0, u "java/lang/Double"), (10, u "isFinite"), (0, u "(D)Z"), (8, .class_ 25), (1, u "java/lang/Math"), (12, .methodref 23 39), (0, .nameAndType 40 41), (0, u "abs"), (0, u "(D)D"), (69, .double 9218868437227405311), (2, .class_ 116), (1, u "java/lang/Number"), (3, u "value"), (0, u "D"), (51, u "TYPE"), (0, u "Ljava/lang/Class;"), (0, .class_ 176), (0, u "java/lang/Comparable"), (0, .class_ 178), (0, u "java/lang/constant/Constable"), (0, .class_ 180), (0, u "java/lang/constant/ConstantDesc"), (0, u "POSITIVE_INFINITY"), (3, u "NEGATIVE_INFINITY"), (2, u "NaN"), (2, u "MAX_VALUE"), (0, u "MIN_NORMAL"), (0, u "MIN_VALUE"), (2, u "SIZE"), (0, u "I"), (1, u "PRECISION"), (1, u "MAX_EXPONENT"), (1, u "MIN_EXPONENT"), (1, u "BYTES"), (3, u "serialVersionUID"), (0, u "J")] 79

def k9c0 : Code := { maxStack := 4, maxLocals := 2, code := jdk_117_method_8_code, exceptionTable := #[], attributes := #[] }
def k9m0 : Method := { name := "isFinite", desc := "(D)Z", sig := { parameters := [.double], returnType := some .boolean }, accessFlags := 9, code := some k9c0 }
/-- java/lang/Double -/
def k9 : Class := { plain "java/lang/Double" (some 5) with
  accessFlags := 49
  interfaces := #[6, 7, 8]
  cf := some (fileOf pool9 1 #[] #[{ accessFlags := 9, nameIndex := 13, descriptorIndex := 14, attributes := #[] }] 49 114 #[175, 177, 179] #[{ accessFlags := 25, nameIndex := 181, descriptorIndex := 121, attributes := #[] }, { accessFlags := 25, nameIndex := 185, descriptorIndex := 121, attributes := #[] }, { accessFlags := 25, nameIndex := 188, descriptorIndex := 121, attributes := #[] }, { accessFlags := 25, nameIndex := 191, descriptorIndex := 121, attributes := #[] }, { accessFlags := 25, nameIndex := 192, descriptorIndex := 121, attributes := #[] }, { accessFlags := 25, nameIndex := 193, descriptorIndex := 121, attributes := #[] }, { accessFlags := 25, nameIndex := 196, descriptorIndex := 197, attributes := #[] }, { accessFlags := 25, nameIndex := 199, descriptorIndex := 197, attributes := #[] }, { accessFlags := 25, nameIndex := 201, descriptorIndex := 197, attributes := #[] }, { accessFlags := 25, nameIndex := 203, descriptorIndex := 197, attributes := #[] }, { accessFlags := 25, nameIndex := 205, descriptorIndex := 197, attributes := #[] }, { accessFlags := 25, nameIndex := 173, descriptorIndex := 174, attributes := #[] }, { accessFlags := 18, nameIndex := 120, descriptorIndex := 121, attributes := #[] }, { accessFlags := 26, nameIndex := 209, descriptorIndex := 210, attributes := #[] }])
  fields := #[{ name := "POSITIVE_INFINITY", type := .double, accessFlags := 25, slot := 0, constantValue := 0 }, { name := "NEGATIVE_INFINITY", type := .double, accessFlags := 25, slot := 1, constantValue := 0 }, { name := "NaN", type := .double, accessFlags := 25, slot := 2, constantValue := 0 }, { name := "MAX_VALUE", type := .double, accessFlags := 25, slot := 3, constantValue := 0 }, { name := "MIN_NORMAL", type := .double, accessFlags := 25, slot := 4, constantValue := 0 }, { name := "MIN_VALUE", type := .double, accessFlags := 25, slot := 5, constantValue := 0 }, { name := "SIZE", type := .int, accessFlags := 25, slot := 6, constantValue := 0 }, { name := "PRECISION", type := .int, accessFlags := 25, slot := 7, constantValue := 0 }, { name := "MAX_EXPONENT", type := .int, accessFlags := 25, slot := 8, constantValue := 0 }, { name := "MIN_EXPONENT", type := .int, accessFlags := 25, slot := 9, constantValue := 0 }, { name := "BYTES", type := .int, accessFlags := 25, slot := 10, constantValue := 0 }, { name := "TYPE", type := (.object "java/lang/Class"), accessFlags := 25, slot := 11, constantValue := 0 }, { name := "value", type := .double, accessFlags := 18, slot := 0, constantValue := 0 }, { name := "serialVersionUID", type := .long, accessFlags := 26, slot := 12, constantValue := 0 }]
  methods := #[k9m0]
  instanceTypes := #[.double]
  staticTypes := #[.double, .double, .double, .double, .double, .double, .int, .int, .int, .int, .int, (.object "java/lang/Class"), .long]
  resolved := Array.replicate 290 none
  statics := none }

def pool10 : Array CpInfo := pool [(1, .class_ 2), (0, u "java/lang/Math"), (1, .class_ 6), (1, u "java/lang/Object"), (0, u "<init>"), (0, u "()V"), (5, u "(D)D"), (83, .class_ 100), (1, u "java/lang/Math$RandomNumberGeneratorHolder"), (23, u "abs"), (47, u "negativeZeroFloatBits"), (0, u "J"), (2, u "negativeZeroDoubleBits"), (68, u "$assertionsDisabled"), (0, u "Z"), (91, u "twoToTheDoubleScaleDown"), (0, u "D"), (4, u "twoToTheDoubleScaleUp"), (9, u "E"), (3, u "PI"), (2, u "TAU"), (2, u "DEGREES_TO_RADIANS"), (0, u "RADIANS_TO_DEGREES")] 94

def k10m0 : Method := { name := "<init>", desc := "()V", sig := { parameters := [], returnType := none }, accessFlags := 2, code := none }
def k10c1 : Code := { maxStack := 4, maxLocals := 2, code := jdk_29_method_64_code, exceptionTable := #[], attributes := #[] }
def k10m1 : Method := { name := "abs", desc := "(D)D", sig := { parameters := [.double], returnType := some .double }, accessFlags := 9, code := some k10c1 }
/-- java/lang/Math -/
def k10 : Class := { plain "java/lang/Math" (some 0) with
  accessFlags := 49
  interfaces := #[]
  cf := some (fileOf pool10 1 #[.nestMembers #[98]] #[{ accessFlags := 2, nameIndex := 7, descriptorIndex := 8, attributes := #[] }, { accessFlags := 9, nameIndex := 124, descriptorIndex := 14, attributes := #[] }] 49 4 #[] #[{ accessFlags := 25, nameIndex := 354, descriptorIndex := 339, attributes := #[] }, { accessFlags := 25, nameIndex := 358, descriptorIndex := 339, attributes := #[] }, { accessFlags := 25, nameIndex := 361, descriptorIndex := 339, attributes := #[] }, { accessFlags := 26, nameIndex := 364, descriptorIndex := 339, attributes := #[] }, { accessFlags := 26, nameIndex := 365, descriptorIndex := 339, attributes := #[] }, { accessFlags := 26, nameIndex := 172, descriptorIndex := 173, attributes := #[] }, { accessFlags := 26, nameIndex := 176, descriptorIndex := 173, attributes := #[] }, { accessFlags := 8, nameIndex := 344, descriptorIndex := 339, attributes := #[] }, { accessFlags := 8, nameIndex := 338, descriptorIndex := 339, attributes := #[] }, { accessFlags := 4120, nameIndex := 245, descriptorIndex := 246, attributes := #[] }])
  fields := #[{ name := "E", type := .double, accessFlags := 25, slot := 0, constantValue := 0 }, { name := "PI", type := .double, accessFlags := 25, slot := 1, constantValue := 0 }, { name := "TAU", type := .double, accessFlags := 25, slot := 2, constantValue := 0 }, { name := "DEGREES_TO_RADIANS", type := .double, accessFlags := 26, slot := 3, constantValue := 0 }, { name := "RADIANS_TO_DEGREES", type := .double, accessFlags := 26, slot := 4, constantValue := 0 }, { name := "negativeZeroFloatBits", type := .long, accessFlags := 26, slot := 5, constantValue := 0 }, { name := "negativeZeroDoubleBits", type := .long, accessFlags := 26, slot := 6, constantValue := 0 }, { name := "twoToTheDoubleScaleUp", type := .double, accessFlags := 8, slot := 7, constantValue := 0 }, { name := "twoToTheDoubleScaleDown", type := .double, accessFlags := 8, slot := 8, constantValue := 0 }, { name := "$assertionsDisabled", type := .boolean, accessFlags := 4120, slot := 9, constantValue := 0 }]
  methods := #[k10m0, k10m1]
  instanceTypes := #[]
  staticTypes := #[.double, .double, .double, .double, .double, .long, .long, .double, .double, .boolean]
  resolved := Array.replicate 460 none
  statics := none }

def pool11 : Array CpInfo := pool [(1, .methodref 2 3), (0, .class_ 4), (0, .nameAndType 5 6), (0, u "java/lang/Record"), (0, u "<init>"), (0, u "()V"), (9, .fieldref 17 18), (0, .class_ 19), (0, .nameAndType 20 21), (0, u "com/example/astute_scheduler/astutescheduler/model/TraceSampling"), (0, u "traces"), (0, u "I"), (0, .fieldref 17 23), (0, .nameAndType 24 25), (0, u "seed"), (0, u "J"), (14, u "(IJ)V"), (2, u "DEFAULTS"), (0, u "Lcom/example/astute_scheduler/astutescheduler/model/TraceSampling;"), (5, u "()I"), (1, u "()J")] 30

def k11c0 : Code := { maxStack := 3, maxLocals := 4, code := prog_82_method_1_code, exceptionTable := #[], attributes := #[] }
def k11m0 : Method := { name := "<init>", desc := "(IJ)V", sig := { parameters := [.int, .long], returnType := none }, accessFlags := 1, code := some k11c0 }
def k11c1 : Code := { maxStack := 1, maxLocals := 1, code := prog_82_method_5_code, exceptionTable := #[], attributes := #[] }
def k11m1 : Method := { name := "traces", desc := "()I", sig := { parameters := [], returnType := some .int }, accessFlags := 1, code := some k11c1 }
def k11c2 : Code := { maxStack := 2, maxLocals := 1, code := prog_82_method_6_code, exceptionTable := #[], attributes := #[] }
def k11m2 : Method := { name := "seed", desc := "()J", sig := { parameters := [], returnType := some .long }, accessFlags := 1, code := some k11c2 }
/-- com/example/astute_scheduler/astutescheduler/model/TraceSampling -/
def k11 : Class := { plain "com/example/astute_scheduler/astutescheduler/model/TraceSampling" (some 2) with
  accessFlags := 49
  interfaces := #[]
  cf := some (fileOf pool11 17 #[] #[{ accessFlags := 1, nameIndex := 5, descriptorIndex := 40, attributes := #[] }, { accessFlags := 1, nameIndex := 20, descriptorIndex := 50, attributes := #[] }, { accessFlags := 1, nameIndex := 24, descriptorIndex := 52, attributes := #[] }] 49 2 #[] #[{ accessFlags := 18, nameIndex := 20, descriptorIndex := 21, attributes := #[] }, { accessFlags := 18, nameIndex := 24, descriptorIndex := 25, attributes := #[] }, { accessFlags := 25, nameIndex := 43, descriptorIndex := 44, attributes := #[] }])
  fields := #[{ name := "traces", type := .int, accessFlags := 18, slot := 0, constantValue := 0 }, { name := "seed", type := .long, accessFlags := 18, slot := 1, constantValue := 0 }, { name := "DEFAULTS", type := (.object "com/example/astute_scheduler/astutescheduler/model/TraceSampling"), accessFlags := 25, slot := 0, constantValue := 0 }]
  methods := #[k11m0, k11m1, k11m2]
  instanceTypes := #[.int, .long]
  staticTypes := #[(.object "com/example/astute_scheduler/astutescheduler/model/TraceSampling")]
  resolved := Array.replicate 83 none
  statics := none }

def pool12 : Array CpInfo := pool [(1, u "java/lang/Cloneable"), (0, .class_ 1), (0, u "java/lang/Object"), (0, .class_ 3)] 3

/-- java/lang/Cloneable -/
def k12 : Class := { plain "java/lang/Cloneable" (some 0) with
  accessFlags := 1537
  interfaces := #[]
  cf := some (fileOf pool12 2 #[] #[] 1537 4 #[] #[])
  fields := #[]
  methods := #[]
  instanceTypes := #[]
  staticTypes := #[]
  resolved := Array.replicate 8 none
  statics := none }

/-- the primitive byte -/
def k13 : Class := { plain "byte" none with kind := .primitive 'B', accessFlags := 0x411 }
/-- [B -/
def k14 : Class := { plain "[B" (some 0) with kind := .array 13 .byte, interfaces := #[12, 4], accessFlags := 1041 }

/-- the primitive int -/
def k15 : Class := { plain "int" none with kind := .primitive 'I', accessFlags := 0x411 }
/-- [I -/
def k16 : Class := { plain "[I" (some 0) with kind := .array 15 .int, interfaces := #[12, 4], accessFlags := 1041 }

def heap : Heap := #[]
def classes : Array Class := #[k0, k1, k2, k3, k4, k5, k6, k7, k8, k9, k10, k11, k12, k13, k14, k15, k16]
def interned : List (Array UInt16 × Addr) := []
def slotsUsed : Nat := 0
def theMethod : MethodId := ⟨1, 1⟩
def args0 : Array Value := #[.long 5, .long 3, .int 1, .long 1, .int 0, .int 7]
def aboutOver (below : List Frame) : State where
  vm := { classes := classes, interned := interned.toArray }
  heap := heap
  slotsUsed := slotsUsed
  threads := #[{ frames := .invoking theMethod args0 :: below }]
def below0 : List Frame := [.native { method := ⟨0, 0⟩, args := #[] }]
def about1 : State := aboutOver below0
def p0 : Program := .bare "" "" ""
def e0 : Env := launch0.env 0 0 0
theorem w_frames : about1.frames = Frame.invoking theMethod args0 :: below0 := rfl
set_option maxRecDepth 65536 in
theorem w_args : argsFit about1.vm theMethod args0 = true := by decide +kernel
set_option maxRecDepth 65536 in
theorem w_heap : heapFits about1 = true := by decide +kernel
set_option maxRecDepth 65536 in
theorem w_runnable : about1.curStatus? = some .runnable := by decide +kernel
set_option maxRecDepth 65536 in
theorem w_alone : about1.alone = true := by decide +kernel
set_option maxRecDepth 65536 in
theorem w_named : about1.methodNamed? x = some theMethod := by decide +kernel
set_option maxRecDepth 65536 in
theorem w_hears : about1.hears theMethod below0 = true := by decide +kernel
set_option maxRecDepth 65536 in
theorem w_ripe : about1.ripe theMethod args0 below0 = true := by decide +kernel
theorem w_running : about1.status = .running := rfl
set_option maxRecDepth 65536 in
theorem w_room : about1.hasRoom e0.platform room_1 = true :=
  launch0.hasRoom_least _ room_1 (by decide +kernel) (by decide +kernel) (by decide +kernel) (by decide +kernel) (by decide +kernel) (by decide +kernel)
theorem allAtoms_all (ts : List Jvm.Cond) (a : Array Jvm.Value) (st : Jvm.State) : (allAtoms ts).before a st = ts.all (fun c => c.before a st) := by
  induction ts with
  | nil => rfl
  | cons c t ih =>
    show (Jvm.Cond.and c (allAtoms t)).before a st = _
    rw [Jvm.Cond.before_and, ih, List.all_cons]
def words1 : List Jvm.Cond := Jvm.Cond.code x code maxLocals ret :: tables_1
/-- a 'code' word, met by the world's own term for the bytes: nothing is compared byte by byte -/
theorem code_word {y : MethodName} {bytes : ByteArray} {mx : Nat} {rt : Option FieldType} {a : Array Value} {s : State} {m : MethodId} {meth : Method} {c : Code} (h1 : s.methodNamed? y = some m) (h2 : s.vm.method? m = some meth) (h3 : meth.code = some c) (h4 : c.code = bytes)
    (h5 : (c.maxLocals == mx && c.exceptionTable.isEmpty && decide (c.maxStack ≤ mostOperands) && decide (meth.sig.returnType = rt) && !meth.locks && decide (parseMethodDescriptor y.desc = some meth.sig)) = true) : (Jvm.Cond.code y bytes mx rt).before a s = true := by
  simp only [Bool.and_eq_true, beq_iff_eq, Bool.not_eq_true', decide_eq_true_eq] at h5
  obtain ⟨⟨⟨⟨⟨g1, g2⟩, g3⟩, g4⟩, g5⟩, g6⟩ := h5
  simp [Cond.before, Cond.holds, Cond.value, h1, h2, h3, h4, g1, g2, g3, g4, g5, g6]
def isCode : Jvm.Cond → Bool
  | .code _ _ _ _ => true
  | _ => false
theorem all_split {L : List Jvm.Cond} {P : Jvm.Cond → Bool} (h1 : L.all (fun c => isCode c || P c) = true) (h2 : ∀ c ∈ L.filter isCode, P c = true) : L.all P = true := by
  refine List.all_eq_true.mpr fun c hc => ?_
  have h := List.all_eq_true.mp h1 c hc
  rcases Bool.eq_false_or_eq_true (isCode c) with hi | hi
  · exact h2 c (List.mem_filter.mpr ⟨hc, hi⟩)
  · simpa [hi] using h
set_option maxRecDepth 65536 in
theorem w_c0 : (Jvm.Cond.code x code maxLocals ret).before args0 about1 = true := code_word (m := ⟨1, 1⟩) (meth := k1m1) (c := k1c1) (by decide +kernel) rfl rfl rfl (by decide +kernel)
set_option maxRecDepth 65536 in
theorem w_c1 : (Jvm.Cond.code ({ cls := "com/example/astute_scheduler/astutescheduler/core/SchedulerOptions", name := "<init>", desc := "(JJDJDDI)V" } : Jvm.MethodName) prog_30_method_1_code (14 : Nat) (Option.none : Option Jvm.ClassFile.FieldType)).before args0 about1 = true := code_word (m := ⟨3, 0⟩) (meth := k3m0) (c := k3c0) (by decide +kernel) rfl rfl rfl (by decide +kernel)
set_option maxRecDepth 65536 in
theorem w_c2 : (Jvm.Cond.code ({ cls := "java/lang/Record", name := "<init>", desc := "()V" } : Jvm.MethodName) jdk_30_method_1_code (1 : Nat) (Option.none : Option Jvm.ClassFile.FieldType)).before args0 about1 = true := code_word (m := ⟨2, 0⟩) (meth := k2m0) (c := k2c0) (by decide +kernel) rfl rfl rfl (by decide +kernel)
set_option maxRecDepth 65536 in
theorem w_c3 : (Jvm.Cond.code ({ cls := "java/lang/Object", name := "<init>", desc := "()V" } : Jvm.MethodName) object_method_1_code (1 : Nat) (Option.none : Option Jvm.ClassFile.FieldType)).before args0 about1 = true := code_word (m := ⟨0, 0⟩) (meth := k0m0) (c := k0c0) (by decide +kernel) rfl rfl rfl (by decide +kernel)
set_option maxRecDepth 65536 in
theorem w_c4 : (Jvm.Cond.code ({ cls := "java/lang/Double", name := "isFinite", desc := "(D)Z" } : Jvm.MethodName) jdk_117_method_8_code (2 : Nat) (Option.some Jvm.ClassFile.FieldType.boolean)).before args0 about1 = true := code_word (m := ⟨9, 0⟩) (meth := k9m0) (c := k9c0) (by decide +kernel) rfl rfl rfl (by decide +kernel)
set_option maxRecDepth 65536 in
theorem w_c5 : (Jvm.Cond.code ({ cls := "java/lang/Math", name := "abs", desc := "(D)D" } : Jvm.MethodName) jdk_29_method_64_code (2 : Nat) (Option.some Jvm.ClassFile.FieldType.double)).before args0 about1 = true := code_word (m := ⟨10, 1⟩) (meth := k10m1) (c := k10c1) (by decide +kernel) rfl rfl rfl (by decide +kernel)
set_option maxRecDepth 65536 in
theorem w_c6 : (Jvm.Cond.code ({ cls := "com/example/astute_scheduler/astutescheduler/model/TraceSampling", name := "<init>", desc := "(IJ)V" } : Jvm.MethodName) prog_82_method_1_code (4 : Nat) (Option.none : Option Jvm.ClassFile.FieldType)).before args0 about1 = true := code_word (m := ⟨11, 0⟩) (meth := k11m0) (c := k11c0) (by decide +kernel) rfl rfl rfl (by decide +kernel)
set_option maxRecDepth 65536 in
theorem w_c7 : (Jvm.Cond.code ({ cls := "com/example/astute_scheduler/astutescheduler/core/SchedulerOptions", name := "sampling", desc := "()Lcom/example/astute_scheduler/astutescheduler/model/TraceSampling;" } : Jvm.MethodName) prog_30_method_3_code (1 : Nat) (Option.some (Jvm.ClassFile.FieldType.object "com/example/astute_scheduler/astutescheduler/model/TraceSampling"))).before args0 about1 = true := code_word (m := ⟨3, 1⟩) (meth := k3m1) (c := k3c1) (by decide +kernel) rfl rfl rfl (by decide +kernel)
set_option maxRecDepth 65536 in
theorem w_c8 : (Jvm.Cond.code ({ cls := "com/example/astute_scheduler/astutescheduler/model/TraceSampling", name := "traces", desc := "()I" } : Jvm.MethodName) prog_82_method_5_code (1 : Nat) (Option.some Jvm.ClassFile.FieldType.int)).before args0 about1 = true := code_word (m := ⟨11, 1⟩) (meth := k11m1) (c := k11c1) (by decide +kernel) rfl rfl rfl (by decide +kernel)
set_option maxRecDepth 65536 in
theorem w_c9 : (Jvm.Cond.code ({ cls := "com/example/astute_scheduler/astutescheduler/model/TraceSampling", name := "seed", desc := "()J" } : Jvm.MethodName) prog_82_method_6_code (1 : Nat) (Option.some Jvm.ClassFile.FieldType.long)).before args0 about1 = true := code_word (m := ⟨11, 2⟩) (meth := k11m2) (c := k11c2) (by decide +kernel) rfl rfl rfl (by decide +kernel)
def codes1 : List Jvm.Cond := [Jvm.Cond.code x code maxLocals ret, Jvm.Cond.code ({ cls := "com/example/astute_scheduler/astutescheduler/core/SchedulerOptions", name := "<init>", desc := "(JJDJDDI)V" } : Jvm.MethodName) prog_30_method_1_code (14 : Nat) (Option.none : Option Jvm.ClassFile.FieldType), Jvm.Cond.code ({ cls := "java/lang/Record", name := "<init>", desc := "()V" } : Jvm.MethodName) jdk_30_method_1_code (1 : Nat) (Option.none : Option Jvm.ClassFile.FieldType), Jvm.Cond.code ({ cls := "java/lang/Object", name := "<init>", desc := "()V" } : Jvm.MethodName) object_method_1_code (1 : Nat) (Option.none : Option Jvm.ClassFile.FieldType), Jvm.Cond.code ({ cls := "java/lang/Double", name := "isFinite", desc := "(D)Z" } : Jvm.MethodName) jdk_117_method_8_code (2 : Nat) (Option.some Jvm.ClassFile.FieldType.boolean), Jvm.Cond.code ({ cls := "java/lang/Math", name := "abs", desc := "(D)D" } : Jvm.MethodName) jdk_29_method_64_code (2 : Nat) (Option.some Jvm.ClassFile.FieldType.double), Jvm.Cond.code ({ cls := "com/example/astute_scheduler/astutescheduler/model/TraceSampling", name := "<init>", desc := "(IJ)V" } : Jvm.MethodName) prog_82_method_1_code (4 : Nat) (Option.none : Option Jvm.ClassFile.FieldType), Jvm.Cond.code ({ cls := "com/example/astute_scheduler/astutescheduler/core/SchedulerOptions", name := "sampling", desc := "()Lcom/example/astute_scheduler/astutescheduler/model/TraceSampling;" } : Jvm.MethodName) prog_30_method_3_code (1 : Nat) (Option.some (Jvm.ClassFile.FieldType.object "com/example/astute_scheduler/astutescheduler/model/TraceSampling")), Jvm.Cond.code ({ cls := "com/example/astute_scheduler/astutescheduler/model/TraceSampling", name := "traces", desc := "()I" } : Jvm.MethodName) prog_82_method_5_code (1 : Nat) (Option.some Jvm.ClassFile.FieldType.int), Jvm.Cond.code ({ cls := "com/example/astute_scheduler/astutescheduler/model/TraceSampling", name := "seed", desc := "()J" } : Jvm.MethodName) prog_82_method_6_code (1 : Nat) (Option.some Jvm.ClassFile.FieldType.long)]
set_option maxRecDepth 65536 in
theorem codes_eq : words1.filter isCode = codes1 := rfl
theorem w_codes : ∀ c ∈ words1.filter isCode, c.before args0 about1 = true := by
  rw [codes_eq]
  intro c hc
  simp only [codes1, List.mem_cons, List.not_mem_nil, or_false] at hc
  rcases hc with rfl | rfl | rfl | rfl | rfl | rfl | rfl | rfl | rfl | rfl
  · exact w_c0
  · exact w_c1
  · exact w_c2
  · exact w_c3
  · exact w_c4
  · exact w_c5
  · exact w_c6
  · exact w_c7
  · exact w_c8
  · exact w_c9
set_option maxRecDepth 65536 in
theorem w_t1 : (words1.take 24).all (fun c => isCode c || c.before args0 about1) = true := by decide +kernel
set_option maxRecDepth 65536 in
theorem w_t2 : ((words1.drop 24).take 24).all (fun c => isCode c || c.before args0 about1) = true := by decide +kernel
set_option maxRecDepth 65536 in
theorem w_t3 : ((words1.drop 24).drop 24).all (fun c => isCode c || c.before args0 about1) = true := by decide +kernel
theorem w_tables : (allAtoms (Jvm.Cond.code x code maxLocals ret :: tables_1)).before args0 about1 = true := by
  rw [allAtoms_all]
  show words1.all (fun c => c.before args0 about1) = true
  refine all_split ?_ w_codes
  rw [← List.take_append_drop 24 words1, List.all_append, w_t1, ← List.take_append_drop 24 (words1.drop 24), List.all_append, w_t2, w_t3]
  rfl
set_option maxRecDepth 65536 in
theorem w_case : (Jvm.Cond.and given_1 narrow_1).before args0 about1 = true := by decide +kernel
theorem w_applies : (headSpec (Jvm.Cond.code x code maxLocals ret :: tables_1) room_1).applies x e0.platform about1 = true :=
  (Spec.applies_iff w_frames).mpr ⟨w_running, w_runnable, w_alone, w_named, w_hears, w_ripe, w_room, w_tables⟩
theorem atStart : AtStart classFile x code maxLocals ret World_1 tables_1 room_1 Calls_1 rest_1 Pre_1 launch0 p0 e0 about1 theMethod args0 below0 :=
  ⟨lists_1, trivial, launch0.admits_env _ _ _, launch0.least_env, fairChoices_fair.cas, fairChoices_fair.clock, w_frames, w_args, w_heap, w_applies, trivial, trivial, w_case⟩
end start1
theorem witness_1 : WitnessClaimed_1 := ⟨start1.p0, start1.e0, start1.about1, start1.theMethod, start1.args0, start1.below0, start1.atStart⟩
end Jvm.Pilot.@@N@@
