import JvmDerived
import JvmDerived.Pilot.@@N@@Statement
import JvmDerived.Pilot.@@N@@Code
set_option linter.unusedVariables false
set_option linter.unusedSimpArgs false
namespace Jvm.Pilot.@@N@@
open Jvm Jvm.ClassFile Sem Op Lib Jvm.Free Jvm.Stand Jvm.LawKit Jvm.RoadKit Bundle Jvm.Pilot.@@N@@.Jvm.D
/-! the walk's goal: from the state A the run ends, returning what Qv says -/
def OwnEnd (p : Program) (e : Env) (below : List Frame) (s : State) (Qv : Option Value → Heap → List Loc → Prop) (k n : Nat) (A : State) : Prop :=
  ∃ s₂ o, Steps p.tables e below A s₂ ∧ s₂.status = .running ∧ Ended s₂ below o ∧ ∃ v L, o = .returned v ∧ Qv v s₂.heap L ∧ FrameEnd s o s₂ L k n
theorem own_step {p : Program} {e : Env} {below : List Frame} {s : State} {Qv : Option Value → Heap → List Loc → Prop} {k n : Nat} {A B : State} (h : ∀ t, Steps p.tables e below B t → Steps p.tables e below A t) (q : OwnEnd p e below s Qv k n B) : OwnEnd p e below s Qv k n A := by
  obtain ⟨s₂, o, h1, h2⟩ := q
  exact ⟨s₂, o, h _ h1, h2⟩
theorem own_arvEq {Z : State} {h : Heap} {a : Addr} {k : ClassId} {ty : FieldType} {z : Int32} {vs vs' : List Value} {d : Value} (e : vs = vs') (F : Arv Z h a k ty z vs d) : Arv Z h a k ty z vs' d := by subst e; exact F
theorem own_fldEq {Z : State} {h : Heap} {a : Addr} {C n d : String} {x y : Int32} (e : x = y) (F : Fld Z h a C n d (.int x)) : Fld Z h a C n d (.int y) := by subst e; exact F
section OwnRet
variable {p : Program} {l : Launch} {e : Env} {R : Room} {s : State} {m : MethodId} {args : Array Value} {below : List Frame} {meth : Method} {c : Code} {T : State} {locs : List Loc} {cells slots k n : Nat} {Qv : Option Value → Heap → List Loc → Prop}
theorem own_retN (X : Stand p l e R s m args below meth c T locs cells slots) (hx : p.tables.exec = Jvm.exec) (hlocks : meth.locks = false) {pc : Nat} {Ls : Array Slot} {z w : Int32} {t : FieldType} {rest : List Value} (hret : meth.sig.returnType = some t) (ht : t = .boolean ∨ t = .byte ∨ t = .char ∨ t = .short) (hd : decode c.code pc = .ok (.ireturn, 1)) (hz : nar t z = w) (hq : Qv (some (.int w)) T.heap locs) (hk : cells ≤ k) (hn : slots ≤ n) :
    OwnEnd p e below s Qv k n (T.setTop (mkF m pc Ls (.int z :: rest))) := by
  obtain ⟨fs, hr, hrun, hended, hW, hsame⟩ := X.leave (v := some (.int w)) (fun h => by rw [hret] at h; cases h) hlocks
  exact ⟨_, _, retN X hx hret ht hd (fs := fs) (by rw [hz]; exact hr), hrun, hended, _, _, rfl, hq, ⟨_, rfl⟩, hW, hsame.mono hk hn⟩
theorem own_retI (X : Stand p l e R s m args below meth c T locs cells slots) (hx : p.tables.exec = Jvm.exec) (hlocks : meth.locks = false) {pc : Nat} {Ls : Array Slot} {z : Int32} {rest : List Value} (hret : meth.sig.returnType = some .int) (hd : decode c.code pc = .ok (.ireturn, 1)) (hq : Qv (some (.int z)) T.heap locs) (hk : cells ≤ k) (hn : slots ≤ n) :
    OwnEnd p e below s Qv k n (T.setTop (mkF m pc Ls (.int z :: rest))) := by
  obtain ⟨fs, hr, hrun, hended, hW, hsame⟩ := X.leave (v := some (.int z)) (fun h => by rw [hret] at h; cases h) hlocks
  refine ⟨T.setFrames fs, _, ?_, hrun, hended, _, _, rfl, hq, ⟨_, rfl⟩, hW, hsame.mono hk hn⟩
  have hm' : T.vm.method? m = some meth := X.method'
  have hn' : narrow .int (.int z) = .int z := rfl
  show Steps p.tables e below (T.setTop { method := m, pc := pc, locals := Ls, stack := _ :: rest, locked := none }) _
  jvm_step X.here [X.here.top, hx, hd, hm', hret, hn']
  first | (intro acts; rw [hr _ acts rfl rfl rfl]) | rw [hr _ _ rfl rfl rfl]
  exact Steps.refl _
theorem own_retJ (X : Stand p l e R s m args below meth c T locs cells slots) (hx : p.tables.exec = Jvm.exec) (hlocks : meth.locks = false) {pc : Nat} {Ls : Array Slot} {z : Int64} {rest : List Value} (hret : meth.sig.returnType = some .long) (hd : decode c.code pc = .ok (.lreturn, 1)) (hq : Qv (some (.long z)) T.heap locs) (hk : cells ≤ k) (hn : slots ≤ n) :
    OwnEnd p e below s Qv k n (T.setTop (mkF m pc Ls (.long z :: rest))) := by
  obtain ⟨fs, hr, hrun, hended, hW, hsame⟩ := X.leave (v := some (.long z)) (fun h => by rw [hret] at h; cases h) hlocks
  refine ⟨T.setFrames fs, _, ?_, hrun, hended, _, _, rfl, hq, ⟨_, rfl⟩, hW, hsame.mono hk hn⟩
  have hm' : T.vm.method? m = some meth := X.method'
  have hn' : narrow .long (.long z) = .long z := rfl
  show Steps p.tables e below (T.setTop { method := m, pc := pc, locals := Ls, stack := _ :: rest, locked := none }) _
  jvm_step X.here [X.here.top, hx, hd, hm', hret, hn']
  first | (intro acts; rw [hr _ acts rfl rfl rfl]) | rw [hr _ _ rfl rfl rfl]
  exact Steps.refl _
theorem own_retD (X : Stand p l e R s m args below meth c T locs cells slots) (hx : p.tables.exec = Jvm.exec) (hlocks : meth.locks = false) {pc : Nat} {Ls : Array Slot} {z : UInt64} {rest : List Value} (hret : meth.sig.returnType = some .double) (hd : decode c.code pc = .ok (.dreturn, 1)) (hq : Qv (some (.double z)) T.heap locs) (hk : cells ≤ k) (hn : slots ≤ n) :
    OwnEnd p e below s Qv k n (T.setTop (mkF m pc Ls (.double z :: rest))) := by
  obtain ⟨fs, hr, hrun, hended, hW, hsame⟩ := X.leave (v := some (.double z)) (fun h => by rw [hret] at h; cases h) hlocks
  refine ⟨T.setFrames fs, _, ?_, hrun, hended, _, _, rfl, hq, ⟨_, rfl⟩, hW, hsame.mono hk hn⟩
  have hm' : T.vm.method? m = some meth := X.method'
  have hn' : narrow .double (.double z) = .double z := rfl
  show Steps p.tables e below (T.setTop { method := m, pc := pc, locals := Ls, stack := _ :: rest, locked := none }) _
  jvm_step X.here [X.here.top, hx, hd, hm', hret, hn']
  first | (intro acts; rw [hr _ acts rfl rfl rfl]) | rw [hr _ _ rfl rfl rfl]
  exact Steps.refl _
theorem own_retR (X : Stand p l e R s m args below meth c T locs cells slots) (hx : p.tables.exec = Jvm.exec) (hlocks : meth.locks = false) {pc : Nat} {Ls : Array Slot} {z : Addr} {t : FieldType} {rest : List Value} (hret : meth.sig.returnType = some t) (ht : t.isReference = true) (hd : decode c.code pc = .ok (.areturn, 1)) (hq : Qv (some (.ref z)) T.heap locs) (hk : cells ≤ k) (hn : slots ≤ n) :
    OwnEnd p e below s Qv k n (T.setTop (mkF m pc Ls (.ref z :: rest))) := by
  obtain ⟨fs, hr, hrun, hended, hW, hsame⟩ := X.leave (v := some (.ref z)) (fun h => by rw [hret] at h; cases h) hlocks
  refine ⟨T.setFrames fs, _, ?_, hrun, hended, _, _, rfl, hq, ⟨_, rfl⟩, hW, hsame.mono hk hn⟩
  have hm' : T.vm.method? m = some meth := X.method'
  show Steps p.tables e below (T.setTop { method := m, pc := pc, locals := Ls, stack := _ :: rest, locked := none }) _
  jvm_step X.here [X.here.top, hx, hd, hm', hret, ht, Value.isRef]
  first | (intro acts; rw [hr _ acts rfl rfl rfl]) | rw [hr _ _ rfl rfl rfl]
  exact Steps.refl _
theorem own_ret0 (X : Stand p l e R s m args below meth c T locs cells slots) (hx : p.tables.exec = Jvm.exec) (hlocks : meth.locks = false) {pc : Nat} {Ls : Array Slot} (hret : meth.sig.returnType = none) (hd : decode c.code pc = .ok (.return_, 1)) (hq : Qv none T.heap locs) (hk : cells ≤ k) (hn : slots ≤ n) :
    OwnEnd p e below s Qv k n (T.setTop (mkF m pc Ls [])) := by
  obtain ⟨fs, hr, hrun, hended, hW, hsame⟩ := X.leave (v := none) (fun _ => rfl) hlocks
  exact ⟨_, _, X.returnOut hx hret hd hr, hrun, hended, _, _, rfl, hq, ⟨_, rfl⟩, hW, hsame.mono hk hn⟩
end OwnRet
theorem d1_0 : decode jdk_30_method_1_code 0 = .ok (.aload_n 0, 1) := by decide +kernel
theorem d1_1 : decode jdk_30_method_1_code 1 = .ok (.invokespecial 1, 3) := by decide +kernel
theorem d1_4 : decode jdk_30_method_1_code 4 = .ok (.return_, 1) := by decide +kernel
theorem pn1 : plainName "java/lang/Record" = true := by first | (simp [plainName, overriddenIn]; done) | decide +kernel
theorem ef1 (m : MethodId) (a0 : Addr) : entryFrame m #[(.ref a0)] 1 = mkF m 0 #[.val (.ref a0)] [] := by first | (simp [entryFrame, mkF, argsToLocals, Value.category]; done) | rfl
def Q1 (Z : State) (a0 : Addr) (h0 : Heap) (n0 : Nat) (v : Option Value) (h : Heap) (L : List Loc) : Prop := v = none ∧ Fr n0 L ∧ h = h0
set_option maxRecDepth 65536 in
set_option maxHeartbeats 40000000 in
theorem rm1 (l : Launch) (Z : State) (aa : Array Value) (hw : ∀ d ∈ tables_1, d.before aa Z = true) (ws : List Jvm.Cond) (a0 : Addr) (h0 : Heap) (n0 : Nat) (Z0 : n0 ≤ h0.size) :
    MetFree l (⟨"java/lang/Record", "<init>", "()V"⟩ : MethodName) (head1 (Jvm.Cond.code (⟨"java/lang/Record", "<init>", "()V"⟩ : MethodName) jdk_30_method_1_code 1 none :: ws) ({ frames := 1, cells := 0, slots := 0, locals := 12 } : Room)) (fun a U => a = #[(.ref a0)] ∧ Z.Warmed39 U.vm ∧ U.heap = h0) (fun _ _ _ _ _ => True) (fun _ U o U' => ∃ v L, o = .returned v ∧ Q1 Z a0 h0 n0 v U'.heap L ∧ FrameEnd U o U' L ({ frames := 1, cells := 0, slots := 0, locals := 12 } : Room).cells ({ frames := 1, cells := 0, slots := 0, locals := 12 } : Room).slots) := by
  refine MetFree.of_bodySF (plainFor_of_name pn1) hisR ?_
  intro p e s m args below meth c s₁ Bd hml0 hP hK
  obtain ⟨rfl, hZ, hh⟩ := hP
  have hx := Bd.exec
  have hby := Bd.bytes
  have hml : c.maxLocals = 1 := hml0
  have hown : s.vm.findClass "java/lang/Record" = some m.cls := findClass_of_methodNamed Bd.named
  have hnm := (name_of_methodNamed Bd.named Bd.method).1
  have X0 : Stand p l e ({ frames := 1, cells := 0, slots := 0, locals := 12 } : Room) s m #[(.ref a0)] below meth c s₁ [] 0 0 := Stand.of_body Bd
  have e0 : s₁.heap = h0 := by rw [← hh, Bd.state]; rfl
  have N0 := Fr.nil n0
  show OwnEnd p e below s (fun v h L => Q1 Z a0 h0 n0 v h L) ({ frames := 1, cells := 0, slots := 0, locals := 12 } : Room).cells ({ frames := 1, cells := 0, slots := 0, locals := 12 } : Room).slots (s₁.setTop (entryFrame m #[(.ref a0)] 1))
  rw [ef1 m a0]
  generalize hW : OwnEnd p e below s (fun v h L => Q1 Z a0 h0 n0 v h L) ({ frames := 1, cells := 0, slots := 0, locals := 12 } : Room).cells ({ frames := 1, cells := 0, slots := 0, locals := 12 } : Room).slots = W
  have stp : ∀ {A B : State}, (∀ t, Steps p.tables e below B t → Steps p.tables e below A t) → W B → W A := by subst hW; exact own_step
  show W (s₁.setTop (mkF m 0 #[.val (.ref a0)] []))
  refine stp (fun t k => XS.aloadN X0.here hx rfl (hb hby d1_0) rfl rfl k) ?_
  show W (s₁.setTop (mkF m 1 #[.val (.ref a0)] [(.ref a0)]))
  obtain ⟨T1, X1, e1, st1⟩ := initO X0 hx hZ hown (hw _ (List.mem_of_getElem? (i := 11) rfl)) (hw _ (List.mem_of_getElem? (i := 12) rfl)) (hw _ (List.mem_of_getElem? (i := 13) rfl)) e0 (g := (mkF m 1 #[.val (.ref a0)] [(.ref a0)])) rfl (by rw [hml]; rfl) rfl (hb hby d1_1) (by decide) (W := 0) (by show 2 * 0 + _ ≤ _; exact Nat.le_of_eq rfl) (by decide)
  refine stp (fun t k => st1 t k) ?_
  show W (T1.setTop (mkF m 4 #[.val (.ref a0)] []))
  show W (T1.setTop (mkF m 4 #[.val (.ref a0)] []))
  rw [← hW]
  exact own_ret0 X1 hx Bd.notSynchronized Bd.returns (hb hby d1_4) (by show Q1 Z a0 h0 n0 _ T1.heap _; rw [e1]; exact ⟨rfl, N0, rfl⟩) (by decide) (by decide)
theorem d2_0 : decode prog_9_method_1_code 0 = .ok (.aload_n 0, 1) := by decide +kernel
theorem d2_1 : decode prog_9_method_1_code 1 = .ok (.invokespecial 1, 3) := by decide +kernel
theorem d2_4 : decode prog_9_method_1_code 4 = .ok (.aload_n 0, 1) := by decide +kernel
theorem d2_5 : decode prog_9_method_1_code 5 = .ok (.lload_n 1, 1) := by decide +kernel
theorem d2_6 : decode prog_9_method_1_code 6 = .ok (.putfield 7, 3) := by decide +kernel
theorem d2_9 : decode prog_9_method_1_code 9 = .ok (.aload_n 0, 1) := by decide +kernel
theorem d2_10 : decode prog_9_method_1_code 10 = .ok (.lload_n 3, 1) := by decide +kernel
theorem d2_11 : decode prog_9_method_1_code 11 = .ok (.putfield 13, 3) := by decide +kernel
theorem d2_14 : decode prog_9_method_1_code 14 = .ok (.aload_n 0, 1) := by decide +kernel
theorem d2_15 : decode prog_9_method_1_code 15 = .ok (.lload 5, 2) := by decide +kernel
theorem d2_17 : decode prog_9_method_1_code 17 = .ok (.putfield 16, 3) := by decide +kernel
theorem d2_20 : decode prog_9_method_1_code 20 = .ok (.return_, 1) := by decide +kernel
theorem pn2 : plainName "com/example/fieldgate/fieldgate/edit/ReentrySummary" = true := by first | (simp [plainName, overriddenIn]; done) | decide +kernel
theorem pd2_0 : parseMethodDescriptor "()V" = some ⟨[], none⟩ := by decide +kernel
theorem ef2 (m : MethodId) (a0 : Addr) (q1 : Int64) (q2 : Int64) (q3 : Int64) : entryFrame m #[(.ref a0), (.long q1), (.long q2), (.long q3)] 7 = mkF m 0 #[.val (.ref a0), .val (.long q1), .second, .val (.long q2), .second, .val (.long q3), .second] [] := by first | (simp [entryFrame, mkF, argsToLocals, Value.category]; done) | rfl
def Q2 (Z : State) (a0 : Addr) (q1 : Int64) (q2 : Int64) (q3 : Int64) (h0 : Heap) (n0 : Nat) (v : Option Value) (h : Heap) (L : List Loc) : Prop := v = none ∧ Fr n0 L ∧ Keep h0 h [a0] ∧ Exa Z h a0 "com/example/fieldgate/fieldgate/edit/ReentrySummary" ∧ Fld Z h a0 "com/example/fieldgate/fieldgate/edit/ReentrySummary" "reentries" "J" (.long q1) ∧ Fld Z h a0 "com/example/fieldgate/fieldgate/edit/ReentrySummary" "refused" "J" (.long q2) ∧ Fld Z h a0 "com/example/fieldgate/fieldgate/edit/ReentrySummary" "releasesRejected" "J" (.long q3)
set_option maxRecDepth 65536 in
set_option maxHeartbeats 40000000 in
theorem rm2 (l : Launch) (Z : State) (aa : Array Value) (hw : ∀ d ∈ tables_1, d.before aa Z = true) (ws : List Jvm.Cond) (a0 : Addr) (q1 : Int64) (q2 : Int64) (q3 : Int64) (h0 : Heap) (n0 : Nat) (Z0 : n0 ≤ h0.size) (F_reentries_a0 : Fld Z h0 a0 "com/example/fieldgate/fieldgate/edit/ReentrySummary" "reentries" "J" (.long (0 : Int64))) (F_refused_a0 : Fld Z h0 a0 "com/example/fieldgate/fieldgate/edit/ReentrySummary" "refused" "J" (.long (0 : Int64))) (F_releasesRejected_a0 : Fld Z h0 a0 "com/example/fieldgate/fieldgate/edit/ReentrySummary" "releasesRejected" "J" (.long (0 : Int64))) (E_a0 : Exa Z h0 a0 "com/example/fieldgate/fieldgate/edit/ReentrySummary") (g_a0 : n0 ≤ a0) :
    MetFree l (⟨"com/example/fieldgate/fieldgate/edit/ReentrySummary", "<init>", "(JJJ)V"⟩ : MethodName) (head1 (Jvm.Cond.code (⟨"com/example/fieldgate/fieldgate/edit/ReentrySummary", "<init>", "(JJJ)V"⟩ : MethodName) prog_9_method_1_code 7 none :: ws) ({ frames := 2, cells := 0, slots := 0, locals := 24 } : Room)) (fun a U => a = #[(.ref a0), (.long q1), (.long q2), (.long q3)] ∧ Z.Warmed39 U.vm ∧ U.heap = h0) (fun _ _ _ _ _ => True) (fun _ U o U' => ∃ v L, o = .returned v ∧ Q2 Z a0 q1 q2 q3 h0 n0 v U'.heap L ∧ FrameEnd U o U' L ({ frames := 2, cells := 0, slots := 0, locals := 24 } : Room).cells ({ frames := 2, cells := 0, slots := 0, locals := 24 } : Room).slots) := by
  refine MetFree.of_bodySF (plainFor_of_name pn2) hisR ?_
  intro p e s m args below meth c s₁ Bd hml0 hP hK
  obtain ⟨rfl, hZ, hh⟩ := hP
  have hx := Bd.exec
  have hby := Bd.bytes
  have hml : c.maxLocals = 7 := hml0
  have hown : s.vm.findClass "com/example/fieldgate/fieldgate/edit/ReentrySummary" = some m.cls := findClass_of_methodNamed Bd.named
  have hnm := (name_of_methodNamed Bd.named Bd.method).1
  have X0 : Stand p l e ({ frames := 2, cells := 0, slots := 0, locals := 24 } : Room) s m #[(.ref a0), (.long q1), (.long q2), (.long q3)] below meth c s₁ [] 0 0 := Stand.of_body Bd
  have e0 : s₁.heap = h0 := by rw [← hh, Bd.state]; rfl
  have N0 := Fr.nil n0
  show OwnEnd p e below s (fun v h L => Q2 Z a0 q1 q2 q3 h0 n0 v h L) ({ frames := 2, cells := 0, slots := 0, locals := 24 } : Room).cells ({ frames := 2, cells := 0, slots := 0, locals := 24 } : Room).slots (s₁.setTop (entryFrame m #[(.ref a0), (.long q1), (.long q2), (.long q3)] 7))
  rw [ef2 m a0 q1 q2 q3]
  generalize hW : OwnEnd p e below s (fun v h L => Q2 Z a0 q1 q2 q3 h0 n0 v h L) ({ frames := 2, cells := 0, slots := 0, locals := 24 } : Room).cells ({ frames := 2, cells := 0, slots := 0, locals := 24 } : Room).slots = W
  have stp : ∀ {A B : State}, (∀ t, Steps p.tables e below B t → Steps p.tables e below A t) → W B → W A := by subst hW; exact own_step
  show W (s₁.setTop (mkF m 0 #[.val (.ref a0), .val (.long q1), .second, .val (.long q2), .second, .val (.long q3), .second] []))
  refine stp (fun t k => XS.aloadN X0.here hx rfl (hb hby d2_0) rfl rfl k) ?_
  show W (s₁.setTop (mkF m 1 #[.val (.ref a0), .val (.long q1), .second, .val (.long q2), .second, .val (.long q3), .second] [(.ref a0)]))
  obtain ⟨_, _, ⟨T2c1, L2c1, k2c1, n2c1⟩, -, X2c1, ⟨Lc2c1, hQ2c1, l2c1, y2c1, z2c1⟩, st2c1⟩ := X0.specialBack hx (y := (⟨"java/lang/Record", "<init>", "()V"⟩ : MethodName)) rfl hown (mvT hZ (hw _ (List.mem_of_getElem? (i := 6) rfl))) (mvT hZ (hw _ (List.mem_of_getElem? (i := 7) rfl))) (mvT hZ (hw _ (List.mem_of_getElem? (i := 10) rfl))) (by decide) (backOf (W := 0) (rm1 l Z aa hw [] a0  h0 n0 Z0 ) hZ (hw _ (List.mem_of_getElem? (i := 10) rfl)) (hw _ (List.mem_of_getElem? (i := 9) rfl)) (by decide) (by decide)) (g := (mkF m 1 #[.val (.ref a0), .val (.long q1), .second, .val (.long q2), .second, .val (.long q3), .second] [(.ref a0)])) rfl (by rw [hml]; rfl) (Steps.refl _) (a := a0) (argsL := []) (rest := []) (lenOf pd2_0 rfl) rfl (by show 2 * 0 + _ ≤ _; exact Nat.le_of_eq rfl) (hb hby d2_1) (fun _ _ => ⟨rfl, e0, (by decide : 0 + 0 ≤ _), (by decide : 0 + 0 ≤ _)⟩)
  dsimp only [Pt.U, Pt.locs, Pt.cells, Pt.slots] at X2c1 l2c1 y2c1 z2c1 st2c1 hQ2c1
  subst l2c1 y2c1 z2c1
  obtain ⟨rfl, N2c1q, e2c1⟩ := hQ2c1
  have N2c1 := Fr.app N0 N2c1q
  refine stp (fun t k => st2c1.trans k) ?_
  show W (T2c1.setTop (mkF m 4 #[.val (.ref a0), .val (.long q1), .second, .val (.long q2), .second, .val (.long q3), .second] []))
  refine stp (fun t k => XS.aloadN X2c1.here hx rfl (hb hby d2_4) rfl rfl k) ?_
  show W (T2c1.setTop (mkF m 5 #[.val (.ref a0), .val (.long q1), .second, .val (.long q2), .second, .val (.long q3), .second] [(.ref a0)]))
  refine stp (fun t k => XS.lloadN X2c1.here hx rfl (hb hby d2_5) rfl k) ?_
  show W (T2c1.setTop (mkF m 6 #[.val (.ref a0), .val (.long q1), .second, .val (.long q2), .second, .val (.long q3), .second] [(.long q1), (.ref a0)]))
  obtain ⟨T22, h22, X22, e22, W22, st22⟩ := putF X2c1 hx hZ hown (host := "") (Or.inl (hw _ (List.mem_of_getElem? (i := 14) rfl))) Via.refl e2c1 F_reentries_a0 E_a0 (Or.inr ⟨(hw _ (List.mem_of_getElem? (i := 15) rfl)), rfl, hnm⟩) (hw _ (List.mem_of_getElem? (i := 1) rfl)) (ty := .long) (by decide) rfl rfl (g := (mkF m 6 #[.val (.ref a0), .val (.long q1), .second, .val (.long q2), .second, .val (.long q3), .second] [(.long q1), (.ref a0)])) rfl rfl (hb hby d2_6)
  have N22 := Fr.snoc X22 N2c1 g_a0
  have F_reentries_a0x := F_reentries_a0.same W22
  have F_refused_a0 := F_refused_a0.other W22 (Or.inr (slot_ne (Or.inr (hw _ (List.mem_of_getElem? (i := 17) rfl))) (Or.inr (hw _ (List.mem_of_getElem? (i := 15) rfl))) (by decide) (t := .long) (t' := .long) (by decide) (by decide)))
  have F_releasesRejected_a0 := F_releasesRejected_a0.other W22 (Or.inr (slot_ne (Or.inr (hw _ (List.mem_of_getElem? (i := 19) rfl))) (Or.inr (hw _ (List.mem_of_getElem? (i := 15) rfl))) (by decide) (t := .long) (t' := .long) (by decide) (by decide)))
  have E_a0 := E_a0.wr W22
  have K22 := (Keep.refl h0 [a0]).wr W22 (Or.inl (List.mem_of_getElem? (i := 0) rfl))
  have Z22 := Nat.le_trans Z0 (Keep.of_wr W22).1
  have F_reentries_a0 := F_reentries_a0x
  refine stp (fun t k => st22 t k) ?_
  show W (T22.setTop (mkF m 9 #[.val (.ref a0), .val (.long q1), .second, .val (.long q2), .second, .val (.long q3), .second] []))
  refine stp (fun t k => XS.aloadN X22.here hx rfl (hb hby d2_9) rfl rfl k) ?_
  show W (T22.setTop (mkF m 10 #[.val (.ref a0), .val (.long q1), .second, .val (.long q2), .second, .val (.long q3), .second] [(.ref a0)]))
  refine stp (fun t k => XS.lloadN X22.here hx rfl (hb hby d2_10) rfl k) ?_
  show W (T22.setTop (mkF m 11 #[.val (.ref a0), .val (.long q1), .second, .val (.long q2), .second, .val (.long q3), .second] [(.long q2), (.ref a0)]))
  obtain ⟨T23, h23, X23, e23, W23, st23⟩ := putF X22 hx hZ hown (host := "") (Or.inl (hw _ (List.mem_of_getElem? (i := 16) rfl))) Via.refl e22 F_refused_a0 E_a0 (Or.inr ⟨(hw _ (List.mem_of_getElem? (i := 17) rfl)), rfl, hnm⟩) (hw _ (List.mem_of_getElem? (i := 1) rfl)) (ty := .long) (by decide) rfl rfl (g := (mkF m 11 #[.val (.ref a0), .val (.long q1), .second, .val (.long q2), .second, .val (.long q3), .second] [(.long q2), (.ref a0)])) rfl rfl (hb hby d2_11)
  have N23 := Fr.snoc X23 N22 g_a0
  have F_refused_a0x := F_refused_a0.same W23
  have F_reentries_a0 := F_reentries_a0.other W23 (Or.inr (slot_ne (Or.inr (hw _ (List.mem_of_getElem? (i := 15) rfl))) (Or.inr (hw _ (List.mem_of_getElem? (i := 17) rfl))) (by decide) (t := .long) (t' := .long) (by decide) (by decide)))
  have F_releasesRejected_a0 := F_releasesRejected_a0.other W23 (Or.inr (slot_ne (Or.inr (hw _ (List.mem_of_getElem? (i := 19) rfl))) (Or.inr (hw _ (List.mem_of_getElem? (i := 17) rfl))) (by decide) (t := .long) (t' := .long) (by decide) (by decide)))
  have E_a0 := E_a0.wr W23
  have K23 := K22.wr W23 (Or.inl (List.mem_of_getElem? (i := 0) rfl))
  have Z23 := Nat.le_trans Z22 (Keep.of_wr W23).1
  have F_refused_a0 := F_refused_a0x
  refine stp (fun t k => st23 t k) ?_
  show W (T23.setTop (mkF m 14 #[.val (.ref a0), .val (.long q1), .second, .val (.long q2), .second, .val (.long q3), .second] []))
  refine stp (fun t k => XS.aloadN X23.here hx rfl (hb hby d2_14) rfl rfl k) ?_
  show W (T23.setTop (mkF m 15 #[.val (.ref a0), .val (.long q1), .second, .val (.long q2), .second, .val (.long q3), .second] [(.ref a0)]))
  refine stp (fun t k => XS.lload X23.here hx rfl (hb hby d2_15) rfl k) ?_
  show W (T23.setTop (mkF m 17 #[.val (.ref a0), .val (.long q1), .second, .val (.long q2), .second, .val (.long q3), .second] [(.long q3), (.ref a0)]))
  obtain ⟨T24, h24, X24, e24, W24, st24⟩ := putF X23 hx hZ hown (host := "") (Or.inl (hw _ (List.mem_of_getElem? (i := 18) rfl))) Via.refl e23 F_releasesRejected_a0 E_a0 (Or.inr ⟨(hw _ (List.mem_of_getElem? (i := 19) rfl)), rfl, hnm⟩) (hw _ (List.mem_of_getElem? (i := 1) rfl)) (ty := .long) (by decide) rfl rfl (g := (mkF m 17 #[.val (.ref a0), .val (.long q1), .second, .val (.long q2), .second, .val (.long q3), .second] [(.long q3), (.ref a0)])) rfl rfl (hb hby d2_17)
  have N24 := Fr.snoc X24 N23 g_a0
  have F_releasesRejected_a0x := F_releasesRejected_a0.same W24
  have F_reentries_a0 := F_reentries_a0.other W24 (Or.inr (slot_ne (Or.inr (hw _ (List.mem_of_getElem? (i := 15) rfl))) (Or.inr (hw _ (List.mem_of_getElem? (i := 19) rfl))) (by decide) (t := .long) (t' := .long) (by decide) (by decide)))
  have F_refused_a0 := F_refused_a0.other W24 (Or.inr (slot_ne (Or.inr (hw _ (List.mem_of_getElem? (i := 17) rfl))) (Or.inr (hw _ (List.mem_of_getElem? (i := 19) rfl))) (by decide) (t := .long) (t' := .long) (by decide) (by decide)))
  have E_a0 := E_a0.wr W24
  have K24 := K23.wr W24 (Or.inl (List.mem_of_getElem? (i := 0) rfl))
  have Z24 := Nat.le_trans Z23 (Keep.of_wr W24).1
  have F_releasesRejected_a0 := F_releasesRejected_a0x
  refine stp (fun t k => st24 t k) ?_
  show W (T24.setTop (mkF m 20 #[.val (.ref a0), .val (.long q1), .second, .val (.long q2), .second, .val (.long q3), .second] []))
  show W (T24.setTop (mkF m 20 #[.val (.ref a0), .val (.long q1), .second, .val (.long q2), .second, .val (.long q3), .second] []))
  rw [← hW]
  exact own_ret0 X24 hx Bd.notSynchronized Bd.returns (hb hby d2_20) (by show Q2 Z a0 q1 q2 q3 h0 n0 _ T24.heap _; rw [e24]; exact ⟨rfl, N24, K24, E_a0, F_reentries_a0, F_refused_a0, F_releasesRejected_a0⟩) (by decide) (by decide)
theorem d3_0 : decode prog_9_method_3_code 0 = .ok (.aload_n 0, 1) := by decide +kernel
theorem d3_1 : decode prog_9_method_3_code 1 = .ok (.getfield 13, 3) := by decide +kernel
theorem d3_4 : decode prog_9_method_3_code 4 = .ok (.lconst 0, 1) := by decide +kernel
theorem d3_5 : decode prog_9_method_3_code 5 = .ok (.lcmp, 1) := by decide +kernel
theorem d3_6 : decode prog_9_method_3_code 6 = .ok (.ifCond .ne 16, 3) := by decide +kernel
theorem d3_9 : decode prog_9_method_3_code 9 = .ok (.aload_n 0, 1) := by decide +kernel
theorem d3_10 : decode prog_9_method_3_code 10 = .ok (.getfield 16, 3) := by decide +kernel
theorem d3_13 : decode prog_9_method_3_code 13 = .ok (.lconst 0, 1) := by decide +kernel
theorem d3_14 : decode prog_9_method_3_code 14 = .ok (.lcmp, 1) := by decide +kernel
theorem d3_15 : decode prog_9_method_3_code 15 = .ok (.ifCond .ne 7, 3) := by decide +kernel
theorem d3_18 : decode prog_9_method_3_code 18 = .ok (.iconst 1, 1) := by decide +kernel
theorem d3_19 : decode prog_9_method_3_code 19 = .ok (.goto 4, 3) := by decide +kernel
theorem d3_22 : decode prog_9_method_3_code 22 = .ok (.iconst 0, 1) := by decide +kernel
theorem d3_23 : decode prog_9_method_3_code 23 = .ok (.ireturn, 1) := by decide +kernel
theorem pn3 : plainName "com/example/fieldgate/fieldgate/edit/ReentrySummary" = true := by first | (simp [plainName, overriddenIn]; done) | decide +kernel
theorem ef3 (m : MethodId) (a0 : Addr) : entryFrame m #[(.ref a0)] 1 = mkF m 0 #[.val (.ref a0)] [] := by first | (simp [entryFrame, mkF, argsToLocals, Value.category]; done) | rfl
def f3 (refused : Int64) (releasesRejected : Int64) : Int32 := (if refused = (0 : Int64) then (if releasesRejected = (0 : Int64) then (1 : Int32) else (0 : Int32)) else (0 : Int32))
def Q3 (Z : State) (a0 : Addr) (refused : Int64) (releasesRejected : Int64) (h0 : Heap) (n0 : Nat) (v : Option Value) (h : Heap) (L : List Loc) : Prop := v = some (.int (f3 refused releasesRejected)) ∧ Fr n0 L ∧ h = h0
set_option maxRecDepth 65536 in
set_option maxHeartbeats 40000000 in
theorem rm3 (l : Launch) (Z : State) (aa : Array Value) (hw : ∀ d ∈ tables_1, d.before aa Z = true) (ws : List Jvm.Cond) (a0 : Addr) (refused : Int64) (releasesRejected : Int64) (h0 : Heap) (n0 : Nat) (Z0 : n0 ≤ h0.size) (F_refused_a0 : Fld Z h0 a0 "com/example/fieldgate/fieldgate/edit/ReentrySummary" "refused" "J" (.long refused)) (F_releasesRejected_a0 : Fld Z h0 a0 "com/example/fieldgate/fieldgate/edit/ReentrySummary" "releasesRejected" "J" (.long releasesRejected)) :
    MetFree l (⟨"com/example/fieldgate/fieldgate/edit/ReentrySummary", "allAccepted", "()Z"⟩ : MethodName) (head1 (Jvm.Cond.code (⟨"com/example/fieldgate/fieldgate/edit/ReentrySummary", "allAccepted", "()Z"⟩ : MethodName) prog_9_method_3_code 1 (some .boolean) :: ws) ({ frames := 0, cells := 0, slots := 0, locals := 0 } : Room)) (fun a U => a = #[(.ref a0)] ∧ Z.Warmed39 U.vm ∧ U.heap = h0) (fun _ _ _ _ _ => True) (fun _ U o U' => ∃ v L, o = .returned v ∧ Q3 Z a0 refused releasesRejected h0 n0 v U'.heap L ∧ FrameEnd U o U' L ({ frames := 0, cells := 0, slots := 0, locals := 0 } : Room).cells ({ frames := 0, cells := 0, slots := 0, locals := 0 } : Room).slots) := by
  refine MetFree.of_bodySF (plainFor_of_name pn3) hisR ?_
  intro p e s m args below meth c s₁ Bd hml0 hP hK
  obtain ⟨rfl, hZ, hh⟩ := hP
  have hx := Bd.exec
  have hby := Bd.bytes
  have hml : c.maxLocals = 1 := hml0
  have hown : s.vm.findClass "com/example/fieldgate/fieldgate/edit/ReentrySummary" = some m.cls := findClass_of_methodNamed Bd.named
  have hnm := (name_of_methodNamed Bd.named Bd.method).1
  have X0 : Stand p l e ({ frames := 0, cells := 0, slots := 0, locals := 0 } : Room) s m #[(.ref a0)] below meth c s₁ [] 0 0 := Stand.of_body Bd
  have e0 : s₁.heap = h0 := by rw [← hh, Bd.state]; rfl
  have N0 := Fr.nil n0
  show OwnEnd p e below s (fun v h L => Q3 Z a0 refused releasesRejected h0 n0 v h L) ({ frames := 0, cells := 0, slots := 0, locals := 0 } : Room).cells ({ frames := 0, cells := 0, slots := 0, locals := 0 } : Room).slots (s₁.setTop (entryFrame m #[(.ref a0)] 1))
  rw [ef3 m a0]
  generalize hW : OwnEnd p e below s (fun v h L => Q3 Z a0 refused releasesRejected h0 n0 v h L) ({ frames := 0, cells := 0, slots := 0, locals := 0 } : Room).cells ({ frames := 0, cells := 0, slots := 0, locals := 0 } : Room).slots = W
  have stp : ∀ {A B : State}, (∀ t, Steps p.tables e below B t → Steps p.tables e below A t) → W B → W A := by subst hW; exact own_step
  show W (s₁.setTop (mkF m 0 #[.val (.ref a0)] []))
  refine stp (fun t k => XS.aloadN X0.here hx rfl (hb hby d3_0) rfl rfl k) ?_
  show W (s₁.setTop (mkF m 1 #[.val (.ref a0)] [(.ref a0)]))
  obtain ⟨T31, X31, e31, st31⟩ := getF X0 hx hZ hown (host := "") (Or.inl (hw _ (List.mem_of_getElem? (i := 16) rfl))) Via.refl e0 F_refused_a0 (g := (mkF m 1 #[.val (.ref a0)] [(.ref a0)])) rfl rfl (hb hby d3_1)
  refine stp (fun t k => st31 t k) ?_
  show W (T31.setTop (mkF m 4 #[.val (.ref a0)] [(.long refused)]))
  refine stp (fun t k => XS.lconst X31.here hx rfl (hb hby d3_4) k) ?_
  show W (T31.setTop (mkF m 5 #[.val (.ref a0)] [(.long (0 : Int64)), (.long refused)]))
  refine stp (fun t k => XS.lcmp X31.here hx rfl (hb hby d3_5) rfl k) ?_
  show W (T31.setTop (mkF m 6 #[.val (.ref a0)] [(.int (lcmpW refused (0 : Int64)))]))
  by_cases hc3_2 : refused = (0 : Int64)
  · refine stp (fun t k => XS.ifNo X31.here hx rfl (hb hby d3_6) rfl ((if0 _ _).trans (teq ((lw_eq refused (0 : Int64)).mpr hc3_2)).2) k) ?_
    show W (T31.setTop (mkF m 9 #[.val (.ref a0)] []))
    refine stp (fun t k => XS.aloadN X31.here hx rfl (hb hby d3_9) rfl rfl k) ?_
    show W (T31.setTop (mkF m 10 #[.val (.ref a0)] [(.ref a0)]))
    obtain ⟨T33, X33, e33, st33⟩ := getF X31 hx hZ hown (host := "") (Or.inl (hw _ (List.mem_of_getElem? (i := 18) rfl))) Via.refl e31 F_releasesRejected_a0 (g := (mkF m 10 #[.val (.ref a0)] [(.ref a0)])) rfl rfl (hb hby d3_10)
    refine stp (fun t k => st33 t k) ?_
    show W (T33.setTop (mkF m 13 #[.val (.ref a0)] [(.long releasesRejected)]))
    refine stp (fun t k => XS.lconst X33.here hx rfl (hb hby d3_13) k) ?_
    show W (T33.setTop (mkF m 14 #[.val (.ref a0)] [(.long (0 : Int64)), (.long releasesRejected)]))
    refine stp (fun t k => XS.lcmp X33.here hx rfl (hb hby d3_14) rfl k) ?_
    show W (T33.setTop (mkF m 15 #[.val (.ref a0)] [(.int (lcmpW releasesRejected (0 : Int64)))]))
    by_cases hc3_4 : releasesRejected = (0 : Int64)
    · refine stp (fun t k => XS.ifNo X33.here hx rfl (hb hby d3_15) rfl ((if0 _ _).trans (teq ((lw_eq releasesRejected (0 : Int64)).mpr hc3_4)).2) k) ?_
      show W (T33.setTop (mkF m 18 #[.val (.ref a0)] []))
      refine stp (fun t k => XS.iconst X33.here hx rfl (hb hby d3_18) k) ?_
      show W (T33.setTop (mkF m 19 #[.val (.ref a0)] [(.int (1 : Int32))]))
      refine stp (fun t k => XS.goto X33.here hx rfl (pc0 := 19) (pc' := 23) rfl (hb hby d3_19) (by decide) (by decide) k) ?_
      show W (T33.setTop (mkF m 23 #[.val (.ref a0)] [(.int (1 : Int32))]))
      show W (T33.setTop (mkF m 23 #[.val (.ref a0)] [(.int (1 : Int32))]))
      rw [← hW]
      exact own_retN X33 hx Bd.notSynchronized Bd.returns (w := (1 : Int32)) (by simp) (hb hby d3_23) rfl (by show Q3 Z a0 refused releasesRejected h0 n0 _ T33.heap _; rw [e33]; exact ⟨(by rw [f3, if_pos hc3_2, if_pos hc3_4]), N0, rfl⟩) (by decide) (by decide)
    · refine stp (fun t k => XS.ifYes X33.here hx rfl (pc0 := 15) (pc' := 22) rfl (hb hby d3_15) rfl ((if0 _ _).trans (feq (fun q => hc3_4 ((lw_eq releasesRejected (0 : Int64)).mp q))).2) (by decide) (by decide) k) ?_
      show W (T33.setTop (mkF m 22 #[.val (.ref a0)] []))
      refine stp (fun t k => XS.iconst X33.here hx rfl (hb hby d3_22) k) ?_
      show W (T33.setTop (mkF m 23 #[.val (.ref a0)] [(.int (0 : Int32))]))
      show W (T33.setTop (mkF m 23 #[.val (.ref a0)] [(.int (0 : Int32))]))
      rw [← hW]
      exact own_retN X33 hx Bd.notSynchronized Bd.returns (w := (0 : Int32)) (by simp) (hb hby d3_23) rfl (by show Q3 Z a0 refused releasesRejected h0 n0 _ T33.heap _; rw [e33]; exact ⟨(by rw [f3, if_pos hc3_2, if_neg hc3_4]), N0, rfl⟩) (by decide) (by decide)
  · refine stp (fun t k => XS.ifYes X31.here hx rfl (pc0 := 6) (pc' := 22) rfl (hb hby d3_6) rfl ((if0 _ _).trans (feq (fun q => hc3_2 ((lw_eq refused (0 : Int64)).mp q))).2) (by decide) (by decide) k) ?_
    show W (T31.setTop (mkF m 22 #[.val (.ref a0)] []))
    refine stp (fun t k => XS.iconst X31.here hx rfl (hb hby d3_22) k) ?_
    show W (T31.setTop (mkF m 23 #[.val (.ref a0)] [(.int (0 : Int32))]))
    show W (T31.setTop (mkF m 23 #[.val (.ref a0)] [(.int (0 : Int32))]))
    rw [← hW]
    exact own_retN X31 hx Bd.notSynchronized Bd.returns (w := (0 : Int32)) (by simp) (hb hby d3_23) rfl (by show Q3 Z a0 refused releasesRejected h0 n0 _ T31.heap _; rw [e31]; exact ⟨(by rw [f3, if_neg hc3_2]), N0, rfl⟩) (by decide) (by decide)
theorem d4_0 : decode prog_9_method_2_code 0 = .ok (.aload_n 0, 1) := by decide +kernel
theorem d4_1 : decode prog_9_method_2_code 1 = .ok (.getfield 7, 3) := by decide +kernel
theorem d4_4 : decode prog_9_method_2_code 4 = .ok (.aload_n 0, 1) := by decide +kernel
theorem d4_5 : decode prog_9_method_2_code 5 = .ok (.getfield 13, 3) := by decide +kernel
theorem d4_8 : decode prog_9_method_2_code 8 = .ok (.lsub, 1) := by decide +kernel
theorem d4_9 : decode prog_9_method_2_code 9 = .ok (.lreturn, 1) := by decide +kernel
theorem pn4 : plainName "com/example/fieldgate/fieldgate/edit/ReentrySummary" = true := by first | (simp [plainName, overriddenIn]; done) | decide +kernel
theorem ef4 (m : MethodId) (a0 : Addr) : entryFrame m #[(.ref a0)] 1 = mkF m 0 #[.val (.ref a0)] [] := by first | (simp [entryFrame, mkF, argsToLocals, Value.category]; done) | rfl
def f4 (reentries : Int64) (refused : Int64) : Int64 := (reentries - refused)
def Q4 (Z : State) (a0 : Addr) (reentries : Int64) (refused : Int64) (h0 : Heap) (n0 : Nat) (v : Option Value) (h : Heap) (L : List Loc) : Prop := v = some (.long (f4 reentries refused)) ∧ Fr n0 L ∧ h = h0
set_option maxRecDepth 65536 in
set_option maxHeartbeats 40000000 in
theorem rm4 (l : Launch) (Z : State) (aa : Array Value) (hw : ∀ d ∈ tables_1, d.before aa Z = true) (ws : List Jvm.Cond) (a0 : Addr) (reentries : Int64) (refused : Int64) (h0 : Heap) (n0 : Nat) (Z0 : n0 ≤ h0.size) (F_reentries_a0 : Fld Z h0 a0 "com/example/fieldgate/fieldgate/edit/ReentrySummary" "reentries" "J" (.long reentries)) (F_refused_a0 : Fld Z h0 a0 "com/example/fieldgate/fieldgate/edit/ReentrySummary" "refused" "J" (.long refused)) :
    MetFree l (⟨"com/example/fieldgate/fieldgate/edit/ReentrySummary", "applied", "()J"⟩ : MethodName) (head1 (Jvm.Cond.code (⟨"com/example/fieldgate/fieldgate/edit/ReentrySummary", "applied", "()J"⟩ : MethodName) prog_9_method_2_code 1 (some .long) :: ws) ({ frames := 0, cells := 0, slots := 0, locals := 0 } : Room)) (fun a U => a = #[(.ref a0)] ∧ Z.Warmed39 U.vm ∧ U.heap = h0) (fun _ _ _ _ _ => True) (fun _ U o U' => ∃ v L, o = .returned v ∧ Q4 Z a0 reentries refused h0 n0 v U'.heap L ∧ FrameEnd U o U' L ({ frames := 0, cells := 0, slots := 0, locals := 0 } : Room).cells ({ frames := 0, cells := 0, slots := 0, locals := 0 } : Room).slots) := by
  refine MetFree.of_bodySF (plainFor_of_name pn4) hisR ?_
  intro p e s m args below meth c s₁ Bd hml0 hP hK
  obtain ⟨rfl, hZ, hh⟩ := hP
  have hx := Bd.exec
  have hby := Bd.bytes
  have hml : c.maxLocals = 1 := hml0
  have hown : s.vm.findClass "com/example/fieldgate/fieldgate/edit/ReentrySummary" = some m.cls := findClass_of_methodNamed Bd.named
  have hnm := (name_of_methodNamed Bd.named Bd.method).1
  have X0 : Stand p l e ({ frames := 0, cells := 0, slots := 0, locals := 0 } : Room) s m #[(.ref a0)] below meth c s₁ [] 0 0 := Stand.of_body Bd
  have e0 : s₁.heap = h0 := by rw [← hh, Bd.state]; rfl
  have N0 := Fr.nil n0
  show OwnEnd p e below s (fun v h L => Q4 Z a0 reentries refused h0 n0 v h L) ({ frames := 0, cells := 0, slots := 0, locals := 0 } : Room).cells ({ frames := 0, cells := 0, slots := 0, locals := 0 } : Room).slots (s₁.setTop (entryFrame m #[(.ref a0)] 1))
  rw [ef4 m a0]
  generalize hW : OwnEnd p e below s (fun v h L => Q4 Z a0 reentries refused h0 n0 v h L) ({ frames := 0, cells := 0, slots := 0, locals := 0 } : Room).cells ({ frames := 0, cells := 0, slots := 0, locals := 0 } : Room).slots = W
  have stp : ∀ {A B : State}, (∀ t, Steps p.tables e below B t → Steps p.tables e below A t) → W B → W A := by subst hW; exact own_step
  show W (s₁.setTop (mkF m 0 #[.val (.ref a0)] []))
  refine stp (fun t k => XS.aloadN X0.here hx rfl (hb hby d4_0) rfl rfl k) ?_
  show W (s₁.setTop (mkF m 1 #[.val (.ref a0)] [(.ref a0)]))
  obtain ⟨T41, X41, e41, st41⟩ := getF X0 hx hZ hown (host := "") (Or.inl (hw _ (List.mem_of_getElem? (i := 14) rfl))) Via.refl e0 F_reentries_a0 (g := (mkF m 1 #[.val (.ref a0)] [(.ref a0)])) rfl rfl (hb hby d4_1)
  refine stp (fun t k => st41 t k) ?_
  show W (T41.setTop (mkF m 4 #[.val (.ref a0)] [(.long reentries)]))
  refine stp (fun t k => XS.aloadN X41.here hx rfl (hb hby d4_4) rfl rfl k) ?_
  show W (T41.setTop (mkF m 5 #[.val (.ref a0)] [(.ref a0), (.long reentries)]))
  obtain ⟨T42, X42, e42, st42⟩ := getF X41 hx hZ hown (host := "") (Or.inl (hw _ (List.mem_of_getElem? (i := 16) rfl))) Via.refl e41 F_refused_a0 (g := (mkF m 5 #[.val (.ref a0)] [(.ref a0), (.long reentries)])) rfl rfl (hb hby d4_5)
  refine stp (fun t k => st42 t k) ?_
  show W (T42.setTop (mkF m 8 #[.val (.ref a0)] [(.long refused), (.long reentries)]))
  refine stp (fun t k => XS.lsub X42.here hx rfl (hb hby d4_8) rfl k) ?_
  show W (T42.setTop (mkF m 9 #[.val (.ref a0)] [(.long (reentries - refused))]))
  show W (T42.setTop (mkF m 9 #[.val (.ref a0)] [(.long (reentries - refused))]))
  rw [← hW]
  exact own_retJ X42 hx Bd.notSynchronized Bd.returns (hb hby d4_9) (by show Q4 Z a0 reentries refused h0 n0 _ T42.heap _; rw [e42]; exact ⟨rfl, N0, rfl⟩) (by decide) (by decide)
theorem d5_0 : decode prog_9_method_7_code 0 = .ok (.aload_n 0, 1) := by decide +kernel
theorem d5_1 : decode prog_9_method_7_code 1 = .ok (.getfield 7, 3) := by decide +kernel
theorem d5_4 : decode prog_9_method_7_code 4 = .ok (.lreturn, 1) := by decide +kernel
theorem pn5 : plainName "com/example/fieldgate/fieldgate/edit/ReentrySummary" = true := by first | (simp [plainName, overriddenIn]; done) | decide +kernel
theorem ef5 (m : MethodId) (a0 : Addr) : entryFrame m #[(.ref a0)] 1 = mkF m 0 #[.val (.ref a0)] [] := by first | (simp [entryFrame, mkF, argsToLocals, Value.category]; done) | rfl
def f5 (reentries : Int64) : Int64 := reentries
def Q5 (Z : State) (a0 : Addr) (reentries : Int64) (h0 : Heap) (n0 : Nat) (v : Option Value) (h : Heap) (L : List Loc) : Prop := v = some (.long (f5 reentries)) ∧ Fr n0 L ∧ h = h0
set_option maxRecDepth 65536 in
set_option maxHeartbeats 40000000 in
theorem rm5 (l : Launch) (Z : State) (aa : Array Value) (hw : ∀ d ∈ tables_1, d.before aa Z = true) (ws : List Jvm.Cond) (a0 : Addr) (reentries : Int64) (h0 : Heap) (n0 : Nat) (Z0 : n0 ≤ h0.size) (F_reentries_a0 : Fld Z h0 a0 "com/example/fieldgate/fieldgate/edit/ReentrySummary" "reentries" "J" (.long reentries)) :
    MetFree l (⟨"com/example/fieldgate/fieldgate/edit/ReentrySummary", "reentries", "()J"⟩ : MethodName) (head1 (Jvm.Cond.code (⟨"com/example/fieldgate/fieldgate/edit/ReentrySummary", "reentries", "()J"⟩ : MethodName) prog_9_method_7_code 1 (some .long) :: ws) ({ frames := 0, cells := 0, slots := 0, locals := 0 } : Room)) (fun a U => a = #[(.ref a0)] ∧ Z.Warmed39 U.vm ∧ U.heap = h0) (fun _ _ _ _ _ => True) (fun _ U o U' => ∃ v L, o = .returned v ∧ Q5 Z a0 reentries h0 n0 v U'.heap L ∧ FrameEnd U o U' L ({ frames := 0, cells := 0, slots := 0, locals := 0 } : Room).cells ({ frames := 0, cells := 0, slots := 0, locals := 0 } : Room).slots) := by
  refine MetFree.of_bodySF (plainFor_of_name pn5) hisR ?_
  intro p e s m args below meth c s₁ Bd hml0 hP hK
  obtain ⟨rfl, hZ, hh⟩ := hP
  have hx := Bd.exec
  have hby := Bd.bytes
  have hml : c.maxLocals = 1 := hml0
  have hown : s.vm.findClass "com/example/fieldgate/fieldgate/edit/ReentrySummary" = some m.cls := findClass_of_methodNamed Bd.named
  have hnm := (name_of_methodNamed Bd.named Bd.method).1
  have X0 : Stand p l e ({ frames := 0, cells := 0, slots := 0, locals := 0 } : Room) s m #[(.ref a0)] below meth c s₁ [] 0 0 := Stand.of_body Bd
  have e0 : s₁.heap = h0 := by rw [← hh, Bd.state]; rfl
  have N0 := Fr.nil n0
  show OwnEnd p e below s (fun v h L => Q5 Z a0 reentries h0 n0 v h L) ({ frames := 0, cells := 0, slots := 0, locals := 0 } : Room).cells ({ frames := 0, cells := 0, slots := 0, locals := 0 } : Room).slots (s₁.setTop (entryFrame m #[(.ref a0)] 1))
  rw [ef5 m a0]
  generalize hW : OwnEnd p e below s (fun v h L => Q5 Z a0 reentries h0 n0 v h L) ({ frames := 0, cells := 0, slots := 0, locals := 0 } : Room).cells ({ frames := 0, cells := 0, slots := 0, locals := 0 } : Room).slots = W
  have stp : ∀ {A B : State}, (∀ t, Steps p.tables e below B t → Steps p.tables e below A t) → W B → W A := by subst hW; exact own_step
  show W (s₁.setTop (mkF m 0 #[.val (.ref a0)] []))
  refine stp (fun t k => XS.aloadN X0.here hx rfl (hb hby d5_0) rfl rfl k) ?_
  show W (s₁.setTop (mkF m 1 #[.val (.ref a0)] [(.ref a0)]))
  obtain ⟨T51, X51, e51, st51⟩ := getF X0 hx hZ hown (host := "") (Or.inl (hw _ (List.mem_of_getElem? (i := 14) rfl))) Via.refl e0 F_reentries_a0 (g := (mkF m 1 #[.val (.ref a0)] [(.ref a0)])) rfl rfl (hb hby d5_1)
  refine stp (fun t k => st51 t k) ?_
  show W (T51.setTop (mkF m 4 #[.val (.ref a0)] [(.long reentries)]))
  show W (T51.setTop (mkF m 4 #[.val (.ref a0)] [(.long reentries)]))
  rw [← hW]
  exact own_retJ X51 hx Bd.notSynchronized Bd.returns (hb hby d5_4) (by show Q5 Z a0 reentries h0 n0 _ T51.heap _; rw [e51]; exact ⟨rfl, N0, rfl⟩) (by decide) (by decide)
theorem d6_0 : decode prog_9_method_9_code 0 = .ok (.aload_n 0, 1) := by decide +kernel
theorem d6_1 : decode prog_9_method_9_code 1 = .ok (.getfield 16, 3) := by decide +kernel
theorem d6_4 : decode prog_9_method_9_code 4 = .ok (.lreturn, 1) := by decide +kernel
theorem pn6 : plainName "com/example/fieldgate/fieldgate/edit/ReentrySummary" = true := by first | (simp [plainName, overriddenIn]; done) | decide +kernel
theorem ef6 (m : MethodId) (a0 : Addr) : entryFrame m #[(.ref a0)] 1 = mkF m 0 #[.val (.ref a0)] [] := by first | (simp [entryFrame, mkF, argsToLocals, Value.category]; done) | rfl
def f6 (releasesRejected : Int64) : Int64 := releasesRejected
def Q6 (Z : State) (a0 : Addr) (releasesRejected : Int64) (h0 : Heap) (n0 : Nat) (v : Option Value) (h : Heap) (L : List Loc) : Prop := v = some (.long (f6 releasesRejected)) ∧ Fr n0 L ∧ h = h0
set_option maxRecDepth 65536 in
set_option maxHeartbeats 40000000 in
theorem rm6 (l : Launch) (Z : State) (aa : Array Value) (hw : ∀ d ∈ tables_1, d.before aa Z = true) (ws : List Jvm.Cond) (a0 : Addr) (releasesRejected : Int64) (h0 : Heap) (n0 : Nat) (Z0 : n0 ≤ h0.size) (F_releasesRejected_a0 : Fld Z h0 a0 "com/example/fieldgate/fieldgate/edit/ReentrySummary" "releasesRejected" "J" (.long releasesRejected)) :
    MetFree l (⟨"com/example/fieldgate/fieldgate/edit/ReentrySummary", "releasesRejected", "()J"⟩ : MethodName) (head1 (Jvm.Cond.code (⟨"com/example/fieldgate/fieldgate/edit/ReentrySummary", "releasesRejected", "()J"⟩ : MethodName) prog_9_method_9_code 1 (some .long) :: ws) ({ frames := 0, cells := 0, slots := 0, locals := 0 } : Room)) (fun a U => a = #[(.ref a0)] ∧ Z.Warmed39 U.vm ∧ U.heap = h0) (fun _ _ _ _ _ => True) (fun _ U o U' => ∃ v L, o = .returned v ∧ Q6 Z a0 releasesRejected h0 n0 v U'.heap L ∧ FrameEnd U o U' L ({ frames := 0, cells := 0, slots := 0, locals := 0 } : Room).cells ({ frames := 0, cells := 0, slots := 0, locals := 0 } : Room).slots) := by
  refine MetFree.of_bodySF (plainFor_of_name pn6) hisR ?_
  intro p e s m args below meth c s₁ Bd hml0 hP hK
  obtain ⟨rfl, hZ, hh⟩ := hP
  have hx := Bd.exec
  have hby := Bd.bytes
  have hml : c.maxLocals = 1 := hml0
  have hown : s.vm.findClass "com/example/fieldgate/fieldgate/edit/ReentrySummary" = some m.cls := findClass_of_methodNamed Bd.named
  have hnm := (name_of_methodNamed Bd.named Bd.method).1
  have X0 : Stand p l e ({ frames := 0, cells := 0, slots := 0, locals := 0 } : Room) s m #[(.ref a0)] below meth c s₁ [] 0 0 := Stand.of_body Bd
  have e0 : s₁.heap = h0 := by rw [← hh, Bd.state]; rfl
  have N0 := Fr.nil n0
  show OwnEnd p e below s (fun v h L => Q6 Z a0 releasesRejected h0 n0 v h L) ({ frames := 0, cells := 0, slots := 0, locals := 0 } : Room).cells ({ frames := 0, cells := 0, slots := 0, locals := 0 } : Room).slots (s₁.setTop (entryFrame m #[(.ref a0)] 1))
  rw [ef6 m a0]
  generalize hW : OwnEnd p e below s (fun v h L => Q6 Z a0 releasesRejected h0 n0 v h L) ({ frames := 0, cells := 0, slots := 0, locals := 0 } : Room).cells ({ frames := 0, cells := 0, slots := 0, locals := 0 } : Room).slots = W
  have stp : ∀ {A B : State}, (∀ t, Steps p.tables e below B t → Steps p.tables e below A t) → W B → W A := by subst hW; exact own_step
  show W (s₁.setTop (mkF m 0 #[.val (.ref a0)] []))
  refine stp (fun t k => XS.aloadN X0.here hx rfl (hb hby d6_0) rfl rfl k) ?_
  show W (s₁.setTop (mkF m 1 #[.val (.ref a0)] [(.ref a0)]))
  obtain ⟨T61, X61, e61, st61⟩ := getF X0 hx hZ hown (host := "") (Or.inl (hw _ (List.mem_of_getElem? (i := 18) rfl))) Via.refl e0 F_releasesRejected_a0 (g := (mkF m 1 #[.val (.ref a0)] [(.ref a0)])) rfl rfl (hb hby d6_1)
  refine stp (fun t k => st61 t k) ?_
  show W (T61.setTop (mkF m 4 #[.val (.ref a0)] [(.long releasesRejected)]))
  show W (T61.setTop (mkF m 4 #[.val (.ref a0)] [(.long releasesRejected)]))
  rw [← hW]
  exact own_retJ X61 hx Bd.notSynchronized Bd.returns (hb hby d6_4) (by show Q6 Z a0 releasesRejected h0 n0 _ T61.heap _; rw [e61]; exact ⟨rfl, N0, rfl⟩) (by decide) (by decide)
theorem own_sub (a r : Int64) : (a - r = a) ↔ r = 0 := by
  constructor
  · intro q
    apply Int64.toInt_inj.mp
    have h1 := c_lsub a r
    have h2 := rng64 r
    have h0 : (0 : Int64).toInt = 0 := by decide
    rw [q] at h1
    omega
  · rintro rfl
    apply Int64.toInt_inj.mp
    have h1 := c_lsub a 0
    have h2 := rng64 a
    have h3 := rng64 (a - 0)
    have h0 : (0 : Int64).toInt = 0 := by decide
    omega
theorem own_law (a r j : Int64) : f3 r j = (if (if f4 a r = f5 a then (1 : Int32) else (0 : Int32)) = (0 : Int32) then (0 : Int32) else (if (if f6 j = (0 : Int64) then (1 : Int32) else (0 : Int32)) = (0 : Int32) then (0 : Int32) else (1 : Int32))) := by
  unfold f3 f4 f5 f6
  simp only [own_sub]
  by_cases h1 : r = 0
  · by_cases h2 : j = 0
    · simp [h1, h2]
    · simp [h1, h2]
  · simp [h1]
theorem pn0 : plainName "com/example/fieldgate/fieldgate/edit/ReentrySummaryAllAcceptedPinLaw" = true := by first | (simp [plainName, overriddenIn]; done) | decide +kernel
theorem pd0_0 : parseMethodDescriptor "(JJJ)V" = some ⟨[.long, .long, .long], none⟩ := by decide +kernel
theorem pd0_1 : parseMethodDescriptor "()Z" = some ⟨[], some .boolean⟩ := by decide +kernel
theorem pd0_2 : parseMethodDescriptor "()J" = some ⟨[], some .long⟩ := by decide +kernel
theorem ef0 (m : MethodId) (q0 : Int64) (q1 : Int64) (q2 : Int64) (p3 : Int32) : entryFrame m #[(.long q0), (.long q1), (.long q2), (.int p3)] maxLocals = mkF m 0 #[.val (.long q0), .second, .val (.long q1), .second, .val (.long q2), .second, .val (.int p3), .unset, .unset, .unset, .unset, .unset, .unset, .unset, .unset, .unset, .unset, .unset] [] := by first | (simp [entryFrame, mkF, argsToLocals, Value.category, maxLocals]; done) | rfl
theorem own_0_133_29 (q0 : Int64) (q1 : Int64) (q2 : Int64) (p3 : Int32)   : (f3 (if (if (p3 &&& (1 : Int32)) = (0 : Int32) then (0 : Int32) else (1 : Int32)) = (0 : Int32) then q1 else (0 : Int64)) (if (if (p3 &&& (2 : Int32)) = (0 : Int32) then (0 : Int32) else (1 : Int32)) = (0 : Int32) then q2 else (0 : Int64))) = (if (if (f4 q0 (if (if (p3 &&& (1 : Int32)) = (0 : Int32) then (0 : Int32) else (1 : Int32)) = (0 : Int32) then q1 else (0 : Int64))) = (f5 q0) then (1 : Int32) else (0 : Int32)) = (0 : Int32) then (0 : Int32) else (if (if (f6 (if (if (p3 &&& (2 : Int32)) = (0 : Int32) then (0 : Int32) else (1 : Int32)) = (0 : Int32) then q2 else (0 : Int64))) = (0 : Int64) then (1 : Int32) else (0 : Int32)) = (0 : Int32) then (0 : Int32) else (1 : Int32))) := own_law _ _ _
def Q0 (Z : State) (q0 : Int64) (q1 : Int64) (q2 : Int64) (p3 : Int32) (h0 : Heap) (n0 : Nat) (v : Option Value) (h : Heap) (L : List Loc) : Prop := v = some (.int (1 : Int32)) ∧ Fr n0 L
set_option maxRecDepth 65536 in
set_option maxHeartbeats 40000000 in
theorem rm0 (l : Launch) (Z : State) (aa : Array Value) (hw : ∀ d ∈ tables_1, d.before aa Z = true) (ws : List Jvm.Cond) (q0 : Int64) (q1 : Int64) (q2 : Int64) (p3 : Int32) (h0 : Heap) (n0 : Nat) (Z0 : n0 ≤ h0.size) :
    MetFree l x (head1 (Jvm.Cond.code x code maxLocals ret :: ws) room_1) (fun a U => a = #[(.long q0), (.long q1), (.long q2), (.int p3)] ∧ Z.Warmed39 U.vm ∧ U.heap = h0) (fun _ _ _ _ _ => True) (fun _ U o U' => ∃ v L, o = .returned v ∧ Q0 Z q0 q1 q2 p3 h0 n0 v U'.heap L ∧ FrameEnd U o U' L room_1.cells room_1.slots) := by
  refine MetFree.of_bodySF (plainFor_of_name pn0) hisR ?_
  intro p e s m args below meth c s₁ Bd hml0 hP hK
  obtain ⟨rfl, hZ, hh⟩ := hP
  have hx := Bd.exec
  have hby := Bd.bytes
  have hml : c.maxLocals = 18 := hml0
  have hown : s.vm.findClass "com/example/fieldgate/fieldgate/edit/ReentrySummaryAllAcceptedPinLaw" = some m.cls := findClass_of_methodNamed Bd.named
  have hnm := (name_of_methodNamed Bd.named Bd.method).1
  have X0 : Stand p l e room_1 s m #[(.long q0), (.long q1), (.long q2), (.int p3)] below meth c s₁ [] 0 0 := Stand.of_body Bd
  have e0 : s₁.heap = h0 := by rw [← hh, Bd.state]; rfl
  have N0 := Fr.nil n0
  show OwnEnd p e below s (fun v h L => Q0 Z q0 q1 q2 p3 h0 n0 v h L) room_1.cells room_1.slots (s₁.setTop (entryFrame m #[(.long q0), (.long q1), (.long q2), (.int p3)] maxLocals))
  rw [ef0 m q0 q1 q2 p3]
  generalize hW : OwnEnd p e below s (fun v h L => Q0 Z q0 q1 q2 p3 h0 n0 v h L) room_1.cells room_1.slots = W
  have stp : ∀ {A B : State}, (∀ t, Steps p.tables e below B t → Steps p.tables e below A t) → W B → W A := by subst hW; exact own_step
  show W (s₁.setTop (mkF m 0 #[.val (.long q0), .second, .val (.long q1), .second, .val (.long q2), .second, .val (.int p3), .unset, .unset, .unset, .unset, .unset, .unset, .unset, .unset, .unset, .unset, .unset] []))
  refine stp (fun t k => XS.iload X0.here hx rfl (hb hby at_0) rfl k) ?_
  show W (s₁.setTop (mkF m 2 #[.val (.long q0), .second, .val (.long q1), .second, .val (.long q2), .second, .val (.int p3), .unset, .unset, .unset, .unset, .unset, .unset, .unset, .unset, .unset, .unset, .unset] [(.int p3)]))
  refine stp (fun t k => XS.iconst X0.here hx rfl (hb hby at_2) k) ?_
  show W (s₁.setTop (mkF m 3 #[.val (.long q0), .second, .val (.long q1), .second, .val (.long q2), .second, .val (.int p3), .unset, .unset, .unset, .unset, .unset, .unset, .unset, .unset, .unset, .unset, .unset] [(.int (1 : Int32)), (.int p3)]))
  refine stp (fun t k => XS.iand X0.here hx rfl (hb hby at_3) rfl k) ?_
  show W (s₁.setTop (mkF m 4 #[.val (.long q0), .second, .val (.long q1), .second, .val (.long q2), .second, .val (.int p3), .unset, .unset, .unset, .unset, .unset, .unset, .unset, .unset, .unset, .unset, .unset] [(.int (p3 &&& (1 : Int32)))]))
  have J0_12_3 : ∀ (T03 : State) (lc03 : List Loc) (v0_2 : Int32) (hv0_2 : v0_2 = (if (p3 &&& (1 : Int32)) = (0 : Int32) then (0 : Int32) else (1 : Int32))) (X03 : Stand p l e room_1 s m #[(.long q0), (.long q1), (.long q2), (.int p3)] below meth c T03 lc03 0 0) (e03 : T03.heap = h0) (N03 : Fr n0 lc03), W (T03.setTop (mkF m 12 #[.val (.long q0), .second, .val (.long q1), .second, .val (.long q2), .second, .val (.int p3), .unset, .unset, .unset, .unset, .unset, .unset, .unset, .unset, .unset, .unset, .unset] [(.int v0_2)])) := by
    intro T03 lc03 v0_2 hv0_2  X03 e03 N03
    show W (T03.setTop (mkF m 12 #[.val (.long q0), .second, .val (.long q1), .second, .val (.long q2), .second, .val (.int p3), .unset, .unset, .unset, .unset, .unset, .unset, .unset, .unset, .unset, .unset, .unset] [(.int v0_2)]))
    refine stp (fun t k => XS.istore X03.here hx rfl (hb hby at_12) rfl (l' := #[.val (.long q0), .second, .val (.long q1), .second, .val (.long q2), .second, .val (.int p3), .val (.int v0_2), .unset, .unset, .unset, .unset, .unset, .unset, .unset, .unset, .unset, .unset]) rfl k) ?_
    show W (T03.setTop (mkF m 14 #[.val (.long q0), .second, .val (.long q1), .second, .val (.long q2), .second, .val (.int p3), .val (.int v0_2), .unset, .unset, .unset, .unset, .unset, .unset, .unset, .unset, .unset, .unset] []))
    refine stp (fun t k => XS.iload X03.here hx rfl (hb hby at_14) rfl k) ?_
    show W (T03.setTop (mkF m 16 #[.val (.long q0), .second, .val (.long q1), .second, .val (.long q2), .second, .val (.int p3), .val (.int v0_2), .unset, .unset, .unset, .unset, .unset, .unset, .unset, .unset, .unset, .unset] [(.int p3)]))
    refine stp (fun t k => XS.iconst X03.here hx rfl (hb hby at_16) k) ?_
    show W (T03.setTop (mkF m 17 #[.val (.long q0), .second, .val (.long q1), .second, .val (.long q2), .second, .val (.int p3), .val (.int v0_2), .unset, .unset, .unset, .unset, .unset, .unset, .unset, .unset, .unset, .unset] [(.int (2 : Int32)), (.int p3)]))
    refine stp (fun t k => XS.iand X03.here hx rfl (hb hby at_17) rfl k) ?_
    show W (T03.setTop (mkF m 18 #[.val (.long q0), .second, .val (.long q1), .second, .val (.long q2), .second, .val (.int p3), .val (.int v0_2), .unset, .unset, .unset, .unset, .unset, .unset, .unset, .unset, .unset, .unset] [(.int (p3 &&& (2 : Int32)))]))
    have J0_26_6 : ∀ (T06 : State) (lc06 : List Loc) (v0_5 : Int32) (hv0_5 : v0_5 = (if (p3 &&& (2 : Int32)) = (0 : Int32) then (0 : Int32) else (1 : Int32))) (X06 : Stand p l e room_1 s m #[(.long q0), (.long q1), (.long q2), (.int p3)] below meth c T06 lc06 0 0) (e06 : T06.heap = h0) (N06 : Fr n0 lc06), W (T06.setTop (mkF m 26 #[.val (.long q0), .second, .val (.long q1), .second, .val (.long q2), .second, .val (.int p3), .val (.int v0_2), .unset, .unset, .unset, .unset, .unset, .unset, .unset, .unset, .unset, .unset] [(.int v0_5)])) := by
      intro T06 lc06 v0_5 hv0_5  X06 e06 N06
      show W (T06.setTop (mkF m 26 #[.val (.long q0), .second, .val (.long q1), .second, .val (.long q2), .second, .val (.int p3), .val (.int v0_2), .unset, .unset, .unset, .unset, .unset, .unset, .unset, .unset, .unset, .unset] [(.int v0_5)]))
      refine stp (fun t k => XS.istore X06.here hx rfl (hb hby at_26) rfl (l' := #[.val (.long q0), .second, .val (.long q1), .second, .val (.long q2), .second, .val (.int p3), .val (.int v0_2), .val (.int v0_5), .unset, .unset, .unset, .unset, .unset, .unset, .unset, .unset, .unset]) rfl k) ?_
      show W (T06.setTop (mkF m 28 #[.val (.long q0), .second, .val (.long q1), .second, .val (.long q2), .second, .val (.int p3), .val (.int v0_2), .val (.int v0_5), .unset, .unset, .unset, .unset, .unset, .unset, .unset, .unset, .unset] []))
      refine stp (fun t k => XS.iload X06.here hx rfl (hb hby at_28) rfl k) ?_
      show W (T06.setTop (mkF m 30 #[.val (.long q0), .second, .val (.long q1), .second, .val (.long q2), .second, .val (.int p3), .val (.int v0_2), .val (.int v0_5), .unset, .unset, .unset, .unset, .unset, .unset, .unset, .unset, .unset] [(.int v0_2)]))
      have J0_38_9 : ∀ (T09 : State) (lc09 : List Loc) (z0_8 : Int64) (hz0_8 : z0_8 = (if v0_2 = (0 : Int32) then q1 else (0 : Int64))) (X09 : Stand p l e room_1 s m #[(.long q0), (.long q1), (.long q2), (.int p3)] below meth c T09 lc09 0 0) (e09 : T09.heap = h0) (N09 : Fr n0 lc09), W (T09.setTop (mkF m 38 #[.val (.long q0), .second, .val (.long q1), .second, .val (.long q2), .second, .val (.int p3), .val (.int v0_2), .val (.int v0_5), .unset, .unset, .unset, .unset, .unset, .unset, .unset, .unset, .unset] [(.long z0_8)])) := by
        intro T09 lc09 z0_8 hz0_8  X09 e09 N09
        show W (T09.setTop (mkF m 38 #[.val (.long q0), .second, .val (.long q1), .second, .val (.long q2), .second, .val (.int p3), .val (.int v0_2), .val (.int v0_5), .unset, .unset, .unset, .unset, .unset, .unset, .unset, .unset, .unset] [(.long z0_8)]))
        refine stp (fun t k => XS.lstore X09.here hx rfl (hb hby at_38) rfl (l' := #[.val (.long q0), .second, .val (.long q1), .second, .val (.long q2), .second, .val (.int p3), .val (.int v0_2), .val (.int v0_5), .val (.long z0_8), .second, .unset, .unset, .unset, .unset, .unset, .unset, .unset]) rfl k) ?_
        show W (T09.setTop (mkF m 40 #[.val (.long q0), .second, .val (.long q1), .second, .val (.long q2), .second, .val (.int p3), .val (.int v0_2), .val (.int v0_5), .val (.long z0_8), .second, .unset, .unset, .unset, .unset, .unset, .unset, .unset] []))
        refine stp (fun t k => XS.iload X09.here hx rfl (hb hby at_40) rfl k) ?_
        show W (T09.setTop (mkF m 42 #[.val (.long q0), .second, .val (.long q1), .second, .val (.long q2), .second, .val (.int p3), .val (.int v0_2), .val (.int v0_5), .val (.long z0_8), .second, .unset, .unset, .unset, .unset, .unset, .unset, .unset] [(.int v0_5)]))
        have J0_51_12 : ∀ (T012 : State) (lc012 : List Loc) (z0_11 : Int64) (hz0_11 : z0_11 = (if v0_5 = (0 : Int32) then q2 else (0 : Int64))) (X012 : Stand p l e room_1 s m #[(.long q0), (.long q1), (.long q2), (.int p3)] below meth c T012 lc012 0 0) (e012 : T012.heap = h0) (N012 : Fr n0 lc012), W (T012.setTop (mkF m 51 #[.val (.long q0), .second, .val (.long q1), .second, .val (.long q2), .second, .val (.int p3), .val (.int v0_2), .val (.int v0_5), .val (.long z0_8), .second, .unset, .unset, .unset, .unset, .unset, .unset, .unset] [(.long z0_11)])) := by
          intro T012 lc012 z0_11 hz0_11  X012 e012 N012
          show W (T012.setTop (mkF m 51 #[.val (.long q0), .second, .val (.long q1), .second, .val (.long q2), .second, .val (.int p3), .val (.int v0_2), .val (.int v0_5), .val (.long z0_8), .second, .unset, .unset, .unset, .unset, .unset, .unset, .unset] [(.long z0_11)]))
          refine stp (fun t k => XS.lstore X012.here hx rfl (hb hby at_51) rfl (l' := #[.val (.long q0), .second, .val (.long q1), .second, .val (.long q2), .second, .val (.int p3), .val (.int v0_2), .val (.int v0_5), .val (.long z0_8), .second, .val (.long z0_11), .second, .unset, .unset, .unset, .unset, .unset]) rfl k) ?_
          show W (T012.setTop (mkF m 53 #[.val (.long q0), .second, .val (.long q1), .second, .val (.long q2), .second, .val (.int p3), .val (.int v0_2), .val (.int v0_5), .val (.long z0_8), .second, .val (.long z0_11), .second, .unset, .unset, .unset, .unset, .unset] []))
          obtain ⟨T013, h013, X013, e013, E013, A013, D013, -, st013⟩ := newO X012 hx hZ hown (hw _ (List.mem_of_getElem? (i := 0) rfl)) (hw _ (List.mem_of_getElem? (i := 1) rfl)) (hw _ (List.mem_of_getElem? (i := 2) rfl)) e012 (g := (mkF m 53 #[.val (.long q0), .second, .val (.long q1), .second, .val (.long q2), .second, .val (.int p3), .val (.int v0_2), .val (.int v0_5), .val (.long z0_8), .second, .val (.long z0_11), .second, .unset, .unset, .unset, .unset, .unset] [])) rfl (hb hby at_53) (by decide) (by decide)
          obtain ⟨b013, gq013⟩ : ∃ z, z = h0.size := ⟨_, rfl⟩
          rw [← gq013] at A013 D013 st013
          have g_b013 : n0 ≤ b013 := Nat.le_trans Z0 (Nat.le_of_eq gq013.symm)
          have sz_b013 : h0.size ≤ b013 := Nat.le_trans (Keep.refl h0 []).1 (Nat.le_of_eq gq013.symm)
          have K013 := (Keep.refl h0 []).ext E013
          have Z013 := Nat.le_trans Z0 E013.1
          have E_b013 := A013
          have F_reentries_b013 : Fld Z h013 b013 "com/example/fieldgate/fieldgate/edit/ReentrySummary" "reentries" "J" (.long (0 : Int64)) := D013 (Or.inr (hw _ (List.mem_of_getElem? (i := 15) rfl))) (ty := .long) (by decide)
          have F_refused_b013 : Fld Z h013 b013 "com/example/fieldgate/fieldgate/edit/ReentrySummary" "refused" "J" (.long (0 : Int64)) := D013 (Or.inr (hw _ (List.mem_of_getElem? (i := 17) rfl))) (ty := .long) (by decide)
          have F_releasesRejected_b013 : Fld Z h013 b013 "com/example/fieldgate/fieldgate/edit/ReentrySummary" "releasesRejected" "J" (.long (0 : Int64)) := D013 (Or.inr (hw _ (List.mem_of_getElem? (i := 19) rfl))) (ty := .long) (by decide)
          refine stp (fun t k => st013 t k) ?_
          show W (T013.setTop (mkF m 56 #[.val (.long q0), .second, .val (.long q1), .second, .val (.long q2), .second, .val (.int p3), .val (.int v0_2), .val (.int v0_5), .val (.long z0_8), .second, .val (.long z0_11), .second, .unset, .unset, .unset, .unset, .unset] [(.ref b013)]))
          refine stp (fun t k => XS.dup X013.here hx rfl (hb hby at_56) rfl rfl k) ?_
          show W (T013.setTop (mkF m 57 #[.val (.long q0), .second, .val (.long q1), .second, .val (.long q2), .second, .val (.int p3), .val (.int v0_2), .val (.int v0_5), .val (.long z0_8), .second, .val (.long z0_11), .second, .unset, .unset, .unset, .unset, .unset] [(.ref b013), (.ref b013)]))
          refine stp (fun t k => XS.lloadN X013.here hx rfl (hb hby at_57) rfl k) ?_
          show W (T013.setTop (mkF m 58 #[.val (.long q0), .second, .val (.long q1), .second, .val (.long q2), .second, .val (.int p3), .val (.int v0_2), .val (.int v0_5), .val (.long z0_8), .second, .val (.long z0_11), .second, .unset, .unset, .unset, .unset, .unset] [(.long q0), (.ref b013), (.ref b013)]))
          refine stp (fun t k => XS.lload X013.here hx rfl (hb hby at_58) rfl k) ?_
          show W (T013.setTop (mkF m 60 #[.val (.long q0), .second, .val (.long q1), .second, .val (.long q2), .second, .val (.int p3), .val (.int v0_2), .val (.int v0_5), .val (.long z0_8), .second, .val (.long z0_11), .second, .unset, .unset, .unset, .unset, .unset] [(.long z0_8), (.long q0), (.ref b013), (.ref b013)]))
          refine stp (fun t k => XS.lload X013.here hx rfl (hb hby at_60) rfl k) ?_
          show W (T013.setTop (mkF m 62 #[.val (.long q0), .second, .val (.long q1), .second, .val (.long q2), .second, .val (.int p3), .val (.int v0_2), .val (.int v0_5), .val (.long z0_8), .second, .val (.long z0_11), .second, .unset, .unset, .unset, .unset, .unset] [(.long z0_11), (.long z0_8), (.long q0), (.ref b013), (.ref b013)]))
          obtain ⟨_, _, ⟨T0c14, L0c14, k0c14, n0c14⟩, -, X0c14, ⟨Lc0c14, hQ0c14, l0c14, y0c14, z0c14⟩, st0c14⟩ := X013.specialBack hx (y := (⟨"com/example/fieldgate/fieldgate/edit/ReentrySummary", "<init>", "(JJJ)V"⟩ : MethodName)) rfl hown (mvT hZ (hw _ (List.mem_of_getElem? (i := 3) rfl))) (mvT hZ (hw _ (List.mem_of_getElem? (i := 4) rfl))) (mvT hZ (hw _ (List.mem_of_getElem? (i := 5) rfl))) (by decide) (backOf (W := 1) (rm2 l Z aa hw [] b013 q0 z0_8 z0_11  h013 n0 Z013 F_reentries_b013 F_refused_b013 F_releasesRejected_b013 E_b013 g_b013) hZ (hw _ (List.mem_of_getElem? (i := 5) rfl)) (hw _ (List.mem_of_getElem? (i := 2) rfl)) (by decide) (by decide)) (g := (mkF m 62 #[.val (.long q0), .second, .val (.long q1), .second, .val (.long q2), .second, .val (.int p3), .val (.int v0_2), .val (.int v0_5), .val (.long z0_8), .second, .val (.long z0_11), .second, .unset, .unset, .unset, .unset, .unset] [(.long z0_11), (.long z0_8), (.long q0), (.ref b013), (.ref b013)])) rfl (by rw [hml]; rfl) (Steps.refl _) (a := b013) (argsL := [(.long q0), (.long z0_8), (.long z0_11)]) (rest := [(.ref b013)]) (lenOf pd0_0 rfl) rfl (by show 2 * 0 + _ ≤ _; exact Nat.le_of_eq rfl) (hb hby at_62) (fun _ _ => ⟨rfl, e013, (by decide : 1 + 0 ≤ _), (by decide : 3 + 0 ≤ _)⟩)
          dsimp only [Pt.U, Pt.locs, Pt.cells, Pt.slots] at X0c14 l0c14 y0c14 z0c14 st0c14 hQ0c14
          subst l0c14 y0c14 z0c14
          obtain ⟨rfl, N0c14q, Kq0c14, g0c14E, g0c14F0, g0c14F1, g0c14F2⟩ := hQ0c14
          have N0c14 := Fr.app N012 N0c14q
          obtain ⟨h0c14, e0c14⟩ : ∃ h, T0c14.heap = h := ⟨_, rfl⟩
          rw [e0c14] at Kq0c14 g0c14E g0c14F0 g0c14F1 g0c14F2
          have E_b013 := E_b013.keep Kq0c14
          have KK0c14 := Keep.trans K013 Kq0c14 (allS (Or.inr sz_b013) all0)
          have Z0c14 := Nat.le_trans Z013 Kq0c14.1
          have E_b013 := g0c14E
          have F_reentries_b013 := g0c14F0
          have F_refused_b013 := g0c14F1
          have F_releasesRejected_b013 := g0c14F2
          refine stp (fun t k => st0c14.trans k) ?_
          show W (T0c14.setTop (mkF m 65 #[.val (.long q0), .second, .val (.long q1), .second, .val (.long q2), .second, .val (.int p3), .val (.int v0_2), .val (.int v0_5), .val (.long z0_8), .second, .val (.long z0_11), .second, .unset, .unset, .unset, .unset, .unset] [(.ref b013)]))
          refine stp (fun t k => XS.astore X0c14.here hx rfl (hb hby at_65) rfl rfl (l' := #[.val (.long q0), .second, .val (.long q1), .second, .val (.long q2), .second, .val (.int p3), .val (.int v0_2), .val (.int v0_5), .val (.long z0_8), .second, .val (.long z0_11), .second, .val (.ref b013), .unset, .unset, .unset, .unset]) rfl k) ?_
          show W (T0c14.setTop (mkF m 67 #[.val (.long q0), .second, .val (.long q1), .second, .val (.long q2), .second, .val (.int p3), .val (.int v0_2), .val (.int v0_5), .val (.long z0_8), .second, .val (.long z0_11), .second, .val (.ref b013), .unset, .unset, .unset, .unset] []))
          refine stp (fun t k => XS.aload X0c14.here hx rfl (hb hby at_67) rfl rfl k) ?_
          show W (T0c14.setTop (mkF m 69 #[.val (.long q0), .second, .val (.long q1), .second, .val (.long q2), .second, .val (.int p3), .val (.int v0_2), .val (.int v0_5), .val (.long z0_8), .second, .val (.long z0_11), .second, .val (.ref b013), .unset, .unset, .unset, .unset] [(.ref b013)]))
          obtain ⟨cq0c15, kq0c15, q0c15a, q0c15b, q0c15c⟩ := isOf hZ e0c14 E_b013
          obtain ⟨_, _, ⟨T0c15, L0c15, k0c15, n0c15⟩, -, X0c15, ⟨Lc0c15, hQ0c15, l0c15, y0c15, z0c15⟩, st0c15⟩ := X0c14.virtualBack hx (y := (⟨"com/example/fieldgate/fieldgate/edit/ReentrySummary", "allAccepted", "()Z"⟩ : MethodName)) (z := (⟨"com/example/fieldgate/fieldgate/edit/ReentrySummary", "allAccepted", "()Z"⟩ : MethodName)) hown (mvT hZ (hw _ (List.mem_of_getElem? (i := 20) rfl))) (mvT hZ (hw _ (List.mem_of_getElem? (i := 21) rfl))) (notFace_of_selects (args := #[]) (mvT hZ (hw _ (List.mem_of_getElem? (i := 23) rfl)))) (mvT hZ (hw _ (List.mem_of_getElem? (i := 23) rfl))) (mvT hZ (hw _ (List.mem_of_getElem? (i := 22) rfl))) (by decide) (backOf (W := 0) (rm3 l Z aa hw [] b013 z0_8 z0_11 h0c14 n0 Z0c14 F_refused_b013 F_releasesRejected_b013) hZ (hw _ (List.mem_of_getElem? (i := 24) rfl)) (hw _ (List.mem_of_getElem? (i := 2) rfl)) (by decide) (by decide)) q0c15a q0c15c (g := (mkF m 69 #[.val (.long q0), .second, .val (.long q1), .second, .val (.long q2), .second, .val (.int p3), .val (.int v0_2), .val (.int v0_5), .val (.long z0_8), .second, .val (.long z0_11), .second, .val (.ref b013), .unset, .unset, .unset, .unset] [(.ref b013)])) rfl (by rw [hml]; rfl) (Steps.refl _) (argsL := []) (rest := []) (lenOf pd0_1 rfl) rfl (by show 2 * 0 + _ ≤ _; exact Nat.le_of_eq rfl) (hb hby at_69) (fun _ _ => ⟨rfl, e0c14, (by decide : 1 + 0 ≤ _), (by decide : 3 + 0 ≤ _)⟩)
          dsimp only [Pt.U, Pt.locs, Pt.cells, Pt.slots] at X0c15 l0c15 y0c15 z0c15 st0c15 hQ0c15
          subst l0c15 y0c15 z0c15
          obtain ⟨rfl, N0c15q, e0c15⟩ := hQ0c15
          have N0c15 := Fr.app N0c14 N0c15q
          refine stp (fun t k => st0c15.trans k) ?_
          show W (T0c15.setTop (mkF m 72 #[.val (.long q0), .second, .val (.long q1), .second, .val (.long q2), .second, .val (.int p3), .val (.int v0_2), .val (.int v0_5), .val (.long z0_8), .second, .val (.long z0_11), .second, .val (.ref b013), .unset, .unset, .unset, .unset] [(.int (f3 z0_8 z0_11))]))
          refine stp (fun t k => XS.istore X0c15.here hx rfl (hb hby at_72) rfl (l' := #[.val (.long q0), .second, .val (.long q1), .second, .val (.long q2), .second, .val (.int p3), .val (.int v0_2), .val (.int v0_5), .val (.long z0_8), .second, .val (.long z0_11), .second, .val (.ref b013), .val (.int (f3 z0_8 z0_11)), .unset, .unset, .unset]) rfl k) ?_
          show W (T0c15.setTop (mkF m 74 #[.val (.long q0), .second, .val (.long q1), .second, .val (.long q2), .second, .val (.int p3), .val (.int v0_2), .val (.int v0_5), .val (.long z0_8), .second, .val (.long z0_11), .second, .val (.ref b013), .val (.int (f3 z0_8 z0_11)), .unset, .unset, .unset] []))
          refine stp (fun t k => XS.aload X0c15.here hx rfl (hb hby at_74) rfl rfl k) ?_
          show W (T0c15.setTop (mkF m 76 #[.val (.long q0), .second, .val (.long q1), .second, .val (.long q2), .second, .val (.int p3), .val (.int v0_2), .val (.int v0_5), .val (.long z0_8), .second, .val (.long z0_11), .second, .val (.ref b013), .val (.int (f3 z0_8 z0_11)), .unset, .unset, .unset] [(.ref b013)]))
          obtain ⟨cq0c16, kq0c16, q0c16a, q0c16b, q0c16c⟩ := isOf hZ e0c15 E_b013
          obtain ⟨_, _, ⟨T0c16, L0c16, k0c16, n0c16⟩, -, X0c16, ⟨Lc0c16, hQ0c16, l0c16, y0c16, z0c16⟩, st0c16⟩ := X0c15.virtualBack hx (y := (⟨"com/example/fieldgate/fieldgate/edit/ReentrySummary", "applied", "()J"⟩ : MethodName)) (z := (⟨"com/example/fieldgate/fieldgate/edit/ReentrySummary", "applied", "()J"⟩ : MethodName)) hown (mvT hZ (hw _ (List.mem_of_getElem? (i := 25) rfl))) (mvT hZ (hw _ (List.mem_of_getElem? (i := 26) rfl))) (notFace_of_selects (args := #[]) (mvT hZ (hw _ (List.mem_of_getElem? (i := 28) rfl)))) (mvT hZ (hw _ (List.mem_of_getElem? (i := 28) rfl))) (mvT hZ (hw _ (List.mem_of_getElem? (i := 27) rfl))) (by decide) (backOf (W := 0) (rm4 l Z aa hw [] b013 q0 z0_8 h0c14 n0 Z0c14 F_reentries_b013 F_refused_b013) hZ (hw _ (List.mem_of_getElem? (i := 29) rfl)) (hw _ (List.mem_of_getElem? (i := 2) rfl)) (by decide) (by decide)) q0c16a q0c16c (g := (mkF m 76 #[.val (.long q0), .second, .val (.long q1), .second, .val (.long q2), .second, .val (.int p3), .val (.int v0_2), .val (.int v0_5), .val (.long z0_8), .second, .val (.long z0_11), .second, .val (.ref b013), .val (.int (f3 z0_8 z0_11)), .unset, .unset, .unset] [(.ref b013)])) rfl (by rw [hml]; rfl) (Steps.refl _) (argsL := []) (rest := []) (lenOf pd0_2 rfl) rfl (by show 2 * 0 + _ ≤ _; exact Nat.le_of_eq rfl) (hb hby at_76) (fun _ _ => ⟨rfl, e0c15, (by decide : 1 + 0 ≤ _), (by decide : 3 + 0 ≤ _)⟩)
          dsimp only [Pt.U, Pt.locs, Pt.cells, Pt.slots] at X0c16 l0c16 y0c16 z0c16 st0c16 hQ0c16
          subst l0c16 y0c16 z0c16
          obtain ⟨rfl, N0c16q, e0c16⟩ := hQ0c16
          have N0c16 := Fr.app N0c15 N0c16q
          refine stp (fun t k => st0c16.trans k) ?_
          show W (T0c16.setTop (mkF m 79 #[.val (.long q0), .second, .val (.long q1), .second, .val (.long q2), .second, .val (.int p3), .val (.int v0_2), .val (.int v0_5), .val (.long z0_8), .second, .val (.long z0_11), .second, .val (.ref b013), .val (.int (f3 z0_8 z0_11)), .unset, .unset, .unset] [(.long (f4 q0 z0_8))]))
          refine stp (fun t k => XS.aload X0c16.here hx rfl (hb hby at_79) rfl rfl k) ?_
          show W (T0c16.setTop (mkF m 81 #[.val (.long q0), .second, .val (.long q1), .second, .val (.long q2), .second, .val (.int p3), .val (.int v0_2), .val (.int v0_5), .val (.long z0_8), .second, .val (.long z0_11), .second, .val (.ref b013), .val (.int (f3 z0_8 z0_11)), .unset, .unset, .unset] [(.ref b013), (.long (f4 q0 z0_8))]))
          obtain ⟨cq0c17, kq0c17, q0c17a, q0c17b, q0c17c⟩ := isOf hZ e0c16 E_b013
          obtain ⟨_, _, ⟨T0c17, L0c17, k0c17, n0c17⟩, -, X0c17, ⟨Lc0c17, hQ0c17, l0c17, y0c17, z0c17⟩, st0c17⟩ := X0c16.virtualBack hx (y := (⟨"com/example/fieldgate/fieldgate/edit/ReentrySummary", "reentries", "()J"⟩ : MethodName)) (z := (⟨"com/example/fieldgate/fieldgate/edit/ReentrySummary", "reentries", "()J"⟩ : MethodName)) hown (mvT hZ (hw _ (List.mem_of_getElem? (i := 30) rfl))) (mvT hZ (hw _ (List.mem_of_getElem? (i := 31) rfl))) (notFace_of_selects (args := #[]) (mvT hZ (hw _ (List.mem_of_getElem? (i := 33) rfl)))) (mvT hZ (hw _ (List.mem_of_getElem? (i := 33) rfl))) (mvT hZ (hw _ (List.mem_of_getElem? (i := 32) rfl))) (by decide) (backOf (W := 2) (rm5 l Z aa hw [] b013 q0 h0c14 n0 Z0c14 F_reentries_b013) hZ (hw _ (List.mem_of_getElem? (i := 34) rfl)) (hw _ (List.mem_of_getElem? (i := 2) rfl)) (by decide) (by decide)) q0c17a q0c17c (g := (mkF m 81 #[.val (.long q0), .second, .val (.long q1), .second, .val (.long q2), .second, .val (.int p3), .val (.int v0_2), .val (.int v0_5), .val (.long z0_8), .second, .val (.long z0_11), .second, .val (.ref b013), .val (.int (f3 z0_8 z0_11)), .unset, .unset, .unset] [(.ref b013), (.long (f4 q0 z0_8))])) rfl (by rw [hml]; rfl) (Steps.refl _) (argsL := []) (rest := [(.long (f4 q0 z0_8))]) (lenOf pd0_2 rfl) rfl (by show 2 * 0 + _ ≤ _; exact Nat.le_of_eq rfl) (hb hby at_81) (fun _ _ => ⟨rfl, e0c16, (by decide : 1 + 0 ≤ _), (by decide : 3 + 0 ≤ _)⟩)
          dsimp only [Pt.U, Pt.locs, Pt.cells, Pt.slots] at X0c17 l0c17 y0c17 z0c17 st0c17 hQ0c17
          subst l0c17 y0c17 z0c17
          obtain ⟨rfl, N0c17q, e0c17⟩ := hQ0c17
          have N0c17 := Fr.app N0c16 N0c17q
          refine stp (fun t k => st0c17.trans k) ?_
          show W (T0c17.setTop (mkF m 84 #[.val (.long q0), .second, .val (.long q1), .second, .val (.long q2), .second, .val (.int p3), .val (.int v0_2), .val (.int v0_5), .val (.long z0_8), .second, .val (.long z0_11), .second, .val (.ref b013), .val (.int (f3 z0_8 z0_11)), .unset, .unset, .unset] [(.long (f5 q0)), (.long (f4 q0 z0_8))]))
          refine stp (fun t k => XS.lcmp X0c17.here hx rfl (hb hby at_84) rfl k) ?_
          show W (T0c17.setTop (mkF m 85 #[.val (.long q0), .second, .val (.long q1), .second, .val (.long q2), .second, .val (.int p3), .val (.int v0_2), .val (.int v0_5), .val (.long z0_8), .second, .val (.long z0_11), .second, .val (.ref b013), .val (.int (f3 z0_8 z0_11)), .unset, .unset, .unset] [(.int (lcmpW (f4 q0 z0_8) (f5 q0)))]))
          have J0_93_20 : ∀ (T020 : State) (lc020 : List Loc) (v0_19 : Int32) (hv0_19 : v0_19 = (if (f4 q0 z0_8) = (f5 q0) then (1 : Int32) else (0 : Int32))) (X020 : Stand p l e room_1 s m #[(.long q0), (.long q1), (.long q2), (.int p3)] below meth c T020 lc020 1 3) (e020 : T020.heap = h0c14) (N020 : Fr n0 lc020), W (T020.setTop (mkF m 93 #[.val (.long q0), .second, .val (.long q1), .second, .val (.long q2), .second, .val (.int p3), .val (.int v0_2), .val (.int v0_5), .val (.long z0_8), .second, .val (.long z0_11), .second, .val (.ref b013), .val (.int (f3 z0_8 z0_11)), .unset, .unset, .unset] [(.int v0_19)])) := by
            intro T020 lc020 v0_19 hv0_19  X020 e020 N020
            show W (T020.setTop (mkF m 93 #[.val (.long q0), .second, .val (.long q1), .second, .val (.long q2), .second, .val (.int p3), .val (.int v0_2), .val (.int v0_5), .val (.long z0_8), .second, .val (.long z0_11), .second, .val (.ref b013), .val (.int (f3 z0_8 z0_11)), .unset, .unset, .unset] [(.int v0_19)]))
            refine stp (fun t k => XS.istore X020.here hx rfl (hb hby at_93) rfl (l' := #[.val (.long q0), .second, .val (.long q1), .second, .val (.long q2), .second, .val (.int p3), .val (.int v0_2), .val (.int v0_5), .val (.long z0_8), .second, .val (.long z0_11), .second, .val (.ref b013), .val (.int (f3 z0_8 z0_11)), .val (.int v0_19), .unset, .unset]) rfl k) ?_
            show W (T020.setTop (mkF m 95 #[.val (.long q0), .second, .val (.long q1), .second, .val (.long q2), .second, .val (.int p3), .val (.int v0_2), .val (.int v0_5), .val (.long z0_8), .second, .val (.long z0_11), .second, .val (.ref b013), .val (.int (f3 z0_8 z0_11)), .val (.int v0_19), .unset, .unset] []))
            refine stp (fun t k => XS.aload X020.here hx rfl (hb hby at_95) rfl rfl k) ?_
            show W (T020.setTop (mkF m 97 #[.val (.long q0), .second, .val (.long q1), .second, .val (.long q2), .second, .val (.int p3), .val (.int v0_2), .val (.int v0_5), .val (.long z0_8), .second, .val (.long z0_11), .second, .val (.ref b013), .val (.int (f3 z0_8 z0_11)), .val (.int v0_19), .unset, .unset] [(.ref b013)]))
            obtain ⟨cq0c21, kq0c21, q0c21a, q0c21b, q0c21c⟩ := isOf hZ e020 E_b013
            obtain ⟨_, _, ⟨T0c21, L0c21, k0c21, n0c21⟩, -, X0c21, ⟨Lc0c21, hQ0c21, l0c21, y0c21, z0c21⟩, st0c21⟩ := X020.virtualBack hx (y := (⟨"com/example/fieldgate/fieldgate/edit/ReentrySummary", "releasesRejected", "()J"⟩ : MethodName)) (z := (⟨"com/example/fieldgate/fieldgate/edit/ReentrySummary", "releasesRejected", "()J"⟩ : MethodName)) hown (mvT hZ (hw _ (List.mem_of_getElem? (i := 35) rfl))) (mvT hZ (hw _ (List.mem_of_getElem? (i := 36) rfl))) (notFace_of_selects (args := #[]) (mvT hZ (hw _ (List.mem_of_getElem? (i := 38) rfl)))) (mvT hZ (hw _ (List.mem_of_getElem? (i := 38) rfl))) (mvT hZ (hw _ (List.mem_of_getElem? (i := 37) rfl))) (by decide) (backOf (W := 0) (rm6 l Z aa hw [] b013 z0_11 h0c14 n0 Z0c14 F_releasesRejected_b013) hZ (hw _ (List.mem_of_getElem? (i := 39) rfl)) (hw _ (List.mem_of_getElem? (i := 2) rfl)) (by decide) (by decide)) q0c21a q0c21c (g := (mkF m 97 #[.val (.long q0), .second, .val (.long q1), .second, .val (.long q2), .second, .val (.int p3), .val (.int v0_2), .val (.int v0_5), .val (.long z0_8), .second, .val (.long z0_11), .second, .val (.ref b013), .val (.int (f3 z0_8 z0_11)), .val (.int v0_19), .unset, .unset] [(.ref b013)])) rfl (by rw [hml]; rfl) (Steps.refl _) (argsL := []) (rest := []) (lenOf pd0_2 rfl) rfl (by show 2 * 0 + _ ≤ _; exact Nat.le_of_eq rfl) (hb hby at_97) (fun _ _ => ⟨rfl, e020, (by decide : 1 + 0 ≤ _), (by decide : 3 + 0 ≤ _)⟩)
            dsimp only [Pt.U, Pt.locs, Pt.cells, Pt.slots] at X0c21 l0c21 y0c21 z0c21 st0c21 hQ0c21
            subst l0c21 y0c21 z0c21
            obtain ⟨rfl, N0c21q, e0c21⟩ := hQ0c21
            have N0c21 := Fr.app N020 N0c21q
            refine stp (fun t k => st0c21.trans k) ?_
            show W (T0c21.setTop (mkF m 100 #[.val (.long q0), .second, .val (.long q1), .second, .val (.long q2), .second, .val (.int p3), .val (.int v0_2), .val (.int v0_5), .val (.long z0_8), .second, .val (.long z0_11), .second, .val (.ref b013), .val (.int (f3 z0_8 z0_11)), .val (.int v0_19), .unset, .unset] [(.long (f6 z0_11))]))
            refine stp (fun t k => XS.lconst X0c21.here hx rfl (hb hby at_100) k) ?_
            show W (T0c21.setTop (mkF m 101 #[.val (.long q0), .second, .val (.long q1), .second, .val (.long q2), .second, .val (.int p3), .val (.int v0_2), .val (.int v0_5), .val (.long z0_8), .second, .val (.long z0_11), .second, .val (.ref b013), .val (.int (f3 z0_8 z0_11)), .val (.int v0_19), .unset, .unset] [(.long (0 : Int64)), (.long (f6 z0_11))]))
            refine stp (fun t k => XS.lcmp X0c21.here hx rfl (hb hby at_101) rfl k) ?_
            show W (T0c21.setTop (mkF m 102 #[.val (.long q0), .second, .val (.long q1), .second, .val (.long q2), .second, .val (.int p3), .val (.int v0_2), .val (.int v0_5), .val (.long z0_8), .second, .val (.long z0_11), .second, .val (.ref b013), .val (.int (f3 z0_8 z0_11)), .val (.int v0_19), .unset, .unset] [(.int (lcmpW (f6 z0_11) (0 : Int64)))]))
            have J0_110_24 : ∀ (T024 : State) (lc024 : List Loc) (v0_23 : Int32) (hv0_23 : v0_23 = (if (f6 z0_11) = (0 : Int64) then (1 : Int32) else (0 : Int32))) (X024 : Stand p l e room_1 s m #[(.long q0), (.long q1), (.long q2), (.int p3)] below meth c T024 lc024 1 3) (e024 : T024.heap = h0c14) (N024 : Fr n0 lc024), W (T024.setTop (mkF m 110 #[.val (.long q0), .second, .val (.long q1), .second, .val (.long q2), .second, .val (.int p3), .val (.int v0_2), .val (.int v0_5), .val (.long z0_8), .second, .val (.long z0_11), .second, .val (.ref b013), .val (.int (f3 z0_8 z0_11)), .val (.int v0_19), .unset, .unset] [(.int v0_23)])) := by
              intro T024 lc024 v0_23 hv0_23  X024 e024 N024
              show W (T024.setTop (mkF m 110 #[.val (.long q0), .second, .val (.long q1), .second, .val (.long q2), .second, .val (.int p3), .val (.int v0_2), .val (.int v0_5), .val (.long z0_8), .second, .val (.long z0_11), .second, .val (.ref b013), .val (.int (f3 z0_8 z0_11)), .val (.int v0_19), .unset, .unset] [(.int v0_23)]))
              refine stp (fun t k => XS.istore X024.here hx rfl (hb hby at_110) rfl (l' := #[.val (.long q0), .second, .val (.long q1), .second, .val (.long q2), .second, .val (.int p3), .val (.int v0_2), .val (.int v0_5), .val (.long z0_8), .second, .val (.long z0_11), .second, .val (.ref b013), .val (.int (f3 z0_8 z0_11)), .val (.int v0_19), .val (.int v0_23), .unset]) rfl k) ?_
              show W (T024.setTop (mkF m 112 #[.val (.long q0), .second, .val (.long q1), .second, .val (.long q2), .second, .val (.int p3), .val (.int v0_2), .val (.int v0_5), .val (.long z0_8), .second, .val (.long z0_11), .second, .val (.ref b013), .val (.int (f3 z0_8 z0_11)), .val (.int v0_19), .val (.int v0_23), .unset] []))
              refine stp (fun t k => XS.iload X024.here hx rfl (hb hby at_112) rfl k) ?_
              show W (T024.setTop (mkF m 114 #[.val (.long q0), .second, .val (.long q1), .second, .val (.long q2), .second, .val (.int p3), .val (.int v0_2), .val (.int v0_5), .val (.long z0_8), .second, .val (.long z0_11), .second, .val (.ref b013), .val (.int (f3 z0_8 z0_11)), .val (.int v0_19), .val (.int v0_23), .unset] [(.int v0_19)]))
              have J0_127_28 : ∀ (T028 : State) (lc028 : List Loc) (v0_27 : Int32) (hv0_27 : v0_27 = (if v0_19 = (0 : Int32) then (0 : Int32) else (if v0_23 = (0 : Int32) then (0 : Int32) else (1 : Int32)))) (X028 : Stand p l e room_1 s m #[(.long q0), (.long q1), (.long q2), (.int p3)] below meth c T028 lc028 1 3) (e028 : T028.heap = h0c14) (N028 : Fr n0 lc028), W (T028.setTop (mkF m 127 #[.val (.long q0), .second, .val (.long q1), .second, .val (.long q2), .second, .val (.int p3), .val (.int v0_2), .val (.int v0_5), .val (.long z0_8), .second, .val (.long z0_11), .second, .val (.ref b013), .val (.int (f3 z0_8 z0_11)), .val (.int v0_19), .val (.int v0_23), .unset] [(.int v0_27)])) := by
                intro T028 lc028 v0_27 hv0_27  X028 e028 N028
                show W (T028.setTop (mkF m 127 #[.val (.long q0), .second, .val (.long q1), .second, .val (.long q2), .second, .val (.int p3), .val (.int v0_2), .val (.int v0_5), .val (.long z0_8), .second, .val (.long z0_11), .second, .val (.ref b013), .val (.int (f3 z0_8 z0_11)), .val (.int v0_19), .val (.int v0_23), .unset] [(.int v0_27)]))
                refine stp (fun t k => XS.istore X028.here hx rfl (hb hby at_127) rfl (l' := #[.val (.long q0), .second, .val (.long q1), .second, .val (.long q2), .second, .val (.int p3), .val (.int v0_2), .val (.int v0_5), .val (.long z0_8), .second, .val (.long z0_11), .second, .val (.ref b013), .val (.int (f3 z0_8 z0_11)), .val (.int v0_19), .val (.int v0_23), .val (.int v0_27)]) rfl k) ?_
                show W (T028.setTop (mkF m 129 #[.val (.long q0), .second, .val (.long q1), .second, .val (.long q2), .second, .val (.int p3), .val (.int v0_2), .val (.int v0_5), .val (.long z0_8), .second, .val (.long z0_11), .second, .val (.ref b013), .val (.int (f3 z0_8 z0_11)), .val (.int v0_19), .val (.int v0_23), .val (.int v0_27)] []))
                refine stp (fun t k => XS.iload X028.here hx rfl (hb hby at_129) rfl k) ?_
                show W (T028.setTop (mkF m 131 #[.val (.long q0), .second, .val (.long q1), .second, .val (.long q2), .second, .val (.int p3), .val (.int v0_2), .val (.int v0_5), .val (.long z0_8), .second, .val (.long z0_11), .second, .val (.ref b013), .val (.int (f3 z0_8 z0_11)), .val (.int v0_19), .val (.int v0_23), .val (.int v0_27)] [(.int (f3 z0_8 z0_11))]))
                refine stp (fun t k => XS.iload X028.here hx rfl (hb hby at_131) rfl k) ?_
                show W (T028.setTop (mkF m 133 #[.val (.long q0), .second, .val (.long q1), .second, .val (.long q2), .second, .val (.int p3), .val (.int v0_2), .val (.int v0_5), .val (.long z0_8), .second, .val (.long z0_11), .second, .val (.ref b013), .val (.int (f3 z0_8 z0_11)), .val (.int v0_19), .val (.int v0_23), .val (.int v0_27)] [(.int v0_27), (.int (f3 z0_8 z0_11))]))
                refine stp (fun t k => XS.icmpNo X028.here hx rfl (hb hby at_133) rfl ((teq (by subst hv0_2; subst hv0_5; subst hz0_8; subst hz0_11; subst hv0_19; subst hv0_23; subst hv0_27; exact own_0_133_29 q0 q1 q2 p3  )).2) k) ?_
                show W (T028.setTop (mkF m 136 #[.val (.long q0), .second, .val (.long q1), .second, .val (.long q2), .second, .val (.int p3), .val (.int v0_2), .val (.int v0_5), .val (.long z0_8), .second, .val (.long z0_11), .second, .val (.ref b013), .val (.int (f3 z0_8 z0_11)), .val (.int v0_19), .val (.int v0_23), .val (.int v0_27)] []))
                refine stp (fun t k => XS.iconst X028.here hx rfl (hb hby at_136) k) ?_
                show W (T028.setTop (mkF m 137 #[.val (.long q0), .second, .val (.long q1), .second, .val (.long q2), .second, .val (.int p3), .val (.int v0_2), .val (.int v0_5), .val (.long z0_8), .second, .val (.long z0_11), .second, .val (.ref b013), .val (.int (f3 z0_8 z0_11)), .val (.int v0_19), .val (.int v0_23), .val (.int v0_27)] [(.int (1 : Int32))]))
                refine stp (fun t k => XS.goto X028.here hx rfl (pc0 := 137) (pc' := 141) rfl (hb hby at_137) (by decide) (by decide) k) ?_
                show W (T028.setTop (mkF m 141 #[.val (.long q0), .second, .val (.long q1), .second, .val (.long q2), .second, .val (.int p3), .val (.int v0_2), .val (.int v0_5), .val (.long z0_8), .second, .val (.long z0_11), .second, .val (.ref b013), .val (.int (f3 z0_8 z0_11)), .val (.int v0_19), .val (.int v0_23), .val (.int v0_27)] [(.int (1 : Int32))]))
                show W (T028.setTop (mkF m 141 #[.val (.long q0), .second, .val (.long q1), .second, .val (.long q2), .second, .val (.int p3), .val (.int v0_2), .val (.int v0_5), .val (.long z0_8), .second, .val (.long z0_11), .second, .val (.ref b013), .val (.int (f3 z0_8 z0_11)), .val (.int v0_19), .val (.int v0_23), .val (.int v0_27)] [(.int (1 : Int32))]))
                rw [← hW]
                exact own_retN X028 hx Bd.notSynchronized Bd.returns (w := (1 : Int32)) (by simp) (hb hby at_141) rfl (by show Q0 Z q0 q1 q2 p3 h0 n0 _ T028.heap _; rw [e028]; exact ⟨rfl, N028⟩) (by decide) (by decide)
              by_cases hc0_25 : v0_19 = (0 : Int32)
              · refine stp (fun t k => XS.ifYes X024.here hx rfl (pc0 := 114) (pc' := 126) rfl (hb hby at_114) rfl ((if0 _ _).trans (teq hc0_25).1) (by decide) (by decide) k) ?_
                show W (T024.setTop (mkF m 126 #[.val (.long q0), .second, .val (.long q1), .second, .val (.long q2), .second, .val (.int p3), .val (.int v0_2), .val (.int v0_5), .val (.long z0_8), .second, .val (.long z0_11), .second, .val (.ref b013), .val (.int (f3 z0_8 z0_11)), .val (.int v0_19), .val (.int v0_23), .unset] []))
                refine stp (fun t k => XS.iconst X024.here hx rfl (hb hby at_126) k) ?_
                show W (T024.setTop (mkF m 127 #[.val (.long q0), .second, .val (.long q1), .second, .val (.long q2), .second, .val (.int p3), .val (.int v0_2), .val (.int v0_5), .val (.long z0_8), .second, .val (.long z0_11), .second, .val (.ref b013), .val (.int (f3 z0_8 z0_11)), .val (.int v0_19), .val (.int v0_23), .unset] [(.int (0 : Int32))]))
                exact J0_127_28 _ _ (0 : Int32) (by first | rfl | simp only [if_pos hc0_25]) X024 e024 N024
              · refine stp (fun t k => XS.ifNo X024.here hx rfl (hb hby at_114) rfl ((if0 _ _).trans (feq hc0_25).1) k) ?_
                show W (T024.setTop (mkF m 117 #[.val (.long q0), .second, .val (.long q1), .second, .val (.long q2), .second, .val (.int p3), .val (.int v0_2), .val (.int v0_5), .val (.long z0_8), .second, .val (.long z0_11), .second, .val (.ref b013), .val (.int (f3 z0_8 z0_11)), .val (.int v0_19), .val (.int v0_23), .unset] []))
                refine stp (fun t k => XS.iload X024.here hx rfl (hb hby at_117) rfl k) ?_
                show W (T024.setTop (mkF m 119 #[.val (.long q0), .second, .val (.long q1), .second, .val (.long q2), .second, .val (.int p3), .val (.int v0_2), .val (.int v0_5), .val (.long z0_8), .second, .val (.long z0_11), .second, .val (.ref b013), .val (.int (f3 z0_8 z0_11)), .val (.int v0_19), .val (.int v0_23), .unset] [(.int v0_23)]))
                by_cases hc0_26 : v0_23 = (0 : Int32)
                · refine stp (fun t k => XS.ifYes X024.here hx rfl (pc0 := 119) (pc' := 126) rfl (hb hby at_119) rfl ((if0 _ _).trans (teq hc0_26).1) (by decide) (by decide) k) ?_
                  show W (T024.setTop (mkF m 126 #[.val (.long q0), .second, .val (.long q1), .second, .val (.long q2), .second, .val (.int p3), .val (.int v0_2), .val (.int v0_5), .val (.long z0_8), .second, .val (.long z0_11), .second, .val (.ref b013), .val (.int (f3 z0_8 z0_11)), .val (.int v0_19), .val (.int v0_23), .unset] []))
                  refine stp (fun t k => XS.iconst X024.here hx rfl (hb hby at_126) k) ?_
                  show W (T024.setTop (mkF m 127 #[.val (.long q0), .second, .val (.long q1), .second, .val (.long q2), .second, .val (.int p3), .val (.int v0_2), .val (.int v0_5), .val (.long z0_8), .second, .val (.long z0_11), .second, .val (.ref b013), .val (.int (f3 z0_8 z0_11)), .val (.int v0_19), .val (.int v0_23), .unset] [(.int (0 : Int32))]))
                  exact J0_127_28 _ _ (0 : Int32) (by first | rfl | simp only [if_neg hc0_25, if_pos hc0_26]) X024 e024 N024
                · refine stp (fun t k => XS.ifNo X024.here hx rfl (hb hby at_119) rfl ((if0 _ _).trans (feq hc0_26).1) k) ?_
                  show W (T024.setTop (mkF m 122 #[.val (.long q0), .second, .val (.long q1), .second, .val (.long q2), .second, .val (.int p3), .val (.int v0_2), .val (.int v0_5), .val (.long z0_8), .second, .val (.long z0_11), .second, .val (.ref b013), .val (.int (f3 z0_8 z0_11)), .val (.int v0_19), .val (.int v0_23), .unset] []))
                  refine stp (fun t k => XS.iconst X024.here hx rfl (hb hby at_122) k) ?_
                  show W (T024.setTop (mkF m 123 #[.val (.long q0), .second, .val (.long q1), .second, .val (.long q2), .second, .val (.int p3), .val (.int v0_2), .val (.int v0_5), .val (.long z0_8), .second, .val (.long z0_11), .second, .val (.ref b013), .val (.int (f3 z0_8 z0_11)), .val (.int v0_19), .val (.int v0_23), .unset] [(.int (1 : Int32))]))
                  refine stp (fun t k => XS.goto X024.here hx rfl (pc0 := 123) (pc' := 127) rfl (hb hby at_123) (by decide) (by decide) k) ?_
                  show W (T024.setTop (mkF m 127 #[.val (.long q0), .second, .val (.long q1), .second, .val (.long q2), .second, .val (.int p3), .val (.int v0_2), .val (.int v0_5), .val (.long z0_8), .second, .val (.long z0_11), .second, .val (.ref b013), .val (.int (f3 z0_8 z0_11)), .val (.int v0_19), .val (.int v0_23), .unset] [(.int (1 : Int32))]))
                  exact J0_127_28 _ _ (1 : Int32) (by first | rfl | simp only [if_neg hc0_25, if_neg hc0_26]) X024 e024 N024
            by_cases hc0_22 : (f6 z0_11) = (0 : Int64)
            · refine stp (fun t k => XS.ifNo X0c21.here hx rfl (hb hby at_102) rfl ((if0 _ _).trans (teq ((lw_eq (f6 z0_11) (0 : Int64)).mpr hc0_22)).2) k) ?_
              show W (T0c21.setTop (mkF m 105 #[.val (.long q0), .second, .val (.long q1), .second, .val (.long q2), .second, .val (.int p3), .val (.int v0_2), .val (.int v0_5), .val (.long z0_8), .second, .val (.long z0_11), .second, .val (.ref b013), .val (.int (f3 z0_8 z0_11)), .val (.int v0_19), .unset, .unset] []))
              refine stp (fun t k => XS.iconst X0c21.here hx rfl (hb hby at_105) k) ?_
              show W (T0c21.setTop (mkF m 106 #[.val (.long q0), .second, .val (.long q1), .second, .val (.long q2), .second, .val (.int p3), .val (.int v0_2), .val (.int v0_5), .val (.long z0_8), .second, .val (.long z0_11), .second, .val (.ref b013), .val (.int (f3 z0_8 z0_11)), .val (.int v0_19), .unset, .unset] [(.int (1 : Int32))]))
              refine stp (fun t k => XS.goto X0c21.here hx rfl (pc0 := 106) (pc' := 110) rfl (hb hby at_106) (by decide) (by decide) k) ?_
              show W (T0c21.setTop (mkF m 110 #[.val (.long q0), .second, .val (.long q1), .second, .val (.long q2), .second, .val (.int p3), .val (.int v0_2), .val (.int v0_5), .val (.long z0_8), .second, .val (.long z0_11), .second, .val (.ref b013), .val (.int (f3 z0_8 z0_11)), .val (.int v0_19), .unset, .unset] [(.int (1 : Int32))]))
              exact J0_110_24 _ _ (1 : Int32) (by first | rfl | simp only [if_pos hc0_22]) X0c21 e0c21 N0c21
            · refine stp (fun t k => XS.ifYes X0c21.here hx rfl (pc0 := 102) (pc' := 109) rfl (hb hby at_102) rfl ((if0 _ _).trans (feq (fun q => hc0_22 ((lw_eq (f6 z0_11) (0 : Int64)).mp q))).2) (by decide) (by decide) k) ?_
              show W (T0c21.setTop (mkF m 109 #[.val (.long q0), .second, .val (.long q1), .second, .val (.long q2), .second, .val (.int p3), .val (.int v0_2), .val (.int v0_5), .val (.long z0_8), .second, .val (.long z0_11), .second, .val (.ref b013), .val (.int (f3 z0_8 z0_11)), .val (.int v0_19), .unset, .unset] []))
              refine stp (fun t k => XS.iconst X0c21.here hx rfl (hb hby at_109) k) ?_
              show W (T0c21.setTop (mkF m 110 #[.val (.long q0), .second, .val (.long q1), .second, .val (.long q2), .second, .val (.int p3), .val (.int v0_2), .val (.int v0_5), .val (.long z0_8), .second, .val (.long z0_11), .second, .val (.ref b013), .val (.int (f3 z0_8 z0_11)), .val (.int v0_19), .unset, .unset] [(.int (0 : Int32))]))
              exact J0_110_24 _ _ (0 : Int32) (by first | rfl | simp only [if_neg hc0_22]) X0c21 e0c21 N0c21
          by_cases hc0_18 : (f4 q0 z0_8) = (f5 q0)
          · refine stp (fun t k => XS.ifNo X0c17.here hx rfl (hb hby at_85) rfl ((if0 _ _).trans (teq ((lw_eq (f4 q0 z0_8) (f5 q0)).mpr hc0_18)).2) k) ?_
            show W (T0c17.setTop (mkF m 88 #[.val (.long q0), .second, .val (.long q1), .second, .val (.long q2), .second, .val (.int p3), .val (.int v0_2), .val (.int v0_5), .val (.long z0_8), .second, .val (.long z0_11), .second, .val (.ref b013), .val (.int (f3 z0_8 z0_11)), .unset, .unset, .unset] []))
            refine stp (fun t k => XS.iconst X0c17.here hx rfl (hb hby at_88) k) ?_
            show W (T0c17.setTop (mkF m 89 #[.val (.long q0), .second, .val (.long q1), .second, .val (.long q2), .second, .val (.int p3), .val (.int v0_2), .val (.int v0_5), .val (.long z0_8), .second, .val (.long z0_11), .second, .val (.ref b013), .val (.int (f3 z0_8 z0_11)), .unset, .unset, .unset] [(.int (1 : Int32))]))
            refine stp (fun t k => XS.goto X0c17.here hx rfl (pc0 := 89) (pc' := 93) rfl (hb hby at_89) (by decide) (by decide) k) ?_
            show W (T0c17.setTop (mkF m 93 #[.val (.long q0), .second, .val (.long q1), .second, .val (.long q2), .second, .val (.int p3), .val (.int v0_2), .val (.int v0_5), .val (.long z0_8), .second, .val (.long z0_11), .second, .val (.ref b013), .val (.int (f3 z0_8 z0_11)), .unset, .unset, .unset] [(.int (1 : Int32))]))
            exact J0_93_20 _ _ (1 : Int32) (by first | rfl | simp only [if_pos hc0_18]) X0c17 e0c17 N0c17
          · refine stp (fun t k => XS.ifYes X0c17.here hx rfl (pc0 := 85) (pc' := 92) rfl (hb hby at_85) rfl ((if0 _ _).trans (feq (fun q => hc0_18 ((lw_eq (f4 q0 z0_8) (f5 q0)).mp q))).2) (by decide) (by decide) k) ?_
            show W (T0c17.setTop (mkF m 92 #[.val (.long q0), .second, .val (.long q1), .second, .val (.long q2), .second, .val (.int p3), .val (.int v0_2), .val (.int v0_5), .val (.long z0_8), .second, .val (.long z0_11), .second, .val (.ref b013), .val (.int (f3 z0_8 z0_11)), .unset, .unset, .unset] []))
            refine stp (fun t k => XS.iconst X0c17.here hx rfl (hb hby at_92) k) ?_
            show W (T0c17.setTop (mkF m 93 #[.val (.long q0), .second, .val (.long q1), .second, .val (.long q2), .second, .val (.int p3), .val (.int v0_2), .val (.int v0_5), .val (.long z0_8), .second, .val (.long z0_11), .second, .val (.ref b013), .val (.int (f3 z0_8 z0_11)), .unset, .unset, .unset] [(.int (0 : Int32))]))
            exact J0_93_20 _ _ (0 : Int32) (by first | rfl | simp only [if_neg hc0_18]) X0c17 e0c17 N0c17
        by_cases hc0_10 : v0_5 = (0 : Int32)
        · refine stp (fun t k => XS.ifYes X09.here hx rfl (pc0 := 42) (pc' := 49) rfl (hb hby at_42) rfl ((if0 _ _).trans (teq hc0_10).1) (by decide) (by decide) k) ?_
          show W (T09.setTop (mkF m 49 #[.val (.long q0), .second, .val (.long q1), .second, .val (.long q2), .second, .val (.int p3), .val (.int v0_2), .val (.int v0_5), .val (.long z0_8), .second, .unset, .unset, .unset, .unset, .unset, .unset, .unset] []))
          refine stp (fun t k => XS.lload X09.here hx rfl (hb hby at_49) rfl k) ?_
          show W (T09.setTop (mkF m 51 #[.val (.long q0), .second, .val (.long q1), .second, .val (.long q2), .second, .val (.int p3), .val (.int v0_2), .val (.int v0_5), .val (.long z0_8), .second, .unset, .unset, .unset, .unset, .unset, .unset, .unset] [(.long q2)]))
          exact J0_51_12 _ _ q2 (by first | rfl | simp only [if_pos hc0_10]) X09 e09 N09
        · refine stp (fun t k => XS.ifNo X09.here hx rfl (hb hby at_42) rfl ((if0 _ _).trans (feq hc0_10).1) k) ?_
          show W (T09.setTop (mkF m 45 #[.val (.long q0), .second, .val (.long q1), .second, .val (.long q2), .second, .val (.int p3), .val (.int v0_2), .val (.int v0_5), .val (.long z0_8), .second, .unset, .unset, .unset, .unset, .unset, .unset, .unset] []))
          refine stp (fun t k => XS.lconst X09.here hx rfl (hb hby at_45) k) ?_
          show W (T09.setTop (mkF m 46 #[.val (.long q0), .second, .val (.long q1), .second, .val (.long q2), .second, .val (.int p3), .val (.int v0_2), .val (.int v0_5), .val (.long z0_8), .second, .unset, .unset, .unset, .unset, .unset, .unset, .unset] [(.long (0 : Int64))]))
          refine stp (fun t k => XS.goto X09.here hx rfl (pc0 := 46) (pc' := 51) rfl (hb hby at_46) (by decide) (by decide) k) ?_
          show W (T09.setTop (mkF m 51 #[.val (.long q0), .second, .val (.long q1), .second, .val (.long q2), .second, .val (.int p3), .val (.int v0_2), .val (.int v0_5), .val (.long z0_8), .second, .unset, .unset, .unset, .unset, .unset, .unset, .unset] [(.long (0 : Int64))]))
          exact J0_51_12 _ _ (0 : Int64) (by first | rfl | simp only [if_neg hc0_10]) X09 e09 N09
      by_cases hc0_7 : v0_2 = (0 : Int32)
      · refine stp (fun t k => XS.ifYes X06.here hx rfl (pc0 := 30) (pc' := 37) rfl (hb hby at_30) rfl ((if0 _ _).trans (teq hc0_7).1) (by decide) (by decide) k) ?_
        show W (T06.setTop (mkF m 37 #[.val (.long q0), .second, .val (.long q1), .second, .val (.long q2), .second, .val (.int p3), .val (.int v0_2), .val (.int v0_5), .unset, .unset, .unset, .unset, .unset, .unset, .unset, .unset, .unset] []))
        refine stp (fun t k => XS.lloadN X06.here hx rfl (hb hby at_37) rfl k) ?_
        show W (T06.setTop (mkF m 38 #[.val (.long q0), .second, .val (.long q1), .second, .val (.long q2), .second, .val (.int p3), .val (.int v0_2), .val (.int v0_5), .unset, .unset, .unset, .unset, .unset, .unset, .unset, .unset, .unset] [(.long q1)]))
        exact J0_38_9 _ _ q1 (by first | rfl | simp only [if_pos hc0_7]) X06 e06 N06
      · refine stp (fun t k => XS.ifNo X06.here hx rfl (hb hby at_30) rfl ((if0 _ _).trans (feq hc0_7).1) k) ?_
        show W (T06.setTop (mkF m 33 #[.val (.long q0), .second, .val (.long q1), .second, .val (.long q2), .second, .val (.int p3), .val (.int v0_2), .val (.int v0_5), .unset, .unset, .unset, .unset, .unset, .unset, .unset, .unset, .unset] []))
        refine stp (fun t k => XS.lconst X06.here hx rfl (hb hby at_33) k) ?_
        show W (T06.setTop (mkF m 34 #[.val (.long q0), .second, .val (.long q1), .second, .val (.long q2), .second, .val (.int p3), .val (.int v0_2), .val (.int v0_5), .unset, .unset, .unset, .unset, .unset, .unset, .unset, .unset, .unset] [(.long (0 : Int64))]))
        refine stp (fun t k => XS.goto X06.here hx rfl (pc0 := 34) (pc' := 38) rfl (hb hby at_34) (by decide) (by decide) k) ?_
        show W (T06.setTop (mkF m 38 #[.val (.long q0), .second, .val (.long q1), .second, .val (.long q2), .second, .val (.int p3), .val (.int v0_2), .val (.int v0_5), .unset, .unset, .unset, .unset, .unset, .unset, .unset, .unset, .unset] [(.long (0 : Int64))]))
        exact J0_38_9 _ _ (0 : Int64) (by first | rfl | simp only [if_neg hc0_7]) X06 e06 N06
    by_cases hc0_4 : (p3 &&& (2 : Int32)) = (0 : Int32)
    · refine stp (fun t k => XS.ifYes X03.here hx rfl (pc0 := 18) (pc' := 25) rfl (hb hby at_18) rfl ((if0 _ _).trans (teq hc0_4).1) (by decide) (by decide) k) ?_
      show W (T03.setTop (mkF m 25 #[.val (.long q0), .second, .val (.long q1), .second, .val (.long q2), .second, .val (.int p3), .val (.int v0_2), .unset, .unset, .unset, .unset, .unset, .unset, .unset, .unset, .unset, .unset] []))
      refine stp (fun t k => XS.iconst X03.here hx rfl (hb hby at_25) k) ?_
      show W (T03.setTop (mkF m 26 #[.val (.long q0), .second, .val (.long q1), .second, .val (.long q2), .second, .val (.int p3), .val (.int v0_2), .unset, .unset, .unset, .unset, .unset, .unset, .unset, .unset, .unset, .unset] [(.int (0 : Int32))]))
      exact J0_26_6 _ _ (0 : Int32) (by first | rfl | simp only [if_pos hc0_4]) X03 e03 N03
    · refine stp (fun t k => XS.ifNo X03.here hx rfl (hb hby at_18) rfl ((if0 _ _).trans (feq hc0_4).1) k) ?_
      show W (T03.setTop (mkF m 21 #[.val (.long q0), .second, .val (.long q1), .second, .val (.long q2), .second, .val (.int p3), .val (.int v0_2), .unset, .unset, .unset, .unset, .unset, .unset, .unset, .unset, .unset, .unset] []))
      refine stp (fun t k => XS.iconst X03.here hx rfl (hb hby at_21) k) ?_
      show W (T03.setTop (mkF m 22 #[.val (.long q0), .second, .val (.long q1), .second, .val (.long q2), .second, .val (.int p3), .val (.int v0_2), .unset, .unset, .unset, .unset, .unset, .unset, .unset, .unset, .unset, .unset] [(.int (1 : Int32))]))
      refine stp (fun t k => XS.goto X03.here hx rfl (pc0 := 22) (pc' := 26) rfl (hb hby at_22) (by decide) (by decide) k) ?_
      show W (T03.setTop (mkF m 26 #[.val (.long q0), .second, .val (.long q1), .second, .val (.long q2), .second, .val (.int p3), .val (.int v0_2), .unset, .unset, .unset, .unset, .unset, .unset, .unset, .unset, .unset, .unset] [(.int (1 : Int32))]))
      exact J0_26_6 _ _ (1 : Int32) (by first | rfl | simp only [if_neg hc0_4]) X03 e03 N03
  by_cases hc0_1 : (p3 &&& (1 : Int32)) = (0 : Int32)
  · refine stp (fun t k => XS.ifYes X0.here hx rfl (pc0 := 4) (pc' := 11) rfl (hb hby at_4) rfl ((if0 _ _).trans (teq hc0_1).1) (by decide) (by decide) k) ?_
    show W (s₁.setTop (mkF m 11 #[.val (.long q0), .second, .val (.long q1), .second, .val (.long q2), .second, .val (.int p3), .unset, .unset, .unset, .unset, .unset, .unset, .unset, .unset, .unset, .unset, .unset] []))
    refine stp (fun t k => XS.iconst X0.here hx rfl (hb hby at_11) k) ?_
    show W (s₁.setTop (mkF m 12 #[.val (.long q0), .second, .val (.long q1), .second, .val (.long q2), .second, .val (.int p3), .unset, .unset, .unset, .unset, .unset, .unset, .unset, .unset, .unset, .unset, .unset] [(.int (0 : Int32))]))
    exact J0_12_3 _ _ (0 : Int32) (by first | rfl | simp only [if_pos hc0_1]) X0 e0 N0
  · refine stp (fun t k => XS.ifNo X0.here hx rfl (hb hby at_4) rfl ((if0 _ _).trans (feq hc0_1).1) k) ?_
    show W (s₁.setTop (mkF m 7 #[.val (.long q0), .second, .val (.long q1), .second, .val (.long q2), .second, .val (.int p3), .unset, .unset, .unset, .unset, .unset, .unset, .unset, .unset, .unset, .unset, .unset] []))
    refine stp (fun t k => XS.iconst X0.here hx rfl (hb hby at_7) k) ?_
    show W (s₁.setTop (mkF m 8 #[.val (.long q0), .second, .val (.long q1), .second, .val (.long q2), .second, .val (.int p3), .unset, .unset, .unset, .unset, .unset, .unset, .unset, .unset, .unset, .unset, .unset] [(.int (1 : Int32))]))
    refine stp (fun t k => XS.goto X0.here hx rfl (pc0 := 8) (pc' := 12) rfl (hb hby at_8) (by decide) (by decide) k) ?_
    show W (s₁.setTop (mkF m 12 #[.val (.long q0), .second, .val (.long q1), .second, .val (.long q2), .second, .val (.int p3), .unset, .unset, .unset, .unset, .unset, .unset, .unset, .unset, .unset, .unset, .unset] [(.int (1 : Int32))]))
    exact J0_12_3 _ _ (1 : Int32) (by first | rfl | simp only [if_neg hc0_1]) X0 e0 N0
set_option maxRecDepth 65536 in
set_option maxHeartbeats 40000000 in
theorem comes_1 {Post : Tables → Env → Array Value → State → Outcome → State → Prop} (hpost : ∀ tb e args s v u, (limb_1_1.after args s (.returned v) u = true ∧ limb_1_2.after args s (.returned v) u = true ∧ True) → FrameEnd s (.returned v) u (Jvm.fieldLocs frame_1_writes args s ++ Jvm.arrayLocs frame_1_arrays args s ++ Jvm.staticLocs frame_1_statics s) 16 128 → Post tb e args s (.returned v) u) :
    ArmFor flags0 classFile x code maxLocals ret World_1 tables_1 room_1 Calls_1 rest_1 Pre_1 Post := by
  intro l hfl _ _ p e ha hc hk s m args below hf hA hF happ hP
  obtain ⟨hcalls, hrest, hpre⟩ := hP
  obtain ⟨-, -, -, hnamed, -, -, -, hat⟩ := (Spec.applies_iff hf).mp happ
  obtain ⟨hg, hn⟩ := and_e (Cond.before_iff.mp (show (Jvm.Cond.and given_1 narrow_1).before args s = true from hpre))
  obtain ⟨gc, hg⟩ := and_e hg
  obtain ⟨g0, hg⟩ := and_e hg
  obtain ⟨g1, hg⟩ := and_e hg
  obtain ⟨g2, hg⟩ := and_e hg
  have g3 := hg
  obtain ⟨w0, w1, w2, w3, rfl⟩ : ∃ w0 w1 w2 w3 : Value, args = #[w0, w1, w2, w3] := by
    have hs : args.size = 4 := by simpa [Cond.value, given_1] using gc
    obtain ⟨L⟩ := args
    match L, hs with
    | [w0, w1, w2, w3], _ => exact ⟨w0, w1, w2, w3, rfl⟩
  have hw := fun d (hd : d ∈ tables_1) => atoms_spec (ws := Jvm.Cond.code x code maxLocals ret :: tables_1) hat d (List.mem_cons_of_mem _ hd)
  have hfit : Fit s := fun {y c} hc i hi => by
    obtain ⟨ha, rfl⟩ := Array.getElem?_eq_some_iff.mp hc
    have q := List.all_eq_true.mp ((Array.all_eq_true_iff_forall_mem.mp hF) _ (Array.getElem_mem ha)) i (List.mem_range.mpr hi)
    simpa [Array.getElem?_eq_getElem hi] using q
  obtain ⟨i0, ei0⟩ := isL_v g0
  obtain rfl : w0 = (.long i0) := Option.some.inj ei0
  obtain ⟨i1, ei1⟩ := isL_v g1
  obtain rfl : w1 = (.long i1) := Option.some.inj ei1
  obtain ⟨i2, ei2⟩ := isL_v g2
  obtain rfl : w2 = (.long i2) := Option.some.inj ei2
  obtain ⟨i3, ei3⟩ := is_v g3
  obtain rfl : w3 = (.int i3) := Option.some.inj ei3
  obtain ⟨n, o, h1, h2, h3, _, L, rfl, ⟨rfl, N⟩, hq⟩ := rm0 l s _ hw tables_1 i0 i1 i2 i3 s.heap s.heap.size (Nat.le_refl _) p e ha hc hk s m _ below hf ((Spec.applies_iff_loose hf).mp happ).1 ⟨rfl, State.Warmed39.refl s, rfl⟩ trivial
  refine ⟨n, _, h1, h2, h3, hpost _ _ _ _ _ _ ⟨Cond.after_iff.mpr rfl, Cond.after_iff.mpr (eq_i res_at (Term.int_eval (1)) rfl), trivial⟩ ⟨hq.1, hq.2.1, (hq.2.2.sift fun y hy => Or.inr (N y hy)).mono (by decide) (by decide)⟩⟩
theorem main_1_1 : Claimed_1_1 := comes_1 fun _ _ _ _ _ _ h hF => ⟨h.1, hF⟩
theorem main_1_2 : Claimed_1_2 := comes_1 fun _ _ _ _ _ _ h hF => ⟨h.2.1, hF⟩
end Jvm.Pilot.@@N@@
namespace Jvm.Pilot.@@N@@
open Jvm Jvm.ClassFile Sem Op Lib Jvm.Free Jvm.Stand Jvm.Pilot.@@N@@.Jvm.D
/-! MADE BY PROGRAM (witnessworld.py) out of the Statement's table words and the real class files: 10 classes; the members and pool entries that the words name. The judged class is class 1, her method 1. -/
namespace start1
open Jvm.ClassFile
def u (s : String) : CpInfo := .utf8 (stringToUtf16 s)
/-- a pool by its gaps: so many unusable entries, then the entry; so many at the end -/
def gap : Nat → List CpInfo → List CpInfo
  | 0, r => r
  | n + 1, r => .unusable :: gap n r
def poolList (es : List (Nat × CpInfo)) (last : Nat) : List CpInfo := es.foldr (fun e r => gap e.1 (e.2 :: r)) (gap last [])
def pool (es : List (Nat × CpInfo)) (last : Nat) : Array CpInfo := ⟨poolList es last⟩
def fileOf (pool : Array CpInfo) (this : Nat) (attrs : Array Attribute := #[]) (ms : Array MethodInfo := #[]) (fl : Nat := 33) (sup : Nat := 0) (ifs : Array Nat := #[]) (fds : Array FieldInfo := #[]) : ClassFile where
  minorVersion := 0
  majorVersion := 65
  constantPool := pool
  accessFlags := fl
  thisClass := this
  superClass := sup
  interfaces := ifs
  fields := fds
  methods := ms
  attributes := attrs
def plain (name : String) (sup : Option ClassId) : Class where
  name := name
  kind := .ordinary
  loader := none
  accessFlags := 33
  super := sup
  interfaces := #[]
  cf := none
  fields := #[]
  methods := #[]
  instanceTypes := #[]
  staticTypes := #[]
  resolved := #[]
  callSites := []
  init := .initialized
  statics := none
  mirror := none

def pool0 : Array CpInfo := pool [(5, u "<init>"), (0, u "()V"), (1, .class_ 10), (1, u "java/lang/Object")] 113

def k0c0 : Code := { maxStack := 0, maxLocals := 1, code := object_method_1_code, exceptionTable := #[], attributes := #[] }
def k0m0 : Method := { name := "<init>", desc := "()V", sig := { parameters := [], returnType := none }, accessFlags := 1, code := some k0c0 }
/-- java/lang/Object -/
def k0 : Class := { plain "java/lang/Object" none with
  accessFlags := 33
  interfaces := #[]
  cf := some (fileOf pool0 8 #[] #[{ accessFlags := 1, nameIndex := 5, descriptorIndex := 6, attributes := #[] }] 33 0 #[] #[])
  fields := #[]
  methods := #[k0m0]
  instanceTypes := #[]
  staticTypes := #[]
  resolved := Array.replicate 124 none
  statics := none }

def pool1 : Array CpInfo := pool [(2, .class_ 4), (1, u "java/lang/Object"), (0, u "<init>"), (0, u "()V"), (0, .class_ 8), (0, u "com/example/fieldgate/fieldgate/edit/ReentrySummary"), (0, .methodref 7 10), (0, .nameAndType 5 11), (0, u "(JJJ)V"), (0, .methodref 7 13), (0, .nameAndType 14 15), (0, u "allAccepted"), (0, u "()Z"), (0, .methodref 7 17), (0, .nameAndType 18 19), (0, u "applied"), (0, u "()J"), (0, .methodref 7 21), (0, .nameAndType 22 19), (0, u "reentries"), (0, .methodref 7 24), (0, .nameAndType 25 19), (0, u "releasesRejected"), (0, .class_ 27), (0, u "com/example/fieldgate/fieldgate/edit/ReentrySummaryAllAcceptedPinLaw"), (2, u "law"), (0, u "(JJJI)Z")] 3

def k1m0 : Method := { name := "<init>", desc := "()V", sig := { parameters := [], returnType := none }, accessFlags := 1, code := none }
def k1c1 : Code := { maxStack := 8, maxLocals := 18, code := code, exceptionTable := #[], attributes := #[] }
def k1m1 : Method := { name := "law", desc := "(JJJI)Z", sig := { parameters := [.long, .long, .long, .int], returnType := some .boolean }, accessFlags := 9, code := some k1c1 }
/-- com/example/fieldgate/fieldgate/edit/ReentrySummaryAllAcceptedPinLaw -/
def k1 : Class := { plain "com/example/fieldgate/fieldgate/edit/ReentrySummaryAllAcceptedPinLaw" (some 0) with
  accessFlags := 49
  interfaces := #[]
  cf := some (fileOf pool1 26 #[] #[{ accessFlags := 1, nameIndex := 5, descriptorIndex := 6, attributes := #[] }, { accessFlags := 9, nameIndex := 30, descriptorIndex := 31, attributes := #[] }] 49 2 #[] #[])
  fields := #[]
  methods := #[k1m0, k1m1]
  instanceTypes := #[]
  staticTypes := #[]
  resolved := Array.replicate 35 none
  statics := none }

def pool2 : Array CpInfo := pool [(1, .methodref 2 3), (0, .class_ 4), (0, .nameAndType 5 6), (0, u "java/lang/Object"), (0, u "<init>"), (0, u "()V"), (0, .class_ 8), (0, u "java/lang/Record")] 13

def k2c0 : Code := { maxStack := 1, maxLocals := 1, code := jdk_30_method_1_code, exceptionTable := #[], attributes := #[] }
def k2m0 : Method := { name := "<init>", desc := "()V", sig := { parameters := [], returnType := none }, accessFlags := 4, code := some k2c0 }
/-- java/lang/Record -/
def k2 : Class := { plain "java/lang/Record" (some 0) with
  accessFlags := 1057
  interfaces := #[]
  cf := some (fileOf pool2 7 #[] #[{ accessFlags := 4, nameIndex := 5, descriptorIndex := 6, attributes := #[] }] 1057 2 #[] #[])
  fields := #[]
  methods := #[k2m0]
  instanceTypes := #[]
  staticTypes := #[]
  resolved := Array.replicate 22 none
  statics := none }

def pool3 : Array CpInfo := pool [(1, .methodref 2 3), (0, .class_ 4), (0, .nameAndType 5 6), (0, u "java/lang/Record"), (0, u "<init>"), (0, u "()V"), (0, .fieldref 8 9), (0, .class_ 10), (0, .nameAndType 11 12), (0, u "com/example/fieldgate/fieldgate/edit/ReentrySummary"), (0, u "reentries"), (0, u "J"), (0, .fieldref 8 14), (0, .nameAndType 15 12), (0, u "refused"), (0, .fieldref 8 17), (0, .nameAndType 18 12), (0, u "releasesRejected"), (12, u "(JJJ)V"), (3, u "applied"), (0, u "()J"), (0, u "allAccepted"), (0, u "()Z")] 26

def k3c0 : Code := { maxStack := 3, maxLocals := 7, code := prog_9_method_1_code, exceptionTable := #[], attributes := #[] }
def k3m0 : Method := { name := "<init>", desc := "(JJJ)V", sig := { parameters := [.long, .long, .long], returnType := none }, accessFlags := 1, code := some k3c0 }
def k3c1 : Code := { maxStack := 4, maxLocals := 1, code := prog_9_method_2_code, exceptionTable := #[], attributes := #[] }
def k3m1 : Method := { name := "applied", desc := "()J", sig := { parameters := [], returnType := some .long }, accessFlags := 1, code := some k3c1 }
def k3c2 : Code := { maxStack := 4, maxLocals := 1, code := prog_9_method_3_code, exceptionTable := #[], attributes := #[] }
def k3m2 : Method := { name := "allAccepted", desc := "()Z", sig := { parameters := [], returnType := some .boolean }, accessFlags := 1, code := some k3c2 }
def k3c3 : Code := { maxStack := 2, maxLocals := 1, code := prog_9_method_7_code, exceptionTable := #[], attributes := #[] }
def k3m3 : Method := { name := "reentries", desc := "()J", sig := { parameters := [], returnType := some .long }, accessFlags := 1, code := some k3c3 }
def k3c4 : Code := { maxStack := 2, maxLocals := 1, code := prog_9_method_9_code, exceptionTable := #[], attributes := #[] }
def k3m4 : Method := { name := "releasesRejected", desc := "()J", sig := { parameters := [], returnType := some .long }, accessFlags := 1, code := some k3c4 }
/-- com/example/fieldgate/fieldgate/edit/ReentrySummary -/
def k3 : Class := { plain "com/example/fieldgate/fieldgate/edit/ReentrySummary" (some 2) with
  accessFlags := 49
  interfaces := #[]
  cf := some (fileOf pool3 8 #[] #[{ accessFlags := 1, nameIndex := 5, descriptorIndex := 31, attributes := #[] }, { accessFlags := 1, nameIndex := 35, descriptorIndex := 36, attributes := #[] }, { accessFlags := 1, nameIndex := 37, descriptorIndex := 38, attributes := #[] }, { accessFlags := 1, nameIndex := 11, descriptorIndex := 36, attributes := #[] }, { accessFlags := 1, nameIndex := 18, descriptorIndex := 36, attributes := #[] }] 49 2 #[] #[{ accessFlags := 18, nameIndex := 11, descriptorIndex := 12, attributes := #[] }, { accessFlags := 18, nameIndex := 15, descriptorIndex := 12, attributes := #[] }, { accessFlags := 18, nameIndex := 18, descriptorIndex := 12, attributes := #[] }])
  fields := #[{ name := "reentries", type := .long, accessFlags := 18, slot := 0, constantValue := 0 }, { name := "refused", type := .long, accessFlags := 18, slot := 1, constantValue := 0 }, { name := "releasesRejected", type := .long, accessFlags := 18, slot := 2, constantValue := 0 }]
  methods := #[k3m0, k3m1, k3m2, k3m3, k3m4]
  instanceTypes := #[.long, .long, .long]
  staticTypes := #[]
  resolved := Array.replicate 65 none
  statics := none }

def pool4 : Array CpInfo := pool [(1, u "java/lang/Cloneable"), (0, .class_ 1), (0, u "java/lang/Object"), (0, .class_ 3)] 3

/-- java/lang/Cloneable -/
def k4 : Class := { plain "java/lang/Cloneable" (some 0) with
  accessFlags := 1537
  interfaces := #[]
  cf := some (fileOf pool4 2 #[] #[] 1537 4 #[] #[])
  fields := #[]
  methods := #[]
  instanceTypes := #[]
  staticTypes := #[]
  resolved := Array.replicate 8 none
  statics := none }

def pool5 : Array CpInfo := pool [(1, u "java/io/Serializable"), (0, .class_ 1), (0, u "java/lang/Object"), (0, .class_ 3)] 3

/-- java/io/Serializable -/
def k5 : Class := { plain "java/io/Serializable" (some 0) with
  accessFlags := 1537
  interfaces := #[]
  cf := some (fileOf pool5 2 #[] #[] 1537 4 #[] #[])
  fields := #[]
  methods := #[]
  instanceTypes := #[]
  staticTypes := #[]
  resolved := Array.replicate 8 none
  statics := none }

/-- the primitive byte -/
def k6 : Class := { plain "byte" none with kind := .primitive 'B', accessFlags := 0x411 }
/-- [B -/
def k7 : Class := { plain "[B" (some 0) with kind := .array 6 .byte, interfaces := #[4, 5], accessFlags := 1041 }

/-- the primitive int -/
def k8 : Class := { plain "int" none with kind := .primitive 'I', accessFlags := 0x411 }
/-- [I -/
def k9 : Class := { plain "[I" (some 0) with kind := .array 8 .int, interfaces := #[4, 5], accessFlags := 1041 }

def heap : Heap := #[]
def classes : Array Class := #[k0, k1, k2, k3, k4, k5, k6, k7, k8, k9]
def interned : List (Array UInt16 × Addr) := []
def slotsUsed : Nat := 0
def theMethod : MethodId := ⟨1, 1⟩
def args0 : Array Value := #[.long 5, .long 3, .long 2, .int 1]
def aboutOver (below : List Frame) : State where
  vm := { classes := classes, interned := interned.toArray }
  heap := heap
  slotsUsed := slotsUsed
  threads := #[{ frames := .invoking theMethod args0 :: below }]
def below0 : List Frame := [.native { method := ⟨0, 0⟩, args := #[] }]
def about1 : State := aboutOver below0
def p0 : Program := .bare "" "" ""
def e0 : Env := launch0.env 0 0 0
theorem w_frames : about1.frames = Frame.invoking theMethod args0 :: below0 := rfl
set_option maxRecDepth 65536 in
theorem w_args : argsFit about1.vm theMethod args0 = true := by decide +kernel
set_option maxRecDepth 65536 in
theorem w_heap : heapFits about1 = true := by decide +kernel
set_option maxRecDepth 65536 in
theorem w_runnable : about1.curStatus? = some .runnable := by decide +kernel
set_option maxRecDepth 65536 in
theorem w_alone : about1.alone = true := by decide +kernel
set_option maxRecDepth 65536 in
theorem w_named : about1.methodNamed? x = some theMethod := by decide +kernel
set_option maxRecDepth 65536 in
theorem w_hears : about1.hears theMethod below0 = true := by decide +kernel
set_option maxRecDepth 65536 in
theorem w_ripe : about1.ripe theMethod args0 below0 = true := by decide +kernel
theorem w_running : about1.status = .running := rfl
set_option maxRecDepth 65536 in
theorem w_room : about1.hasRoom e0.platform room_1 = true :=
  launch0.hasRoom_least _ room_1 (by decide +kernel) (by decide +kernel) (by decide +kernel) (by decide +kernel) (by decide +kernel) (by decide +kernel)
theorem allAtoms_all (ts : List Jvm.Cond) (a : Array Jvm.Value) (st : Jvm.State) : (allAtoms ts).before a st = ts.all (fun c => c.before a st) := by
  induction ts with
  | nil => rfl
  | cons c t ih =>
    show (Jvm.Cond.and c (allAtoms t)).before a st = _
    rw [Jvm.Cond.before_and, ih, List.all_cons]
def words1 : List Jvm.Cond := Jvm.Cond.code x code maxLocals ret :: tables_1
/-- a 'code' word, met by the world's own term for the bytes: nothing is compared byte by byte -/
theorem code_word {y : MethodName} {bytes : ByteArray} {mx : Nat} {rt : Option FieldType} {a : Array Value} {s : State} {m : MethodId} {meth : Method} {c : Code} (h1 : s.methodNamed? y = some m) (h2 : s.vm.method? m = some meth) (h3 : meth.code = some c) (h4 : c.code = bytes)
    (h5 : (c.maxLocals == mx && c.exceptionTable.isEmpty && decide (c.maxStack ≤ mostOperands) && decide (meth.sig.returnType = rt) && !meth.locks && decide (parseMethodDescriptor y.desc = some meth.sig)) = true) : (Jvm.Cond.code y bytes mx rt).before a s = true := by
  simp only [Bool.and_eq_true, beq_iff_eq, Bool.not_eq_true', decide_eq_true_eq] at h5
  obtain ⟨⟨⟨⟨⟨g1, g2⟩, g3⟩, g4⟩, g5⟩, g6⟩ := h5
  simp [Cond.before, Cond.holds, Cond.value, h1, h2, h3, h4, g1, g2, g3, g4, g5, g6]
def isCode : Jvm.Cond → Bool
  | .code _ _ _ _ => true
  | _ => false
theorem all_split {L : List Jvm.Cond} {P : Jvm.Cond → Bool} (h1 : L.all (fun c => isCode c || P c) = true) (h2 : ∀ c ∈ L.filter isCode, P c = true) : L.all P = true := by
  refine List.all_eq_true.mpr fun c hc => ?_
  have h := List.all_eq_true.mp h1 c hc
  rcases Bool.eq_false_or_eq_true (isCode c) with hi | hi
  · exact h2 c (List.mem_filter.mpr ⟨hc, hi⟩)
  · simpa [hi] using h
set_option maxRecDepth 65536 in
theorem w_c0 : (Jvm.Cond.code x code maxLocals ret).before args0 about1 = true := code_word (m := ⟨1, 1⟩) (meth := k1m1) (c := k1c1) (by decide +kernel) rfl rfl rfl (by decide +kernel)
set_option maxRecDepth 65536 in
theorem w_c1 : (Jvm.Cond.code ({ cls := "com/example/fieldgate/fieldgate/edit/ReentrySummary", name := "<init>", desc := "(JJJ)V" } : Jvm.MethodName) prog_9_method_1_code (7 : Nat) (Option.none : Option Jvm.ClassFile.FieldType)).before args0 about1 = true := code_word (m := ⟨3, 0⟩) (meth := k3m0) (c := k3c0) (by decide +kernel) rfl rfl rfl (by decide +kernel)
set_option maxRecDepth 65536 in
theorem w_c2 : (Jvm.Cond.code ({ cls := "java/lang/Record", name := "<init>", desc := "()V" } : Jvm.MethodName) jdk_30_method_1_code (1 : Nat) (Option.none : Option Jvm.ClassFile.FieldType)).before args0 about1 = true := code_word (m := ⟨2, 0⟩) (meth := k2m0) (c := k2c0) (by decide +kernel) rfl rfl rfl (by decide +kernel)
set_option maxRecDepth 65536 in
theorem w_c3 : (Jvm.Cond.code ({ cls := "java/lang/Object", name := "<init>", desc := "()V" } : Jvm.MethodName) object_method_1_code (1 : Nat) (Option.none : Option Jvm.ClassFile.FieldType)).before args0 about1 = true := code_word (m := ⟨0, 0⟩) (meth := k0m0) (c := k0c0) (by decide +kernel) rfl rfl rfl (by decide +kernel)
set_option maxRecDepth 65536 in
theorem w_c4 : (Jvm.Cond.code ({ cls := "com/example/fieldgate/fieldgate/edit/ReentrySummary", name := "allAccepted", desc := "()Z" } : Jvm.MethodName) prog_9_method_3_code (1 : Nat) (Option.some Jvm.ClassFile.FieldType.boolean)).before args0 about1 = true := code_word (m := ⟨3, 2⟩) (meth := k3m2) (c := k3c2) (by decide +kernel) rfl rfl rfl (by decide +kernel)
set_option maxRecDepth 65536 in
theorem w_c5 : (Jvm.Cond.code ({ cls := "com/example/fieldgate/fieldgate/edit/ReentrySummary", name := "applied", desc := "()J" } : Jvm.MethodName) prog_9_method_2_code (1 : Nat) (Option.some Jvm.ClassFile.FieldType.long)).before args0 about1 = true := code_word (m := ⟨3, 1⟩) (meth := k3m1) (c := k3c1) (by decide +kernel) rfl rfl rfl (by decide +kernel)
set_option maxRecDepth 65536 in
theorem w_c6 : (Jvm.Cond.code ({ cls := "com/example/fieldgate/fieldgate/edit/ReentrySummary", name := "reentries", desc := "()J" } : Jvm.MethodName) prog_9_method_7_code (1 : Nat) (Option.some Jvm.ClassFile.FieldType.long)).before args0 about1 = true := code_word (m := ⟨3, 3⟩) (meth := k3m3) (c := k3c3) (by decide +kernel) rfl rfl rfl (by decide +kernel)
set_option maxRecDepth 65536 in
theorem w_c7 : (Jvm.Cond.code ({ cls := "com/example/fieldgate/fieldgate/edit/ReentrySummary", name := "releasesRejected", desc := "()J" } : Jvm.MethodName) prog_9_method_9_code (1 : Nat) (Option.some Jvm.ClassFile.FieldType.long)).before args0 about1 = true := code_word (m := ⟨3, 4⟩) (meth := k3m4) (c := k3c4) (by decide +kernel) rfl rfl rfl (by decide +kernel)
def codes1 : List Jvm.Cond := [Jvm.Cond.code x code maxLocals ret, Jvm.Cond.code ({ cls := "com/example/fieldgate/fieldgate/edit/ReentrySummary", name := "<init>", desc := "(JJJ)V" } : Jvm.MethodName) prog_9_method_1_code (7 : Nat) (Option.none : Option Jvm.ClassFile.FieldType), Jvm.Cond.code ({ cls := "java/lang/Record", name := "<init>", desc := "()V" } : Jvm.MethodName) jdk_30_method_1_code (1 : Nat) (Option.none : Option Jvm.ClassFile.FieldType), Jvm.Cond.code ({ cls := "java/lang/Object", name := "<init>", desc := "()V" } : Jvm.MethodName) object_method_1_code (1 : Nat) (Option.none : Option Jvm.ClassFile.FieldType), Jvm.Cond.code ({ cls := "com/example/fieldgate/fieldgate/edit/ReentrySummary", name := "allAccepted", desc := "()Z" } : Jvm.MethodName) prog_9_method_3_code (1 : Nat) (Option.some Jvm.ClassFile.FieldType.boolean), Jvm.Cond.code ({ cls := "com/example/fieldgate/fieldgate/edit/ReentrySummary", name := "applied", desc := "()J" } : Jvm.MethodName) prog_9_method_2_code (1 : Nat) (Option.some Jvm.ClassFile.FieldType.long), Jvm.Cond.code ({ cls := "com/example/fieldgate/fieldgate/edit/ReentrySummary", name := "reentries", desc := "()J" } : Jvm.MethodName) prog_9_method_7_code (1 : Nat) (Option.some Jvm.ClassFile.FieldType.long), Jvm.Cond.code ({ cls := "com/example/fieldgate/fieldgate/edit/ReentrySummary", name := "releasesRejected", desc := "()J" } : Jvm.MethodName) prog_9_method_9_code (1 : Nat) (Option.some Jvm.ClassFile.FieldType.long)]
set_option maxRecDepth 65536 in
theorem codes_eq : words1.filter isCode = codes1 := rfl
theorem w_codes : ∀ c ∈ words1.filter isCode, c.before args0 about1 = true := by
  rw [codes_eq]
  intro c hc
  simp only [codes1, List.mem_cons, List.not_mem_nil, or_false] at hc
  rcases hc with rfl | rfl | rfl | rfl | rfl | rfl | rfl | rfl
  · exact w_c0
  · exact w_c1
  · exact w_c2
  · exact w_c3
  · exact w_c4
  · exact w_c5
  · exact w_c6
  · exact w_c7
set_option maxRecDepth 65536 in
theorem w_t1 : (words1.take 24).all (fun c => isCode c || c.before args0 about1) = true := by decide +kernel
set_option maxRecDepth 65536 in
theorem w_t2 : (words1.drop 24).all (fun c => isCode c || c.before args0 about1) = true := by decide +kernel
theorem w_tables : (allAtoms (Jvm.Cond.code x code maxLocals ret :: tables_1)).before args0 about1 = true := by
  rw [allAtoms_all]
  show words1.all (fun c => c.before args0 about1) = true
  refine all_split ?_ w_codes
  rw [← List.take_append_drop 24 words1, List.all_append, w_t1, w_t2]
  rfl
set_option maxRecDepth 65536 in
theorem w_case : (Jvm.Cond.and given_1 narrow_1).before args0 about1 = true := by decide +kernel
theorem w_applies : (headSpec (Jvm.Cond.code x code maxLocals ret :: tables_1) room_1).applies x e0.platform about1 = true :=
  (Spec.applies_iff w_frames).mpr ⟨w_running, w_runnable, w_alone, w_named, w_hears, w_ripe, w_room, w_tables⟩
theorem atStart : AtStart classFile x code maxLocals ret World_1 tables_1 room_1 Calls_1 rest_1 Pre_1 launch0 p0 e0 about1 theMethod args0 below0 :=
  ⟨lists_1, trivial, launch0.admits_env _ _ _, launch0.least_env, fairChoices_fair.cas, fairChoices_fair.clock, w_frames, w_args, w_heap, w_applies, trivial, trivial, w_case⟩
end start1
theorem witness_1 : WitnessClaimed_1 := ⟨start1.p0, start1.e0, start1.about1, start1.theMethod, start1.args0, start1.below0, start1.atStart⟩
end Jvm.Pilot.@@N@@
