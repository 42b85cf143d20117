import JvmDerived
import JvmDerived.Pilot.@@N@@Statement
import JvmDerived.Pilot.@@N@@Code
set_option linter.unusedVariables false
set_option linter.unusedSimpArgs false
namespace Jvm.Pilot.@@N@@
open Jvm Jvm.ClassFile Sem Op Lib Jvm.Free Jvm.Stand Jvm.LawKit Jvm.RoadKit Bundle Jvm.Pilot.@@N@@.Jvm.D
/-! the walk's goal: from the state A the run ends, returning what Qv says -/
def OwnEnd (p : Program) (e : Env) (below : List Frame) (s : State) (Qv : Option Value → Heap → List Loc → Prop) (k n : Nat) (A : State) : Prop :=
  ∃ s₂ o, Steps p.tables e below A s₂ ∧ s₂.status = .running ∧ Ended s₂ below o ∧ ∃ v L, o = .returned v ∧ Qv v s₂.heap L ∧ FrameEnd s o s₂ L k n
theorem own_step {p : Program} {e : Env} {below : List Frame} {s : State} {Qv : Option Value → Heap → List Loc → Prop} {k n : Nat} {A B : State} (h : ∀ t, Steps p.tables e below B t → Steps p.tables e below A t) (q : OwnEnd p e below s Qv k n B) : OwnEnd p e below s Qv k n A := by
  obtain ⟨s₂, o, h1, h2⟩ := q
  exact ⟨s₂, o, h _ h1, h2⟩
theorem own_arvEq {Z : State} {h : Heap} {a : Addr} {k : ClassId} {ty : FieldType} {z : Int32} {vs vs' : List Value} {d : Value} (e : vs = vs') (F : Arv Z h a k ty z vs d) : Arv Z h a k ty z vs' d := by subst e; exact F
theorem own_fldEq {Z : State} {h : Heap} {a : Addr} {C n d : String} {x y : Int32} (e : x = y) (F : Fld Z h a C n d (.int x)) : Fld Z h a C n d (.int y) := by subst e; exact F
section OwnRet
variable {p : Program} {l : Launch} {e : Env} {R : Room} {s : State} {m : MethodId} {args : Array Value} {below : List Frame} {meth : Method} {c : Code} {T : State} {locs : List Loc} {cells slots k n : Nat} {Qv : Option Value → Heap → List Loc → Prop}
theorem own_retN (X : Stand p l e R s m args below meth c T locs cells slots) (hx : p.tables.exec = Jvm.exec) (hlocks : meth.locks = false) {pc : Nat} {Ls : Array Slot} {z w : Int32} {t : FieldType} {rest : List Value} (hret : meth.sig.returnType = some t) (ht : t = .boolean ∨ t = .byte ∨ t = .char ∨ t = .short) (hd : decode c.code pc = .ok (.ireturn, 1)) (hz : nar t z = w) (hq : Qv (some (.int w)) T.heap locs) (hk : cells ≤ k) (hn : slots ≤ n) :
    OwnEnd p e below s Qv k n (T.setTop (mkF m pc Ls (.int z :: rest))) := by
  obtain ⟨fs, hr, hrun, hended, hW, hsame⟩ := X.leave (v := some (.int w)) (fun h => by rw [hret] at h; cases h) hlocks
  exact ⟨_, _, retN X hx hret ht hd (fs := fs) (by rw [hz]; exact hr), hrun, hended, _, _, rfl, hq, ⟨_, rfl⟩, hW, hsame.mono hk hn⟩
theorem own_retI (X : Stand p l e R s m args below meth c T locs cells slots) (hx : p.tables.exec = Jvm.exec) (hlocks : meth.locks = false) {pc : Nat} {Ls : Array Slot} {z : Int32} {rest : List Value} (hret : meth.sig.returnType = some .int) (hd : decode c.code pc = .ok (.ireturn, 1)) (hq : Qv (some (.int z)) T.heap locs) (hk : cells ≤ k) (hn : slots ≤ n) :
    OwnEnd p e below s Qv k n (T.setTop (mkF m pc Ls (.int z :: rest))) := by
  obtain ⟨fs, hr, hrun, hended, hW, hsame⟩ := X.leave (v := some (.int z)) (fun h => by rw [hret] at h; cases h) hlocks
  refine ⟨T.setFrames fs, _, ?_, hrun, hended, _, _, rfl, hq, ⟨_, rfl⟩, hW, hsame.mono hk hn⟩
  have hm' : T.vm.method? m = some meth := X.method'
  have hn' : narrow .int (.int z) = .int z := rfl
  show Steps p.tables e below (T.setTop { method := m, pc := pc, locals := Ls, stack := _ :: rest, locked := none }) _
  jvm_step X.here [X.here.top, hx, hd, hm', hret, hn']
  first | (intro acts; rw [hr _ acts rfl rfl rfl]) | rw [hr _ _ rfl rfl rfl]
  exact Steps.refl _
theorem own_retJ (X : Stand p l e R s m args below meth c T locs cells slots) (hx : p.tables.exec = Jvm.exec) (hlocks : meth.locks = false) {pc : Nat} {Ls : Array Slot} {z : Int64} {rest : List Value} (hret : meth.sig.returnType = some .long) (hd : decode c.code pc = .ok (.lreturn, 1)) (hq : Qv (some (.long z)) T.heap locs) (hk : cells ≤ k) (hn : slots ≤ n) :
    OwnEnd p e below s Qv k n (T.setTop (mkF m pc Ls (.long z :: rest))) := by
  obtain ⟨fs, hr, hrun, hended, hW, hsame⟩ := X.leave (v := some (.long z)) (fun h => by rw [hret] at h; cases h) hlocks
  refine ⟨T.setFrames fs, _, ?_, hrun, hended, _, _, rfl, hq, ⟨_, rfl⟩, hW, hsame.mono hk hn⟩
  have hm' : T.vm.method? m = some meth := X.method'
  have hn' : narrow .long (.long z) = .long z := rfl
  show Steps p.tables e below (T.setTop { method := m, pc := pc, locals := Ls, stack := _ :: rest, locked := none }) _
  jvm_step X.here [X.here.top, hx, hd, hm', hret, hn']
  first | (intro acts; rw [hr _ acts rfl rfl rfl]) | rw [hr _ _ rfl rfl rfl]
  exact Steps.refl _
theorem own_retD (X : Stand p l e R s m args below meth c T locs cells slots) (hx : p.tables.exec = Jvm.exec) (hlocks : meth.locks = false) {pc : Nat} {Ls : Array Slot} {z : UInt64} {rest : List Value} (hret : meth.sig.returnType = some .double) (hd : decode c.code pc = .ok (.dreturn, 1)) (hq : Qv (some (.double z)) T.heap locs) (hk : cells ≤ k) (hn : slots ≤ n) :
    OwnEnd p e below s Qv k n (T.setTop (mkF m pc Ls (.double z :: rest))) := by
  obtain ⟨fs, hr, hrun, hended, hW, hsame⟩ := X.leave (v := some (.double z)) (fun h => by rw [hret] at h; cases h) hlocks
  refine ⟨T.setFrames fs, _, ?_, hrun, hended, _, _, rfl, hq, ⟨_, rfl⟩, hW, hsame.mono hk hn⟩
  have hm' : T.vm.method? m = some meth := X.method'
  have hn' : narrow .double (.double z) = .double z := rfl
  show Steps p.tables e below (T.setTop { method := m, pc := pc, locals := Ls, stack := _ :: rest, locked := none }) _
  jvm_step X.here [X.here.top, hx, hd, hm', hret, hn']
  first | (intro acts; rw [hr _ acts rfl rfl rfl]) | rw [hr _ _ rfl rfl rfl]
  exact Steps.refl _
theorem own_retR (X : Stand p l e R s m args below meth c T locs cells slots) (hx : p.tables.exec = Jvm.exec) (hlocks : meth.locks = false) {pc : Nat} {Ls : Array Slot} {z : Addr} {t : FieldType} {rest : List Value} (hret : meth.sig.returnType = some t) (ht : t.isReference = true) (hd : decode c.code pc = .ok (.areturn, 1)) (hq : Qv (some (.ref z)) T.heap locs) (hk : cells ≤ k) (hn : slots ≤ n) :
    OwnEnd p e below s Qv k n (T.setTop (mkF m pc Ls (.ref z :: rest))) := by
  obtain ⟨fs, hr, hrun, hended, hW, hsame⟩ := X.leave (v := some (.ref z)) (fun h => by rw [hret] at h; cases h) hlocks
  refine ⟨T.setFrames fs, _, ?_, hrun, hended, _, _, rfl, hq, ⟨_, rfl⟩, hW, hsame.mono hk hn⟩
  have hm' : T.vm.method? m = some meth := X.method'
  show Steps p.tables e below (T.setTop { method := m, pc := pc, locals := Ls, stack := _ :: rest, locked := none }) _
  jvm_step X.here [X.here.top, hx, hd, hm', hret, ht, Value.isRef]
  first | (intro acts; rw [hr _ acts rfl rfl rfl]) | rw [hr _ _ rfl rfl rfl]
  exact Steps.refl _
theorem own_ret0 (X : Stand p l e R s m args below meth c T locs cells slots) (hx : p.tables.exec = Jvm.exec) (hlocks : meth.locks = false) {pc : Nat} {Ls : Array Slot} (hret : meth.sig.returnType = none) (hd : decode c.code pc = .ok (.return_, 1)) (hq : Qv none T.heap locs) (hk : cells ≤ k) (hn : slots ≤ n) :
    OwnEnd p e below s Qv k n (T.setTop (mkF m pc Ls [])) := by
  obtain ⟨fs, hr, hrun, hended, hW, hsame⟩ := X.leave (v := none) (fun _ => rfl) hlocks
  exact ⟨_, _, X.returnOut hx hret hd hr, hrun, hended, _, _, rfl, hq, ⟨_, rfl⟩, hW, hsame.mono hk hn⟩
end OwnRet
theorem d1_0 : decode prog_15_method_17_code 0 = .ok (.iload_n 0, 1) := by decide +kernel
theorem d1_1 : decode prog_15_method_17_code 1 = .ok (.iconst 1, 1) := by decide +kernel
theorem d1_2 : decode prog_15_method_17_code 2 = .ok (.iand, 1) := by decide +kernel
theorem d1_3 : decode prog_15_method_17_code 3 = .ok (.ifCond .ne 7, 3) := by decide +kernel
theorem d1_6 : decode prog_15_method_17_code 6 = .ok (.iconst 1, 1) := by decide +kernel
theorem d1_7 : decode prog_15_method_17_code 7 = .ok (.goto 4, 3) := by decide +kernel
theorem d1_10 : decode prog_15_method_17_code 10 = .ok (.iconst 0, 1) := by decide +kernel
theorem d1_11 : decode prog_15_method_17_code 11 = .ok (.ireturn, 1) := by decide +kernel
theorem pn1 : plainName "com/example/usher/usher/graph/KnowledgeGraph" = true := by first | (simp [plainName, overriddenIn]; done) | decide +kernel
theorem ef1 (m : MethodId) (p0 : Int32) : entryFrame m #[(.int p0)] 1 = mkF m 0 #[.val (.int p0)] [] := by first | (simp [entryFrame, mkF, argsToLocals, Value.category]; done) | rfl
def f1 (p0 : Int32) : Int32 := (if (p0 &&& (1 : Int32)) = (0 : Int32) then (1 : Int32) else (0 : Int32))
def Q1 (Z : State) (p0 : Int32) (h0 : Heap) (n0 : Nat) (v : Option Value) (h : Heap) (L : List Loc) : Prop := v = some (.int (f1 p0)) ∧ Fr n0 L ∧ h = h0
set_option maxRecDepth 65536 in
set_option maxHeartbeats 40000000 in
theorem rm1 (l : Launch) (Z : State) (aa : Array Value) (hw : ∀ d ∈ tables_1, d.before aa Z = true) (ws : List Jvm.Cond) (p0 : Int32) (h0 : Heap) (n0 : Nat) (Z0 : n0 ≤ h0.size) :
    MetFree l (⟨"com/example/usher/usher/graph/KnowledgeGraph", "isForward", "(I)Z"⟩ : MethodName) (head1 (Jvm.Cond.code (⟨"com/example/usher/usher/graph/KnowledgeGraph", "isForward", "(I)Z"⟩ : MethodName) prog_15_method_17_code 1 (some .boolean) :: ws) ({ frames := 0, cells := 0, slots := 0, locals := 0 } : Room)) (fun a U => a = #[(.int p0)] ∧ Z.Warmed39 U.vm ∧ U.heap = h0) (fun _ _ _ _ _ => True) (fun _ U o U' => ∃ v L, o = .returned v ∧ Q1 Z p0 h0 n0 v U'.heap L ∧ FrameEnd U o U' L ({ frames := 0, cells := 0, slots := 0, locals := 0 } : Room).cells ({ frames := 0, cells := 0, slots := 0, locals := 0 } : Room).slots) := by
  refine MetFree.of_bodySF (plainFor_of_name pn1) hisR ?_
  intro p e s m args below meth c s₁ Bd hml0 hP hK
  obtain ⟨rfl, hZ, hh⟩ := hP
  have hx := Bd.exec
  have hby := Bd.bytes
  have hml : c.maxLocals = 1 := hml0
  have hown : s.vm.findClass "com/example/usher/usher/graph/KnowledgeGraph" = some m.cls := findClass_of_methodNamed Bd.named
  have hnm := (name_of_methodNamed Bd.named Bd.method).1
  have X0 : Stand p l e ({ frames := 0, cells := 0, slots := 0, locals := 0 } : Room) s m #[(.int p0)] below meth c s₁ [] 0 0 := Stand.of_body Bd
  have e0 : s₁.heap = h0 := by rw [← hh, Bd.state]; rfl
  have N0 := Fr.nil n0
  show OwnEnd p e below s (fun v h L => Q1 Z p0 h0 n0 v h L) ({ frames := 0, cells := 0, slots := 0, locals := 0 } : Room).cells ({ frames := 0, cells := 0, slots := 0, locals := 0 } : Room).slots (s₁.setTop (entryFrame m #[(.int p0)] 1))
  rw [ef1 m p0]
  generalize hW : OwnEnd p e below s (fun v h L => Q1 Z p0 h0 n0 v h L) ({ frames := 0, cells := 0, slots := 0, locals := 0 } : Room).cells ({ frames := 0, cells := 0, slots := 0, locals := 0 } : Room).slots = W
  have stp : ∀ {A B : State}, (∀ t, Steps p.tables e below B t → Steps p.tables e below A t) → W B → W A := by subst hW; exact own_step
  show W (s₁.setTop (mkF m 0 #[.val (.int p0)] []))
  refine stp (fun t k => XS.iloadN X0.here hx rfl (hb hby d1_0) rfl k) ?_
  show W (s₁.setTop (mkF m 1 #[.val (.int p0)] [(.int p0)]))
  refine stp (fun t k => XS.iconst X0.here hx rfl (hb hby d1_1) k) ?_
  show W (s₁.setTop (mkF m 2 #[.val (.int p0)] [(.int (1 : Int32)), (.int p0)]))
  refine stp (fun t k => XS.iand X0.here hx rfl (hb hby d1_2) rfl k) ?_
  show W (s₁.setTop (mkF m 3 #[.val (.int p0)] [(.int (p0 &&& (1 : Int32)))]))
  by_cases hc1_1 : (p0 &&& (1 : Int32)) = (0 : Int32)
  · refine stp (fun t k => XS.ifNo X0.here hx rfl (hb hby d1_3) rfl ((if0 _ _).trans (teq hc1_1).2) k) ?_
    show W (s₁.setTop (mkF m 6 #[.val (.int p0)] []))
    refine stp (fun t k => XS.iconst X0.here hx rfl (hb hby d1_6) k) ?_
    show W (s₁.setTop (mkF m 7 #[.val (.int p0)] [(.int (1 : Int32))]))
    refine stp (fun t k => XS.goto X0.here hx rfl (pc0 := 7) (pc' := 11) rfl (hb hby d1_7) (by decide) (by decide) k) ?_
    show W (s₁.setTop (mkF m 11 #[.val (.int p0)] [(.int (1 : Int32))]))
    show W (s₁.setTop (mkF m 11 #[.val (.int p0)] [(.int (1 : Int32))]))
    rw [← hW]
    exact own_retN X0 hx Bd.notSynchronized Bd.returns (w := (1 : Int32)) (by simp) (hb hby d1_11) rfl (by show Q1 Z p0 h0 n0 _ s₁.heap _; rw [e0]; exact ⟨(by rw [f1, if_pos hc1_1]), N0, rfl⟩) (by decide) (by decide)
  · refine stp (fun t k => XS.ifYes X0.here hx rfl (pc0 := 3) (pc' := 10) rfl (hb hby d1_3) rfl ((if0 _ _).trans (feq hc1_1).2) (by decide) (by decide) k) ?_
    show W (s₁.setTop (mkF m 10 #[.val (.int p0)] []))
    refine stp (fun t k => XS.iconst X0.here hx rfl (hb hby d1_10) k) ?_
    show W (s₁.setTop (mkF m 11 #[.val (.int p0)] [(.int (0 : Int32))]))
    show W (s₁.setTop (mkF m 11 #[.val (.int p0)] [(.int (0 : Int32))]))
    rw [← hW]
    exact own_retN X0 hx Bd.notSynchronized Bd.returns (w := (0 : Int32)) (by simp) (hb hby d1_11) rfl (by show Q1 Z p0 h0 n0 _ s₁.heap _; rw [e0]; exact ⟨(by rw [f1, if_neg hc1_1]), N0, rfl⟩) (by decide) (by decide)
theorem d2_0 : decode prog_15_method_18_code 0 = .ok (.iload_n 0, 1) := by decide +kernel
theorem d2_1 : decode prog_15_method_18_code 1 = .ok (.iconst 1, 1) := by decide +kernel
theorem d2_2 : decode prog_15_method_18_code 2 = .ok (.iushr, 1) := by decide +kernel
theorem d2_3 : decode prog_15_method_18_code 3 = .ok (.ireturn, 1) := by decide +kernel
theorem pn2 : plainName "com/example/usher/usher/graph/KnowledgeGraph" = true := by first | (simp [plainName, overriddenIn]; done) | decide +kernel
theorem ef2 (m : MethodId) (p0 : Int32) : entryFrame m #[(.int p0)] 1 = mkF m 0 #[.val (.int p0)] [] := by first | (simp [entryFrame, mkF, argsToLocals, Value.category]; done) | rfl
def f2 (p0 : Int32) : Int32 := ((p0.toUInt32 >>> ((1 : Int32) &&& 31).toUInt32).toInt32)
def Q2 (Z : State) (p0 : Int32) (h0 : Heap) (n0 : Nat) (v : Option Value) (h : Heap) (L : List Loc) : Prop := v = some (.int (f2 p0)) ∧ Fr n0 L ∧ h = h0
set_option maxRecDepth 65536 in
set_option maxHeartbeats 40000000 in
theorem rm2 (l : Launch) (Z : State) (aa : Array Value) (hw : ∀ d ∈ tables_1, d.before aa Z = true) (ws : List Jvm.Cond) (p0 : Int32) (h0 : Heap) (n0 : Nat) (Z0 : n0 ≤ h0.size) :
    MetFree l (⟨"com/example/usher/usher/graph/KnowledgeGraph", "edge", "(I)I"⟩ : MethodName) (head1 (Jvm.Cond.code (⟨"com/example/usher/usher/graph/KnowledgeGraph", "edge", "(I)I"⟩ : MethodName) prog_15_method_18_code 1 (some .int) :: ws) ({ frames := 0, cells := 0, slots := 0, locals := 0 } : Room)) (fun a U => a = #[(.int p0)] ∧ Z.Warmed39 U.vm ∧ U.heap = h0) (fun _ _ _ _ _ => True) (fun _ U o U' => ∃ v L, o = .returned v ∧ Q2 Z p0 h0 n0 v U'.heap L ∧ FrameEnd U o U' L ({ frames := 0, cells := 0, slots := 0, locals := 0 } : Room).cells ({ frames := 0, cells := 0, slots := 0, locals := 0 } : Room).slots) := by
  refine MetFree.of_bodySF (plainFor_of_name pn2) hisR ?_
  intro p e s m args below meth c s₁ Bd hml0 hP hK
  obtain ⟨rfl, hZ, hh⟩ := hP
  have hx := Bd.exec
  have hby := Bd.bytes
  have hml : c.maxLocals = 1 := hml0
  have hown : s.vm.findClass "com/example/usher/usher/graph/KnowledgeGraph" = some m.cls := findClass_of_methodNamed Bd.named
  have hnm := (name_of_methodNamed Bd.named Bd.method).1
  have X0 : Stand p l e ({ frames := 0, cells := 0, slots := 0, locals := 0 } : Room) s m #[(.int p0)] below meth c s₁ [] 0 0 := Stand.of_body Bd
  have e0 : s₁.heap = h0 := by rw [← hh, Bd.state]; rfl
  have N0 := Fr.nil n0
  show OwnEnd p e below s (fun v h L => Q2 Z p0 h0 n0 v h L) ({ frames := 0, cells := 0, slots := 0, locals := 0 } : Room).cells ({ frames := 0, cells := 0, slots := 0, locals := 0 } : Room).slots (s₁.setTop (entryFrame m #[(.int p0)] 1))
  rw [ef2 m p0]
  generalize hW : OwnEnd p e below s (fun v h L => Q2 Z p0 h0 n0 v h L) ({ frames := 0, cells := 0, slots := 0, locals := 0 } : Room).cells ({ frames := 0, cells := 0, slots := 0, locals := 0 } : Room).slots = W
  have stp : ∀ {A B : State}, (∀ t, Steps p.tables e below B t → Steps p.tables e below A t) → W B → W A := by subst hW; exact own_step
  show W (s₁.setTop (mkF m 0 #[.val (.int p0)] []))
  refine stp (fun t k => XS.iloadN X0.here hx rfl (hb hby d2_0) rfl k) ?_
  show W (s₁.setTop (mkF m 1 #[.val (.int p0)] [(.int p0)]))
  refine stp (fun t k => XS.iconst X0.here hx rfl (hb hby d2_1) k) ?_
  show W (s₁.setTop (mkF m 2 #[.val (.int p0)] [(.int (1 : Int32)), (.int p0)]))
  refine stp (fun t k => XS.iushr X0.here hx rfl (hb hby d2_2) rfl k) ?_
  show W (s₁.setTop (mkF m 3 #[.val (.int p0)] [(.int ((p0.toUInt32 >>> ((1 : Int32) &&& 31).toUInt32).toInt32))]))
  show W (s₁.setTop (mkF m 3 #[.val (.int p0)] [(.int ((p0.toUInt32 >>> ((1 : Int32) &&& 31).toUInt32).toInt32))]))
  rw [← hW]
  exact own_retI X0 hx Bd.notSynchronized Bd.returns (hb hby d2_3) (by show Q2 Z p0 h0 n0 _ s₁.heap _; rw [e0]; exact ⟨rfl, N0, rfl⟩) (by decide) (by decide)
theorem own_b (p1 : Int32) : (p1 &&& (1 : Int32)) = (0 : Int32) ∨ ¬ (p1 &&& (1 : Int32)) = (0 : Int32) := Classical.em _
theorem own_even (p0 : Int32) : (p0 * 2 + 0) &&& 1 = (0 : Int32) := by
  apply Int32.toInt_inj.mp
  have h1 := c_mask (p0 * 2 + 0) 1 1 (by decide) (by decide)
  have h2 := c_iadd (p0 * 2) 0
  have h3 := c_imul p0 2
  have h4 : (2 : Int32).toInt = 2 := by decide
  have h5 : (0 : Int32).toInt = 0 := by decide
  rw [h4] at h3
  omega
theorem own_odd (p0 : Int32) : ¬ ((p0 * 2 + 1) &&& 1 = (0 : Int32)) := by
  intro q
  have h1 := c_mask (p0 * 2 + 1) 1 1 (by decide) (by decide)
  have h2 := c_iadd (p0 * 2) 1
  have h3 := c_imul p0 2
  have h4 : (2 : Int32).toInt = 2 := by decide
  have h5 : (0 : Int32).toInt = 0 := by decide
  have h6 : (1 : Int32).toInt = 1 := by decide
  rw [q] at h1
  rw [h4] at h3
  omega
theorem own_edge (p0 b : Int32) (hb : b = 0 ∨ b = 1) : f2 (p0 * 2 + b) = p0 &&& 2147483647 := by
  apply Int32.toInt_inj.mp
  have h0 := c_iushr (p0 * 2 + b) 1 1 (by decide) (by decide)
  have h1 := c_mask p0 2147483647 31 (by decide) (by decide)
  have h2 := c_iadd (p0 * 2) b
  have h3 := c_imul p0 2
  have h4 : (2 : Int32).toInt = 2 := by decide
  have h5 : b.toInt = 0 ∨ b.toInt = 1 := by rcases hb with rfl | rfl <;> decide
  rw [h4] at h3
  rw [f2, h0, h1]
  omega
theorem own_dir (p0 p1 : Int32) : (f1 ((p0 * (2 : Int32)) + (if (if (p1 &&& (1 : Int32)) = (0 : Int32) then (0 : Int32) else (1 : Int32)) = (0 : Int32) then (0 : Int32) else (1 : Int32)))) = (if (if (p1 &&& (1 : Int32)) = (0 : Int32) then (0 : Int32) else (1 : Int32)) = (0 : Int32) then (1 : Int32) else (0 : Int32)) := by
  by_cases h : (p1 &&& (1 : Int32)) = (0 : Int32)
  · rw [if_pos h, if_pos rfl, if_pos rfl, f1, if_pos (own_even p0)]
  · rw [if_neg h, if_neg (by decide), if_neg (by decide), f1, if_neg (own_odd p0)]
theorem own_oth (p0 p1 : Int32) : (f1 ((p0 * (2 : Int32)) + (if (if (p1 &&& (1 : Int32)) = (0 : Int32) then (0 : Int32) else (1 : Int32)) = (0 : Int32) then (1 : Int32) else (0 : Int32)))) = (if (p1 &&& (1 : Int32)) = (0 : Int32) then (0 : Int32) else (1 : Int32)) := by
  by_cases h : (p1 &&& (1 : Int32)) = (0 : Int32)
  · rw [if_pos h, if_pos rfl, f1, if_neg (own_odd p0)]
  · rw [if_neg h, if_neg (by decide), f1, if_pos (own_even p0)]
theorem own_ed1 (p0 p1 : Int32) : (f2 ((p0 * (2 : Int32)) + (if (if (p1 &&& (1 : Int32)) = (0 : Int32) then (0 : Int32) else (1 : Int32)) = (0 : Int32) then (0 : Int32) else (1 : Int32)))) = (p0 &&& (2147483647 : Int32)) := own_edge _ _ (by split <;> simp)
theorem own_ed2 (p0 p1 : Int32) : (f2 ((p0 * (2 : Int32)) + (if (if (p1 &&& (1 : Int32)) = (0 : Int32) then (0 : Int32) else (1 : Int32)) = (0 : Int32) then (1 : Int32) else (0 : Int32)))) = (p0 &&& (2147483647 : Int32)) := own_edge _ _ (by split <;> simp)
theorem pn0 : plainName "com/example/usher/usher/graph/KnowledgeGraphIsForwardPinLaw" = true := by first | (simp [plainName, overriddenIn]; done) | decide +kernel
theorem pd0_0 : parseMethodDescriptor "(I)Z" = some ⟨[.int], some .boolean⟩ := by decide +kernel
theorem pd0_1 : parseMethodDescriptor "(I)I" = some ⟨[.int], some .int⟩ := by decide +kernel
theorem ef0 (m : MethodId) (p0 : Int32) (p1 : Int32) : entryFrame m #[(.int p0), (.int p1)] maxLocals = mkF m 0 #[.val (.int p0), .val (.int p1), .unset, .unset, .unset, .unset, .unset, .unset] [] := by first | (simp [entryFrame, mkF, argsToLocals, Value.category, maxLocals]; done) | rfl
theorem own_0_54_14 (p0 : Int32) (p1 : Int32)   : (f1 ((p0 * (2 : Int32)) + (if (if (p1 &&& (1 : Int32)) = (0 : Int32) then (0 : Int32) else (1 : Int32)) = (0 : Int32) then (0 : Int32) else (1 : Int32)))) = (if (if (p1 &&& (1 : Int32)) = (0 : Int32) then (0 : Int32) else (1 : Int32)) = (0 : Int32) then (1 : Int32) else (0 : Int32)) := own_dir p0 p1
theorem own_0_70_16 (p0 : Int32) (p1 : Int32)   : (f1 ((p0 * (2 : Int32)) + (if (if (p1 &&& (1 : Int32)) = (0 : Int32) then (0 : Int32) else (1 : Int32)) = (0 : Int32) then (1 : Int32) else (0 : Int32)))) = (if (p1 &&& (1 : Int32)) = (0 : Int32) then (0 : Int32) else (1 : Int32)) := own_oth p0 p1
theorem own_0_88_18 (p0 : Int32) (p1 : Int32)   : (f2 ((p0 * (2 : Int32)) + (if (if (p1 &&& (1 : Int32)) = (0 : Int32) then (0 : Int32) else (1 : Int32)) = (0 : Int32) then (0 : Int32) else (1 : Int32)))) = (p0 &&& (2147483647 : Int32)) := own_ed1 p0 p1
theorem own_0_100_20 (p0 : Int32) (p1 : Int32)   : (f2 ((p0 * (2 : Int32)) + (if (if (p1 &&& (1 : Int32)) = (0 : Int32) then (0 : Int32) else (1 : Int32)) = (0 : Int32) then (1 : Int32) else (0 : Int32)))) = (p0 &&& (2147483647 : Int32)) := own_ed2 p0 p1
theorem own_0_112_21 (p0 : Int32) (p1 : Int32)   : ¬ ((1 : Int32) = (0 : Int32)) := by decide
theorem own_0_117_22 (p0 : Int32) (p1 : Int32)   : ¬ ((1 : Int32) = (0 : Int32)) := by decide
theorem own_0_122_23 (p0 : Int32) (p1 : Int32)   : ¬ ((1 : Int32) = (0 : Int32)) := by decide
def Q0 (Z : State) (p0 : Int32) (p1 : Int32) (h0 : Heap) (n0 : Nat) (v : Option Value) (h : Heap) (L : List Loc) : Prop := v = some (.int (1 : Int32)) ∧ Fr n0 L
set_option maxRecDepth 65536 in
set_option maxHeartbeats 40000000 in
theorem rm0 (l : Launch) (Z : State) (aa : Array Value) (hw : ∀ d ∈ tables_1, d.before aa Z = true) (ws : List Jvm.Cond) (p0 : Int32) (p1 : Int32) (h0 : Heap) (n0 : Nat) (Z0 : n0 ≤ h0.size) :
    MetFree l x (head1 (Jvm.Cond.code x code maxLocals ret :: ws) room_1) (fun a U => a = #[(.int p0), (.int p1)] ∧ Z.Warmed39 U.vm ∧ U.heap = h0) (fun _ _ _ _ _ => True) (fun _ U o U' => ∃ v L, o = .returned v ∧ Q0 Z p0 p1 h0 n0 v U'.heap L ∧ FrameEnd U o U' L room_1.cells room_1.slots) := by
  refine MetFree.of_bodySF (plainFor_of_name pn0) hisR ?_
  intro p e s m args below meth c s₁ Bd hml0 hP hK
  obtain ⟨rfl, hZ, hh⟩ := hP
  have hx := Bd.exec
  have hby := Bd.bytes
  have hml : c.maxLocals = 8 := hml0
  have hown : s.vm.findClass "com/example/usher/usher/graph/KnowledgeGraphIsForwardPinLaw" = some m.cls := findClass_of_methodNamed Bd.named
  have hnm := (name_of_methodNamed Bd.named Bd.method).1
  have X0 : Stand p l e room_1 s m #[(.int p0), (.int p1)] below meth c s₁ [] 0 0 := Stand.of_body Bd
  have e0 : s₁.heap = h0 := by rw [← hh, Bd.state]; rfl
  have N0 := Fr.nil n0
  show OwnEnd p e below s (fun v h L => Q0 Z p0 p1 h0 n0 v h L) room_1.cells room_1.slots (s₁.setTop (entryFrame m #[(.int p0), (.int p1)] maxLocals))
  rw [ef0 m p0 p1]
  generalize hW : OwnEnd p e below s (fun v h L => Q0 Z p0 p1 h0 n0 v h L) room_1.cells room_1.slots = W
  have stp : ∀ {A B : State}, (∀ t, Steps p.tables e below B t → Steps p.tables e below A t) → W B → W A := by subst hW; exact own_step
  show W (s₁.setTop (mkF m 0 #[.val (.int p0), .val (.int p1), .unset, .unset, .unset, .unset, .unset, .unset] []))
  refine stp (fun t k => XS.iloadN X0.here hx rfl (hb hby at_0) rfl k) ?_
  show W (s₁.setTop (mkF m 1 #[.val (.int p0), .val (.int p1), .unset, .unset, .unset, .unset, .unset, .unset] [(.int p1)]))
  refine stp (fun t k => XS.iconst X0.here hx rfl (hb hby at_1) k) ?_
  show W (s₁.setTop (mkF m 2 #[.val (.int p0), .val (.int p1), .unset, .unset, .unset, .unset, .unset, .unset] [(.int (1 : Int32)), (.int p1)]))
  refine stp (fun t k => XS.iand X0.here hx rfl (hb hby at_2) rfl k) ?_
  show W (s₁.setTop (mkF m 3 #[.val (.int p0), .val (.int p1), .unset, .unset, .unset, .unset, .unset, .unset] [(.int (p1 &&& (1 : Int32)))]))
  have J0_11_3 : ∀ (T03 : State) (lc03 : List Loc) (v0_2 : Int32) (hv0_2 : v0_2 = (if (p1 &&& (1 : Int32)) = (0 : Int32) then (0 : Int32) else (1 : Int32))) (X03 : Stand p l e room_1 s m #[(.int p0), (.int p1)] below meth c T03 lc03 0 0) (e03 : T03.heap = h0) (N03 : Fr n0 lc03), W (T03.setTop (mkF m 11 #[.val (.int p0), .val (.int p1), .unset, .unset, .unset, .unset, .unset, .unset] [(.int v0_2)])) := by
    intro T03 lc03 v0_2 hv0_2  X03 e03 N03
    show W (T03.setTop (mkF m 11 #[.val (.int p0), .val (.int p1), .unset, .unset, .unset, .unset, .unset, .unset] [(.int v0_2)]))
    refine stp (fun t k => XS.istoreN X03.here hx rfl (hb hby at_11) rfl (l' := #[.val (.int p0), .val (.int p1), .val (.int v0_2), .unset, .unset, .unset, .unset, .unset]) rfl k) ?_
    show W (T03.setTop (mkF m 12 #[.val (.int p0), .val (.int p1), .val (.int v0_2), .unset, .unset, .unset, .unset, .unset] []))
    refine stp (fun t k => XS.iloadN X03.here hx rfl (hb hby at_12) rfl k) ?_
    show W (T03.setTop (mkF m 13 #[.val (.int p0), .val (.int p1), .val (.int v0_2), .unset, .unset, .unset, .unset, .unset] [(.int p0)]))
    refine stp (fun t k => XS.iconst X03.here hx rfl (hb hby at_13) k) ?_
    show W (T03.setTop (mkF m 14 #[.val (.int p0), .val (.int p1), .val (.int v0_2), .unset, .unset, .unset, .unset, .unset] [(.int (2 : Int32)), (.int p0)]))
    refine stp (fun t k => XS.imul X03.here hx rfl (hb hby at_14) rfl k) ?_
    show W (T03.setTop (mkF m 15 #[.val (.int p0), .val (.int p1), .val (.int v0_2), .unset, .unset, .unset, .unset, .unset] [(.int (p0 * (2 : Int32)))]))
    refine stp (fun t k => XS.iloadN X03.here hx rfl (hb hby at_15) rfl k) ?_
    show W (T03.setTop (mkF m 16 #[.val (.int p0), .val (.int p1), .val (.int v0_2), .unset, .unset, .unset, .unset, .unset] [(.int v0_2), (.int (p0 * (2 : Int32)))]))
    have J0_24_6 : ∀ (T06 : State) (lc06 : List Loc) (v0_5 : Int32) (hv0_5 : v0_5 = (if v0_2 = (0 : Int32) then (0 : Int32) else (1 : Int32))) (X06 : Stand p l e room_1 s m #[(.int p0), (.int p1)] below meth c T06 lc06 0 0) (e06 : T06.heap = h0) (N06 : Fr n0 lc06), W (T06.setTop (mkF m 24 #[.val (.int p0), .val (.int p1), .val (.int v0_2), .unset, .unset, .unset, .unset, .unset] [(.int v0_5), (.int (p0 * (2 : Int32)))])) := by
      intro T06 lc06 v0_5 hv0_5  X06 e06 N06
      show W (T06.setTop (mkF m 24 #[.val (.int p0), .val (.int p1), .val (.int v0_2), .unset, .unset, .unset, .unset, .unset] [(.int v0_5), (.int (p0 * (2 : Int32)))]))
      refine stp (fun t k => XS.iadd X06.here hx rfl (hb hby at_24) rfl k) ?_
      show W (T06.setTop (mkF m 25 #[.val (.int p0), .val (.int p1), .val (.int v0_2), .unset, .unset, .unset, .unset, .unset] [(.int ((p0 * (2 : Int32)) + v0_5))]))
      refine stp (fun t k => XS.istoreN X06.here hx rfl (hb hby at_25) rfl (l' := #[.val (.int p0), .val (.int p1), .val (.int v0_2), .val (.int ((p0 * (2 : Int32)) + v0_5)), .unset, .unset, .unset, .unset]) rfl k) ?_
      show W (T06.setTop (mkF m 26 #[.val (.int p0), .val (.int p1), .val (.int v0_2), .val (.int ((p0 * (2 : Int32)) + v0_5)), .unset, .unset, .unset, .unset] []))
      refine stp (fun t k => XS.iloadN X06.here hx rfl (hb hby at_26) rfl k) ?_
      show W (T06.setTop (mkF m 27 #[.val (.int p0), .val (.int p1), .val (.int v0_2), .val (.int ((p0 * (2 : Int32)) + v0_5)), .unset, .unset, .unset, .unset] [(.int p0)]))
      refine stp (fun t k => XS.iconst X06.here hx rfl (hb hby at_27) k) ?_
      show W (T06.setTop (mkF m 28 #[.val (.int p0), .val (.int p1), .val (.int v0_2), .val (.int ((p0 * (2 : Int32)) + v0_5)), .unset, .unset, .unset, .unset] [(.int (2 : Int32)), (.int p0)]))
      refine stp (fun t k => XS.imul X06.here hx rfl (hb hby at_28) rfl k) ?_
      show W (T06.setTop (mkF m 29 #[.val (.int p0), .val (.int p1), .val (.int v0_2), .val (.int ((p0 * (2 : Int32)) + v0_5)), .unset, .unset, .unset, .unset] [(.int (p0 * (2 : Int32)))]))
      refine stp (fun t k => XS.iloadN X06.here hx rfl (hb hby at_29) rfl k) ?_
      show W (T06.setTop (mkF m 30 #[.val (.int p0), .val (.int p1), .val (.int v0_2), .val (.int ((p0 * (2 : Int32)) + v0_5)), .unset, .unset, .unset, .unset] [(.int v0_2), (.int (p0 * (2 : Int32)))]))
      have J0_38_9 : ∀ (T09 : State) (lc09 : List Loc) (v0_8 : Int32) (hv0_8 : v0_8 = (if v0_2 = (0 : Int32) then (1 : Int32) else (0 : Int32))) (X09 : Stand p l e room_1 s m #[(.int p0), (.int p1)] below meth c T09 lc09 0 0) (e09 : T09.heap = h0) (N09 : Fr n0 lc09), W (T09.setTop (mkF m 38 #[.val (.int p0), .val (.int p1), .val (.int v0_2), .val (.int ((p0 * (2 : Int32)) + v0_5)), .unset, .unset, .unset, .unset] [(.int v0_8), (.int (p0 * (2 : Int32)))])) := by
        intro T09 lc09 v0_8 hv0_8  X09 e09 N09
        show W (T09.setTop (mkF m 38 #[.val (.int p0), .val (.int p1), .val (.int v0_2), .val (.int ((p0 * (2 : Int32)) + v0_5)), .unset, .unset, .unset, .unset] [(.int v0_8), (.int (p0 * (2 : Int32)))]))
        refine stp (fun t k => XS.iadd X09.here hx rfl (hb hby at_38) rfl k) ?_
        show W (T09.setTop (mkF m 39 #[.val (.int p0), .val (.int p1), .val (.int v0_2), .val (.int ((p0 * (2 : Int32)) + v0_5)), .unset, .unset, .unset, .unset] [(.int ((p0 * (2 : Int32)) + v0_8))]))
        refine stp (fun t k => XS.istore X09.here hx rfl (hb hby at_39) rfl (l' := #[.val (.int p0), .val (.int p1), .val (.int v0_2), .val (.int ((p0 * (2 : Int32)) + v0_5)), .val (.int ((p0 * (2 : Int32)) + v0_8)), .unset, .unset, .unset]) rfl k) ?_
        show W (T09.setTop (mkF m 41 #[.val (.int p0), .val (.int p1), .val (.int v0_2), .val (.int ((p0 * (2 : Int32)) + v0_5)), .val (.int ((p0 * (2 : Int32)) + v0_8)), .unset, .unset, .unset] []))
        refine stp (fun t k => XS.iloadN X09.here hx rfl (hb hby at_41) rfl k) ?_
        show W (T09.setTop (mkF m 42 #[.val (.int p0), .val (.int p1), .val (.int v0_2), .val (.int ((p0 * (2 : Int32)) + v0_5)), .val (.int ((p0 * (2 : Int32)) + v0_8)), .unset, .unset, .unset] [(.int ((p0 * (2 : Int32)) + v0_5))]))
        obtain ⟨_, _, ⟨T0c10, L0c10, k0c10, n0c10⟩, -, X0c10, ⟨Lc0c10, hQ0c10, l0c10, y0c10, z0c10⟩, st0c10⟩ := Jvm.LawKit.callS X09 hx (y := (⟨"com/example/usher/usher/graph/KnowledgeGraph", "isForward", "(I)Z"⟩ : MethodName)) hown (mvT hZ (hw _ (List.mem_of_getElem? (i := 0) rfl))) (mvT hZ (hw _ (List.mem_of_getElem? (i := 1) rfl))) (mvT hZ (hw _ (List.mem_of_getElem? (i := 2) rfl))) (mvT hZ (hw _ (List.mem_of_getElem? (i := 3) rfl))) (by decide) (backOf (W := 0) (rm1 l Z aa hw [] ((p0 * (2 : Int32)) + v0_5)  h0 n0 Z0 ) hZ (hw _ (List.mem_of_getElem? (i := 3) rfl)) (hw _ (List.mem_of_getElem? (i := 2) rfl)) (by decide) (by decide)) (g := (mkF m 42 #[.val (.int p0), .val (.int p1), .val (.int v0_2), .val (.int ((p0 * (2 : Int32)) + v0_5)), .val (.int ((p0 * (2 : Int32)) + v0_8)), .unset, .unset, .unset] [(.int ((p0 * (2 : Int32)) + v0_5))])) rfl (by rw [hml]; rfl) (argsL := [(.int ((p0 * (2 : Int32)) + v0_5))]) (rest := []) (lenOf pd0_0 rfl) rfl (by show 2 * 0 + _ ≤ _; exact Nat.le_of_eq rfl) (hb hby at_42) (fun _ _ => ⟨rfl, e09, (by decide : 0 + 0 ≤ _), (by decide : 0 + 0 ≤ _)⟩)
        dsimp only [Pt.U, Pt.locs, Pt.cells, Pt.slots] at X0c10 l0c10 y0c10 z0c10 st0c10 hQ0c10
        subst l0c10 y0c10 z0c10
        obtain ⟨rfl, N0c10q, e0c10⟩ := hQ0c10
        have N0c10 := Fr.app N09 N0c10q
        refine stp (fun t k => st0c10 t k) ?_
        show W (T0c10.setTop (mkF m 45 #[.val (.int p0), .val (.int p1), .val (.int v0_2), .val (.int ((p0 * (2 : Int32)) + v0_5)), .val (.int ((p0 * (2 : Int32)) + v0_8)), .unset, .unset, .unset] [(.int (f1 ((p0 * (2 : Int32)) + v0_5)))]))
        refine stp (fun t k => XS.iloadN X0c10.here hx rfl (hb hby at_45) rfl k) ?_
        show W (T0c10.setTop (mkF m 46 #[.val (.int p0), .val (.int p1), .val (.int v0_2), .val (.int ((p0 * (2 : Int32)) + v0_5)), .val (.int ((p0 * (2 : Int32)) + v0_8)), .unset, .unset, .unset] [(.int v0_2), (.int (f1 ((p0 * (2 : Int32)) + v0_5)))]))
        have J0_54_13 : ∀ (T013 : State) (lc013 : List Loc) (v0_12 : Int32) (hv0_12 : v0_12 = (if v0_2 = (0 : Int32) then (1 : Int32) else (0 : Int32))) (X013 : Stand p l e room_1 s m #[(.int p0), (.int p1)] below meth c T013 lc013 0 0) (e013 : T013.heap = h0) (N013 : Fr n0 lc013), W (T013.setTop (mkF m 54 #[.val (.int p0), .val (.int p1), .val (.int v0_2), .val (.int ((p0 * (2 : Int32)) + v0_5)), .val (.int ((p0 * (2 : Int32)) + v0_8)), .unset, .unset, .unset] [(.int v0_12), (.int (f1 ((p0 * (2 : Int32)) + v0_5)))])) := by
          intro T013 lc013 v0_12 hv0_12  X013 e013 N013
          show W (T013.setTop (mkF m 54 #[.val (.int p0), .val (.int p1), .val (.int v0_2), .val (.int ((p0 * (2 : Int32)) + v0_5)), .val (.int ((p0 * (2 : Int32)) + v0_8)), .unset, .unset, .unset] [(.int v0_12), (.int (f1 ((p0 * (2 : Int32)) + v0_5)))]))
          refine stp (fun t k => XS.icmpNo X013.here hx rfl (hb hby at_54) rfl ((teq (by subst hv0_2; subst hv0_5; subst hv0_8; subst hv0_12; exact own_0_54_14 p0 p1  )).2) k) ?_
          show W (T013.setTop (mkF m 57 #[.val (.int p0), .val (.int p1), .val (.int v0_2), .val (.int ((p0 * (2 : Int32)) + v0_5)), .val (.int ((p0 * (2 : Int32)) + v0_8)), .unset, .unset, .unset] []))
          refine stp (fun t k => XS.iconst X013.here hx rfl (hb hby at_57) k) ?_
          show W (T013.setTop (mkF m 58 #[.val (.int p0), .val (.int p1), .val (.int v0_2), .val (.int ((p0 * (2 : Int32)) + v0_5)), .val (.int ((p0 * (2 : Int32)) + v0_8)), .unset, .unset, .unset] [(.int (1 : Int32))]))
          refine stp (fun t k => XS.goto X013.here hx rfl (pc0 := 58) (pc' := 62) rfl (hb hby at_58) (by decide) (by decide) k) ?_
          show W (T013.setTop (mkF m 62 #[.val (.int p0), .val (.int p1), .val (.int v0_2), .val (.int ((p0 * (2 : Int32)) + v0_5)), .val (.int ((p0 * (2 : Int32)) + v0_8)), .unset, .unset, .unset] [(.int (1 : Int32))]))
          refine stp (fun t k => XS.istore X013.here hx rfl (hb hby at_62) rfl (l' := #[.val (.int p0), .val (.int p1), .val (.int v0_2), .val (.int ((p0 * (2 : Int32)) + v0_5)), .val (.int ((p0 * (2 : Int32)) + v0_8)), .val (.int (1 : Int32)), .unset, .unset]) rfl k) ?_
          show W (T013.setTop (mkF m 64 #[.val (.int p0), .val (.int p1), .val (.int v0_2), .val (.int ((p0 * (2 : Int32)) + v0_5)), .val (.int ((p0 * (2 : Int32)) + v0_8)), .val (.int (1 : Int32)), .unset, .unset] []))
          refine stp (fun t k => XS.iload X013.here hx rfl (hb hby at_64) rfl k) ?_
          show W (T013.setTop (mkF m 66 #[.val (.int p0), .val (.int p1), .val (.int v0_2), .val (.int ((p0 * (2 : Int32)) + v0_5)), .val (.int ((p0 * (2 : Int32)) + v0_8)), .val (.int (1 : Int32)), .unset, .unset] [(.int ((p0 * (2 : Int32)) + v0_8))]))
          obtain ⟨_, _, ⟨T0c15, L0c15, k0c15, n0c15⟩, -, X0c15, ⟨Lc0c15, hQ0c15, l0c15, y0c15, z0c15⟩, st0c15⟩ := Jvm.LawKit.callS X013 hx (y := (⟨"com/example/usher/usher/graph/KnowledgeGraph", "isForward", "(I)Z"⟩ : MethodName)) hown (mvT hZ (hw _ (List.mem_of_getElem? (i := 0) rfl))) (mvT hZ (hw _ (List.mem_of_getElem? (i := 1) rfl))) (mvT hZ (hw _ (List.mem_of_getElem? (i := 2) rfl))) (mvT hZ (hw _ (List.mem_of_getElem? (i := 3) rfl))) (by decide) (backOf (W := 0) (rm1 l Z aa hw [] ((p0 * (2 : Int32)) + v0_8)  h0 n0 Z0 ) hZ (hw _ (List.mem_of_getElem? (i := 3) rfl)) (hw _ (List.mem_of_getElem? (i := 2) rfl)) (by decide) (by decide)) (g := (mkF m 66 #[.val (.int p0), .val (.int p1), .val (.int v0_2), .val (.int ((p0 * (2 : Int32)) + v0_5)), .val (.int ((p0 * (2 : Int32)) + v0_8)), .val (.int (1 : Int32)), .unset, .unset] [(.int ((p0 * (2 : Int32)) + v0_8))])) rfl (by rw [hml]; rfl) (argsL := [(.int ((p0 * (2 : Int32)) + v0_8))]) (rest := []) (lenOf pd0_0 rfl) rfl (by show 2 * 0 + _ ≤ _; exact Nat.le_of_eq rfl) (hb hby at_66) (fun _ _ => ⟨rfl, e013, (by decide : 0 + 0 ≤ _), (by decide : 0 + 0 ≤ _)⟩)
          dsimp only [Pt.U, Pt.locs, Pt.cells, Pt.slots] at X0c15 l0c15 y0c15 z0c15 st0c15 hQ0c15
          subst l0c15 y0c15 z0c15
          obtain ⟨rfl, N0c15q, e0c15⟩ := hQ0c15
          have N0c15 := Fr.app N013 N0c15q
          refine stp (fun t k => st0c15 t k) ?_
          show W (T0c15.setTop (mkF m 69 #[.val (.int p0), .val (.int p1), .val (.int v0_2), .val (.int ((p0 * (2 : Int32)) + v0_5)), .val (.int ((p0 * (2 : Int32)) + v0_8)), .val (.int (1 : Int32)), .unset, .unset] [(.int (f1 ((p0 * (2 : Int32)) + v0_8)))]))
          refine stp (fun t k => XS.iloadN X0c15.here hx rfl (hb hby at_69) rfl k) ?_
          show W (T0c15.setTop (mkF m 70 #[.val (.int p0), .val (.int p1), .val (.int v0_2), .val (.int ((p0 * (2 : Int32)) + v0_5)), .val (.int ((p0 * (2 : Int32)) + v0_8)), .val (.int (1 : Int32)), .unset, .unset] [(.int v0_2), (.int (f1 ((p0 * (2 : Int32)) + v0_8)))]))
          refine stp (fun t k => XS.icmpNo X0c15.here hx rfl (hb hby at_70) rfl ((teq (by subst hv0_2; subst hv0_5; subst hv0_8; subst hv0_12; exact own_0_70_16 p0 p1  )).2) k) ?_
          show W (T0c15.setTop (mkF m 73 #[.val (.int p0), .val (.int p1), .val (.int v0_2), .val (.int ((p0 * (2 : Int32)) + v0_5)), .val (.int ((p0 * (2 : Int32)) + v0_8)), .val (.int (1 : Int32)), .unset, .unset] []))
          refine stp (fun t k => XS.iconst X0c15.here hx rfl (hb hby at_73) k) ?_
          show W (T0c15.setTop (mkF m 74 #[.val (.int p0), .val (.int p1), .val (.int v0_2), .val (.int ((p0 * (2 : Int32)) + v0_5)), .val (.int ((p0 * (2 : Int32)) + v0_8)), .val (.int (1 : Int32)), .unset, .unset] [(.int (1 : Int32))]))
          refine stp (fun t k => XS.goto X0c15.here hx rfl (pc0 := 74) (pc' := 78) rfl (hb hby at_74) (by decide) (by decide) k) ?_
          show W (T0c15.setTop (mkF m 78 #[.val (.int p0), .val (.int p1), .val (.int v0_2), .val (.int ((p0 * (2 : Int32)) + v0_5)), .val (.int ((p0 * (2 : Int32)) + v0_8)), .val (.int (1 : Int32)), .unset, .unset] [(.int (1 : Int32))]))
          refine stp (fun t k => XS.istore X0c15.here hx rfl (hb hby at_78) rfl (l' := #[.val (.int p0), .val (.int p1), .val (.int v0_2), .val (.int ((p0 * (2 : Int32)) + v0_5)), .val (.int ((p0 * (2 : Int32)) + v0_8)), .val (.int (1 : Int32)), .val (.int (1 : Int32)), .unset]) rfl k) ?_
          show W (T0c15.setTop (mkF m 80 #[.val (.int p0), .val (.int p1), .val (.int v0_2), .val (.int ((p0 * (2 : Int32)) + v0_5)), .val (.int ((p0 * (2 : Int32)) + v0_8)), .val (.int (1 : Int32)), .val (.int (1 : Int32)), .unset] []))
          refine stp (fun t k => XS.iloadN X0c15.here hx rfl (hb hby at_80) rfl k) ?_
          show W (T0c15.setTop (mkF m 81 #[.val (.int p0), .val (.int p1), .val (.int v0_2), .val (.int ((p0 * (2 : Int32)) + v0_5)), .val (.int ((p0 * (2 : Int32)) + v0_8)), .val (.int (1 : Int32)), .val (.int (1 : Int32)), .unset] [(.int ((p0 * (2 : Int32)) + v0_5))]))
          obtain ⟨_, _, ⟨T0c17, L0c17, k0c17, n0c17⟩, -, X0c17, ⟨Lc0c17, hQ0c17, l0c17, y0c17, z0c17⟩, st0c17⟩ := Jvm.LawKit.callS X0c15 hx (y := (⟨"com/example/usher/usher/graph/KnowledgeGraph", "edge", "(I)I"⟩ : MethodName)) hown (mvT hZ (hw _ (List.mem_of_getElem? (i := 4) rfl))) (mvT hZ (hw _ (List.mem_of_getElem? (i := 5) rfl))) (mvT hZ (hw _ (List.mem_of_getElem? (i := 2) rfl))) (mvT hZ (hw _ (List.mem_of_getElem? (i := 6) rfl))) (by decide) (backOf (W := 0) (rm2 l Z aa hw [] ((p0 * (2 : Int32)) + v0_5)  h0 n0 Z0 ) hZ (hw _ (List.mem_of_getElem? (i := 6) rfl)) (hw _ (List.mem_of_getElem? (i := 2) rfl)) (by decide) (by decide)) (g := (mkF m 81 #[.val (.int p0), .val (.int p1), .val (.int v0_2), .val (.int ((p0 * (2 : Int32)) + v0_5)), .val (.int ((p0 * (2 : Int32)) + v0_8)), .val (.int (1 : Int32)), .val (.int (1 : Int32)), .unset] [(.int ((p0 * (2 : Int32)) + v0_5))])) rfl (by rw [hml]; rfl) (argsL := [(.int ((p0 * (2 : Int32)) + v0_5))]) (rest := []) (lenOf pd0_1 rfl) rfl (by show 2 * 0 + _ ≤ _; exact Nat.le_of_eq rfl) (hb hby at_81) (fun _ _ => ⟨rfl, e0c15, (by decide : 0 + 0 ≤ _), (by decide : 0 + 0 ≤ _)⟩)
          dsimp only [Pt.U, Pt.locs, Pt.cells, Pt.slots] at X0c17 l0c17 y0c17 z0c17 st0c17 hQ0c17
          subst l0c17 y0c17 z0c17
          obtain ⟨rfl, N0c17q, e0c17⟩ := hQ0c17
          have N0c17 := Fr.app N0c15 N0c17q
          refine stp (fun t k => st0c17 t k) ?_
          show W (T0c17.setTop (mkF m 84 #[.val (.int p0), .val (.int p1), .val (.int v0_2), .val (.int ((p0 * (2 : Int32)) + v0_5)), .val (.int ((p0 * (2 : Int32)) + v0_8)), .val (.int (1 : Int32)), .val (.int (1 : Int32)), .unset] [(.int (f2 ((p0 * (2 : Int32)) + v0_5)))]))
          refine stp (fun t k => XS.iloadN X0c17.here hx rfl (hb hby at_84) rfl k) ?_
          show W (T0c17.setTop (mkF m 85 #[.val (.int p0), .val (.int p1), .val (.int v0_2), .val (.int ((p0 * (2 : Int32)) + v0_5)), .val (.int ((p0 * (2 : Int32)) + v0_8)), .val (.int (1 : Int32)), .val (.int (1 : Int32)), .unset] [(.int p0), (.int (f2 ((p0 * (2 : Int32)) + v0_5)))]))
          refine stp (fun t k => X0c17.ldcInt hx hown (mvT hZ (hw _ (List.mem_of_getElem? (i := 7) rfl))) (g := (mkF m 85 #[.val (.int p0), .val (.int p1), .val (.int v0_2), .val (.int ((p0 * (2 : Int32)) + v0_5)), .val (.int ((p0 * (2 : Int32)) + v0_8)), .val (.int (1 : Int32)), .val (.int (1 : Int32)), .unset] [(.int p0), (.int (f2 ((p0 * (2 : Int32)) + v0_5)))])) rfl (hb hby at_85) _ k) ?_
          show W (T0c17.setTop (mkF m 87 #[.val (.int p0), .val (.int p1), .val (.int v0_2), .val (.int ((p0 * (2 : Int32)) + v0_5)), .val (.int ((p0 * (2 : Int32)) + v0_8)), .val (.int (1 : Int32)), .val (.int (1 : Int32)), .unset] [(.int (2147483647 : Int32)), (.int p0), (.int (f2 ((p0 * (2 : Int32)) + v0_5)))]))
          refine stp (fun t k => XS.iand X0c17.here hx rfl (hb hby at_87) rfl k) ?_
          show W (T0c17.setTop (mkF m 88 #[.val (.int p0), .val (.int p1), .val (.int v0_2), .val (.int ((p0 * (2 : Int32)) + v0_5)), .val (.int ((p0 * (2 : Int32)) + v0_8)), .val (.int (1 : Int32)), .val (.int (1 : Int32)), .unset] [(.int (p0 &&& (2147483647 : Int32))), (.int (f2 ((p0 * (2 : Int32)) + v0_5)))]))
          refine stp (fun t k => XS.icmpNo X0c17.here hx rfl (hb hby at_88) rfl ((teq (by subst hv0_2; subst hv0_5; subst hv0_8; subst hv0_12; exact own_0_88_18 p0 p1  )).2) k) ?_
          show W (T0c17.setTop (mkF m 91 #[.val (.int p0), .val (.int p1), .val (.int v0_2), .val (.int ((p0 * (2 : Int32)) + v0_5)), .val (.int ((p0 * (2 : Int32)) + v0_8)), .val (.int (1 : Int32)), .val (.int (1 : Int32)), .unset] []))
          refine stp (fun t k => XS.iload X0c17.here hx rfl (hb hby at_91) rfl k) ?_
          show W (T0c17.setTop (mkF m 93 #[.val (.int p0), .val (.int p1), .val (.int v0_2), .val (.int ((p0 * (2 : Int32)) + v0_5)), .val (.int ((p0 * (2 : Int32)) + v0_8)), .val (.int (1 : Int32)), .val (.int (1 : Int32)), .unset] [(.int ((p0 * (2 : Int32)) + v0_8))]))
          obtain ⟨_, _, ⟨T0c19, L0c19, k0c19, n0c19⟩, -, X0c19, ⟨Lc0c19, hQ0c19, l0c19, y0c19, z0c19⟩, st0c19⟩ := Jvm.LawKit.callS X0c17 hx (y := (⟨"com/example/usher/usher/graph/KnowledgeGraph", "edge", "(I)I"⟩ : MethodName)) hown (mvT hZ (hw _ (List.mem_of_getElem? (i := 4) rfl))) (mvT hZ (hw _ (List.mem_of_getElem? (i := 5) rfl))) (mvT hZ (hw _ (List.mem_of_getElem? (i := 2) rfl))) (mvT hZ (hw _ (List.mem_of_getElem? (i := 6) rfl))) (by decide) (backOf (W := 0) (rm2 l Z aa hw [] ((p0 * (2 : Int32)) + v0_8)  h0 n0 Z0 ) hZ (hw _ (List.mem_of_getElem? (i := 6) rfl)) (hw _ (List.mem_of_getElem? (i := 2) rfl)) (by decide) (by decide)) (g := (mkF m 93 #[.val (.int p0), .val (.int p1), .val (.int v0_2), .val (.int ((p0 * (2 : Int32)) + v0_5)), .val (.int ((p0 * (2 : Int32)) + v0_8)), .val (.int (1 : Int32)), .val (.int (1 : Int32)), .unset] [(.int ((p0 * (2 : Int32)) + v0_8))])) rfl (by rw [hml]; rfl) (argsL := [(.int ((p0 * (2 : Int32)) + v0_8))]) (rest := []) (lenOf pd0_1 rfl) rfl (by show 2 * 0 + _ ≤ _; exact Nat.le_of_eq rfl) (hb hby at_93) (fun _ _ => ⟨rfl, e0c17, (by decide : 0 + 0 ≤ _), (by decide : 0 + 0 ≤ _)⟩)
          dsimp only [Pt.U, Pt.locs, Pt.cells, Pt.slots] at X0c19 l0c19 y0c19 z0c19 st0c19 hQ0c19
          subst l0c19 y0c19 z0c19
          obtain ⟨rfl, N0c19q, e0c19⟩ := hQ0c19
          have N0c19 := Fr.app N0c17 N0c19q
          refine stp (fun t k => st0c19 t k) ?_
          show W (T0c19.setTop (mkF m 96 #[.val (.int p0), .val (.int p1), .val (.int v0_2), .val (.int ((p0 * (2 : Int32)) + v0_5)), .val (.int ((p0 * (2 : Int32)) + v0_8)), .val (.int (1 : Int32)), .val (.int (1 : Int32)), .unset] [(.int (f2 ((p0 * (2 : Int32)) + v0_8)))]))
          refine stp (fun t k => XS.iloadN X0c19.here hx rfl (hb hby at_96) rfl k) ?_
          show W (T0c19.setTop (mkF m 97 #[.val (.int p0), .val (.int p1), .val (.int v0_2), .val (.int ((p0 * (2 : Int32)) + v0_5)), .val (.int ((p0 * (2 : Int32)) + v0_8)), .val (.int (1 : Int32)), .val (.int (1 : Int32)), .unset] [(.int p0), (.int (f2 ((p0 * (2 : Int32)) + v0_8)))]))
          refine stp (fun t k => X0c19.ldcInt hx hown (mvT hZ (hw _ (List.mem_of_getElem? (i := 7) rfl))) (g := (mkF m 97 #[.val (.int p0), .val (.int p1), .val (.int v0_2), .val (.int ((p0 * (2 : Int32)) + v0_5)), .val (.int ((p0 * (2 : Int32)) + v0_8)), .val (.int (1 : Int32)), .val (.int (1 : Int32)), .unset] [(.int p0), (.int (f2 ((p0 * (2 : Int32)) + v0_8)))])) rfl (hb hby at_97) _ k) ?_
          show W (T0c19.setTop (mkF m 99 #[.val (.int p0), .val (.int p1), .val (.int v0_2), .val (.int ((p0 * (2 : Int32)) + v0_5)), .val (.int ((p0 * (2 : Int32)) + v0_8)), .val (.int (1 : Int32)), .val (.int (1 : Int32)), .unset] [(.int (2147483647 : Int32)), (.int p0), (.int (f2 ((p0 * (2 : Int32)) + v0_8)))]))
          refine stp (fun t k => XS.iand X0c19.here hx rfl (hb hby at_99) rfl k) ?_
          show W (T0c19.setTop (mkF m 100 #[.val (.int p0), .val (.int p1), .val (.int v0_2), .val (.int ((p0 * (2 : Int32)) + v0_5)), .val (.int ((p0 * (2 : Int32)) + v0_8)), .val (.int (1 : Int32)), .val (.int (1 : Int32)), .unset] [(.int (p0 &&& (2147483647 : Int32))), (.int (f2 ((p0 * (2 : Int32)) + v0_8)))]))
          refine stp (fun t k => XS.icmpNo X0c19.here hx rfl (hb hby at_100) rfl ((teq (by subst hv0_2; subst hv0_5; subst hv0_8; subst hv0_12; exact own_0_100_20 p0 p1  )).2) k) ?_
          show W (T0c19.setTop (mkF m 103 #[.val (.int p0), .val (.int p1), .val (.int v0_2), .val (.int ((p0 * (2 : Int32)) + v0_5)), .val (.int ((p0 * (2 : Int32)) + v0_8)), .val (.int (1 : Int32)), .val (.int (1 : Int32)), .unset] []))
          refine stp (fun t k => XS.iconst X0c19.here hx rfl (hb hby at_103) k) ?_
          show W (T0c19.setTop (mkF m 104 #[.val (.int p0), .val (.int p1), .val (.int v0_2), .val (.int ((p0 * (2 : Int32)) + v0_5)), .val (.int ((p0 * (2 : Int32)) + v0_8)), .val (.int (1 : Int32)), .val (.int (1 : Int32)), .unset] [(.int (1 : Int32))]))
          refine stp (fun t k => XS.goto X0c19.here hx rfl (pc0 := 104) (pc' := 108) rfl (hb hby at_104) (by decide) (by decide) k) ?_
          show W (T0c19.setTop (mkF m 108 #[.val (.int p0), .val (.int p1), .val (.int v0_2), .val (.int ((p0 * (2 : Int32)) + v0_5)), .val (.int ((p0 * (2 : Int32)) + v0_8)), .val (.int (1 : Int32)), .val (.int (1 : Int32)), .unset] [(.int (1 : Int32))]))
          refine stp (fun t k => XS.istore X0c19.here hx rfl (hb hby at_108) rfl (l' := #[.val (.int p0), .val (.int p1), .val (.int v0_2), .val (.int ((p0 * (2 : Int32)) + v0_5)), .val (.int ((p0 * (2 : Int32)) + v0_8)), .val (.int (1 : Int32)), .val (.int (1 : Int32)), .val (.int (1 : Int32))]) rfl k) ?_
          show W (T0c19.setTop (mkF m 110 #[.val (.int p0), .val (.int p1), .val (.int v0_2), .val (.int ((p0 * (2 : Int32)) + v0_5)), .val (.int ((p0 * (2 : Int32)) + v0_8)), .val (.int (1 : Int32)), .val (.int (1 : Int32)), .val (.int (1 : Int32))] []))
          refine stp (fun t k => XS.iload X0c19.here hx rfl (hb hby at_110) rfl k) ?_
          show W (T0c19.setTop (mkF m 112 #[.val (.int p0), .val (.int p1), .val (.int v0_2), .val (.int ((p0 * (2 : Int32)) + v0_5)), .val (.int ((p0 * (2 : Int32)) + v0_8)), .val (.int (1 : Int32)), .val (.int (1 : Int32)), .val (.int (1 : Int32))] [(.int (1 : Int32))]))
          refine stp (fun t k => XS.ifNo X0c19.here hx rfl (hb hby at_112) rfl ((if0 _ _).trans (feq (by subst hv0_2; subst hv0_5; subst hv0_8; subst hv0_12; exact own_0_112_21 p0 p1  )).1) k) ?_
          show W (T0c19.setTop (mkF m 115 #[.val (.int p0), .val (.int p1), .val (.int v0_2), .val (.int ((p0 * (2 : Int32)) + v0_5)), .val (.int ((p0 * (2 : Int32)) + v0_8)), .val (.int (1 : Int32)), .val (.int (1 : Int32)), .val (.int (1 : Int32))] []))
          refine stp (fun t k => XS.iload X0c19.here hx rfl (hb hby at_115) rfl k) ?_
          show W (T0c19.setTop (mkF m 117 #[.val (.int p0), .val (.int p1), .val (.int v0_2), .val (.int ((p0 * (2 : Int32)) + v0_5)), .val (.int ((p0 * (2 : Int32)) + v0_8)), .val (.int (1 : Int32)), .val (.int (1 : Int32)), .val (.int (1 : Int32))] [(.int (1 : Int32))]))
          refine stp (fun t k => XS.ifNo X0c19.here hx rfl (hb hby at_117) rfl ((if0 _ _).trans (feq (by subst hv0_2; subst hv0_5; subst hv0_8; subst hv0_12; exact own_0_117_22 p0 p1  )).1) k) ?_
          show W (T0c19.setTop (mkF m 120 #[.val (.int p0), .val (.int p1), .val (.int v0_2), .val (.int ((p0 * (2 : Int32)) + v0_5)), .val (.int ((p0 * (2 : Int32)) + v0_8)), .val (.int (1 : Int32)), .val (.int (1 : Int32)), .val (.int (1 : Int32))] []))
          refine stp (fun t k => XS.iload X0c19.here hx rfl (hb hby at_120) rfl k) ?_
          show W (T0c19.setTop (mkF m 122 #[.val (.int p0), .val (.int p1), .val (.int v0_2), .val (.int ((p0 * (2 : Int32)) + v0_5)), .val (.int ((p0 * (2 : Int32)) + v0_8)), .val (.int (1 : Int32)), .val (.int (1 : Int32)), .val (.int (1 : Int32))] [(.int (1 : Int32))]))
          refine stp (fun t k => XS.ifNo X0c19.here hx rfl (hb hby at_122) rfl ((if0 _ _).trans (feq (by subst hv0_2; subst hv0_5; subst hv0_8; subst hv0_12; exact own_0_122_23 p0 p1  )).1) k) ?_
          show W (T0c19.setTop (mkF m 125 #[.val (.int p0), .val (.int p1), .val (.int v0_2), .val (.int ((p0 * (2 : Int32)) + v0_5)), .val (.int ((p0 * (2 : Int32)) + v0_8)), .val (.int (1 : Int32)), .val (.int (1 : Int32)), .val (.int (1 : Int32))] []))
          refine stp (fun t k => XS.iconst X0c19.here hx rfl (hb hby at_125) k) ?_
          show W (T0c19.setTop (mkF m 126 #[.val (.int p0), .val (.int p1), .val (.int v0_2), .val (.int ((p0 * (2 : Int32)) + v0_5)), .val (.int ((p0 * (2 : Int32)) + v0_8)), .val (.int (1 : Int32)), .val (.int (1 : Int32)), .val (.int (1 : Int32))] [(.int (1 : Int32))]))
          refine stp (fun t k => XS.goto X0c19.here hx rfl (pc0 := 126) (pc' := 130) rfl (hb hby at_126) (by decide) (by decide) k) ?_
          show W (T0c19.setTop (mkF m 130 #[.val (.int p0), .val (.int p1), .val (.int v0_2), .val (.int ((p0 * (2 : Int32)) + v0_5)), .val (.int ((p0 * (2 : Int32)) + v0_8)), .val (.int (1 : Int32)), .val (.int (1 : Int32)), .val (.int (1 : Int32))] [(.int (1 : Int32))]))
          show W (T0c19.setTop (mkF m 130 #[.val (.int p0), .val (.int p1), .val (.int v0_2), .val (.int ((p0 * (2 : Int32)) + v0_5)), .val (.int ((p0 * (2 : Int32)) + v0_8)), .val (.int (1 : Int32)), .val (.int (1 : Int32)), .val (.int (1 : Int32))] [(.int (1 : Int32))]))
          rw [← hW]
          exact own_retN X0c19 hx Bd.notSynchronized Bd.returns (w := (1 : Int32)) (by simp) (hb hby at_130) rfl (by show Q0 Z p0 p1 h0 n0 _ T0c19.heap _; rw [e0c19]; exact ⟨rfl, N0c19⟩) (by decide) (by decide)
        by_cases hc0_11 : v0_2 = (0 : Int32)
        · refine stp (fun t k => XS.ifNo X0c10.here hx rfl (hb hby at_46) rfl ((if0 _ _).trans (teq hc0_11).2) k) ?_
          show W (T0c10.setTop (mkF m 49 #[.val (.int p0), .val (.int p1), .val (.int v0_2), .val (.int ((p0 * (2 : Int32)) + v0_5)), .val (.int ((p0 * (2 : Int32)) + v0_8)), .unset, .unset, .unset] [(.int (f1 ((p0 * (2 : Int32)) + v0_5)))]))
          refine stp (fun t k => XS.iconst X0c10.here hx rfl (hb hby at_49) k) ?_
          show W (T0c10.setTop (mkF m 50 #[.val (.int p0), .val (.int p1), .val (.int v0_2), .val (.int ((p0 * (2 : Int32)) + v0_5)), .val (.int ((p0 * (2 : Int32)) + v0_8)), .unset, .unset, .unset] [(.int (1 : Int32)), (.int (f1 ((p0 * (2 : Int32)) + v0_5)))]))
          refine stp (fun t k => XS.goto X0c10.here hx rfl (pc0 := 50) (pc' := 54) rfl (hb hby at_50) (by decide) (by decide) k) ?_
          show W (T0c10.setTop (mkF m 54 #[.val (.int p0), .val (.int p1), .val (.int v0_2), .val (.int ((p0 * (2 : Int32)) + v0_5)), .val (.int ((p0 * (2 : Int32)) + v0_8)), .unset, .unset, .unset] [(.int (1 : Int32)), (.int (f1 ((p0 * (2 : Int32)) + v0_5)))]))
          exact J0_54_13 _ _ (1 : Int32) (by first | rfl | simp only [if_pos hc0_11]) X0c10 e0c10 N0c10
        · refine stp (fun t k => XS.ifYes X0c10.here hx rfl (pc0 := 46) (pc' := 53) rfl (hb hby at_46) rfl ((if0 _ _).trans (feq hc0_11).2) (by decide) (by decide) k) ?_
          show W (T0c10.setTop (mkF m 53 #[.val (.int p0), .val (.int p1), .val (.int v0_2), .val (.int ((p0 * (2 : Int32)) + v0_5)), .val (.int ((p0 * (2 : Int32)) + v0_8)), .unset, .unset, .unset] [(.int (f1 ((p0 * (2 : Int32)) + v0_5)))]))
          refine stp (fun t k => XS.iconst X0c10.here hx rfl (hb hby at_53) k) ?_
          show W (T0c10.setTop (mkF m 54 #[.val (.int p0), .val (.int p1), .val (.int v0_2), .val (.int ((p0 * (2 : Int32)) + v0_5)), .val (.int ((p0 * (2 : Int32)) + v0_8)), .unset, .unset, .unset] [(.int (0 : Int32)), (.int (f1 ((p0 * (2 : Int32)) + v0_5)))]))
          exact J0_54_13 _ _ (0 : Int32) (by first | rfl | simp only [if_neg hc0_11]) X0c10 e0c10 N0c10
      by_cases hc0_7 : v0_2 = (0 : Int32)
      · refine stp (fun t k => XS.ifYes X06.here hx rfl (pc0 := 30) (pc' := 37) rfl (hb hby at_30) rfl ((if0 _ _).trans (teq hc0_7).1) (by decide) (by decide) k) ?_
        show W (T06.setTop (mkF m 37 #[.val (.int p0), .val (.int p1), .val (.int v0_2), .val (.int ((p0 * (2 : Int32)) + v0_5)), .unset, .unset, .unset, .unset] [(.int (p0 * (2 : Int32)))]))
        refine stp (fun t k => XS.iconst X06.here hx rfl (hb hby at_37) k) ?_
        show W (T06.setTop (mkF m 38 #[.val (.int p0), .val (.int p1), .val (.int v0_2), .val (.int ((p0 * (2 : Int32)) + v0_5)), .unset, .unset, .unset, .unset] [(.int (1 : Int32)), (.int (p0 * (2 : Int32)))]))
        exact J0_38_9 _ _ (1 : Int32) (by first | rfl | simp only [if_pos hc0_7]) X06 e06 N06
      · refine stp (fun t k => XS.ifNo X06.here hx rfl (hb hby at_30) rfl ((if0 _ _).trans (feq hc0_7).1) k) ?_
        show W (T06.setTop (mkF m 33 #[.val (.int p0), .val (.int p1), .val (.int v0_2), .val (.int ((p0 * (2 : Int32)) + v0_5)), .unset, .unset, .unset, .unset] [(.int (p0 * (2 : Int32)))]))
        refine stp (fun t k => XS.iconst X06.here hx rfl (hb hby at_33) k) ?_
        show W (T06.setTop (mkF m 34 #[.val (.int p0), .val (.int p1), .val (.int v0_2), .val (.int ((p0 * (2 : Int32)) + v0_5)), .unset, .unset, .unset, .unset] [(.int (0 : Int32)), (.int (p0 * (2 : Int32)))]))
        refine stp (fun t k => XS.goto X06.here hx rfl (pc0 := 34) (pc' := 38) rfl (hb hby at_34) (by decide) (by decide) k) ?_
        show W (T06.setTop (mkF m 38 #[.val (.int p0), .val (.int p1), .val (.int v0_2), .val (.int ((p0 * (2 : Int32)) + v0_5)), .unset, .unset, .unset, .unset] [(.int (0 : Int32)), (.int (p0 * (2 : Int32)))]))
        exact J0_38_9 _ _ (0 : Int32) (by first | rfl | simp only [if_neg hc0_7]) X06 e06 N06
    by_cases hc0_4 : v0_2 = (0 : Int32)
    · refine stp (fun t k => XS.ifYes X03.here hx rfl (pc0 := 16) (pc' := 23) rfl (hb hby at_16) rfl ((if0 _ _).trans (teq hc0_4).1) (by decide) (by decide) k) ?_
      show W (T03.setTop (mkF m 23 #[.val (.int p0), .val (.int p1), .val (.int v0_2), .unset, .unset, .unset, .unset, .unset] [(.int (p0 * (2 : Int32)))]))
      refine stp (fun t k => XS.iconst X03.here hx rfl (hb hby at_23) k) ?_
      show W (T03.setTop (mkF m 24 #[.val (.int p0), .val (.int p1), .val (.int v0_2), .unset, .unset, .unset, .unset, .unset] [(.int (0 : Int32)), (.int (p0 * (2 : Int32)))]))
      exact J0_24_6 _ _ (0 : Int32) (by first | rfl | simp only [if_pos hc0_4]) X03 e03 N03
    · refine stp (fun t k => XS.ifNo X03.here hx rfl (hb hby at_16) rfl ((if0 _ _).trans (feq hc0_4).1) k) ?_
      show W (T03.setTop (mkF m 19 #[.val (.int p0), .val (.int p1), .val (.int v0_2), .unset, .unset, .unset, .unset, .unset] [(.int (p0 * (2 : Int32)))]))
      refine stp (fun t k => XS.iconst X03.here hx rfl (hb hby at_19) k) ?_
      show W (T03.setTop (mkF m 20 #[.val (.int p0), .val (.int p1), .val (.int v0_2), .unset, .unset, .unset, .unset, .unset] [(.int (1 : Int32)), (.int (p0 * (2 : Int32)))]))
      refine stp (fun t k => XS.goto X03.here hx rfl (pc0 := 20) (pc' := 24) rfl (hb hby at_20) (by decide) (by decide) k) ?_
      show W (T03.setTop (mkF m 24 #[.val (.int p0), .val (.int p1), .val (.int v0_2), .unset, .unset, .unset, .unset, .unset] [(.int (1 : Int32)), (.int (p0 * (2 : Int32)))]))
      exact J0_24_6 _ _ (1 : Int32) (by first | rfl | simp only [if_neg hc0_4]) X03 e03 N03
  by_cases hc0_1 : (p1 &&& (1 : Int32)) = (0 : Int32)
  · refine stp (fun t k => XS.ifYes X0.here hx rfl (pc0 := 3) (pc' := 10) rfl (hb hby at_3) rfl ((if0 _ _).trans (teq hc0_1).1) (by decide) (by decide) k) ?_
    show W (s₁.setTop (mkF m 10 #[.val (.int p0), .val (.int p1), .unset, .unset, .unset, .unset, .unset, .unset] []))
    refine stp (fun t k => XS.iconst X0.here hx rfl (hb hby at_10) k) ?_
    show W (s₁.setTop (mkF m 11 #[.val (.int p0), .val (.int p1), .unset, .unset, .unset, .unset, .unset, .unset] [(.int (0 : Int32))]))
    exact J0_11_3 _ _ (0 : Int32) (by first | rfl | simp only [if_pos hc0_1]) X0 e0 N0
  · refine stp (fun t k => XS.ifNo X0.here hx rfl (hb hby at_3) rfl ((if0 _ _).trans (feq hc0_1).1) k) ?_
    show W (s₁.setTop (mkF m 6 #[.val (.int p0), .val (.int p1), .unset, .unset, .unset, .unset, .unset, .unset] []))
    refine stp (fun t k => XS.iconst X0.here hx rfl (hb hby at_6) k) ?_
    show W (s₁.setTop (mkF m 7 #[.val (.int p0), .val (.int p1), .unset, .unset, .unset, .unset, .unset, .unset] [(.int (1 : Int32))]))
    refine stp (fun t k => XS.goto X0.here hx rfl (pc0 := 7) (pc' := 11) rfl (hb hby at_7) (by decide) (by decide) k) ?_
    show W (s₁.setTop (mkF m 11 #[.val (.int p0), .val (.int p1), .unset, .unset, .unset, .unset, .unset, .unset] [(.int (1 : Int32))]))
    exact J0_11_3 _ _ (1 : Int32) (by first | rfl | simp only [if_neg hc0_1]) X0 e0 N0
set_option maxRecDepth 65536 in
set_option maxHeartbeats 40000000 in
theorem comes_1 {Post : Tables → Env → Array Value → State → Outcome → State → Prop} (hpost : ∀ tb e args s v u, (limb_1_1.after args s (.returned v) u = true ∧ limb_1_2.after args s (.returned v) u = true ∧ True) → FrameEnd s (.returned v) u (Jvm.fieldLocs frame_1_writes args s ++ Jvm.arrayLocs frame_1_arrays args s ++ Jvm.staticLocs frame_1_statics s) 0 0 → Post tb e args s (.returned v) u) :
    ArmFor flags0 classFile x code maxLocals ret World_1 tables_1 room_1 Calls_1 rest_1 Pre_1 Post := by
  intro l hfl _ _ p e ha hc hk s m args below hf hA hF happ hP
  obtain ⟨hcalls, hrest, hpre⟩ := hP
  obtain ⟨-, -, -, hnamed, -, -, -, hat⟩ := (Spec.applies_iff hf).mp happ
  obtain ⟨hg, hn⟩ := and_e (Cond.before_iff.mp (show (Jvm.Cond.and given_1 narrow_1).before args s = true from hpre))
  obtain ⟨gc, hg⟩ := and_e hg
  obtain ⟨g0, hg⟩ := and_e hg
  have g1 := hg
  obtain ⟨w0, w1, rfl⟩ : ∃ w0 w1 : Value, args = #[w0, w1] := by
    have hs : args.size = 2 := by simpa [Cond.value, given_1] using gc
    obtain ⟨L⟩ := args
    match L, hs with
    | [w0, w1], _ => exact ⟨w0, w1, rfl⟩
  have hw := fun d (hd : d ∈ tables_1) => atoms_spec (ws := Jvm.Cond.code x code maxLocals ret :: tables_1) hat d (List.mem_cons_of_mem _ hd)
  have hfit : Fit s := fun {y c} hc i hi => by
    obtain ⟨ha, rfl⟩ := Array.getElem?_eq_some_iff.mp hc
    have q := List.all_eq_true.mp ((Array.all_eq_true_iff_forall_mem.mp hF) _ (Array.getElem_mem ha)) i (List.mem_range.mpr hi)
    simpa [Array.getElem?_eq_getElem hi] using q
  obtain ⟨i0, ei0⟩ := is_v g0
  obtain rfl : w0 = (.int i0) := Option.some.inj ei0
  obtain ⟨i1, ei1⟩ := is_v g1
  obtain rfl : w1 = (.int i1) := Option.some.inj ei1
  obtain ⟨n, o, h1, h2, h3, _, L, rfl, ⟨rfl, N⟩, hq⟩ := rm0 l s _ hw tables_1 i0 i1 s.heap s.heap.size (Nat.le_refl _) p e ha hc hk s m _ below hf ((Spec.applies_iff_loose hf).mp happ).1 ⟨rfl, State.Warmed39.refl s, rfl⟩ trivial
  refine ⟨n, _, h1, h2, h3, hpost _ _ _ _ _ _ ⟨Cond.after_iff.mpr rfl, Cond.after_iff.mpr (eq_i res_at (Term.int_eval (1)) rfl), trivial⟩ ⟨hq.1, hq.2.1, (hq.2.2.sift fun y hy => Or.inr (N y hy)).mono (by decide) (by decide)⟩⟩
theorem main_1_1 : Claimed_1_1 := comes_1 fun _ _ _ _ _ _ h hF => ⟨h.1, hF⟩
theorem main_1_2 : Claimed_1_2 := comes_1 fun _ _ _ _ _ _ h hF => ⟨h.2.1, hF⟩
end Jvm.Pilot.@@N@@
namespace Jvm.Pilot.@@N@@
open Jvm Jvm.ClassFile Sem Op Lib Jvm.Free Jvm.Stand Jvm.Pilot.@@N@@.Jvm.D
/-! MADE BY PROGRAM (witnessworld.py) out of the Statement's table words and the real class files: 9 classes; the members and pool entries that the words name. The judged class is class 1, her method 1. -/
namespace start1
open Jvm.ClassFile
def u (s : String) : CpInfo := .utf8 (stringToUtf16 s)
/-- a pool by its gaps: so many unusable entries, then the entry; so many at the end -/
def gap : Nat → List CpInfo → List CpInfo
  | 0, r => r
  | n + 1, r => .unusable :: gap n r
def poolList (es : List (Nat × CpInfo)) (last : Nat) : List CpInfo := es.foldr (fun e r => gap e.1 (e.2 :: r)) (gap last [])
def pool (es : List (Nat × CpInfo)) (last : Nat) : Array CpInfo := ⟨poolList es last⟩
def fileOf (pool : Array CpInfo) (this : Nat) (attrs : Array Attribute := #[]) (ms : Array MethodInfo := #[]) (fl : Nat := 33) (sup : Nat := 0) (ifs : Array Nat := #[]) (fds : Array FieldInfo := #[]) : ClassFile where
  minorVersion := 0
  majorVersion := 65
  constantPool := pool
  accessFlags := fl
  thisClass := this
  superClass := sup
  interfaces := ifs
  fields := fds
  methods := ms
  attributes := attrs
def plain (name : String) (sup : Option ClassId) : Class where
  name := name
  kind := .ordinary
  loader := none
  accessFlags := 33
  super := sup
  interfaces := #[]
  cf := none
  fields := #[]
  methods := #[]
  instanceTypes := #[]
  staticTypes := #[]
  resolved := #[]
  callSites := []
  init := .initialized
  statics := none
  mirror := none

def pool0 : Array CpInfo := pool [(5, u "<init>"), (0, u "()V"), (1, .class_ 10), (1, u "java/lang/Object")] 113

def k0m0 : Method := { name := "<init>", desc := "()V", sig := { parameters := [], returnType := none }, accessFlags := 1, code := none }
/-- java/lang/Object -/
def k0 : Class := { plain "java/lang/Object" none with
  accessFlags := 33
  interfaces := #[]
  cf := some (fileOf pool0 8 #[] #[{ accessFlags := 1, nameIndex := 5, descriptorIndex := 6, attributes := #[] }] 33 0 #[] #[])
  fields := #[]
  methods := #[k0m0]
  instanceTypes := #[]
  staticTypes := #[]
  resolved := Array.replicate 124 none
  statics := none }

def pool1 : Array CpInfo := pool [(2, .class_ 4), (1, u "java/lang/Object"), (0, u "<init>"), (0, u "()V"), (0, .methodref 8 9), (0, .class_ 10), (0, .nameAndType 11 12), (0, u "com/example/usher/usher/graph/KnowledgeGraph"), (0, u "isForward"), (0, u "(I)Z"), (0, .methodref 8 14), (0, .nameAndType 15 16), (0, u "edge"), (0, u "(I)I"), (0, .integer 2147483647), (0, .class_ 19), (0, u "com/example/usher/usher/graph/KnowledgeGraphIsForwardPinLaw"), (2, u "law"), (0, u "(II)Z")] 3

def k1m0 : Method := { name := "<init>", desc := "()V", sig := { parameters := [], returnType := none }, accessFlags := 1, code := none }
def k1c1 : Code := { maxStack := 3, maxLocals := 8, code := code, exceptionTable := #[], attributes := #[] }
def k1m1 : Method := { name := "law", desc := "(II)Z", sig := { parameters := [.int, .int], returnType := some .boolean }, accessFlags := 9, code := some k1c1 }
/-- com/example/usher/usher/graph/KnowledgeGraphIsForwardPinLaw -/
def k1 : Class := { plain "com/example/usher/usher/graph/KnowledgeGraphIsForwardPinLaw" (some 0) with
  accessFlags := 49
  interfaces := #[]
  cf := some (fileOf pool1 18 #[] #[{ accessFlags := 1, nameIndex := 5, descriptorIndex := 6, attributes := #[] }, { accessFlags := 9, nameIndex := 22, descriptorIndex := 23, attributes := #[] }] 49 2 #[] #[])
  fields := #[]
  methods := #[k1m0, k1m1]
  instanceTypes := #[]
  staticTypes := #[]
  resolved := Array.replicate 27 none
  statics := none }

def pool2 : Array CpInfo := pool [(2, .class_ 4), (1, u "java/lang/Object"), (3, .class_ 10), (1, u "com/example/usher/usher/graph/KnowledgeGraph"), (0, u "names"), (0, u "[Ljava/lang/String;"), (2, u "blankNodes"), (0, u "Ljava/util/BitSet;"), (2, u "labels"), (2, u "edges"), (0, u "[I"), (2, u "tripleCount"), (0, u "I"), (5, u "termsByName"), (0, u "Ljava/util/Map;"), (14, u "termsByLabel"), (77, u "stepStarts"), (5, u "nodeCount"), (2, u "steps"), (5, u "classStarts"), (6, u "classTerms"), (19, u "IRI_PREFIXES"), (0, u "Ljava/util/List;"), (22, u "(I)Z"), (10, u "(I)I"), (13, u "isForward"), (2, u "edge"), (38, .class_ 261), (0, u "com/example/usher/usher/graph/KnowledgeGraph$StepText"), (32, u "FIELDS_PER_EDGE"), (2, u "SUBJECT"), (1, u "PREDICATE"), (1, u "OBJECT")] 64

def k2c0 : Code := { maxStack := 2, maxLocals := 1, code := prog_15_method_17_code, exceptionTable := #[], attributes := #[] }
def k2m0 : Method := { name := "isForward", desc := "(I)Z", sig := { parameters := [.int], returnType := some .boolean }, accessFlags := 9, code := some k2c0 }
def k2c1 : Code := { maxStack := 2, maxLocals := 1, code := prog_15_method_18_code, exceptionTable := #[], attributes := #[] }
def k2m1 : Method := { name := "edge", desc := "(I)I", sig := { parameters := [.int], returnType := some .int }, accessFlags := 9, code := some k2c1 }
/-- com/example/usher/usher/graph/KnowledgeGraph -/
def k2 : Class := { plain "com/example/usher/usher/graph/KnowledgeGraph" (some 0) with
  accessFlags := 33
  interfaces := #[]
  cf := some (fileOf pool2 8 #[.nestMembers #[260]] #[{ accessFlags := 9, nameIndex := 218, descriptorIndex := 193, attributes := #[] }, { accessFlags := 9, nameIndex := 221, descriptorIndex := 204, attributes := #[] }] 33 2 #[] #[{ accessFlags := 26, nameIndex := 169, descriptorIndex := 170, attributes := #[] }, { accessFlags := 26, nameIndex := 294, descriptorIndex := 27, attributes := #[] }, { accessFlags := 26, nameIndex := 297, descriptorIndex := 27, attributes := #[] }, { accessFlags := 26, nameIndex := 299, descriptorIndex := 27, attributes := #[] }, { accessFlags := 26, nameIndex := 301, descriptorIndex := 27, attributes := #[] }, { accessFlags := 18, nameIndex := 11, descriptorIndex := 12, attributes := #[] }, { accessFlags := 18, nameIndex := 15, descriptorIndex := 16, attributes := #[] }, { accessFlags := 18, nameIndex := 19, descriptorIndex := 12, attributes := #[] }, { accessFlags := 18, nameIndex := 33, descriptorIndex := 34, attributes := #[] }, { accessFlags := 18, nameIndex := 49, descriptorIndex := 34, attributes := #[] }, { accessFlags := 18, nameIndex := 22, descriptorIndex := 23, attributes := #[] }, { accessFlags := 18, nameIndex := 127, descriptorIndex := 23, attributes := #[] }, { accessFlags := 18, nameIndex := 136, descriptorIndex := 23, attributes := #[] }, { accessFlags := 18, nameIndex := 142, descriptorIndex := 23, attributes := #[] }, { accessFlags := 18, nameIndex := 149, descriptorIndex := 23, attributes := #[] }, { accessFlags := 18, nameIndex := 26, descriptorIndex := 27, attributes := #[] }, { accessFlags := 18, nameIndex := 133, descriptorIndex := 27, attributes := #[] }])
  fields := #[{ name := "IRI_PREFIXES", type := (.object "java/util/List"), accessFlags := 26, slot := 0, constantValue := 0 }, { name := "FIELDS_PER_EDGE", type := .int, accessFlags := 26, slot := 1, constantValue := 0 }, { name := "SUBJECT", type := .int, accessFlags := 26, slot := 2, constantValue := 0 }, { name := "PREDICATE", type := .int, accessFlags := 26, slot := 3, constantValue := 0 }, { name := "OBJECT", type := .int, accessFlags := 26, slot := 4, constantValue := 0 }, { name := "names", type := (.array (.object "java/lang/String")), accessFlags := 18, slot := 0, constantValue := 0 }, { name := "blankNodes", type := (.object "java/util/BitSet"), accessFlags := 18, slot := 1, constantValue := 0 }, { name := "labels", type := (.array (.object "java/lang/String")), accessFlags := 18, slot := 2, constantValue := 0 }, { name := "termsByName", type := (.object "java/util/Map"), accessFlags := 18, slot := 3, constantValue := 0 }, { name := "termsByLabel", type := (.object "java/util/Map"), accessFlags := 18, slot := 4, constantValue := 0 }, { name := "edges", type := (.array .int), accessFlags := 18, slot := 5, constantValue := 0 }, { name := "stepStarts", type := (.array .int), accessFlags := 18, slot := 6, constantValue := 0 }, { name := "steps", type := (.array .int), accessFlags := 18, slot := 7, constantValue := 0 }, { name := "classStarts", type := (.array .int), accessFlags := 18, slot := 8, constantValue := 0 }, { name := "classTerms", type := (.array .int), accessFlags := 18, slot := 9, constantValue := 0 }, { name := "tripleCount", type := .int, accessFlags := 18, slot := 10, constantValue := 0 }, { name := "nodeCount", type := .int, accessFlags := 18, slot := 11, constantValue := 0 }]
  methods := #[k2m0, k2m1]
  instanceTypes := #[(.array (.object "java/lang/String")), (.object "java/util/BitSet"), (.array (.object "java/lang/String")), (.object "java/util/Map"), (.object "java/util/Map"), (.array .int), (.array .int), (.array .int), (.array .int), (.array .int), .int, .int]
  staticTypes := #[(.object "java/util/List"), .int, .int, .int, .int]
  resolved := Array.replicate 366 none
  statics := none }

def pool3 : Array CpInfo := pool [(1, u "java/lang/Cloneable"), (0, .class_ 1), (0, u "java/lang/Object"), (0, .class_ 3)] 3

/-- java/lang/Cloneable -/
def k3 : Class := { plain "java/lang/Cloneable" (some 0) with
  accessFlags := 1537
  interfaces := #[]
  cf := some (fileOf pool3 2 #[] #[] 1537 4 #[] #[])
  fields := #[]
  methods := #[]
  instanceTypes := #[]
  staticTypes := #[]
  resolved := Array.replicate 8 none
  statics := none }

def pool4 : Array CpInfo := pool [(1, u "java/io/Serializable"), (0, .class_ 1), (0, u "java/lang/Object"), (0, .class_ 3)] 3

/-- java/io/Serializable -/
def k4 : Class := { plain "java/io/Serializable" (some 0) with
  accessFlags := 1537
  interfaces := #[]
  cf := some (fileOf pool4 2 #[] #[] 1537 4 #[] #[])
  fields := #[]
  methods := #[]
  instanceTypes := #[]
  staticTypes := #[]
  resolved := Array.replicate 8 none
  statics := none }

/-- the primitive byte -/
def k5 : Class := { plain "byte" none with kind := .primitive 'B', accessFlags := 0x411 }
/-- [B -/
def k6 : Class := { plain "[B" (some 0) with kind := .array 5 .byte, interfaces := #[3, 4], accessFlags := 1041 }

/-- the primitive int -/
def k7 : Class := { plain "int" none with kind := .primitive 'I', accessFlags := 0x411 }
/-- [I -/
def k8 : Class := { plain "[I" (some 0) with kind := .array 7 .int, interfaces := #[3, 4], accessFlags := 1041 }

def heap : Heap := #[]
def classes : Array Class := #[k0, k1, k2, k3, k4, k5, k6, k7, k8]
def interned : List (Array UInt16 × Addr) := []
def slotsUsed : Nat := 0
def theMethod : MethodId := ⟨1, 1⟩
def args0 : Array Value := #[.int 5, .int 3]
def aboutOver (below : List Frame) : State where
  vm := { classes := classes, interned := interned.toArray }
  heap := heap
  slotsUsed := slotsUsed
  threads := #[{ frames := .invoking theMethod args0 :: below }]
def below0 : List Frame := [.native { method := ⟨0, 0⟩, args := #[] }]
def about1 : State := aboutOver below0
def p0 : Program := .bare "" "" ""
def e0 : Env := launch0.env 0 0 0
theorem w_frames : about1.frames = Frame.invoking theMethod args0 :: below0 := rfl
set_option maxRecDepth 65536 in
theorem w_args : argsFit about1.vm theMethod args0 = true := by decide +kernel
set_option maxRecDepth 65536 in
theorem w_heap : heapFits about1 = true := by decide +kernel
set_option maxRecDepth 65536 in
theorem w_runnable : about1.curStatus? = some .runnable := by decide +kernel
set_option maxRecDepth 65536 in
theorem w_alone : about1.alone = true := by decide +kernel
set_option maxRecDepth 65536 in
theorem w_named : about1.methodNamed? x = some theMethod := by decide +kernel
set_option maxRecDepth 65536 in
theorem w_hears : about1.hears theMethod below0 = true := by decide +kernel
set_option maxRecDepth 65536 in
theorem w_ripe : about1.ripe theMethod args0 below0 = true := by decide +kernel
theorem w_running : about1.status = .running := rfl
set_option maxRecDepth 65536 in
theorem w_room : about1.hasRoom e0.platform room_1 = true :=
  launch0.hasRoom_least _ room_1 (by decide +kernel) (by decide +kernel) (by decide +kernel) (by decide +kernel) (by decide +kernel) (by decide +kernel)
theorem allAtoms_all (ts : List Jvm.Cond) (a : Array Jvm.Value) (st : Jvm.State) : (allAtoms ts).before a st = ts.all (fun c => c.before a st) := by
  induction ts with
  | nil => rfl
  | cons c t ih =>
    show (Jvm.Cond.and c (allAtoms t)).before a st = _
    rw [Jvm.Cond.before_and, ih, List.all_cons]
def words1 : List Jvm.Cond := Jvm.Cond.code x code maxLocals ret :: tables_1
/-- a 'code' word, met by the world's own term for the bytes: nothing is compared byte by byte -/
theorem code_word {y : MethodName} {bytes : ByteArray} {mx : Nat} {rt : Option FieldType} {a : Array Value} {s : State} {m : MethodId} {meth : Method} {c : Code} (h1 : s.methodNamed? y = some m) (h2 : s.vm.method? m = some meth) (h3 : meth.code = some c) (h4 : c.code = bytes)
    (h5 : (c.maxLocals == mx && c.exceptionTable.isEmpty && decide (c.maxStack ≤ mostOperands) && decide (meth.sig.returnType = rt) && !meth.locks && decide (parseMethodDescriptor y.desc = some meth.sig)) = true) : (Jvm.Cond.code y bytes mx rt).before a s = true := by
  simp only [Bool.and_eq_true, beq_iff_eq, Bool.not_eq_true', decide_eq_true_eq] at h5
  obtain ⟨⟨⟨⟨⟨g1, g2⟩, g3⟩, g4⟩, g5⟩, g6⟩ := h5
  simp [Cond.before, Cond.holds, Cond.value, h1, h2, h3, h4, g1, g2, g3, g4, g5, g6]
def isCode : Jvm.Cond → Bool
  | .code _ _ _ _ => true
  | _ => false
theorem all_split {L : List Jvm.Cond} {P : Jvm.Cond → Bool} (h1 : L.all (fun c => isCode c || P c) = true) (h2 : ∀ c ∈ L.filter isCode, P c = true) : L.all P = true := by
  refine List.all_eq_true.mpr fun c hc => ?_
  have h := List.all_eq_true.mp h1 c hc
  rcases Bool.eq_false_or_eq_true (isCode c) with hi | hi
  · exact h2 c (List.mem_filter.mpr ⟨hc, hi⟩)
  · simpa [hi] using h
set_option maxRecDepth 65536 in
theorem w_c0 : (Jvm.Cond.code x code maxLocals ret).before args0 about1 = true := code_word (m := ⟨1, 1⟩) (meth := k1m1) (c := k1c1) (by decide +kernel) rfl rfl rfl (by decide +kernel)
set_option maxRecDepth 65536 in
theorem w_c1 : (Jvm.Cond.code ({ cls := "com/example/usher/usher/graph/KnowledgeGraph", name := "isForward", desc := "(I)Z" } : Jvm.MethodName) prog_15_method_17_code (1 : Nat) (Option.some Jvm.ClassFile.FieldType.boolean)).before args0 about1 = true := code_word (m := ⟨2, 0⟩) (meth := k2m0) (c := k2c0) (by decide +kernel) rfl rfl rfl (by decide +kernel)
set_option maxRecDepth 65536 in
theorem w_c2 : (Jvm.Cond.code ({ cls := "com/example/usher/usher/graph/KnowledgeGraph", name := "edge", desc := "(I)I" } : Jvm.MethodName) prog_15_method_18_code (1 : Nat) (Option.some Jvm.ClassFile.FieldType.int)).before args0 about1 = true := code_word (m := ⟨2, 1⟩) (meth := k2m1) (c := k2c1) (by decide +kernel) rfl rfl rfl (by decide +kernel)
def codes1 : List Jvm.Cond := [Jvm.Cond.code x code maxLocals ret, Jvm.Cond.code ({ cls := "com/example/usher/usher/graph/KnowledgeGraph", name := "isForward", desc := "(I)Z" } : Jvm.MethodName) prog_15_method_17_code (1 : Nat) (Option.some Jvm.ClassFile.FieldType.boolean), Jvm.Cond.code ({ cls := "com/example/usher/usher/graph/KnowledgeGraph", name := "edge", desc := "(I)I" } : Jvm.MethodName) prog_15_method_18_code (1 : Nat) (Option.some Jvm.ClassFile.FieldType.int)]
set_option maxRecDepth 65536 in
theorem codes_eq : words1.filter isCode = codes1 := rfl
theorem w_codes : ∀ c ∈ words1.filter isCode, c.before args0 about1 = true := by
  rw [codes_eq]
  intro c hc
  simp only [codes1, List.mem_cons, List.not_mem_nil, or_false] at hc
  rcases hc with rfl | rfl | rfl
  · exact w_c0
  · exact w_c1
  · exact w_c2
set_option maxRecDepth 65536 in
theorem w_t1 : words1.all (fun c => isCode c || c.before args0 about1) = true := by decide +kernel
theorem w_tables : (allAtoms (Jvm.Cond.code x code maxLocals ret :: tables_1)).before args0 about1 = true := by
  rw [allAtoms_all]
  show words1.all (fun c => c.before args0 about1) = true
  refine all_split ?_ w_codes
  rw [w_t1]
set_option maxRecDepth 65536 in
theorem w_case : (Jvm.Cond.and given_1 narrow_1).before args0 about1 = true := by decide +kernel
theorem w_applies : (headSpec (Jvm.Cond.code x code maxLocals ret :: tables_1) room_1).applies x e0.platform about1 = true :=
  (Spec.applies_iff w_frames).mpr ⟨w_running, w_runnable, w_alone, w_named, w_hears, w_ripe, w_room, w_tables⟩
theorem atStart : AtStart classFile x code maxLocals ret World_1 tables_1 room_1 Calls_1 rest_1 Pre_1 launch0 p0 e0 about1 theMethod args0 below0 :=
  ⟨lists_1, trivial, launch0.admits_env _ _ _, launch0.least_env, fairChoices_fair.cas, fairChoices_fair.clock, w_frames, w_args, w_heap, w_applies, trivial, trivial, w_case⟩
end start1
theorem witness_1 : WitnessClaimed_1 := ⟨start1.p0, start1.e0, start1.about1, start1.theMethod, start1.args0, start1.below0, start1.atStart⟩
end Jvm.Pilot.@@N@@
