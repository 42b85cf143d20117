import JvmDerived
import JvmDerived.Pilot.@@N@@Statement
import JvmDerived.Pilot.@@N@@Code
set_option linter.unusedVariables false
set_option linter.unusedSimpArgs false
namespace Jvm.Pilot.@@N@@
open Jvm Jvm.ClassFile Sem Op Lib Jvm.Free Jvm.Stand Jvm.LawKit Jvm.RoadKit Bundle Jvm.Pilot.@@N@@.Jvm.D
/-! the walk's goal: from the state A the run ends, returning what Qv says -/
def OwnEnd (p : Program) (e : Env) (below : List Frame) (s : State) (Qv : Option Value → Heap → List Loc → Prop) (k n : Nat) (A : State) : Prop :=
  ∃ s₂ o, Steps p.tables e below A s₂ ∧ s₂.status = .running ∧ Ended s₂ below o ∧ ∃ v L, o = .returned v ∧ Qv v s₂.heap L ∧ FrameEnd s o s₂ L k n
theorem own_step {p : Program} {e : Env} {below : List Frame} {s : State} {Qv : Option Value → Heap → List Loc → Prop} {k n : Nat} {A B : State} (h : ∀ t, Steps p.tables e below B t → Steps p.tables e below A t) (q : OwnEnd p e below s Qv k n B) : OwnEnd p e below s Qv k n A := by
  obtain ⟨s₂, o, h1, h2⟩ := q
  exact ⟨s₂, o, h _ h1, h2⟩
theorem own_arvEq {Z : State} {h : Heap} {a : Addr} {k : ClassId} {ty : FieldType} {z : Int32} {vs vs' : List Value} {d : Value} (e : vs = vs') (F : Arv Z h a k ty z vs d) : Arv Z h a k ty z vs' d := by subst e; exact F
theorem own_fldEq {Z : State} {h : Heap} {a : Addr} {C n d : String} {x y : Int32} (e : x = y) (F : Fld Z h a C n d (.int x)) : Fld Z h a C n d (.int y) := by subst e; exact F
section OwnRet
variable {p : Program} {l : Launch} {e : Env} {R : Room} {s : State} {m : MethodId} {args : Array Value} {below : List Frame} {meth : Method} {c : Code} {T : State} {locs : List Loc} {cells slots k n : Nat} {Qv : Option Value → Heap → List Loc → Prop}
theorem own_retN (X : Stand p l e R s m args below meth c T locs cells slots) (hx : p.tables.exec = Jvm.exec) (hlocks : meth.locks = false) {pc : Nat} {Ls : Array Slot} {z w : Int32} {t : FieldType} {rest : List Value} (hret : meth.sig.returnType = some t) (ht : t = .boolean ∨ t = .byte ∨ t = .char ∨ t = .short) (hd : decode c.code pc = .ok (.ireturn, 1)) (hz : nar t z = w) (hq : Qv (some (.int w)) T.heap locs) (hk : cells ≤ k) (hn : slots ≤ n) :
    OwnEnd p e below s Qv k n (T.setTop (mkF m pc Ls (.int z :: rest))) := by
  obtain ⟨fs, hr, hrun, hended, hW, hsame⟩ := X.leave (v := some (.int w)) (fun h => by rw [hret] at h; cases h) hlocks
  exact ⟨_, _, retN X hx hret ht hd (fs := fs) (by rw [hz]; exact hr), hrun, hended, _, _, rfl, hq, ⟨_, rfl⟩, hW, hsame.mono hk hn⟩
theorem own_retI (X : Stand p l e R s m args below meth c T locs cells slots) (hx : p.tables.exec = Jvm.exec) (hlocks : meth.locks = false) {pc : Nat} {Ls : Array Slot} {z : Int32} {rest : List Value} (hret : meth.sig.returnType = some .int) (hd : decode c.code pc = .ok (.ireturn, 1)) (hq : Qv (some (.int z)) T.heap locs) (hk : cells ≤ k) (hn : slots ≤ n) :
    OwnEnd p e below s Qv k n (T.setTop (mkF m pc Ls (.int z :: rest))) := by
  obtain ⟨fs, hr, hrun, hended, hW, hsame⟩ := X.leave (v := some (.int z)) (fun h => by rw [hret] at h; cases h) hlocks
  refine ⟨T.setFrames fs, _, ?_, hrun, hended, _, _, rfl, hq, ⟨_, rfl⟩, hW, hsame.mono hk hn⟩
  have hm' : T.vm.method? m = some meth := X.method'
  have hn' : narrow .int (.int z) = .int z := rfl
  show Steps p.tables e below (T.setTop { method := m, pc := pc, locals := Ls, stack := _ :: rest, locked := none }) _
  jvm_step X.here [X.here.top, hx, hd, hm', hret, hn']
  first | (intro acts; rw [hr _ acts rfl rfl rfl]) | rw [hr _ _ rfl rfl rfl]
  exact Steps.refl _
theorem own_retJ (X : Stand p l e R s m args below meth c T locs cells slots) (hx : p.tables.exec = Jvm.exec) (hlocks : meth.locks = false) {pc : Nat} {Ls : Array Slot} {z : Int64} {rest : List Value} (hret : meth.sig.returnType = some .long) (hd : decode c.code pc = .ok (.lreturn, 1)) (hq : Qv (some (.long z)) T.heap locs) (hk : cells ≤ k) (hn : slots ≤ n) :
    OwnEnd p e below s Qv k n (T.setTop (mkF m pc Ls (.long z :: rest))) := by
  obtain ⟨fs, hr, hrun, hended, hW, hsame⟩ := X.leave (v := some (.long z)) (fun h => by rw [hret] at h; cases h) hlocks
  refine ⟨T.setFrames fs, _, ?_, hrun, hended, _, _, rfl, hq, ⟨_, rfl⟩, hW, hsame.mono hk hn⟩
  have hm' : T.vm.method? m = some meth := X.method'
  have hn' : narrow .long (.long z) = .long z := rfl
  show Steps p.tables e below (T.setTop { method := m, pc := pc, locals := Ls, stack := _ :: rest, locked := none }) _
  jvm_step X.here [X.here.top, hx, hd, hm', hret, hn']
  first | (intro acts; rw [hr _ acts rfl rfl rfl]) | rw [hr _ _ rfl rfl rfl]
  exact Steps.refl _
theorem own_retD (X : Stand p l e R s m args below meth c T locs cells slots) (hx : p.tables.exec = Jvm.exec) (hlocks : meth.locks = false) {pc : Nat} {Ls : Array Slot} {z : UInt64} {rest : List Value} (hret : meth.sig.returnType = some .double) (hd : decode c.code pc = .ok (.dreturn, 1)) (hq : Qv (some (.double z)) T.heap locs) (hk : cells ≤ k) (hn : slots ≤ n) :
    OwnEnd p e below s Qv k n (T.setTop (mkF m pc Ls (.double z :: rest))) := by
  obtain ⟨fs, hr, hrun, hended, hW, hsame⟩ := X.leave (v := some (.double z)) (fun h => by rw [hret] at h; cases h) hlocks
  refine ⟨T.setFrames fs, _, ?_, hrun, hended, _, _, rfl, hq, ⟨_, rfl⟩, hW, hsame.mono hk hn⟩
  have hm' : T.vm.method? m = some meth := X.method'
  have hn' : narrow .double (.double z) = .double z := rfl
  show Steps p.tables e below (T.setTop { method := m, pc := pc, locals := Ls, stack := _ :: rest, locked := none }) _
  jvm_step X.here [X.here.top, hx, hd, hm', hret, hn']
  first | (intro acts; rw [hr _ acts rfl rfl rfl]) | rw [hr _ _ rfl rfl rfl]
  exact Steps.refl _
theorem own_retR (X : Stand p l e R s m args below meth c T locs cells slots) (hx : p.tables.exec = Jvm.exec) (hlocks : meth.locks = false) {pc : Nat} {Ls : Array Slot} {z : Addr} {t : FieldType} {rest : List Value} (hret : meth.sig.returnType = some t) (ht : t.isReference = true) (hd : decode c.code pc = .ok (.areturn, 1)) (hq : Qv (some (.ref z)) T.heap locs) (hk : cells ≤ k) (hn : slots ≤ n) :
    OwnEnd p e below s Qv k n (T.setTop (mkF m pc Ls (.ref z :: rest))) := by
  obtain ⟨fs, hr, hrun, hended, hW, hsame⟩ := X.leave (v := some (.ref z)) (fun h => by rw [hret] at h; cases h) hlocks
  refine ⟨T.setFrames fs, _, ?_, hrun, hended, _, _, rfl, hq, ⟨_, rfl⟩, hW, hsame.mono hk hn⟩
  have hm' : T.vm.method? m = some meth := X.method'
  show Steps p.tables e below (T.setTop { method := m, pc := pc, locals := Ls, stack := _ :: rest, locked := none }) _
  jvm_step X.here [X.here.top, hx, hd, hm', hret, ht, Value.isRef]
  first | (intro acts; rw [hr _ acts rfl rfl rfl]) | rw [hr _ _ rfl rfl rfl]
  exact Steps.refl _
theorem own_ret0 (X : Stand p l e R s m args below meth c T locs cells slots) (hx : p.tables.exec = Jvm.exec) (hlocks : meth.locks = false) {pc : Nat} {Ls : Array Slot} (hret : meth.sig.returnType = none) (hd : decode c.code pc = .ok (.return_, 1)) (hq : Qv none T.heap locs) (hk : cells ≤ k) (hn : slots ≤ n) :
    OwnEnd p e below s Qv k n (T.setTop (mkF m pc Ls [])) := by
  obtain ⟨fs, hr, hrun, hended, hW, hsame⟩ := X.leave (v := none) (fun _ => rfl) hlocks
  exact ⟨_, _, X.returnOut hx hret hd hr, hrun, hended, _, _, rfl, hq, ⟨_, rfl⟩, hW, hsame.mono hk hn⟩
end OwnRet
theorem d1_0 : decode prog_49_method_4_code 0 = .ok (.iload_n 0, 1) := by decide +kernel
theorem d1_1 : decode prog_49_method_4_code 1 = .ok (.bipush 32, 2) := by decide +kernel
theorem d1_3 : decode prog_49_method_4_code 3 = .ok (.if_icmp .eq 21, 3) := by decide +kernel
theorem d1_6 : decode prog_49_method_4_code 6 = .ok (.iload_n 0, 1) := by decide +kernel
theorem d1_7 : decode prog_49_method_4_code 7 = .ok (.bipush 9, 2) := by decide +kernel
theorem d1_9 : decode prog_49_method_4_code 9 = .ok (.if_icmp .eq 15, 3) := by decide +kernel
theorem d1_12 : decode prog_49_method_4_code 12 = .ok (.iload_n 0, 1) := by decide +kernel
theorem d1_13 : decode prog_49_method_4_code 13 = .ok (.bipush 10, 2) := by decide +kernel
theorem d1_15 : decode prog_49_method_4_code 15 = .ok (.if_icmp .eq 9, 3) := by decide +kernel
theorem d1_18 : decode prog_49_method_4_code 18 = .ok (.iload_n 0, 1) := by decide +kernel
theorem d1_19 : decode prog_49_method_4_code 19 = .ok (.bipush 13, 2) := by decide +kernel
theorem d1_21 : decode prog_49_method_4_code 21 = .ok (.if_icmp .ne 7, 3) := by decide +kernel
theorem d1_24 : decode prog_49_method_4_code 24 = .ok (.iconst 1, 1) := by decide +kernel
theorem d1_25 : decode prog_49_method_4_code 25 = .ok (.goto 4, 3) := by decide +kernel
theorem d1_28 : decode prog_49_method_4_code 28 = .ok (.iconst 0, 1) := by decide +kernel
theorem d1_29 : decode prog_49_method_4_code 29 = .ok (.ireturn, 1) := by decide +kernel
theorem pn1 : plainName "com/example/opuscule/opuscule/record/XmlSpace" = true := by first | (simp [plainName, overriddenIn]; done) | decide +kernel
theorem ef1 (m : MethodId) (p0 : Int32) : entryFrame m #[(.int p0)] 1 = mkF m 0 #[.val (.int p0)] [] := by first | (simp [entryFrame, mkF, argsToLocals, Value.category]; done) | rfl
def f1 (p0 : Int32) : Int32 := (if p0 = (32 : Int32) then (1 : Int32) else (if p0 = (9 : Int32) then (1 : Int32) else (if p0 = (10 : Int32) then (1 : Int32) else (if p0 = (13 : Int32) then (1 : Int32) else (0 : Int32)))))
def Q1 (Z : State) (p0 : Int32) (h0 : Heap) (n0 : Nat) (v : Option Value) (h : Heap) (L : List Loc) : Prop := v = some (.int (f1 p0)) ∧ Fr n0 L ∧ h = h0
set_option maxRecDepth 65536 in
set_option maxHeartbeats 40000000 in
theorem rm1 (l : Launch) (Z : State) (aa : Array Value) (hw : ∀ d ∈ tables_1, d.before aa Z = true) (ws : List Jvm.Cond) (p0 : Int32) (h0 : Heap) (n0 : Nat) (Z0 : n0 ≤ h0.size) :
    MetFree l (⟨"com/example/opuscule/opuscule/record/XmlSpace", "isSpace", "(I)Z"⟩ : MethodName) (head1 (Jvm.Cond.code (⟨"com/example/opuscule/opuscule/record/XmlSpace", "isSpace", "(I)Z"⟩ : MethodName) prog_49_method_4_code 1 (some .boolean) :: ws) ({ frames := 0, cells := 0, slots := 0, locals := 0 } : Room)) (fun a U => a = #[(.int p0)] ∧ Z.Warmed39 U.vm ∧ U.heap = h0) (fun _ _ _ _ _ => True) (fun _ U o U' => ∃ v L, o = .returned v ∧ Q1 Z p0 h0 n0 v U'.heap L ∧ FrameEnd U o U' L ({ frames := 0, cells := 0, slots := 0, locals := 0 } : Room).cells ({ frames := 0, cells := 0, slots := 0, locals := 0 } : Room).slots) := by
  refine MetFree.of_bodySF (plainFor_of_name pn1) hisR ?_
  intro p e s m args below meth c s₁ Bd hml0 hP hK
  obtain ⟨rfl, hZ, hh⟩ := hP
  have hx := Bd.exec
  have hby := Bd.bytes
  have hml : c.maxLocals = 1 := hml0
  have hown : s.vm.findClass "com/example/opuscule/opuscule/record/XmlSpace" = some m.cls := findClass_of_methodNamed Bd.named
  have hnm := (name_of_methodNamed Bd.named Bd.method).1
  have X0 : Stand p l e ({ frames := 0, cells := 0, slots := 0, locals := 0 } : Room) s m #[(.int p0)] below meth c s₁ [] 0 0 := Stand.of_body Bd
  have e0 : s₁.heap = h0 := by rw [← hh, Bd.state]; rfl
  have N0 := Fr.nil n0
  show OwnEnd p e below s (fun v h L => Q1 Z p0 h0 n0 v h L) ({ frames := 0, cells := 0, slots := 0, locals := 0 } : Room).cells ({ frames := 0, cells := 0, slots := 0, locals := 0 } : Room).slots (s₁.setTop (entryFrame m #[(.int p0)] 1))
  rw [ef1 m p0]
  generalize hW : OwnEnd p e below s (fun v h L => Q1 Z p0 h0 n0 v h L) ({ frames := 0, cells := 0, slots := 0, locals := 0 } : Room).cells ({ frames := 0, cells := 0, slots := 0, locals := 0 } : Room).slots = W
  have stp : ∀ {A B : State}, (∀ t, Steps p.tables e below B t → Steps p.tables e below A t) → W B → W A := by subst hW; exact own_step
  show W (s₁.setTop (mkF m 0 #[.val (.int p0)] []))
  refine stp (fun t k => XS.iloadN X0.here hx rfl (hb hby d1_0) rfl k) ?_
  show W (s₁.setTop (mkF m 1 #[.val (.int p0)] [(.int p0)]))
  refine stp (fun t k => XS.bipush X0.here hx rfl (hb hby d1_1) k) ?_
  show W (s₁.setTop (mkF m 3 #[.val (.int p0)] [(.int (32 : Int32)), (.int p0)]))
  by_cases hc1_1 : p0 = (32 : Int32)
  · refine stp (fun t k => XS.icmpYes X0.here hx rfl (pc0 := 3) (pc' := 24) rfl (hb hby d1_3) rfl ((teq hc1_1).1) (by decide) (by decide) k) ?_
    show W (s₁.setTop (mkF m 24 #[.val (.int p0)] []))
    refine stp (fun t k => XS.iconst X0.here hx rfl (hb hby d1_24) k) ?_
    show W (s₁.setTop (mkF m 25 #[.val (.int p0)] [(.int (1 : Int32))]))
    refine stp (fun t k => XS.goto X0.here hx rfl (pc0 := 25) (pc' := 29) rfl (hb hby d1_25) (by decide) (by decide) k) ?_
    show W (s₁.setTop (mkF m 29 #[.val (.int p0)] [(.int (1 : Int32))]))
    show W (s₁.setTop (mkF m 29 #[.val (.int p0)] [(.int (1 : Int32))]))
    rw [← hW]
    exact own_retN X0 hx Bd.notSynchronized Bd.returns (w := (1 : Int32)) (by simp) (hb hby d1_29) rfl (by show Q1 Z p0 h0 n0 _ s₁.heap _; rw [e0]; exact ⟨(by rw [f1, if_pos hc1_1]), N0, rfl⟩) (by decide) (by decide)
  · refine stp (fun t k => XS.icmpNo X0.here hx rfl (hb hby d1_3) rfl ((feq hc1_1).1) k) ?_
    show W (s₁.setTop (mkF m 6 #[.val (.int p0)] []))
    refine stp (fun t k => XS.iloadN X0.here hx rfl (hb hby d1_6) rfl k) ?_
    show W (s₁.setTop (mkF m 7 #[.val (.int p0)] [(.int p0)]))
    refine stp (fun t k => XS.bipush X0.here hx rfl (hb hby d1_7) k) ?_
    show W (s₁.setTop (mkF m 9 #[.val (.int p0)] [(.int (9 : Int32)), (.int p0)]))
    by_cases hc1_2 : p0 = (9 : Int32)
    · refine stp (fun t k => XS.icmpYes X0.here hx rfl (pc0 := 9) (pc' := 24) rfl (hb hby d1_9) rfl ((teq hc1_2).1) (by decide) (by decide) k) ?_
      show W (s₁.setTop (mkF m 24 #[.val (.int p0)] []))
      refine stp (fun t k => XS.iconst X0.here hx rfl (hb hby d1_24) k) ?_
      show W (s₁.setTop (mkF m 25 #[.val (.int p0)] [(.int (1 : Int32))]))
      refine stp (fun t k => XS.goto X0.here hx rfl (pc0 := 25) (pc' := 29) rfl (hb hby d1_25) (by decide) (by decide) k) ?_
      show W (s₁.setTop (mkF m 29 #[.val (.int p0)] [(.int (1 : Int32))]))
      show W (s₁.setTop (mkF m 29 #[.val (.int p0)] [(.int (1 : Int32))]))
      rw [← hW]
      exact own_retN X0 hx Bd.notSynchronized Bd.returns (w := (1 : Int32)) (by simp) (hb hby d1_29) rfl (by show Q1 Z p0 h0 n0 _ s₁.heap _; rw [e0]; exact ⟨(by rw [f1, if_neg hc1_1, if_pos hc1_2]), N0, rfl⟩) (by decide) (by decide)
    · refine stp (fun t k => XS.icmpNo X0.here hx rfl (hb hby d1_9) rfl ((feq hc1_2).1) k) ?_
      show W (s₁.setTop (mkF m 12 #[.val (.int p0)] []))
      refine stp (fun t k => XS.iloadN X0.here hx rfl (hb hby d1_12) rfl k) ?_
      show W (s₁.setTop (mkF m 13 #[.val (.int p0)] [(.int p0)]))
      refine stp (fun t k => XS.bipush X0.here hx rfl (hb hby d1_13) k) ?_
      show W (s₁.setTop (mkF m 15 #[.val (.int p0)] [(.int (10 : Int32)), (.int p0)]))
      by_cases hc1_3 : p0 = (10 : Int32)
      · refine stp (fun t k => XS.icmpYes X0.here hx rfl (pc0 := 15) (pc' := 24) rfl (hb hby d1_15) rfl ((teq hc1_3).1) (by decide) (by decide) k) ?_
        show W (s₁.setTop (mkF m 24 #[.val (.int p0)] []))
        refine stp (fun t k => XS.iconst X0.here hx rfl (hb hby d1_24) k) ?_
        show W (s₁.setTop (mkF m 25 #[.val (.int p0)] [(.int (1 : Int32))]))
        refine stp (fun t k => XS.goto X0.here hx rfl (pc0 := 25) (pc' := 29) rfl (hb hby d1_25) (by decide) (by decide) k) ?_
        show W (s₁.setTop (mkF m 29 #[.val (.int p0)] [(.int (1 : Int32))]))
        show W (s₁.setTop (mkF m 29 #[.val (.int p0)] [(.int (1 : Int32))]))
        rw [← hW]
        exact own_retN X0 hx Bd.notSynchronized Bd.returns (w := (1 : Int32)) (by simp) (hb hby d1_29) rfl (by show Q1 Z p0 h0 n0 _ s₁.heap _; rw [e0]; exact ⟨(by rw [f1, if_neg hc1_1, if_neg hc1_2, if_pos hc1_3]), N0, rfl⟩) (by decide) (by decide)
      · refine stp (fun t k => XS.icmpNo X0.here hx rfl (hb hby d1_15) rfl ((feq hc1_3).1) k) ?_
        show W (s₁.setTop (mkF m 18 #[.val (.int p0)] []))
        refine stp (fun t k => XS.iloadN X0.here hx rfl (hb hby d1_18) rfl k) ?_
        show W (s₁.setTop (mkF m 19 #[.val (.int p0)] [(.int p0)]))
        refine stp (fun t k => XS.bipush X0.here hx rfl (hb hby d1_19) k) ?_
        show W (s₁.setTop (mkF m 21 #[.val (.int p0)] [(.int (13 : Int32)), (.int p0)]))
        by_cases hc1_4 : p0 = (13 : Int32)
        · refine stp (fun t k => XS.icmpNo X0.here hx rfl (hb hby d1_21) rfl ((teq hc1_4).2) k) ?_
          show W (s₁.setTop (mkF m 24 #[.val (.int p0)] []))
          refine stp (fun t k => XS.iconst X0.here hx rfl (hb hby d1_24) k) ?_
          show W (s₁.setTop (mkF m 25 #[.val (.int p0)] [(.int (1 : Int32))]))
          refine stp (fun t k => XS.goto X0.here hx rfl (pc0 := 25) (pc' := 29) rfl (hb hby d1_25) (by decide) (by decide) k) ?_
          show W (s₁.setTop (mkF m 29 #[.val (.int p0)] [(.int (1 : Int32))]))
          show W (s₁.setTop (mkF m 29 #[.val (.int p0)] [(.int (1 : Int32))]))
          rw [← hW]
          exact own_retN X0 hx Bd.notSynchronized Bd.returns (w := (1 : Int32)) (by simp) (hb hby d1_29) rfl (by show Q1 Z p0 h0 n0 _ s₁.heap _; rw [e0]; exact ⟨(by rw [f1, if_neg hc1_1, if_neg hc1_2, if_neg hc1_3, if_pos hc1_4]), N0, rfl⟩) (by decide) (by decide)
        · refine stp (fun t k => XS.icmpYes X0.here hx rfl (pc0 := 21) (pc' := 28) rfl (hb hby d1_21) rfl ((feq hc1_4).2) (by decide) (by decide) k) ?_
          show W (s₁.setTop (mkF m 28 #[.val (.int p0)] []))
          refine stp (fun t k => XS.iconst X0.here hx rfl (hb hby d1_28) k) ?_
          show W (s₁.setTop (mkF m 29 #[.val (.int p0)] [(.int (0 : Int32))]))
          show W (s₁.setTop (mkF m 29 #[.val (.int p0)] [(.int (0 : Int32))]))
          rw [← hW]
          exact own_retN X0 hx Bd.notSynchronized Bd.returns (w := (0 : Int32)) (by simp) (hb hby d1_29) rfl (by show Q1 Z p0 h0 n0 _ s₁.heap _; rw [e0]; exact ⟨(by rw [f1, if_neg hc1_1, if_neg hc1_2, if_neg hc1_3, if_neg hc1_4]), N0, rfl⟩) (by decide) (by decide)
theorem d2_0 : decode method_2_code 0 = .ok (.iload_n 0, 1) := by decide +kernel
theorem d2_1 : decode method_2_code 1 = .ok (.bipush 32, 2) := by decide +kernel
theorem d2_3 : decode method_2_code 3 = .ok (.if_icmp .ne 5, 3) := by decide +kernel
theorem d2_6 : decode method_2_code 6 = .ok (.iconst 1, 1) := by decide +kernel
theorem d2_7 : decode method_2_code 7 = .ok (.ireturn, 1) := by decide +kernel
theorem d2_8 : decode method_2_code 8 = .ok (.iload_n 0, 1) := by decide +kernel
theorem d2_9 : decode method_2_code 9 = .ok (.bipush 9, 2) := by decide +kernel
theorem d2_11 : decode method_2_code 11 = .ok (.if_icmp .lt 9, 3) := by decide +kernel
theorem d2_14 : decode method_2_code 14 = .ok (.iload_n 0, 1) := by decide +kernel
theorem d2_15 : decode method_2_code 15 = .ok (.bipush 13, 2) := by decide +kernel
theorem d2_17 : decode method_2_code 17 = .ok (.if_icmp .le 5, 3) := by decide +kernel
theorem d2_20 : decode method_2_code 20 = .ok (.iconst 0, 1) := by decide +kernel
theorem d2_21 : decode method_2_code 21 = .ok (.ireturn, 1) := by decide +kernel
theorem d2_22 : decode method_2_code 22 = .ok (.iload_n 0, 1) := by decide +kernel
theorem d2_23 : decode method_2_code 23 = .ok (.bipush 11, 2) := by decide +kernel
theorem d2_25 : decode method_2_code 25 = .ok (.if_icmp .eq 13, 3) := by decide +kernel
theorem d2_28 : decode method_2_code 28 = .ok (.iload_n 0, 1) := by decide +kernel
theorem d2_29 : decode method_2_code 29 = .ok (.bipush 12, 2) := by decide +kernel
theorem d2_31 : decode method_2_code 31 = .ok (.if_icmp .eq 7, 3) := by decide +kernel
theorem d2_34 : decode method_2_code 34 = .ok (.iconst 1, 1) := by decide +kernel
theorem d2_35 : decode method_2_code 35 = .ok (.goto 4, 3) := by decide +kernel
theorem d2_38 : decode method_2_code 38 = .ok (.iconst 0, 1) := by decide +kernel
theorem d2_39 : decode method_2_code 39 = .ok (.ireturn, 1) := by decide +kernel
theorem pn2 : plainName "com/example/opuscule/opuscule/record/XmlSpaceIsSpacePinLaw" = true := by first | (simp [plainName, overriddenIn]; done) | decide +kernel
theorem ef2 (m : MethodId) (p0 : Int32) : entryFrame m #[(.int p0)] 1 = mkF m 0 #[.val (.int p0)] [] := by first | (simp [entryFrame, mkF, argsToLocals, Value.category]; done) | rfl
def f2 (p0 : Int32) : Int32 := (if p0 = (32 : Int32) then (1 : Int32) else (if p0 < (9 : Int32) then (0 : Int32) else (if (13 : Int32) < p0 then (0 : Int32) else (if p0 = (11 : Int32) then (0 : Int32) else (if p0 = (12 : Int32) then (0 : Int32) else (1 : Int32))))))
def Q2 (Z : State) (p0 : Int32) (h0 : Heap) (n0 : Nat) (v : Option Value) (h : Heap) (L : List Loc) : Prop := v = some (.int (f2 p0)) ∧ Fr n0 L ∧ h = h0
set_option maxRecDepth 65536 in
set_option maxHeartbeats 40000000 in
theorem rm2 (l : Launch) (Z : State) (aa : Array Value) (hw : ∀ d ∈ tables_1, d.before aa Z = true) (ws : List Jvm.Cond) (p0 : Int32) (h0 : Heap) (n0 : Nat) (Z0 : n0 ≤ h0.size) :
    MetFree l (⟨"com/example/opuscule/opuscule/record/XmlSpaceIsSpacePinLaw", "reference", "(I)Z"⟩ : MethodName) (head1 (Jvm.Cond.code (⟨"com/example/opuscule/opuscule/record/XmlSpaceIsSpacePinLaw", "reference", "(I)Z"⟩ : MethodName) method_2_code 1 (some .boolean) :: ws) ({ frames := 0, cells := 0, slots := 0, locals := 0 } : Room)) (fun a U => a = #[(.int p0)] ∧ Z.Warmed39 U.vm ∧ U.heap = h0) (fun _ _ _ _ _ => True) (fun _ U o U' => ∃ v L, o = .returned v ∧ Q2 Z p0 h0 n0 v U'.heap L ∧ FrameEnd U o U' L ({ frames := 0, cells := 0, slots := 0, locals := 0 } : Room).cells ({ frames := 0, cells := 0, slots := 0, locals := 0 } : Room).slots) := by
  refine MetFree.of_bodySF (plainFor_of_name pn2) hisR ?_
  intro p e s m args below meth c s₁ Bd hml0 hP hK
  obtain ⟨rfl, hZ, hh⟩ := hP
  have hx := Bd.exec
  have hby := Bd.bytes
  have hml : c.maxLocals = 1 := hml0
  have hown : s.vm.findClass "com/example/opuscule/opuscule/record/XmlSpaceIsSpacePinLaw" = some m.cls := findClass_of_methodNamed Bd.named
  have hnm := (name_of_methodNamed Bd.named Bd.method).1
  have X0 : Stand p l e ({ frames := 0, cells := 0, slots := 0, locals := 0 } : Room) s m #[(.int p0)] below meth c s₁ [] 0 0 := Stand.of_body Bd
  have e0 : s₁.heap = h0 := by rw [← hh, Bd.state]; rfl
  have N0 := Fr.nil n0
  show OwnEnd p e below s (fun v h L => Q2 Z p0 h0 n0 v h L) ({ frames := 0, cells := 0, slots := 0, locals := 0 } : Room).cells ({ frames := 0, cells := 0, slots := 0, locals := 0 } : Room).slots (s₁.setTop (entryFrame m #[(.int p0)] 1))
  rw [ef2 m p0]
  generalize hW : OwnEnd p e below s (fun v h L => Q2 Z p0 h0 n0 v h L) ({ frames := 0, cells := 0, slots := 0, locals := 0 } : Room).cells ({ frames := 0, cells := 0, slots := 0, locals := 0 } : Room).slots = W
  have stp : ∀ {A B : State}, (∀ t, Steps p.tables e below B t → Steps p.tables e below A t) → W B → W A := by subst hW; exact own_step
  show W (s₁.setTop (mkF m 0 #[.val (.int p0)] []))
  refine stp (fun t k => XS.iloadN X0.here hx rfl (hb hby d2_0) rfl k) ?_
  show W (s₁.setTop (mkF m 1 #[.val (.int p0)] [(.int p0)]))
  refine stp (fun t k => XS.bipush X0.here hx rfl (hb hby d2_1) k) ?_
  show W (s₁.setTop (mkF m 3 #[.val (.int p0)] [(.int (32 : Int32)), (.int p0)]))
  by_cases hc2_1 : p0 = (32 : Int32)
  · refine stp (fun t k => XS.icmpNo X0.here hx rfl (hb hby d2_3) rfl ((teq hc2_1).2) k) ?_
    show W (s₁.setTop (mkF m 6 #[.val (.int p0)] []))
    refine stp (fun t k => XS.iconst X0.here hx rfl (hb hby d2_6) k) ?_
    show W (s₁.setTop (mkF m 7 #[.val (.int p0)] [(.int (1 : Int32))]))
    show W (s₁.setTop (mkF m 7 #[.val (.int p0)] [(.int (1 : Int32))]))
    rw [← hW]
    exact own_retN X0 hx Bd.notSynchronized Bd.returns (w := (1 : Int32)) (by simp) (hb hby d2_7) rfl (by show Q2 Z p0 h0 n0 _ s₁.heap _; rw [e0]; exact ⟨(by rw [f2, if_pos hc2_1]), N0, rfl⟩) (by decide) (by decide)
  · refine stp (fun t k => XS.icmpYes X0.here hx rfl (pc0 := 3) (pc' := 8) rfl (hb hby d2_3) rfl ((feq hc2_1).2) (by decide) (by decide) k) ?_
    show W (s₁.setTop (mkF m 8 #[.val (.int p0)] []))
    refine stp (fun t k => XS.iloadN X0.here hx rfl (hb hby d2_8) rfl k) ?_
    show W (s₁.setTop (mkF m 9 #[.val (.int p0)] [(.int p0)]))
    refine stp (fun t k => XS.bipush X0.here hx rfl (hb hby d2_9) k) ?_
    show W (s₁.setTop (mkF m 11 #[.val (.int p0)] [(.int (9 : Int32)), (.int p0)]))
    by_cases hc2_2 : p0 < (9 : Int32)
    · refine stp (fun t k => XS.icmpYes X0.here hx rfl (pc0 := 11) (pc' := 20) rfl (hb hby d2_11) rfl ((tlt hc2_2).1) (by decide) (by decide) k) ?_
      show W (s₁.setTop (mkF m 20 #[.val (.int p0)] []))
      refine stp (fun t k => XS.iconst X0.here hx rfl (hb hby d2_20) k) ?_
      show W (s₁.setTop (mkF m 21 #[.val (.int p0)] [(.int (0 : Int32))]))
      show W (s₁.setTop (mkF m 21 #[.val (.int p0)] [(.int (0 : Int32))]))
      rw [← hW]
      exact own_retN X0 hx Bd.notSynchronized Bd.returns (w := (0 : Int32)) (by simp) (hb hby d2_21) rfl (by show Q2 Z p0 h0 n0 _ s₁.heap _; rw [e0]; exact ⟨(by rw [f2, if_neg hc2_1, if_pos hc2_2]), N0, rfl⟩) (by decide) (by decide)
    · refine stp (fun t k => XS.icmpNo X0.here hx rfl (hb hby d2_11) rfl ((flt hc2_2).1) k) ?_
      show W (s₁.setTop (mkF m 14 #[.val (.int p0)] []))
      refine stp (fun t k => XS.iloadN X0.here hx rfl (hb hby d2_14) rfl k) ?_
      show W (s₁.setTop (mkF m 15 #[.val (.int p0)] [(.int p0)]))
      refine stp (fun t k => XS.bipush X0.here hx rfl (hb hby d2_15) k) ?_
      show W (s₁.setTop (mkF m 17 #[.val (.int p0)] [(.int (13 : Int32)), (.int p0)]))
      by_cases hc2_3 : (13 : Int32) < p0
      · refine stp (fun t k => XS.icmpNo X0.here hx rfl (hb hby d2_17) rfl ((tlt hc2_3).2.2.2) k) ?_
        show W (s₁.setTop (mkF m 20 #[.val (.int p0)] []))
        refine stp (fun t k => XS.iconst X0.here hx rfl (hb hby d2_20) k) ?_
        show W (s₁.setTop (mkF m 21 #[.val (.int p0)] [(.int (0 : Int32))]))
        show W (s₁.setTop (mkF m 21 #[.val (.int p0)] [(.int (0 : Int32))]))
        rw [← hW]
        exact own_retN X0 hx Bd.notSynchronized Bd.returns (w := (0 : Int32)) (by simp) (hb hby d2_21) rfl (by show Q2 Z p0 h0 n0 _ s₁.heap _; rw [e0]; exact ⟨(by rw [f2, if_neg hc2_1, if_neg hc2_2, if_pos hc2_3]), N0, rfl⟩) (by decide) (by decide)
      · refine stp (fun t k => XS.icmpYes X0.here hx rfl (pc0 := 17) (pc' := 22) rfl (hb hby d2_17) rfl ((flt hc2_3).2.2.2) (by decide) (by decide) k) ?_
        show W (s₁.setTop (mkF m 22 #[.val (.int p0)] []))
        refine stp (fun t k => XS.iloadN X0.here hx rfl (hb hby d2_22) rfl k) ?_
        show W (s₁.setTop (mkF m 23 #[.val (.int p0)] [(.int p0)]))
        refine stp (fun t k => XS.bipush X0.here hx rfl (hb hby d2_23) k) ?_
        show W (s₁.setTop (mkF m 25 #[.val (.int p0)] [(.int (11 : Int32)), (.int p0)]))
        by_cases hc2_4 : p0 = (11 : Int32)
        · refine stp (fun t k => XS.icmpYes X0.here hx rfl (pc0 := 25) (pc' := 38) rfl (hb hby d2_25) rfl ((teq hc2_4).1) (by decide) (by decide) k) ?_
          show W (s₁.setTop (mkF m 38 #[.val (.int p0)] []))
          refine stp (fun t k => XS.iconst X0.here hx rfl (hb hby d2_38) k) ?_
          show W (s₁.setTop (mkF m 39 #[.val (.int p0)] [(.int (0 : Int32))]))
          show W (s₁.setTop (mkF m 39 #[.val (.int p0)] [(.int (0 : Int32))]))
          rw [← hW]
          exact own_retN X0 hx Bd.notSynchronized Bd.returns (w := (0 : Int32)) (by simp) (hb hby d2_39) rfl (by show Q2 Z p0 h0 n0 _ s₁.heap _; rw [e0]; exact ⟨(by rw [f2, if_neg hc2_1, if_neg hc2_2, if_neg hc2_3, if_pos hc2_4]), N0, rfl⟩) (by decide) (by decide)
        · refine stp (fun t k => XS.icmpNo X0.here hx rfl (hb hby d2_25) rfl ((feq hc2_4).1) k) ?_
          show W (s₁.setTop (mkF m 28 #[.val (.int p0)] []))
          refine stp (fun t k => XS.iloadN X0.here hx rfl (hb hby d2_28) rfl k) ?_
          show W (s₁.setTop (mkF m 29 #[.val (.int p0)] [(.int p0)]))
          refine stp (fun t k => XS.bipush X0.here hx rfl (hb hby d2_29) k) ?_
          show W (s₁.setTop (mkF m 31 #[.val (.int p0)] [(.int (12 : Int32)), (.int p0)]))
          by_cases hc2_5 : p0 = (12 : Int32)
          · refine stp (fun t k => XS.icmpYes X0.here hx rfl (pc0 := 31) (pc' := 38) rfl (hb hby d2_31) rfl ((teq hc2_5).1) (by decide) (by decide) k) ?_
            show W (s₁.setTop (mkF m 38 #[.val (.int p0)] []))
            refine stp (fun t k => XS.iconst X0.here hx rfl (hb hby d2_38) k) ?_
            show W (s₁.setTop (mkF m 39 #[.val (.int p0)] [(.int (0 : Int32))]))
            show W (s₁.setTop (mkF m 39 #[.val (.int p0)] [(.int (0 : Int32))]))
            rw [← hW]
            exact own_retN X0 hx Bd.notSynchronized Bd.returns (w := (0 : Int32)) (by simp) (hb hby d2_39) rfl (by show Q2 Z p0 h0 n0 _ s₁.heap _; rw [e0]; exact ⟨(by rw [f2, if_neg hc2_1, if_neg hc2_2, if_neg hc2_3, if_neg hc2_4, if_pos hc2_5]), N0, rfl⟩) (by decide) (by decide)
          · refine stp (fun t k => XS.icmpNo X0.here hx rfl (hb hby d2_31) rfl ((feq hc2_5).1) k) ?_
            show W (s₁.setTop (mkF m 34 #[.val (.int p0)] []))
            refine stp (fun t k => XS.iconst X0.here hx rfl (hb hby d2_34) k) ?_
            show W (s₁.setTop (mkF m 35 #[.val (.int p0)] [(.int (1 : Int32))]))
            refine stp (fun t k => XS.goto X0.here hx rfl (pc0 := 35) (pc' := 39) rfl (hb hby d2_35) (by decide) (by decide) k) ?_
            show W (s₁.setTop (mkF m 39 #[.val (.int p0)] [(.int (1 : Int32))]))
            show W (s₁.setTop (mkF m 39 #[.val (.int p0)] [(.int (1 : Int32))]))
            rw [← hW]
            exact own_retN X0 hx Bd.notSynchronized Bd.returns (w := (1 : Int32)) (by simp) (hb hby d2_39) rfl (by show Q2 Z p0 h0 n0 _ s₁.heap _; rw [e0]; exact ⟨(by rw [f2, if_neg hc2_1, if_neg hc2_2, if_neg hc2_3, if_neg hc2_4, if_neg hc2_5]), N0, rfl⟩) (by decide) (by decide)
theorem own_getD (L : List Int32) (i : Nat) (d : Int32) : (L.map Value.int).getD i (.int d) = .int (L.getD i d) := by
  simp only [List.getD_eq_getElem?_getD, List.getElem?_map]
  cases L[i]? <;> rfl
def own_tab (j : Int32) : Int32 := ([(9 : Int32), (10 : Int32), (13 : Int32), (32 : Int32), (0 : Int32), (11 : Int32), (12 : Int32), (160 : Int32), (133 : Int32), (8232 : Int32), (8233 : Int32), (12288 : Int32), (5760 : Int32), (65568 : Int32), (65545 : Int32), (-32 : Int32)] : List Int32).getD j.toNatClampNeg 0
theorem own_tabv (j : Int32) : ([(.int (9 : Int32)), (.int (10 : Int32)), (.int (13 : Int32)), (.int (32 : Int32)), (.int (0 : Int32)), (.int (11 : Int32)), (.int (12 : Int32)), (.int (160 : Int32)), (.int (133 : Int32)), (.int (8232 : Int32)), (.int (8233 : Int32)), (.int (12288 : Int32)), (.int (5760 : Int32)), (.int (65568 : Int32)), (.int (65545 : Int32)), (.int (-32 : Int32))] : List Value).getD j.toNatClampNeg (.int (0 : Int32)) = .int (own_tab j) := own_getD [(9 : Int32), (10 : Int32), (13 : Int32), (32 : Int32), (0 : Int32), (11 : Int32), (12 : Int32), (160 : Int32), (133 : Int32), (8232 : Int32), (8233 : Int32), (12288 : Int32), (5760 : Int32), (65568 : Int32), (65545 : Int32), (-32 : Int32)] _ _
theorem own_rng (p1 : Int32) : ¬ (p1 &&& (15 : Int32)) < 0 ∧ (p1 &&& (15 : Int32)) < (16 : Int32) := by
  have h1 := c_mask p1 15 4 (by decide) (by decide)
  have k1 : (0 : Int32).toInt = 0 := by decide
  have k2 : (16 : Int32).toInt = 16 := by decide
  rw [Int32.lt_iff_toInt_lt, Int32.lt_iff_toInt_lt]
  omega
theorem own_ref (p0 : Int32) : f1 p0 = f2 p0 := by
  have k : (32 : Int32).toInt = 32 ∧ (9 : Int32).toInt = 9 ∧ (10 : Int32).toInt = 10 ∧ (11 : Int32).toInt = 11 ∧ (12 : Int32).toInt = 12 ∧ (13 : Int32).toInt = 13 := by decide
  obtain ⟨k1, k2, k3, k4, k5, k6⟩ := k
  unfold f1 f2
  simp only [← Int32.toInt_inj (x := p0), Int32.lt_iff_toInt_lt, k1, k2, k3, k4, k5, k6]
  repeat' split
  all_goals first | rfl | (exfalso; omega)
theorem own_tbl16 : ∀ n : Fin 16, f1 (own_tab (Int32.ofNat n.val)) = (if Int32.ofNat n.val < (4 : Int32) then (1 : Int32) else (0 : Int32)) := by decide +kernel
theorem own_tbl (p1 : Int32) : f1 (own_tab (p1 &&& (15 : Int32))) = (if (p1 &&& (15 : Int32)) < (4 : Int32) then (1 : Int32) else (0 : Int32)) := by
  have h1 := c_mask p1 15 4 (by decide) (by decide)
  generalize (p1 &&& 15) = v at *
  have h4 : v = Int32.ofNat v.toInt.toNat := by
    apply Int32.toInt_inj.mp
    rw [Int32.toInt_ofNat_of_lt (by omega)]
    omega
  rw [h4]
  exact own_tbl16 ⟨v.toInt.toNat, by omega⟩
theorem pn0 : plainName "com/example/opuscule/opuscule/record/XmlSpaceIsSpacePinLaw" = true := by first | (simp [plainName, overriddenIn]; done) | decide +kernel
theorem pd0_0 : parseMethodDescriptor "(I)Z" = some ⟨[.int], some .boolean⟩ := by decide +kernel
theorem ef0 (m : MethodId) (p0 : Int32) (p1 : Int32) : entryFrame m #[(.int p0), (.int p1)] maxLocals = mkF m 0 #[.val (.int p0), .val (.int p1), .unset, .unset, .unset, .unset] [] := by first | (simp [entryFrame, mkF, argsToLocals, Value.category, maxLocals]; done) | rfl
theorem own_0_10_3 (p0 : Int32) (p1 : Int32)   : (f1 p0) = (f2 p0) := own_ref p0
theorem own_0_143_26 (p0 : Int32) (p1 : Int32)   : (f1 (own_tab (p1 &&& (15 : Int32)))) = (if (p1 &&& (15 : Int32)) < (4 : Int32) then (1 : Int32) else (0 : Int32)) := own_tbl p1
def Q0 (Z : State) (p0 : Int32) (p1 : Int32) (h0 : Heap) (n0 : Nat) (v : Option Value) (h : Heap) (L : List Loc) : Prop := v = some (.int (1 : Int32)) ∧ Fr n0 L
set_option maxRecDepth 65536 in
set_option maxHeartbeats 40000000 in
theorem rm0 (l : Launch) (Z : State) (aa : Array Value) (hw : ∀ d ∈ tables_1, d.before aa Z = true) (ws : List Jvm.Cond) (p0 : Int32) (p1 : Int32) (h0 : Heap) (n0 : Nat) (Z0 : n0 ≤ h0.size) :
    MetFree l x (head1 (Jvm.Cond.code x code maxLocals ret :: ws) room_1) (fun a U => a = #[(.int p0), (.int p1)] ∧ Z.Warmed39 U.vm ∧ U.heap = h0) (fun _ _ _ _ _ => True) (fun _ U o U' => ∃ v L, o = .returned v ∧ Q0 Z p0 p1 h0 n0 v U'.heap L ∧ FrameEnd U o U' L room_1.cells room_1.slots) := by
  refine MetFree.of_bodySF (plainFor_of_name pn0) hisR ?_
  intro p e s m args below meth c s₁ Bd hml0 hP hK
  obtain ⟨rfl, hZ, hh⟩ := hP
  have hx := Bd.exec
  have hby := Bd.bytes
  have hml : c.maxLocals = 6 := hml0
  have hown : s.vm.findClass "com/example/opuscule/opuscule/record/XmlSpaceIsSpacePinLaw" = some m.cls := findClass_of_methodNamed Bd.named
  have hnm := (name_of_methodNamed Bd.named Bd.method).1
  have X0 : Stand p l e room_1 s m #[(.int p0), (.int p1)] below meth c s₁ [] 0 0 := Stand.of_body Bd
  have e0 : s₁.heap = h0 := by rw [← hh, Bd.state]; rfl
  have N0 := Fr.nil n0
  show OwnEnd p e below s (fun v h L => Q0 Z p0 p1 h0 n0 v h L) room_1.cells room_1.slots (s₁.setTop (entryFrame m #[(.int p0), (.int p1)] maxLocals))
  rw [ef0 m p0 p1]
  generalize hW : OwnEnd p e below s (fun v h L => Q0 Z p0 p1 h0 n0 v h L) room_1.cells room_1.slots = W
  have stp : ∀ {A B : State}, (∀ t, Steps p.tables e below B t → Steps p.tables e below A t) → W B → W A := by subst hW; exact own_step
  show W (s₁.setTop (mkF m 0 #[.val (.int p0), .val (.int p1), .unset, .unset, .unset, .unset] []))
  refine stp (fun t k => XS.iloadN X0.here hx rfl (hb hby at_0) rfl k) ?_
  show W (s₁.setTop (mkF m 1 #[.val (.int p0), .val (.int p1), .unset, .unset, .unset, .unset] [(.int p0)]))
  obtain ⟨_, _, ⟨T0c1, L0c1, k0c1, n0c1⟩, -, X0c1, ⟨Lc0c1, hQ0c1, l0c1, y0c1, z0c1⟩, st0c1⟩ := Jvm.LawKit.callS X0 hx (y := (⟨"com/example/opuscule/opuscule/record/XmlSpace", "isSpace", "(I)Z"⟩ : MethodName)) hown (mvT hZ (hw _ (List.mem_of_getElem? (i := 0) rfl))) (mvT hZ (hw _ (List.mem_of_getElem? (i := 1) rfl))) (mvT hZ (hw _ (List.mem_of_getElem? (i := 2) rfl))) (mvT hZ (hw _ (List.mem_of_getElem? (i := 3) rfl))) (by decide) (backOf (W := 0) (rm1 l Z aa hw [] p0  h0 n0 Z0 ) hZ (hw _ (List.mem_of_getElem? (i := 3) rfl)) (hw _ (List.mem_of_getElem? (i := 2) rfl)) (by decide) (by decide)) (g := (mkF m 1 #[.val (.int p0), .val (.int p1), .unset, .unset, .unset, .unset] [(.int p0)])) rfl (by rw [hml]; rfl) (argsL := [(.int p0)]) (rest := []) (lenOf pd0_0 rfl) rfl (by show 2 * 0 + _ ≤ _; exact Nat.le_of_eq rfl) (hb hby at_1) (fun _ _ => ⟨rfl, e0, (by decide : 0 + 0 ≤ _), (by decide : 0 + 0 ≤ _)⟩)
  dsimp only [Pt.U, Pt.locs, Pt.cells, Pt.slots] at X0c1 l0c1 y0c1 z0c1 st0c1 hQ0c1
  subst l0c1 y0c1 z0c1
  obtain ⟨rfl, N0c1q, e0c1⟩ := hQ0c1
  have N0c1 := Fr.app N0 N0c1q
  refine stp (fun t k => st0c1 t k) ?_
  show W (T0c1.setTop (mkF m 4 #[.val (.int p0), .val (.int p1), .unset, .unset, .unset, .unset] [(.int (f1 p0))]))
  refine stp (fun t k => XS.istoreN X0c1.here hx rfl (hb hby at_4) rfl (l' := #[.val (.int p0), .val (.int p1), .val (.int (f1 p0)), .unset, .unset, .unset]) rfl k) ?_
  show W (T0c1.setTop (mkF m 5 #[.val (.int p0), .val (.int p1), .val (.int (f1 p0)), .unset, .unset, .unset] []))
  refine stp (fun t k => XS.iloadN X0c1.here hx rfl (hb hby at_5) rfl k) ?_
  show W (T0c1.setTop (mkF m 6 #[.val (.int p0), .val (.int p1), .val (.int (f1 p0)), .unset, .unset, .unset] [(.int (f1 p0))]))
  refine stp (fun t k => XS.iloadN X0c1.here hx rfl (hb hby at_6) rfl k) ?_
  show W (T0c1.setTop (mkF m 7 #[.val (.int p0), .val (.int p1), .val (.int (f1 p0)), .unset, .unset, .unset] [(.int p0), (.int (f1 p0))]))
  obtain ⟨_, _, ⟨T0c2, L0c2, k0c2, n0c2⟩, -, X0c2, ⟨Lc0c2, hQ0c2, l0c2, y0c2, z0c2⟩, st0c2⟩ := Jvm.LawKit.callS X0c1 hx (y := (⟨"com/example/opuscule/opuscule/record/XmlSpaceIsSpacePinLaw", "reference", "(I)Z"⟩ : MethodName)) hown (mvT hZ (hw _ (List.mem_of_getElem? (i := 4) rfl))) (mvT hZ (hw _ (List.mem_of_getElem? (i := 5) rfl))) (mvT hZ (hw _ (List.mem_of_getElem? (i := 6) rfl))) (mvT hZ (hw _ (List.mem_of_getElem? (i := 7) rfl))) (by decide) (backOf (W := 1) (rm2 l Z aa hw [] p0  h0 n0 Z0 ) hZ (hw _ (List.mem_of_getElem? (i := 7) rfl)) (hw _ (List.mem_of_getElem? (i := 6) rfl)) (by decide) (by decide)) (g := (mkF m 7 #[.val (.int p0), .val (.int p1), .val (.int (f1 p0)), .unset, .unset, .unset] [(.int p0), (.int (f1 p0))])) rfl (by rw [hml]; rfl) (argsL := [(.int p0)]) (rest := [(.int (f1 p0))]) (lenOf pd0_0 rfl) rfl (by show 2 * 0 + _ ≤ _; exact Nat.le_of_eq rfl) (hb hby at_7) (fun _ _ => ⟨rfl, e0c1, (by decide : 0 + 0 ≤ _), (by decide : 0 + 0 ≤ _)⟩)
  dsimp only [Pt.U, Pt.locs, Pt.cells, Pt.slots] at X0c2 l0c2 y0c2 z0c2 st0c2 hQ0c2
  subst l0c2 y0c2 z0c2
  obtain ⟨rfl, N0c2q, e0c2⟩ := hQ0c2
  have N0c2 := Fr.app N0c1 N0c2q
  refine stp (fun t k => st0c2 t k) ?_
  show W (T0c2.setTop (mkF m 10 #[.val (.int p0), .val (.int p1), .val (.int (f1 p0)), .unset, .unset, .unset] [(.int (f2 p0)), (.int (f1 p0))]))
  refine stp (fun t k => XS.icmpYes X0c2.here hx rfl (pc0 := 10) (pc' := 15) rfl (hb hby at_10) rfl ((teq (by exact own_0_10_3 p0 p1  )).1) (by decide) (by decide) k) ?_
  show W (T0c2.setTop (mkF m 15 #[.val (.int p0), .val (.int p1), .val (.int (f1 p0)), .unset, .unset, .unset] []))
  refine stp (fun t k => XS.bipush X0c2.here hx rfl (hb hby at_15) k) ?_
  show W (T0c2.setTop (mkF m 17 #[.val (.int p0), .val (.int p1), .val (.int (f1 p0)), .unset, .unset, .unset] [(.int (16 : Int32))]))
  obtain ⟨T04, h04, k04, X04, e04, E04, A04, st04⟩ := newP X0c2 hx hZ (hw _ (List.mem_of_getElem? (i := 8) rfl)) e0c2 (g := (mkF m 17 #[.val (.int p0), .val (.int p1), .val (.int (f1 p0)), .unset, .unset, .unset] [(.int (16 : Int32))])) rfl (hb hby at_17) rfl (by decide) (cap := 16) (by decide) (by decide) (by decide) (by decide)
  obtain ⟨b04, gq04⟩ : ∃ z, z = h0.size := ⟨_, rfl⟩
  rw [← gq04] at A04 st04
  have g_b04 : n0 ≤ b04 := Nat.le_trans Z0 (Nat.le_of_eq gq04.symm)
  have sz_b04 : h0.size ≤ b04 := Nat.le_trans (Keep.refl h0 []).1 (Nat.le_of_eq gq04.symm)
  have K04 := (Keep.refl h0 []).ext E04
  have Z04 := Nat.le_trans Z0 E04.1
  have V_b04 : Arv Z h04 b04 k04 .int (16 : Int32) [(.int (0 : Int32)), (.int (0 : Int32)), (.int (0 : Int32)), (.int (0 : Int32)), (.int (0 : Int32)), (.int (0 : Int32)), (.int (0 : Int32)), (.int (0 : Int32)), (.int (0 : Int32)), (.int (0 : Int32)), (.int (0 : Int32)), (.int (0 : Int32)), (.int (0 : Int32)), (.int (0 : Int32)), (.int (0 : Int32)), (.int (0 : Int32))] (.int (0 : Int32)) := (Arv.new A04 (by decide)).pad (pad_rep [] (.int (0 : Int32)) 16)
  refine stp (fun t k => st04 t k) ?_
  show W (T04.setTop (mkF m 19 #[.val (.int p0), .val (.int p1), .val (.int (f1 p0)), .unset, .unset, .unset] [(.ref b04)]))
  refine stp (fun t k => XS.dup X04.here hx rfl (hb hby at_19) rfl rfl k) ?_
  show W (T04.setTop (mkF m 20 #[.val (.int p0), .val (.int p1), .val (.int (f1 p0)), .unset, .unset, .unset] [(.ref b04), (.ref b04)]))
  refine stp (fun t k => XS.iconst X04.here hx rfl (hb hby at_20) k) ?_
  show W (T04.setTop (mkF m 21 #[.val (.int p0), .val (.int p1), .val (.int (f1 p0)), .unset, .unset, .unset] [(.int (0 : Int32)), (.ref b04), (.ref b04)]))
  refine stp (fun t k => XS.bipush X04.here hx rfl (hb hby at_21) k) ?_
  show W (T04.setTop (mkF m 23 #[.val (.int p0), .val (.int p1), .val (.int (f1 p0)), .unset, .unset, .unset] [(.int (9 : Int32)), (.int (0 : Int32)), (.ref b04), (.ref b04)]))
  obtain ⟨cl05, Ar05, qk05, qs05, qn05, qh05, qg05⟩ := id V_b04
  have hin05 : ¬ ((0 : Int32) < 0 ∨ cl05.slots.size ≤ ((0 : Int32)).toNatClampNeg) := inb_of qs05 ⟨by decide, by decide⟩
  obtain ⟨T05, h05, X05, e05, W05, st05⟩ := stI X04 hx hZ e04 Ar05 (j := (0 : Int32)) hin05 (g := (mkF m 23 #[.val (.int p0), .val (.int p1), .val (.int (f1 p0)), .unset, .unset, .unset] [(.int (9 : Int32)), (.int (0 : Int32)), (.ref b04), (.ref b04)])) rfl rfl (hb hby at_23)
  have V_b04x := Arv.set Ar05 qk05 qs05 qn05 qh05 qg05 rfl W05 0 rfl (Nat.le_of_ble_eq_true rfl)
  have N05 := Fr.snoc X05 N0c2 g_b04
  have K05 := K04.wr W05 (Or.inr sz_b04)
  have Z05 := Nat.le_trans Z04 (Keep.of_wr W05).1
  have V_b04 : Arv Z h05 b04 k04 .int (16 : Int32) [(.int (9 : Int32)), (.int (0 : Int32)), (.int (0 : Int32)), (.int (0 : Int32)), (.int (0 : Int32)), (.int (0 : Int32)), (.int (0 : Int32)), (.int (0 : Int32)), (.int (0 : Int32)), (.int (0 : Int32)), (.int (0 : Int32)), (.int (0 : Int32)), (.int (0 : Int32)), (.int (0 : Int32)), (.int (0 : Int32)), (.int (0 : Int32))] (.int (0 : Int32)) := V_b04x
  refine stp (fun t k => st05 t k) ?_
  show W (T05.setTop (mkF m 24 #[.val (.int p0), .val (.int p1), .val (.int (f1 p0)), .unset, .unset, .unset] [(.ref b04)]))
  refine stp (fun t k => XS.dup X05.here hx rfl (hb hby at_24) rfl rfl k) ?_
  show W (T05.setTop (mkF m 25 #[.val (.int p0), .val (.int p1), .val (.int (f1 p0)), .unset, .unset, .unset] [(.ref b04), (.ref b04)]))
  refine stp (fun t k => XS.iconst X05.here hx rfl (hb hby at_25) k) ?_
  show W (T05.setTop (mkF m 26 #[.val (.int p0), .val (.int p1), .val (.int (f1 p0)), .unset, .unset, .unset] [(.int (1 : Int32)), (.ref b04), (.ref b04)]))
  refine stp (fun t k => XS.bipush X05.here hx rfl (hb hby at_26) k) ?_
  show W (T05.setTop (mkF m 28 #[.val (.int p0), .val (.int p1), .val (.int (f1 p0)), .unset, .unset, .unset] [(.int (10 : Int32)), (.int (1 : Int32)), (.ref b04), (.ref b04)]))
  obtain ⟨cl06, Ar06, qk06, qs06, qn06, qh06, qg06⟩ := id V_b04
  have hin06 : ¬ ((1 : Int32) < 0 ∨ cl06.slots.size ≤ ((1 : Int32)).toNatClampNeg) := inb_of qs06 ⟨by decide, by decide⟩
  obtain ⟨T06, h06, X06, e06, W06, st06⟩ := stI X05 hx hZ e05 Ar06 (j := (1 : Int32)) hin06 (g := (mkF m 28 #[.val (.int p0), .val (.int p1), .val (.int (f1 p0)), .unset, .unset, .unset] [(.int (10 : Int32)), (.int (1 : Int32)), (.ref b04), (.ref b04)])) rfl rfl (hb hby at_28)
  have V_b04x := Arv.set Ar06 qk06 qs06 qn06 qh06 qg06 rfl W06 1 rfl (Nat.le_of_ble_eq_true rfl)
  have N06 := Fr.snoc X06 N05 g_b04
  have K06 := K05.wr W06 (Or.inr sz_b04)
  have Z06 := Nat.le_trans Z05 (Keep.of_wr W06).1
  have V_b04 : Arv Z h06 b04 k04 .int (16 : Int32) [(.int (9 : Int32)), (.int (10 : Int32)), (.int (0 : Int32)), (.int (0 : Int32)), (.int (0 : Int32)), (.int (0 : Int32)), (.int (0 : Int32)), (.int (0 : Int32)), (.int (0 : Int32)), (.int (0 : Int32)), (.int (0 : Int32)), (.int (0 : Int32)), (.int (0 : Int32)), (.int (0 : Int32)), (.int (0 : Int32)), (.int (0 : Int32))] (.int (0 : Int32)) := V_b04x
  refine stp (fun t k => st06 t k) ?_
  show W (T06.setTop (mkF m 29 #[.val (.int p0), .val (.int p1), .val (.int (f1 p0)), .unset, .unset, .unset] [(.ref b04)]))
  refine stp (fun t k => XS.dup X06.here hx rfl (hb hby at_29) rfl rfl k) ?_
  show W (T06.setTop (mkF m 30 #[.val (.int p0), .val (.int p1), .val (.int (f1 p0)), .unset, .unset, .unset] [(.ref b04), (.ref b04)]))
  refine stp (fun t k => XS.iconst X06.here hx rfl (hb hby at_30) k) ?_
  show W (T06.setTop (mkF m 31 #[.val (.int p0), .val (.int p1), .val (.int (f1 p0)), .unset, .unset, .unset] [(.int (2 : Int32)), (.ref b04), (.ref b04)]))
  refine stp (fun t k => XS.bipush X06.here hx rfl (hb hby at_31) k) ?_
  show W (T06.setTop (mkF m 33 #[.val (.int p0), .val (.int p1), .val (.int (f1 p0)), .unset, .unset, .unset] [(.int (13 : Int32)), (.int (2 : Int32)), (.ref b04), (.ref b04)]))
  obtain ⟨cl07, Ar07, qk07, qs07, qn07, qh07, qg07⟩ := id V_b04
  have hin07 : ¬ ((2 : Int32) < 0 ∨ cl07.slots.size ≤ ((2 : Int32)).toNatClampNeg) := inb_of qs07 ⟨by decide, by decide⟩
  obtain ⟨T07, h07, X07, e07, W07, st07⟩ := stI X06 hx hZ e06 Ar07 (j := (2 : Int32)) hin07 (g := (mkF m 33 #[.val (.int p0), .val (.int p1), .val (.int (f1 p0)), .unset, .unset, .unset] [(.int (13 : Int32)), (.int (2 : Int32)), (.ref b04), (.ref b04)])) rfl rfl (hb hby at_33)
  have V_b04x := Arv.set Ar07 qk07 qs07 qn07 qh07 qg07 rfl W07 2 rfl (Nat.le_of_ble_eq_true rfl)
  have N07 := Fr.snoc X07 N06 g_b04
  have K07 := K06.wr W07 (Or.inr sz_b04)
  have Z07 := Nat.le_trans Z06 (Keep.of_wr W07).1
  have V_b04 : Arv Z h07 b04 k04 .int (16 : Int32) [(.int (9 : Int32)), (.int (10 : Int32)), (.int (13 : Int32)), (.int (0 : Int32)), (.int (0 : Int32)), (.int (0 : Int32)), (.int (0 : Int32)), (.int (0 : Int32)), (.int (0 : Int32)), (.int (0 : Int32)), (.int (0 : Int32)), (.int (0 : Int32)), (.int (0 : Int32)), (.int (0 : Int32)), (.int (0 : Int32)), (.int (0 : Int32))] (.int (0 : Int32)) := V_b04x
  refine stp (fun t k => st07 t k) ?_
  show W (T07.setTop (mkF m 34 #[.val (.int p0), .val (.int p1), .val (.int (f1 p0)), .unset, .unset, .unset] [(.ref b04)]))
  refine stp (fun t k => XS.dup X07.here hx rfl (hb hby at_34) rfl rfl k) ?_
  show W (T07.setTop (mkF m 35 #[.val (.int p0), .val (.int p1), .val (.int (f1 p0)), .unset, .unset, .unset] [(.ref b04), (.ref b04)]))
  refine stp (fun t k => XS.iconst X07.here hx rfl (hb hby at_35) k) ?_
  show W (T07.setTop (mkF m 36 #[.val (.int p0), .val (.int p1), .val (.int (f1 p0)), .unset, .unset, .unset] [(.int (3 : Int32)), (.ref b04), (.ref b04)]))
  refine stp (fun t k => XS.bipush X07.here hx rfl (hb hby at_36) k) ?_
  show W (T07.setTop (mkF m 38 #[.val (.int p0), .val (.int p1), .val (.int (f1 p0)), .unset, .unset, .unset] [(.int (32 : Int32)), (.int (3 : Int32)), (.ref b04), (.ref b04)]))
  obtain ⟨cl08, Ar08, qk08, qs08, qn08, qh08, qg08⟩ := id V_b04
  have hin08 : ¬ ((3 : Int32) < 0 ∨ cl08.slots.size ≤ ((3 : Int32)).toNatClampNeg) := inb_of qs08 ⟨by decide, by decide⟩
  obtain ⟨T08, h08, X08, e08, W08, st08⟩ := stI X07 hx hZ e07 Ar08 (j := (3 : Int32)) hin08 (g := (mkF m 38 #[.val (.int p0), .val (.int p1), .val (.int (f1 p0)), .unset, .unset, .unset] [(.int (32 : Int32)), (.int (3 : Int32)), (.ref b04), (.ref b04)])) rfl rfl (hb hby at_38)
  have V_b04x := Arv.set Ar08 qk08 qs08 qn08 qh08 qg08 rfl W08 3 rfl (Nat.le_of_ble_eq_true rfl)
  have N08 := Fr.snoc X08 N07 g_b04
  have K08 := K07.wr W08 (Or.inr sz_b04)
  have Z08 := Nat.le_trans Z07 (Keep.of_wr W08).1
  have V_b04 : Arv Z h08 b04 k04 .int (16 : Int32) [(.int (9 : Int32)), (.int (10 : Int32)), (.int (13 : Int32)), (.int (32 : Int32)), (.int (0 : Int32)), (.int (0 : Int32)), (.int (0 : Int32)), (.int (0 : Int32)), (.int (0 : Int32)), (.int (0 : Int32)), (.int (0 : Int32)), (.int (0 : Int32)), (.int (0 : Int32)), (.int (0 : Int32)), (.int (0 : Int32)), (.int (0 : Int32))] (.int (0 : Int32)) := V_b04x
  refine stp (fun t k => st08 t k) ?_
  show W (T08.setTop (mkF m 39 #[.val (.int p0), .val (.int p1), .val (.int (f1 p0)), .unset, .unset, .unset] [(.ref b04)]))
  refine stp (fun t k => XS.dup X08.here hx rfl (hb hby at_39) rfl rfl k) ?_
  show W (T08.setTop (mkF m 40 #[.val (.int p0), .val (.int p1), .val (.int (f1 p0)), .unset, .unset, .unset] [(.ref b04), (.ref b04)]))
  refine stp (fun t k => XS.iconst X08.here hx rfl (hb hby at_40) k) ?_
  show W (T08.setTop (mkF m 41 #[.val (.int p0), .val (.int p1), .val (.int (f1 p0)), .unset, .unset, .unset] [(.int (4 : Int32)), (.ref b04), (.ref b04)]))
  refine stp (fun t k => XS.iconst X08.here hx rfl (hb hby at_41) k) ?_
  show W (T08.setTop (mkF m 42 #[.val (.int p0), .val (.int p1), .val (.int (f1 p0)), .unset, .unset, .unset] [(.int (0 : Int32)), (.int (4 : Int32)), (.ref b04), (.ref b04)]))
  obtain ⟨cl09, Ar09, qk09, qs09, qn09, qh09, qg09⟩ := id V_b04
  have hin09 : ¬ ((4 : Int32) < 0 ∨ cl09.slots.size ≤ ((4 : Int32)).toNatClampNeg) := inb_of qs09 ⟨by decide, by decide⟩
  obtain ⟨T09, h09, X09, e09, W09, st09⟩ := stI X08 hx hZ e08 Ar09 (j := (4 : Int32)) hin09 (g := (mkF m 42 #[.val (.int p0), .val (.int p1), .val (.int (f1 p0)), .unset, .unset, .unset] [(.int (0 : Int32)), (.int (4 : Int32)), (.ref b04), (.ref b04)])) rfl rfl (hb hby at_42)
  have V_b04x := Arv.set Ar09 qk09 qs09 qn09 qh09 qg09 rfl W09 4 rfl (Nat.le_of_ble_eq_true rfl)
  have N09 := Fr.snoc X09 N08 g_b04
  have K09 := K08.wr W09 (Or.inr sz_b04)
  have Z09 := Nat.le_trans Z08 (Keep.of_wr W09).1
  have V_b04 : Arv Z h09 b04 k04 .int (16 : Int32) [(.int (9 : Int32)), (.int (10 : Int32)), (.int (13 : Int32)), (.int (32 : Int32)), (.int (0 : Int32)), (.int (0 : Int32)), (.int (0 : Int32)), (.int (0 : Int32)), (.int (0 : Int32)), (.int (0 : Int32)), (.int (0 : Int32)), (.int (0 : Int32)), (.int (0 : Int32)), (.int (0 : Int32)), (.int (0 : Int32)), (.int (0 : Int32))] (.int (0 : Int32)) := V_b04x
  refine stp (fun t k => st09 t k) ?_
  show W (T09.setTop (mkF m 43 #[.val (.int p0), .val (.int p1), .val (.int (f1 p0)), .unset, .unset, .unset] [(.ref b04)]))
  refine stp (fun t k => XS.dup X09.here hx rfl (hb hby at_43) rfl rfl k) ?_
  show W (T09.setTop (mkF m 44 #[.val (.int p0), .val (.int p1), .val (.int (f1 p0)), .unset, .unset, .unset] [(.ref b04), (.ref b04)]))
  refine stp (fun t k => XS.iconst X09.here hx rfl (hb hby at_44) k) ?_
  show W (T09.setTop (mkF m 45 #[.val (.int p0), .val (.int p1), .val (.int (f1 p0)), .unset, .unset, .unset] [(.int (5 : Int32)), (.ref b04), (.ref b04)]))
  refine stp (fun t k => XS.bipush X09.here hx rfl (hb hby at_45) k) ?_
  show W (T09.setTop (mkF m 47 #[.val (.int p0), .val (.int p1), .val (.int (f1 p0)), .unset, .unset, .unset] [(.int (11 : Int32)), (.int (5 : Int32)), (.ref b04), (.ref b04)]))
  obtain ⟨cl010, Ar010, qk010, qs010, qn010, qh010, qg010⟩ := id V_b04
  have hin010 : ¬ ((5 : Int32) < 0 ∨ cl010.slots.size ≤ ((5 : Int32)).toNatClampNeg) := inb_of qs010 ⟨by decide, by decide⟩
  obtain ⟨T010, h010, X010, e010, W010, st010⟩ := stI X09 hx hZ e09 Ar010 (j := (5 : Int32)) hin010 (g := (mkF m 47 #[.val (.int p0), .val (.int p1), .val (.int (f1 p0)), .unset, .unset, .unset] [(.int (11 : Int32)), (.int (5 : Int32)), (.ref b04), (.ref b04)])) rfl rfl (hb hby at_47)
  have V_b04x := Arv.set Ar010 qk010 qs010 qn010 qh010 qg010 rfl W010 5 rfl (Nat.le_of_ble_eq_true rfl)
  have N010 := Fr.snoc X010 N09 g_b04
  have K010 := K09.wr W010 (Or.inr sz_b04)
  have Z010 := Nat.le_trans Z09 (Keep.of_wr W010).1
  have V_b04 : Arv Z h010 b04 k04 .int (16 : Int32) [(.int (9 : Int32)), (.int (10 : Int32)), (.int (13 : Int32)), (.int (32 : Int32)), (.int (0 : Int32)), (.int (11 : Int32)), (.int (0 : Int32)), (.int (0 : Int32)), (.int (0 : Int32)), (.int (0 : Int32)), (.int (0 : Int32)), (.int (0 : Int32)), (.int (0 : Int32)), (.int (0 : Int32)), (.int (0 : Int32)), (.int (0 : Int32))] (.int (0 : Int32)) := V_b04x
  refine stp (fun t k => st010 t k) ?_
  show W (T010.setTop (mkF m 48 #[.val (.int p0), .val (.int p1), .val (.int (f1 p0)), .unset, .unset, .unset] [(.ref b04)]))
  refine stp (fun t k => XS.dup X010.here hx rfl (hb hby at_48) rfl rfl k) ?_
  show W (T010.setTop (mkF m 49 #[.val (.int p0), .val (.int p1), .val (.int (f1 p0)), .unset, .unset, .unset] [(.ref b04), (.ref b04)]))
  refine stp (fun t k => XS.bipush X010.here hx rfl (hb hby at_49) k) ?_
  show W (T010.setTop (mkF m 51 #[.val (.int p0), .val (.int p1), .val (.int (f1 p0)), .unset, .unset, .unset] [(.int (6 : Int32)), (.ref b04), (.ref b04)]))
  refine stp (fun t k => XS.bipush X010.here hx rfl (hb hby at_51) k) ?_
  show W (T010.setTop (mkF m 53 #[.val (.int p0), .val (.int p1), .val (.int (f1 p0)), .unset, .unset, .unset] [(.int (12 : Int32)), (.int (6 : Int32)), (.ref b04), (.ref b04)]))
  obtain ⟨cl011, Ar011, qk011, qs011, qn011, qh011, qg011⟩ := id V_b04
  have hin011 : ¬ ((6 : Int32) < 0 ∨ cl011.slots.size ≤ ((6 : Int32)).toNatClampNeg) := inb_of qs011 ⟨by decide, by decide⟩
  obtain ⟨T011, h011, X011, e011, W011, st011⟩ := stI X010 hx hZ e010 Ar011 (j := (6 : Int32)) hin011 (g := (mkF m 53 #[.val (.int p0), .val (.int p1), .val (.int (f1 p0)), .unset, .unset, .unset] [(.int (12 : Int32)), (.int (6 : Int32)), (.ref b04), (.ref b04)])) rfl rfl (hb hby at_53)
  have V_b04x := Arv.set Ar011 qk011 qs011 qn011 qh011 qg011 rfl W011 6 rfl (Nat.le_of_ble_eq_true rfl)
  have N011 := Fr.snoc X011 N010 g_b04
  have K011 := K010.wr W011 (Or.inr sz_b04)
  have Z011 := Nat.le_trans Z010 (Keep.of_wr W011).1
  have V_b04 : Arv Z h011 b04 k04 .int (16 : Int32) [(.int (9 : Int32)), (.int (10 : Int32)), (.int (13 : Int32)), (.int (32 : Int32)), (.int (0 : Int32)), (.int (11 : Int32)), (.int (12 : Int32)), (.int (0 : Int32)), (.int (0 : Int32)), (.int (0 : Int32)), (.int (0 : Int32)), (.int (0 : Int32)), (.int (0 : Int32)), (.int (0 : Int32)), (.int (0 : Int32)), (.int (0 : Int32))] (.int (0 : Int32)) := V_b04x
  refine stp (fun t k => st011 t k) ?_
  show W (T011.setTop (mkF m 54 #[.val (.int p0), .val (.int p1), .val (.int (f1 p0)), .unset, .unset, .unset] [(.ref b04)]))
  refine stp (fun t k => XS.dup X011.here hx rfl (hb hby at_54) rfl rfl k) ?_
  show W (T011.setTop (mkF m 55 #[.val (.int p0), .val (.int p1), .val (.int (f1 p0)), .unset, .unset, .unset] [(.ref b04), (.ref b04)]))
  refine stp (fun t k => XS.bipush X011.here hx rfl (hb hby at_55) k) ?_
  show W (T011.setTop (mkF m 57 #[.val (.int p0), .val (.int p1), .val (.int (f1 p0)), .unset, .unset, .unset] [(.int (7 : Int32)), (.ref b04), (.ref b04)]))
  refine stp (fun t k => XS.sipush X011.here hx rfl (hb hby at_57) k) ?_
  show W (T011.setTop (mkF m 60 #[.val (.int p0), .val (.int p1), .val (.int (f1 p0)), .unset, .unset, .unset] [(.int (160 : Int32)), (.int (7 : Int32)), (.ref b04), (.ref b04)]))
  obtain ⟨cl012, Ar012, qk012, qs012, qn012, qh012, qg012⟩ := id V_b04
  have hin012 : ¬ ((7 : Int32) < 0 ∨ cl012.slots.size ≤ ((7 : Int32)).toNatClampNeg) := inb_of qs012 ⟨by decide, by decide⟩
  obtain ⟨T012, h012, X012, e012, W012, st012⟩ := stI X011 hx hZ e011 Ar012 (j := (7 : Int32)) hin012 (g := (mkF m 60 #[.val (.int p0), .val (.int p1), .val (.int (f1 p0)), .unset, .unset, .unset] [(.int (160 : Int32)), (.int (7 : Int32)), (.ref b04), (.ref b04)])) rfl rfl (hb hby at_60)
  have V_b04x := Arv.set Ar012 qk012 qs012 qn012 qh012 qg012 rfl W012 7 rfl (Nat.le_of_ble_eq_true rfl)
  have N012 := Fr.snoc X012 N011 g_b04
  have K012 := K011.wr W012 (Or.inr sz_b04)
  have Z012 := Nat.le_trans Z011 (Keep.of_wr W012).1
  have V_b04 : Arv Z h012 b04 k04 .int (16 : Int32) [(.int (9 : Int32)), (.int (10 : Int32)), (.int (13 : Int32)), (.int (32 : Int32)), (.int (0 : Int32)), (.int (11 : Int32)), (.int (12 : Int32)), (.int (160 : Int32)), (.int (0 : Int32)), (.int (0 : Int32)), (.int (0 : Int32)), (.int (0 : Int32)), (.int (0 : Int32)), (.int (0 : Int32)), (.int (0 : Int32)), (.int (0 : Int32))] (.int (0 : Int32)) := V_b04x
  refine stp (fun t k => st012 t k) ?_
  show W (T012.setTop (mkF m 61 #[.val (.int p0), .val (.int p1), .val (.int (f1 p0)), .unset, .unset, .unset] [(.ref b04)]))
  refine stp (fun t k => XS.dup X012.here hx rfl (hb hby at_61) rfl rfl k) ?_
  show W (T012.setTop (mkF m 62 #[.val (.int p0), .val (.int p1), .val (.int (f1 p0)), .unset, .unset, .unset] [(.ref b04), (.ref b04)]))
  refine stp (fun t k => XS.bipush X012.here hx rfl (hb hby at_62) k) ?_
  show W (T012.setTop (mkF m 64 #[.val (.int p0), .val (.int p1), .val (.int (f1 p0)), .unset, .unset, .unset] [(.int (8 : Int32)), (.ref b04), (.ref b04)]))
  refine stp (fun t k => XS.sipush X012.here hx rfl (hb hby at_64) k) ?_
  show W (T012.setTop (mkF m 67 #[.val (.int p0), .val (.int p1), .val (.int (f1 p0)), .unset, .unset, .unset] [(.int (133 : Int32)), (.int (8 : Int32)), (.ref b04), (.ref b04)]))
  obtain ⟨cl013, Ar013, qk013, qs013, qn013, qh013, qg013⟩ := id V_b04
  have hin013 : ¬ ((8 : Int32) < 0 ∨ cl013.slots.size ≤ ((8 : Int32)).toNatClampNeg) := inb_of qs013 ⟨by decide, by decide⟩
  obtain ⟨T013, h013, X013, e013, W013, st013⟩ := stI X012 hx hZ e012 Ar013 (j := (8 : Int32)) hin013 (g := (mkF m 67 #[.val (.int p0), .val (.int p1), .val (.int (f1 p0)), .unset, .unset, .unset] [(.int (133 : Int32)), (.int (8 : Int32)), (.ref b04), (.ref b04)])) rfl rfl (hb hby at_67)
  have V_b04x := Arv.set Ar013 qk013 qs013 qn013 qh013 qg013 rfl W013 8 rfl (Nat.le_of_ble_eq_true rfl)
  have N013 := Fr.snoc X013 N012 g_b04
  have K013 := K012.wr W013 (Or.inr sz_b04)
  have Z013 := Nat.le_trans Z012 (Keep.of_wr W013).1
  have V_b04 : Arv Z h013 b04 k04 .int (16 : Int32) [(.int (9 : Int32)), (.int (10 : Int32)), (.int (13 : Int32)), (.int (32 : Int32)), (.int (0 : Int32)), (.int (11 : Int32)), (.int (12 : Int32)), (.int (160 : Int32)), (.int (133 : Int32)), (.int (0 : Int32)), (.int (0 : Int32)), (.int (0 : Int32)), (.int (0 : Int32)), (.int (0 : Int32)), (.int (0 : Int32)), (.int (0 : Int32))] (.int (0 : Int32)) := V_b04x
  refine stp (fun t k => st013 t k) ?_
  show W (T013.setTop (mkF m 68 #[.val (.int p0), .val (.int p1), .val (.int (f1 p0)), .unset, .unset, .unset] [(.ref b04)]))
  refine stp (fun t k => XS.dup X013.here hx rfl (hb hby at_68) rfl rfl k) ?_
  show W (T013.setTop (mkF m 69 #[.val (.int p0), .val (.int p1), .val (.int (f1 p0)), .unset, .unset, .unset] [(.ref b04), (.ref b04)]))
  refine stp (fun t k => XS.bipush X013.here hx rfl (hb hby at_69) k) ?_
  show W (T013.setTop (mkF m 71 #[.val (.int p0), .val (.int p1), .val (.int (f1 p0)), .unset, .unset, .unset] [(.int (9 : Int32)), (.ref b04), (.ref b04)]))
  refine stp (fun t k => XS.sipush X013.here hx rfl (hb hby at_71) k) ?_
  show W (T013.setTop (mkF m 74 #[.val (.int p0), .val (.int p1), .val (.int (f1 p0)), .unset, .unset, .unset] [(.int (8232 : Int32)), (.int (9 : Int32)), (.ref b04), (.ref b04)]))
  obtain ⟨cl014, Ar014, qk014, qs014, qn014, qh014, qg014⟩ := id V_b04
  have hin014 : ¬ ((9 : Int32) < 0 ∨ cl014.slots.size ≤ ((9 : Int32)).toNatClampNeg) := inb_of qs014 ⟨by decide, by decide⟩
  obtain ⟨T014, h014, X014, e014, W014, st014⟩ := stI X013 hx hZ e013 Ar014 (j := (9 : Int32)) hin014 (g := (mkF m 74 #[.val (.int p0), .val (.int p1), .val (.int (f1 p0)), .unset, .unset, .unset] [(.int (8232 : Int32)), (.int (9 : Int32)), (.ref b04), (.ref b04)])) rfl rfl (hb hby at_74)
  have V_b04x := Arv.set Ar014 qk014 qs014 qn014 qh014 qg014 rfl W014 9 rfl (Nat.le_of_ble_eq_true rfl)
  have N014 := Fr.snoc X014 N013 g_b04
  have K014 := K013.wr W014 (Or.inr sz_b04)
  have Z014 := Nat.le_trans Z013 (Keep.of_wr W014).1
  have V_b04 : Arv Z h014 b04 k04 .int (16 : Int32) [(.int (9 : Int32)), (.int (10 : Int32)), (.int (13 : Int32)), (.int (32 : Int32)), (.int (0 : Int32)), (.int (11 : Int32)), (.int (12 : Int32)), (.int (160 : Int32)), (.int (133 : Int32)), (.int (8232 : Int32)), (.int (0 : Int32)), (.int (0 : Int32)), (.int (0 : Int32)), (.int (0 : Int32)), (.int (0 : Int32)), (.int (0 : Int32))] (.int (0 : Int32)) := V_b04x
  refine stp (fun t k => st014 t k) ?_
  show W (T014.setTop (mkF m 75 #[.val (.int p0), .val (.int p1), .val (.int (f1 p0)), .unset, .unset, .unset] [(.ref b04)]))
  refine stp (fun t k => XS.dup X014.here hx rfl (hb hby at_75) rfl rfl k) ?_
  show W (T014.setTop (mkF m 76 #[.val (.int p0), .val (.int p1), .val (.int (f1 p0)), .unset, .unset, .unset] [(.ref b04), (.ref b04)]))
  refine stp (fun t k => XS.bipush X014.here hx rfl (hb hby at_76) k) ?_
  show W (T014.setTop (mkF m 78 #[.val (.int p0), .val (.int p1), .val (.int (f1 p0)), .unset, .unset, .unset] [(.int (10 : Int32)), (.ref b04), (.ref b04)]))
  refine stp (fun t k => XS.sipush X014.here hx rfl (hb hby at_78) k) ?_
  show W (T014.setTop (mkF m 81 #[.val (.int p0), .val (.int p1), .val (.int (f1 p0)), .unset, .unset, .unset] [(.int (8233 : Int32)), (.int (10 : Int32)), (.ref b04), (.ref b04)]))
  obtain ⟨cl015, Ar015, qk015, qs015, qn015, qh015, qg015⟩ := id V_b04
  have hin015 : ¬ ((10 : Int32) < 0 ∨ cl015.slots.size ≤ ((10 : Int32)).toNatClampNeg) := inb_of qs015 ⟨by decide, by decide⟩
  obtain ⟨T015, h015, X015, e015, W015, st015⟩ := stI X014 hx hZ e014 Ar015 (j := (10 : Int32)) hin015 (g := (mkF m 81 #[.val (.int p0), .val (.int p1), .val (.int (f1 p0)), .unset, .unset, .unset] [(.int (8233 : Int32)), (.int (10 : Int32)), (.ref b04), (.ref b04)])) rfl rfl (hb hby at_81)
  have V_b04x := Arv.set Ar015 qk015 qs015 qn015 qh015 qg015 rfl W015 10 rfl (Nat.le_of_ble_eq_true rfl)
  have N015 := Fr.snoc X015 N014 g_b04
  have K015 := K014.wr W015 (Or.inr sz_b04)
  have Z015 := Nat.le_trans Z014 (Keep.of_wr W015).1
  have V_b04 : Arv Z h015 b04 k04 .int (16 : Int32) [(.int (9 : Int32)), (.int (10 : Int32)), (.int (13 : Int32)), (.int (32 : Int32)), (.int (0 : Int32)), (.int (11 : Int32)), (.int (12 : Int32)), (.int (160 : Int32)), (.int (133 : Int32)), (.int (8232 : Int32)), (.int (8233 : Int32)), (.int (0 : Int32)), (.int (0 : Int32)), (.int (0 : Int32)), (.int (0 : Int32)), (.int (0 : Int32))] (.int (0 : Int32)) := V_b04x
  refine stp (fun t k => st015 t k) ?_
  show W (T015.setTop (mkF m 82 #[.val (.int p0), .val (.int p1), .val (.int (f1 p0)), .unset, .unset, .unset] [(.ref b04)]))
  refine stp (fun t k => XS.dup X015.here hx rfl (hb hby at_82) rfl rfl k) ?_
  show W (T015.setTop (mkF m 83 #[.val (.int p0), .val (.int p1), .val (.int (f1 p0)), .unset, .unset, .unset] [(.ref b04), (.ref b04)]))
  refine stp (fun t k => XS.bipush X015.here hx rfl (hb hby at_83) k) ?_
  show W (T015.setTop (mkF m 85 #[.val (.int p0), .val (.int p1), .val (.int (f1 p0)), .unset, .unset, .unset] [(.int (11 : Int32)), (.ref b04), (.ref b04)]))
  refine stp (fun t k => XS.sipush X015.here hx rfl (hb hby at_85) k) ?_
  show W (T015.setTop (mkF m 88 #[.val (.int p0), .val (.int p1), .val (.int (f1 p0)), .unset, .unset, .unset] [(.int (12288 : Int32)), (.int (11 : Int32)), (.ref b04), (.ref b04)]))
  obtain ⟨cl016, Ar016, qk016, qs016, qn016, qh016, qg016⟩ := id V_b04
  have hin016 : ¬ ((11 : Int32) < 0 ∨ cl016.slots.size ≤ ((11 : Int32)).toNatClampNeg) := inb_of qs016 ⟨by decide, by decide⟩
  obtain ⟨T016, h016, X016, e016, W016, st016⟩ := stI X015 hx hZ e015 Ar016 (j := (11 : Int32)) hin016 (g := (mkF m 88 #[.val (.int p0), .val (.int p1), .val (.int (f1 p0)), .unset, .unset, .unset] [(.int (12288 : Int32)), (.int (11 : Int32)), (.ref b04), (.ref b04)])) rfl rfl (hb hby at_88)
  have V_b04x := Arv.set Ar016 qk016 qs016 qn016 qh016 qg016 rfl W016 11 rfl (Nat.le_of_ble_eq_true rfl)
  have N016 := Fr.snoc X016 N015 g_b04
  have K016 := K015.wr W016 (Or.inr sz_b04)
  have Z016 := Nat.le_trans Z015 (Keep.of_wr W016).1
  have V_b04 : Arv Z h016 b04 k04 .int (16 : Int32) [(.int (9 : Int32)), (.int (10 : Int32)), (.int (13 : Int32)), (.int (32 : Int32)), (.int (0 : Int32)), (.int (11 : Int32)), (.int (12 : Int32)), (.int (160 : Int32)), (.int (133 : Int32)), (.int (8232 : Int32)), (.int (8233 : Int32)), (.int (12288 : Int32)), (.int (0 : Int32)), (.int (0 : Int32)), (.int (0 : Int32)), (.int (0 : Int32))] (.int (0 : Int32)) := V_b04x
  refine stp (fun t k => st016 t k) ?_
  show W (T016.setTop (mkF m 89 #[.val (.int p0), .val (.int p1), .val (.int (f1 p0)), .unset, .unset, .unset] [(.ref b04)]))
  refine stp (fun t k => XS.dup X016.here hx rfl (hb hby at_89) rfl rfl k) ?_
  show W (T016.setTop (mkF m 90 #[.val (.int p0), .val (.int p1), .val (.int (f1 p0)), .unset, .unset, .unset] [(.ref b04), (.ref b04)]))
  refine stp (fun t k => XS.bipush X016.here hx rfl (hb hby at_90) k) ?_
  show W (T016.setTop (mkF m 92 #[.val (.int p0), .val (.int p1), .val (.int (f1 p0)), .unset, .unset, .unset] [(.int (12 : Int32)), (.ref b04), (.ref b04)]))
  refine stp (fun t k => XS.sipush X016.here hx rfl (hb hby at_92) k) ?_
  show W (T016.setTop (mkF m 95 #[.val (.int p0), .val (.int p1), .val (.int (f1 p0)), .unset, .unset, .unset] [(.int (5760 : Int32)), (.int (12 : Int32)), (.ref b04), (.ref b04)]))
  obtain ⟨cl017, Ar017, qk017, qs017, qn017, qh017, qg017⟩ := id V_b04
  have hin017 : ¬ ((12 : Int32) < 0 ∨ cl017.slots.size ≤ ((12 : Int32)).toNatClampNeg) := inb_of qs017 ⟨by decide, by decide⟩
  obtain ⟨T017, h017, X017, e017, W017, st017⟩ := stI X016 hx hZ e016 Ar017 (j := (12 : Int32)) hin017 (g := (mkF m 95 #[.val (.int p0), .val (.int p1), .val (.int (f1 p0)), .unset, .unset, .unset] [(.int (5760 : Int32)), (.int (12 : Int32)), (.ref b04), (.ref b04)])) rfl rfl (hb hby at_95)
  have V_b04x := Arv.set Ar017 qk017 qs017 qn017 qh017 qg017 rfl W017 12 rfl (Nat.le_of_ble_eq_true rfl)
  have N017 := Fr.snoc X017 N016 g_b04
  have K017 := K016.wr W017 (Or.inr sz_b04)
  have Z017 := Nat.le_trans Z016 (Keep.of_wr W017).1
  have V_b04 : Arv Z h017 b04 k04 .int (16 : Int32) [(.int (9 : Int32)), (.int (10 : Int32)), (.int (13 : Int32)), (.int (32 : Int32)), (.int (0 : Int32)), (.int (11 : Int32)), (.int (12 : Int32)), (.int (160 : Int32)), (.int (133 : Int32)), (.int (8232 : Int32)), (.int (8233 : Int32)), (.int (12288 : Int32)), (.int (5760 : Int32)), (.int (0 : Int32)), (.int (0 : Int32)), (.int (0 : Int32))] (.int (0 : Int32)) := V_b04x
  refine stp (fun t k => st017 t k) ?_
  show W (T017.setTop (mkF m 96 #[.val (.int p0), .val (.int p1), .val (.int (f1 p0)), .unset, .unset, .unset] [(.ref b04)]))
  refine stp (fun t k => XS.dup X017.here hx rfl (hb hby at_96) rfl rfl k) ?_
  show W (T017.setTop (mkF m 97 #[.val (.int p0), .val (.int p1), .val (.int (f1 p0)), .unset, .unset, .unset] [(.ref b04), (.ref b04)]))
  refine stp (fun t k => XS.bipush X017.here hx rfl (hb hby at_97) k) ?_
  show W (T017.setTop (mkF m 99 #[.val (.int p0), .val (.int p1), .val (.int (f1 p0)), .unset, .unset, .unset] [(.int (13 : Int32)), (.ref b04), (.ref b04)]))
  refine stp (fun t k => X017.ldcInt hx hown (mvT hZ (hw _ (List.mem_of_getElem? (i := 9) rfl))) (g := (mkF m 99 #[.val (.int p0), .val (.int p1), .val (.int (f1 p0)), .unset, .unset, .unset] [(.int (13 : Int32)), (.ref b04), (.ref b04)])) rfl (hb hby at_99) _ k) ?_
  show W (T017.setTop (mkF m 101 #[.val (.int p0), .val (.int p1), .val (.int (f1 p0)), .unset, .unset, .unset] [(.int (65568 : Int32)), (.int (13 : Int32)), (.ref b04), (.ref b04)]))
  obtain ⟨cl018, Ar018, qk018, qs018, qn018, qh018, qg018⟩ := id V_b04
  have hin018 : ¬ ((13 : Int32) < 0 ∨ cl018.slots.size ≤ ((13 : Int32)).toNatClampNeg) := inb_of qs018 ⟨by decide, by decide⟩
  obtain ⟨T018, h018, X018, e018, W018, st018⟩ := stI X017 hx hZ e017 Ar018 (j := (13 : Int32)) hin018 (g := (mkF m 101 #[.val (.int p0), .val (.int p1), .val (.int (f1 p0)), .unset, .unset, .unset] [(.int (65568 : Int32)), (.int (13 : Int32)), (.ref b04), (.ref b04)])) rfl rfl (hb hby at_101)
  have V_b04x := Arv.set Ar018 qk018 qs018 qn018 qh018 qg018 rfl W018 13 rfl (Nat.le_of_ble_eq_true rfl)
  have N018 := Fr.snoc X018 N017 g_b04
  have K018 := K017.wr W018 (Or.inr sz_b04)
  have Z018 := Nat.le_trans Z017 (Keep.of_wr W018).1
  have V_b04 : Arv Z h018 b04 k04 .int (16 : Int32) [(.int (9 : Int32)), (.int (10 : Int32)), (.int (13 : Int32)), (.int (32 : Int32)), (.int (0 : Int32)), (.int (11 : Int32)), (.int (12 : Int32)), (.int (160 : Int32)), (.int (133 : Int32)), (.int (8232 : Int32)), (.int (8233 : Int32)), (.int (12288 : Int32)), (.int (5760 : Int32)), (.int (65568 : Int32)), (.int (0 : Int32)), (.int (0 : Int32))] (.int (0 : Int32)) := V_b04x
  refine stp (fun t k => st018 t k) ?_
  show W (T018.setTop (mkF m 102 #[.val (.int p0), .val (.int p1), .val (.int (f1 p0)), .unset, .unset, .unset] [(.ref b04)]))
  refine stp (fun t k => XS.dup X018.here hx rfl (hb hby at_102) rfl rfl k) ?_
  show W (T018.setTop (mkF m 103 #[.val (.int p0), .val (.int p1), .val (.int (f1 p0)), .unset, .unset, .unset] [(.ref b04), (.ref b04)]))
  refine stp (fun t k => XS.bipush X018.here hx rfl (hb hby at_103) k) ?_
  show W (T018.setTop (mkF m 105 #[.val (.int p0), .val (.int p1), .val (.int (f1 p0)), .unset, .unset, .unset] [(.int (14 : Int32)), (.ref b04), (.ref b04)]))
  refine stp (fun t k => X018.ldcInt hx hown (mvT hZ (hw _ (List.mem_of_getElem? (i := 10) rfl))) (g := (mkF m 105 #[.val (.int p0), .val (.int p1), .val (.int (f1 p0)), .unset, .unset, .unset] [(.int (14 : Int32)), (.ref b04), (.ref b04)])) rfl (hb hby at_105) _ k) ?_
  show W (T018.setTop (mkF m 107 #[.val (.int p0), .val (.int p1), .val (.int (f1 p0)), .unset, .unset, .unset] [(.int (65545 : Int32)), (.int (14 : Int32)), (.ref b04), (.ref b04)]))
  obtain ⟨cl019, Ar019, qk019, qs019, qn019, qh019, qg019⟩ := id V_b04
  have hin019 : ¬ ((14 : Int32) < 0 ∨ cl019.slots.size ≤ ((14 : Int32)).toNatClampNeg) := inb_of qs019 ⟨by decide, by decide⟩
  obtain ⟨T019, h019, X019, e019, W019, st019⟩ := stI X018 hx hZ e018 Ar019 (j := (14 : Int32)) hin019 (g := (mkF m 107 #[.val (.int p0), .val (.int p1), .val (.int (f1 p0)), .unset, .unset, .unset] [(.int (65545 : Int32)), (.int (14 : Int32)), (.ref b04), (.ref b04)])) rfl rfl (hb hby at_107)
  have V_b04x := Arv.set Ar019 qk019 qs019 qn019 qh019 qg019 rfl W019 14 rfl (Nat.le_of_ble_eq_true rfl)
  have N019 := Fr.snoc X019 N018 g_b04
  have K019 := K018.wr W019 (Or.inr sz_b04)
  have Z019 := Nat.le_trans Z018 (Keep.of_wr W019).1
  have V_b04 : Arv Z h019 b04 k04 .int (16 : Int32) [(.int (9 : Int32)), (.int (10 : Int32)), (.int (13 : Int32)), (.int (32 : Int32)), (.int (0 : Int32)), (.int (11 : Int32)), (.int (12 : Int32)), (.int (160 : Int32)), (.int (133 : Int32)), (.int (8232 : Int32)), (.int (8233 : Int32)), (.int (12288 : Int32)), (.int (5760 : Int32)), (.int (65568 : Int32)), (.int (65545 : Int32)), (.int (0 : Int32))] (.int (0 : Int32)) := V_b04x
  refine stp (fun t k => st019 t k) ?_
  show W (T019.setTop (mkF m 108 #[.val (.int p0), .val (.int p1), .val (.int (f1 p0)), .unset, .unset, .unset] [(.ref b04)]))
  refine stp (fun t k => XS.dup X019.here hx rfl (hb hby at_108) rfl rfl k) ?_
  show W (T019.setTop (mkF m 109 #[.val (.int p0), .val (.int p1), .val (.int (f1 p0)), .unset, .unset, .unset] [(.ref b04), (.ref b04)]))
  refine stp (fun t k => XS.bipush X019.here hx rfl (hb hby at_109) k) ?_
  show W (T019.setTop (mkF m 111 #[.val (.int p0), .val (.int p1), .val (.int (f1 p0)), .unset, .unset, .unset] [(.int (15 : Int32)), (.ref b04), (.ref b04)]))
  refine stp (fun t k => XS.bipush X019.here hx rfl (hb hby at_111) k) ?_
  show W (T019.setTop (mkF m 113 #[.val (.int p0), .val (.int p1), .val (.int (f1 p0)), .unset, .unset, .unset] [(.int (-32 : Int32)), (.int (15 : Int32)), (.ref b04), (.ref b04)]))
  obtain ⟨cl020, Ar020, qk020, qs020, qn020, qh020, qg020⟩ := id V_b04
  have hin020 : ¬ ((15 : Int32) < 0 ∨ cl020.slots.size ≤ ((15 : Int32)).toNatClampNeg) := inb_of qs020 ⟨by decide, by decide⟩
  obtain ⟨T020, h020, X020, e020, W020, st020⟩ := stI X019 hx hZ e019 Ar020 (j := (15 : Int32)) hin020 (g := (mkF m 113 #[.val (.int p0), .val (.int p1), .val (.int (f1 p0)), .unset, .unset, .unset] [(.int (-32 : Int32)), (.int (15 : Int32)), (.ref b04), (.ref b04)])) rfl rfl (hb hby at_113)
  have V_b04x := Arv.set Ar020 qk020 qs020 qn020 qh020 qg020 rfl W020 15 rfl (Nat.le_of_ble_eq_true rfl)
  have N020 := Fr.snoc X020 N019 g_b04
  have K020 := K019.wr W020 (Or.inr sz_b04)
  have Z020 := Nat.le_trans Z019 (Keep.of_wr W020).1
  have V_b04 : Arv Z h020 b04 k04 .int (16 : Int32) [(.int (9 : Int32)), (.int (10 : Int32)), (.int (13 : Int32)), (.int (32 : Int32)), (.int (0 : Int32)), (.int (11 : Int32)), (.int (12 : Int32)), (.int (160 : Int32)), (.int (133 : Int32)), (.int (8232 : Int32)), (.int (8233 : Int32)), (.int (12288 : Int32)), (.int (5760 : Int32)), (.int (65568 : Int32)), (.int (65545 : Int32)), (.int (-32 : Int32))] (.int (0 : Int32)) := V_b04x
  refine stp (fun t k => st020 t k) ?_
  show W (T020.setTop (mkF m 114 #[.val (.int p0), .val (.int p1), .val (.int (f1 p0)), .unset, .unset, .unset] [(.ref b04)]))
  refine stp (fun t k => XS.astoreN X020.here hx rfl (hb hby at_114) rfl rfl (l' := #[.val (.int p0), .val (.int p1), .val (.int (f1 p0)), .val (.ref b04), .unset, .unset]) rfl k) ?_
  show W (T020.setTop (mkF m 115 #[.val (.int p0), .val (.int p1), .val (.int (f1 p0)), .val (.ref b04), .unset, .unset] []))
  refine stp (fun t k => XS.iloadN X020.here hx rfl (hb hby at_115) rfl k) ?_
  show W (T020.setTop (mkF m 116 #[.val (.int p0), .val (.int p1), .val (.int (f1 p0)), .val (.ref b04), .unset, .unset] [(.int p1)]))
  refine stp (fun t k => XS.bipush X020.here hx rfl (hb hby at_116) k) ?_
  show W (T020.setTop (mkF m 118 #[.val (.int p0), .val (.int p1), .val (.int (f1 p0)), .val (.ref b04), .unset, .unset] [(.int (15 : Int32)), (.int p1)]))
  refine stp (fun t k => XS.iand X020.here hx rfl (hb hby at_118) rfl k) ?_
  show W (T020.setTop (mkF m 119 #[.val (.int p0), .val (.int p1), .val (.int (f1 p0)), .val (.ref b04), .unset, .unset] [(.int (p1 &&& (15 : Int32)))]))
  refine stp (fun t k => XS.istore X020.here hx rfl (hb hby at_119) rfl (l' := #[.val (.int p0), .val (.int p1), .val (.int (f1 p0)), .val (.ref b04), .val (.int (p1 &&& (15 : Int32))), .unset]) rfl k) ?_
  show W (T020.setTop (mkF m 121 #[.val (.int p0), .val (.int p1), .val (.int (f1 p0)), .val (.ref b04), .val (.int (p1 &&& (15 : Int32))), .unset] []))
  refine stp (fun t k => XS.iload X020.here hx rfl (hb hby at_121) rfl k) ?_
  show W (T020.setTop (mkF m 123 #[.val (.int p0), .val (.int p1), .val (.int (f1 p0)), .val (.ref b04), .val (.int (p1 &&& (15 : Int32))), .unset] [(.int (p1 &&& (15 : Int32)))]))
  refine stp (fun t k => XS.iconst X020.here hx rfl (hb hby at_123) k) ?_
  show W (T020.setTop (mkF m 124 #[.val (.int p0), .val (.int p1), .val (.int (f1 p0)), .val (.ref b04), .val (.int (p1 &&& (15 : Int32))), .unset] [(.int (4 : Int32)), (.int (p1 &&& (15 : Int32)))]))
  have J0_132_23 : ∀ (T023 : State) (lc023 : List Loc) (v0_22 : Int32) (hv0_22 : v0_22 = (if (p1 &&& (15 : Int32)) < (4 : Int32) then (1 : Int32) else (0 : Int32))) (X023 : Stand p l e room_1 s m #[(.int p0), (.int p1)] below meth c T023 lc023 1 16) (e023 : T023.heap = h020) (N023 : Fr n0 lc023), W (T023.setTop (mkF m 132 #[.val (.int p0), .val (.int p1), .val (.int (f1 p0)), .val (.ref b04), .val (.int (p1 &&& (15 : Int32))), .unset] [(.int v0_22)])) := by
    intro T023 lc023 v0_22 hv0_22  X023 e023 N023
    show W (T023.setTop (mkF m 132 #[.val (.int p0), .val (.int p1), .val (.int (f1 p0)), .val (.ref b04), .val (.int (p1 &&& (15 : Int32))), .unset] [(.int v0_22)]))
    refine stp (fun t k => XS.istore X023.here hx rfl (hb hby at_132) rfl (l' := #[.val (.int p0), .val (.int p1), .val (.int (f1 p0)), .val (.ref b04), .val (.int (p1 &&& (15 : Int32))), .val (.int v0_22)]) rfl k) ?_
    show W (T023.setTop (mkF m 134 #[.val (.int p0), .val (.int p1), .val (.int (f1 p0)), .val (.ref b04), .val (.int (p1 &&& (15 : Int32))), .val (.int v0_22)] []))
    refine stp (fun t k => XS.aloadN X023.here hx rfl (hb hby at_134) rfl rfl k) ?_
    show W (T023.setTop (mkF m 135 #[.val (.int p0), .val (.int p1), .val (.int (f1 p0)), .val (.ref b04), .val (.int (p1 &&& (15 : Int32))), .val (.int v0_22)] [(.ref b04)]))
    refine stp (fun t k => XS.iload X023.here hx rfl (hb hby at_135) rfl k) ?_
    show W (T023.setTop (mkF m 137 #[.val (.int p0), .val (.int p1), .val (.int (f1 p0)), .val (.ref b04), .val (.int (p1 &&& (15 : Int32))), .val (.int v0_22)] [(.int (p1 &&& (15 : Int32))), (.ref b04)]))
    obtain ⟨cl024, Ar024, qk024, qs024, qn024, qh024, qg024⟩ := id V_b04
    have hin024 : ¬ ((p1 &&& (15 : Int32)) < 0 ∨ cl024.slots.size ≤ ((p1 &&& (15 : Int32))).toNatClampNeg) := inb_of qs024 (own_rng p1)
    have hat024 : cl024.slots[((p1 &&& (15 : Int32))).toNatClampNeg]? = some (.int (own_tab (p1 &&& (15 : Int32)))) := qh024.at hin024 (own_tabv (p1 &&& (15 : Int32)))
    refine stp (fun t k => X023.iaload hx (j := (p1 &&& (15 : Int32))) (v := (.int (own_tab (p1 &&& (15 : Int32))))) (by rw [e023]; exact Ar024.1) (State.isArrayOf_alike hZ.alike Ar024.2.1) Ar024.2.2 hin024 hat024 (g := (mkF m 137 #[.val (.int p0), .val (.int p1), .val (.int (f1 p0)), .val (.ref b04), .val (.int (p1 &&& (15 : Int32))), .val (.int v0_22)] [(.int (p1 &&& (15 : Int32))), (.ref b04)])) rfl rfl (hb hby at_137) _ k) ?_
    show W (T023.setTop (mkF m 138 #[.val (.int p0), .val (.int p1), .val (.int (f1 p0)), .val (.ref b04), .val (.int (p1 &&& (15 : Int32))), .val (.int v0_22)] [(.int (own_tab (p1 &&& (15 : Int32))))]))
    obtain ⟨_, _, ⟨T0c25, L0c25, k0c25, n0c25⟩, -, X0c25, ⟨Lc0c25, hQ0c25, l0c25, y0c25, z0c25⟩, st0c25⟩ := Jvm.LawKit.callS X023 hx (y := (⟨"com/example/opuscule/opuscule/record/XmlSpace", "isSpace", "(I)Z"⟩ : MethodName)) hown (mvT hZ (hw _ (List.mem_of_getElem? (i := 0) rfl))) (mvT hZ (hw _ (List.mem_of_getElem? (i := 1) rfl))) (mvT hZ (hw _ (List.mem_of_getElem? (i := 2) rfl))) (mvT hZ (hw _ (List.mem_of_getElem? (i := 3) rfl))) (by decide) (backOf (W := 0) (rm1 l Z aa hw [] (own_tab (p1 &&& (15 : Int32)))  h020 n0 Z020 ) hZ (hw _ (List.mem_of_getElem? (i := 3) rfl)) (hw _ (List.mem_of_getElem? (i := 2) rfl)) (by decide) (by decide)) (g := (mkF m 138 #[.val (.int p0), .val (.int p1), .val (.int (f1 p0)), .val (.ref b04), .val (.int (p1 &&& (15 : Int32))), .val (.int v0_22)] [(.int (own_tab (p1 &&& (15 : Int32))))])) rfl (by rw [hml]; rfl) (argsL := [(.int (own_tab (p1 &&& (15 : Int32))))]) (rest := []) (lenOf pd0_0 rfl) rfl (by show 2 * 0 + _ ≤ _; exact Nat.le_of_eq rfl) (hb hby at_138) (fun _ _ => ⟨rfl, e023, (by decide : 1 + 0 ≤ _), (by decide : 16 + 0 ≤ _)⟩)
    dsimp only [Pt.U, Pt.locs, Pt.cells, Pt.slots] at X0c25 l0c25 y0c25 z0c25 st0c25 hQ0c25
    subst l0c25 y0c25 z0c25
    obtain ⟨rfl, N0c25q, e0c25⟩ := hQ0c25
    have N0c25 := Fr.app N023 N0c25q
    refine stp (fun t k => st0c25 t k) ?_
    show W (T0c25.setTop (mkF m 141 #[.val (.int p0), .val (.int p1), .val (.int (f1 p0)), .val (.ref b04), .val (.int (p1 &&& (15 : Int32))), .val (.int v0_22)] [(.int (f1 (own_tab (p1 &&& (15 : Int32)))))]))
    refine stp (fun t k => XS.iload X0c25.here hx rfl (hb hby at_141) rfl k) ?_
    show W (T0c25.setTop (mkF m 143 #[.val (.int p0), .val (.int p1), .val (.int (f1 p0)), .val (.ref b04), .val (.int (p1 &&& (15 : Int32))), .val (.int v0_22)] [(.int v0_22), (.int (f1 (own_tab (p1 &&& (15 : Int32)))))]))
    refine stp (fun t k => XS.icmpNo X0c25.here hx rfl (hb hby at_143) rfl ((teq (by subst hv0_22; exact own_0_143_26 p0 p1  )).2) k) ?_
    show W (T0c25.setTop (mkF m 146 #[.val (.int p0), .val (.int p1), .val (.int (f1 p0)), .val (.ref b04), .val (.int (p1 &&& (15 : Int32))), .val (.int v0_22)] []))
    refine stp (fun t k => XS.iconst X0c25.here hx rfl (hb hby at_146) k) ?_
    show W (T0c25.setTop (mkF m 147 #[.val (.int p0), .val (.int p1), .val (.int (f1 p0)), .val (.ref b04), .val (.int (p1 &&& (15 : Int32))), .val (.int v0_22)] [(.int (1 : Int32))]))
    refine stp (fun t k => XS.goto X0c25.here hx rfl (pc0 := 147) (pc' := 151) rfl (hb hby at_147) (by decide) (by decide) k) ?_
    show W (T0c25.setTop (mkF m 151 #[.val (.int p0), .val (.int p1), .val (.int (f1 p0)), .val (.ref b04), .val (.int (p1 &&& (15 : Int32))), .val (.int v0_22)] [(.int (1 : Int32))]))
    show W (T0c25.setTop (mkF m 151 #[.val (.int p0), .val (.int p1), .val (.int (f1 p0)), .val (.ref b04), .val (.int (p1 &&& (15 : Int32))), .val (.int v0_22)] [(.int (1 : Int32))]))
    rw [← hW]
    exact own_retN X0c25 hx Bd.notSynchronized Bd.returns (w := (1 : Int32)) (by simp) (hb hby at_151) rfl (by show Q0 Z p0 p1 h0 n0 _ T0c25.heap _; rw [e0c25]; exact ⟨rfl, N0c25⟩) (by decide) (by decide)
  by_cases hc0_21 : (p1 &&& (15 : Int32)) < (4 : Int32)
  · refine stp (fun t k => XS.icmpNo X020.here hx rfl (hb hby at_124) rfl ((tlt hc0_21).2.1) k) ?_
    show W (T020.setTop (mkF m 127 #[.val (.int p0), .val (.int p1), .val (.int (f1 p0)), .val (.ref b04), .val (.int (p1 &&& (15 : Int32))), .unset] []))
    refine stp (fun t k => XS.iconst X020.here hx rfl (hb hby at_127) k) ?_
    show W (T020.setTop (mkF m 128 #[.val (.int p0), .val (.int p1), .val (.int (f1 p0)), .val (.ref b04), .val (.int (p1 &&& (15 : Int32))), .unset] [(.int (1 : Int32))]))
    refine stp (fun t k => XS.goto X020.here hx rfl (pc0 := 128) (pc' := 132) rfl (hb hby at_128) (by decide) (by decide) k) ?_
    show W (T020.setTop (mkF m 132 #[.val (.int p0), .val (.int p1), .val (.int (f1 p0)), .val (.ref b04), .val (.int (p1 &&& (15 : Int32))), .unset] [(.int (1 : Int32))]))
    exact J0_132_23 _ _ (1 : Int32) (by first | rfl | simp only [if_pos hc0_21]) X020 e020 N020
  · refine stp (fun t k => XS.icmpYes X020.here hx rfl (pc0 := 124) (pc' := 131) rfl (hb hby at_124) rfl ((flt hc0_21).2.1) (by decide) (by decide) k) ?_
    show W (T020.setTop (mkF m 131 #[.val (.int p0), .val (.int p1), .val (.int (f1 p0)), .val (.ref b04), .val (.int (p1 &&& (15 : Int32))), .unset] []))
    refine stp (fun t k => XS.iconst X020.here hx rfl (hb hby at_131) k) ?_
    show W (T020.setTop (mkF m 132 #[.val (.int p0), .val (.int p1), .val (.int (f1 p0)), .val (.ref b04), .val (.int (p1 &&& (15 : Int32))), .unset] [(.int (0 : Int32))]))
    exact J0_132_23 _ _ (0 : Int32) (by first | rfl | simp only [if_neg hc0_21]) X020 e020 N020
set_option maxRecDepth 65536 in
set_option maxHeartbeats 40000000 in
theorem comes_1 {Post : Tables → Env → Array Value → State → Outcome → State → Prop} (hpost : ∀ tb e args s v u, (limb_1_1.after args s (.returned v) u = true ∧ limb_1_2.after args s (.returned v) u = true ∧ True) → FrameEnd s (.returned v) u (Jvm.fieldLocs frame_1_writes args s ++ Jvm.arrayLocs frame_1_arrays args s ++ Jvm.staticLocs frame_1_statics s) 16 128 → Post tb e args s (.returned v) u) :
    ArmFor flags0 classFile x code maxLocals ret World_1 tables_1 room_1 Calls_1 rest_1 Pre_1 Post := by
  intro l hfl _ _ p e ha hc hk s m args below hf hA hF happ hP
  obtain ⟨hcalls, hrest, hpre⟩ := hP
  obtain ⟨-, -, -, hnamed, -, -, -, hat⟩ := (Spec.applies_iff hf).mp happ
  obtain ⟨hg, hn⟩ := and_e (Cond.before_iff.mp (show (Jvm.Cond.and given_1 narrow_1).before args s = true from hpre))
  obtain ⟨gc, hg⟩ := and_e hg
  obtain ⟨g0, hg⟩ := and_e hg
  have g1 := hg
  obtain ⟨w0, w1, rfl⟩ : ∃ w0 w1 : Value, args = #[w0, w1] := by
    have hs : args.size = 2 := by simpa [Cond.value, given_1] using gc
    obtain ⟨L⟩ := args
    match L, hs with
    | [w0, w1], _ => exact ⟨w0, w1, rfl⟩
  have hw := fun d (hd : d ∈ tables_1) => atoms_spec (ws := Jvm.Cond.code x code maxLocals ret :: tables_1) hat d (List.mem_cons_of_mem _ hd)
  have hfit : Fit s := fun {y c} hc i hi => by
    obtain ⟨ha, rfl⟩ := Array.getElem?_eq_some_iff.mp hc
    have q := List.all_eq_true.mp ((Array.all_eq_true_iff_forall_mem.mp hF) _ (Array.getElem_mem ha)) i (List.mem_range.mpr hi)
    simpa [Array.getElem?_eq_getElem hi] using q
  obtain ⟨i0, ei0⟩ := is_v g0
  obtain rfl : w0 = (.int i0) := Option.some.inj ei0
  obtain ⟨i1, ei1⟩ := is_v g1
  obtain rfl : w1 = (.int i1) := Option.some.inj ei1
  obtain ⟨n, o, h1, h2, h3, _, L, rfl, ⟨rfl, N⟩, hq⟩ := rm0 l s _ hw tables_1 i0 i1 s.heap s.heap.size (Nat.le_refl _) p e ha hc hk s m _ below hf ((Spec.applies_iff_loose hf).mp happ).1 ⟨rfl, State.Warmed39.refl s, rfl⟩ trivial
  refine ⟨n, _, h1, h2, h3, hpost _ _ _ _ _ _ ⟨Cond.after_iff.mpr rfl, Cond.after_iff.mpr (eq_i res_at (Term.int_eval (1)) rfl), trivial⟩ ⟨hq.1, hq.2.1, (hq.2.2.sift fun y hy => Or.inr (N y hy)).mono (by decide) (by decide)⟩⟩
theorem main_1_1 : Claimed_1_1 := comes_1 fun _ _ _ _ _ _ h hF => ⟨h.1, hF⟩
theorem main_1_2 : Claimed_1_2 := comes_1 fun _ _ _ _ _ _ h hF => ⟨h.2.1, hF⟩
end Jvm.Pilot.@@N@@
namespace Jvm.Pilot.@@N@@
open Jvm Jvm.ClassFile Sem Op Lib Jvm.Free Jvm.Stand Jvm.Pilot.@@N@@.Jvm.D
/-! MADE BY PROGRAM (witnessworld.py) out of the Statement's table words and the real class files: 9 classes; the members and pool entries that the words name. The judged class is class 1, her method 2. -/
namespace start1
open Jvm.ClassFile
def u (s : String) : CpInfo := .utf8 (stringToUtf16 s)
/-- a pool by its gaps: so many unusable entries, then the entry; so many at the end -/
def gap : Nat → List CpInfo → List CpInfo
  | 0, r => r
  | n + 1, r => .unusable :: gap n r
def poolList (es : List (Nat × CpInfo)) (last : Nat) : List CpInfo := es.foldr (fun e r => gap e.1 (e.2 :: r)) (gap last [])
def pool (es : List (Nat × CpInfo)) (last : Nat) : Array CpInfo := ⟨poolList es last⟩
def fileOf (pool : Array CpInfo) (this : Nat) (attrs : Array Attribute := #[]) (ms : Array MethodInfo := #[]) (fl : Nat := 33) (sup : Nat := 0) (ifs : Array Nat := #[]) (fds : Array FieldInfo := #[]) : ClassFile where
  minorVersion := 0
  majorVersion := 65
  constantPool := pool
  accessFlags := fl
  thisClass := this
  superClass := sup
  interfaces := ifs
  fields := fds
  methods := ms
  attributes := attrs
def plain (name : String) (sup : Option ClassId) : Class where
  name := name
  kind := .ordinary
  loader := none
  accessFlags := 33
  super := sup
  interfaces := #[]
  cf := none
  fields := #[]
  methods := #[]
  instanceTypes := #[]
  staticTypes := #[]
  resolved := #[]
  callSites := []
  init := .initialized
  statics := none
  mirror := none

def pool0 : Array CpInfo := pool [(5, u "<init>"), (0, u "()V"), (1, .class_ 10), (1, u "java/lang/Object")] 113

def k0m0 : Method := { name := "<init>", desc := "()V", sig := { parameters := [], returnType := none }, accessFlags := 1, code := none }
/-- java/lang/Object -/
def k0 : Class := { plain "java/lang/Object" none with
  accessFlags := 33
  interfaces := #[]
  cf := some (fileOf pool0 8 #[] #[{ accessFlags := 1, nameIndex := 5, descriptorIndex := 6, attributes := #[] }] 33 0 #[] #[])
  fields := #[]
  methods := #[k0m0]
  instanceTypes := #[]
  staticTypes := #[]
  resolved := Array.replicate 124 none
  statics := none }

def pool1 : Array CpInfo := pool [(2, .class_ 4), (1, u "java/lang/Object"), (0, u "<init>"), (0, u "()V"), (0, .methodref 8 9), (0, .class_ 10), (0, .nameAndType 11 12), (0, u "com/example/opuscule/opuscule/record/XmlSpace"), (0, u "isSpace"), (0, u "(I)Z"), (0, .methodref 14 15), (0, .class_ 16), (0, .nameAndType 17 12), (0, u "com/example/opuscule/opuscule/record/XmlSpaceIsSpacePinLaw"), (0, u "reference"), (0, .integer 65568), (0, .integer 65545), (3, u "law"), (0, u "(II)Z")] 4

def k1m0 : Method := { name := "<init>", desc := "()V", sig := { parameters := [], returnType := none }, accessFlags := 2, code := none }
def k1c1 : Code := { maxStack := 2, maxLocals := 1, code := method_2_code, exceptionTable := #[], attributes := #[] }
def k1m1 : Method := { name := "reference", desc := "(I)Z", sig := { parameters := [.int], returnType := some .boolean }, accessFlags := 10, code := some k1c1 }
def k1c2 : Code := { maxStack := 4, maxLocals := 6, code := code, exceptionTable := #[], attributes := #[] }
def k1m2 : Method := { name := "law", desc := "(II)Z", sig := { parameters := [.int, .int], returnType := some .boolean }, accessFlags := 9, code := some k1c2 }
/-- com/example/opuscule/opuscule/record/XmlSpaceIsSpacePinLaw -/
def k1 : Class := { plain "com/example/opuscule/opuscule/record/XmlSpaceIsSpacePinLaw" (some 0) with
  accessFlags := 49
  interfaces := #[]
  cf := some (fileOf pool1 14 #[] #[{ accessFlags := 2, nameIndex := 5, descriptorIndex := 6, attributes := #[] }, { accessFlags := 10, nameIndex := 17, descriptorIndex := 12, attributes := #[] }, { accessFlags := 9, nameIndex := 23, descriptorIndex := 24, attributes := #[] }] 49 2 #[] #[])
  fields := #[]
  methods := #[k1m0, k1m1, k1m2]
  instanceTypes := #[]
  staticTypes := #[]
  resolved := Array.replicate 29 none
  statics := none }

def pool2 : Array CpInfo := pool [(2, .class_ 4), (1, u "java/lang/Object"), (0, u "<init>"), (0, u "()V"), (11, .class_ 20), (1, u "com/example/opuscule/opuscule/record/XmlSpace"), (0, u "isSpace"), (0, u "(I)Z")] 16

def k2m0 : Method := { name := "<init>", desc := "()V", sig := { parameters := [], returnType := none }, accessFlags := 2, code := none }
def k2c1 : Code := { maxStack := 2, maxLocals := 1, code := prog_49_method_4_code, exceptionTable := #[], attributes := #[] }
def k2m1 : Method := { name := "isSpace", desc := "(I)Z", sig := { parameters := [.int], returnType := some .boolean }, accessFlags := 9, code := some k2c1 }
/-- com/example/opuscule/opuscule/record/XmlSpace -/
def k2 : Class := { plain "com/example/opuscule/opuscule/record/XmlSpace" (some 0) with
  accessFlags := 49
  interfaces := #[]
  cf := some (fileOf pool2 18 #[] #[{ accessFlags := 2, nameIndex := 5, descriptorIndex := 6, attributes := #[] }, { accessFlags := 9, nameIndex := 21, descriptorIndex := 22, attributes := #[] }] 49 2 #[] #[])
  fields := #[]
  methods := #[k2m0, k2m1]
  instanceTypes := #[]
  staticTypes := #[]
  resolved := Array.replicate 39 none
  statics := none }

def pool3 : Array CpInfo := pool [(1, u "java/lang/Cloneable"), (0, .class_ 1), (0, u "java/lang/Object"), (0, .class_ 3)] 3

/-- java/lang/Cloneable -/
def k3 : Class := { plain "java/lang/Cloneable" (some 0) with
  accessFlags := 1537
  interfaces := #[]
  cf := some (fileOf pool3 2 #[] #[] 1537 4 #[] #[])
  fields := #[]
  methods := #[]
  instanceTypes := #[]
  staticTypes := #[]
  resolved := Array.replicate 8 none
  statics := none }

def pool4 : Array CpInfo := pool [(1, u "java/io/Serializable"), (0, .class_ 1), (0, u "java/lang/Object"), (0, .class_ 3)] 3

/-- java/io/Serializable -/
def k4 : Class := { plain "java/io/Serializable" (some 0) with
  accessFlags := 1537
  interfaces := #[]
  cf := some (fileOf pool4 2 #[] #[] 1537 4 #[] #[])
  fields := #[]
  methods := #[]
  instanceTypes := #[]
  staticTypes := #[]
  resolved := Array.replicate 8 none
  statics := none }

/-- the primitive byte -/
def k5 : Class := { plain "byte" none with kind := .primitive 'B', accessFlags := 0x411 }
/-- [B -/
def k6 : Class := { plain "[B" (some 0) with kind := .array 5 .byte, interfaces := #[3, 4], accessFlags := 1041 }

/-- the primitive int -/
def k7 : Class := { plain "int" none with kind := .primitive 'I', accessFlags := 0x411 }
/-- [I -/
def k8 : Class := { plain "[I" (some 0) with kind := .array 7 .int, interfaces := #[3, 4], accessFlags := 1041 }

def heap : Heap := #[]
def classes : Array Class := #[k0, k1, k2, k3, k4, k5, k6, k7, k8]
def interned : List (Array UInt16 × Addr) := []
def slotsUsed : Nat := 0
def theMethod : MethodId := ⟨1, 2⟩
def args0 : Array Value := #[.int 5, .int 3]
def aboutOver (below : List Frame) : State where
  vm := { classes := classes, interned := interned.toArray }
  heap := heap
  slotsUsed := slotsUsed
  threads := #[{ frames := .invoking theMethod args0 :: below }]
def below0 : List Frame := [.native { method := ⟨0, 0⟩, args := #[] }]
def about1 : State := aboutOver below0
def p0 : Program := .bare "" "" ""
def e0 : Env := launch0.env 0 0 0
theorem w_frames : about1.frames = Frame.invoking theMethod args0 :: below0 := rfl
set_option maxRecDepth 65536 in
theorem w_args : argsFit about1.vm theMethod args0 = true := by decide +kernel
set_option maxRecDepth 65536 in
theorem w_heap : heapFits about1 = true := by decide +kernel
set_option maxRecDepth 65536 in
theorem w_runnable : about1.curStatus? = some .runnable := by decide +kernel
set_option maxRecDepth 65536 in
theorem w_alone : about1.alone = true := by decide +kernel
set_option maxRecDepth 65536 in
theorem w_named : about1.methodNamed? x = some theMethod := by decide +kernel
set_option maxRecDepth 65536 in
theorem w_hears : about1.hears theMethod below0 = true := by decide +kernel
set_option maxRecDepth 65536 in
theorem w_ripe : about1.ripe theMethod args0 below0 = true := by decide +kernel
theorem w_running : about1.status = .running := rfl
set_option maxRecDepth 65536 in
theorem w_room : about1.hasRoom e0.platform room_1 = true :=
  launch0.hasRoom_least _ room_1 (by decide +kernel) (by decide +kernel) (by decide +kernel) (by decide +kernel) (by decide +kernel) (by decide +kernel)
theorem allAtoms_all (ts : List Jvm.Cond) (a : Array Jvm.Value) (st : Jvm.State) : (allAtoms ts).before a st = ts.all (fun c => c.before a st) := by
  induction ts with
  | nil => rfl
  | cons c t ih =>
    show (Jvm.Cond.and c (allAtoms t)).before a st = _
    rw [Jvm.Cond.before_and, ih, List.all_cons]
def words1 : List Jvm.Cond := Jvm.Cond.code x code maxLocals ret :: tables_1
/-- a 'code' word, met by the world's own term for the bytes: nothing is compared byte by byte -/
theorem code_word {y : MethodName} {bytes : ByteArray} {mx : Nat} {rt : Option FieldType} {a : Array Value} {s : State} {m : MethodId} {meth : Method} {c : Code} (h1 : s.methodNamed? y = some m) (h2 : s.vm.method? m = some meth) (h3 : meth.code = some c) (h4 : c.code = bytes)
    (h5 : (c.maxLocals == mx && c.exceptionTable.isEmpty && decide (c.maxStack ≤ mostOperands) && decide (meth.sig.returnType = rt) && !meth.locks && decide (parseMethodDescriptor y.desc = some meth.sig)) = true) : (Jvm.Cond.code y bytes mx rt).before a s = true := by
  simp only [Bool.and_eq_true, beq_iff_eq, Bool.not_eq_true', decide_eq_true_eq] at h5
  obtain ⟨⟨⟨⟨⟨g1, g2⟩, g3⟩, g4⟩, g5⟩, g6⟩ := h5
  simp [Cond.before, Cond.holds, Cond.value, h1, h2, h3, h4, g1, g2, g3, g4, g5, g6]
def isCode : Jvm.Cond → Bool
  | .code _ _ _ _ => true
  | _ => false
theorem all_split {L : List Jvm.Cond} {P : Jvm.Cond → Bool} (h1 : L.all (fun c => isCode c || P c) = true) (h2 : ∀ c ∈ L.filter isCode, P c = true) : L.all P = true := by
  refine List.all_eq_true.mpr fun c hc => ?_
  have h := List.all_eq_true.mp h1 c hc
  rcases Bool.eq_false_or_eq_true (isCode c) with hi | hi
  · exact h2 c (List.mem_filter.mpr ⟨hc, hi⟩)
  · simpa [hi] using h
set_option maxRecDepth 65536 in
theorem w_c0 : (Jvm.Cond.code x code maxLocals ret).before args0 about1 = true := code_word (m := ⟨1, 2⟩) (meth := k1m2) (c := k1c2) (by decide +kernel) rfl rfl rfl (by decide +kernel)
set_option maxRecDepth 65536 in
theorem w_c1 : (Jvm.Cond.code ({ cls := "com/example/opuscule/opuscule/record/XmlSpace", name := "isSpace", desc := "(I)Z" } : Jvm.MethodName) prog_49_method_4_code (1 : Nat) (Option.some Jvm.ClassFile.FieldType.boolean)).before args0 about1 = true := code_word (m := ⟨2, 1⟩) (meth := k2m1) (c := k2c1) (by decide +kernel) rfl rfl rfl (by decide +kernel)
set_option maxRecDepth 65536 in
theorem w_c2 : (Jvm.Cond.code ({ cls := "com/example/opuscule/opuscule/record/XmlSpaceIsSpacePinLaw", name := "reference", desc := "(I)Z" } : Jvm.MethodName) method_2_code (1 : Nat) (Option.some Jvm.ClassFile.FieldType.boolean)).before args0 about1 = true := code_word (m := ⟨1, 1⟩) (meth := k1m1) (c := k1c1) (by decide +kernel) rfl rfl rfl (by decide +kernel)
def codes1 : List Jvm.Cond := [Jvm.Cond.code x code maxLocals ret, Jvm.Cond.code ({ cls := "com/example/opuscule/opuscule/record/XmlSpace", name := "isSpace", desc := "(I)Z" } : Jvm.MethodName) prog_49_method_4_code (1 : Nat) (Option.some Jvm.ClassFile.FieldType.boolean), Jvm.Cond.code ({ cls := "com/example/opuscule/opuscule/record/XmlSpaceIsSpacePinLaw", name := "reference", desc := "(I)Z" } : Jvm.MethodName) method_2_code (1 : Nat) (Option.some Jvm.ClassFile.FieldType.boolean)]
set_option maxRecDepth 65536 in
theorem codes_eq : words1.filter isCode = codes1 := rfl
theorem w_codes : ∀ c ∈ words1.filter isCode, c.before args0 about1 = true := by
  rw [codes_eq]
  intro c hc
  simp only [codes1, List.mem_cons, List.not_mem_nil, or_false] at hc
  rcases hc with rfl | rfl | rfl
  · exact w_c0
  · exact w_c1
  · exact w_c2
set_option maxRecDepth 65536 in
theorem w_t1 : words1.all (fun c => isCode c || c.before args0 about1) = true := by decide +kernel
theorem w_tables : (allAtoms (Jvm.Cond.code x code maxLocals ret :: tables_1)).before args0 about1 = true := by
  rw [allAtoms_all]
  show words1.all (fun c => c.before args0 about1) = true
  refine all_split ?_ w_codes
  rw [w_t1]
set_option maxRecDepth 65536 in
theorem w_case : (Jvm.Cond.and given_1 narrow_1).before args0 about1 = true := by decide +kernel
theorem w_applies : (headSpec (Jvm.Cond.code x code maxLocals ret :: tables_1) room_1).applies x e0.platform about1 = true :=
  (Spec.applies_iff w_frames).mpr ⟨w_running, w_runnable, w_alone, w_named, w_hears, w_ripe, w_room, w_tables⟩
theorem atStart : AtStart classFile x code maxLocals ret World_1 tables_1 room_1 Calls_1 rest_1 Pre_1 launch0 p0 e0 about1 theMethod args0 below0 :=
  ⟨lists_1, trivial, launch0.admits_env _ _ _, launch0.least_env, fairChoices_fair.cas, fairChoices_fair.clock, w_frames, w_args, w_heap, w_applies, trivial, trivial, w_case⟩
end start1
theorem witness_1 : WitnessClaimed_1 := ⟨start1.p0, start1.e0, start1.about1, start1.theMethod, start1.args0, start1.below0, start1.atStart⟩
end Jvm.Pilot.@@N@@
