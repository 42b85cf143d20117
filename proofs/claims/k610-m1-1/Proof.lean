import JvmDerived
import JvmDerived.Pilot.@@N@@Statement
import JvmDerived.Pilot.@@N@@Code
set_option linter.unusedVariables false
set_option linter.unusedSimpArgs false
namespace Jvm.Pilot.@@N@@
open Jvm Jvm.ClassFile Sem Op Lib Jvm.Free Jvm.Stand Jvm.LawKit Jvm.RoadKit Bundle Jvm.Pilot.@@N@@.Jvm.D
/-! the walk's goal: from the state A the run ends, returning what Qv says -/
def OwnEnd (p : Program) (e : Env) (below : List Frame) (s : State) (Qv : Option Value → Heap → List Loc → Prop) (k n : Nat) (A : State) : Prop :=
  ∃ s₂ o, Steps p.tables e below A s₂ ∧ s₂.status = .running ∧ Ended s₂ below o ∧ ∃ v L, o = .returned v ∧ Qv v s₂.heap L ∧ FrameEnd s o s₂ L k n
theorem own_step {p : Program} {e : Env} {below : List Frame} {s : State} {Qv : Option Value → Heap → List Loc → Prop} {k n : Nat} {A B : State} (h : ∀ t, Steps p.tables e below B t → Steps p.tables e below A t) (q : OwnEnd p e below s Qv k n B) : OwnEnd p e below s Qv k n A := by
  obtain ⟨s₂, o, h1, h2⟩ := q
  exact ⟨s₂, o, h _ h1, h2⟩
theorem own_arvEq {Z : State} {h : Heap} {a : Addr} {k : ClassId} {ty : FieldType} {z : Int32} {vs vs' : List Value} {d : Value} (e : vs = vs') (F : Arv Z h a k ty z vs d) : Arv Z h a k ty z vs' d := by subst e; exact F
theorem own_fldEq {Z : State} {h : Heap} {a : Addr} {C n d : String} {x y : Int32} (e : x = y) (F : Fld Z h a C n d (.int x)) : Fld Z h a C n d (.int y) := by subst e; exact F
section OwnRet
variable {p : Program} {l : Launch} {e : Env} {R : Room} {s : State} {m : MethodId} {args : Array Value} {below : List Frame} {meth : Method} {c : Code} {T : State} {locs : List Loc} {cells slots k n : Nat} {Qv : Option Value → Heap → List Loc → Prop}
theorem own_retN (X : Stand p l e R s m args below meth c T locs cells slots) (hx : p.tables.exec = Jvm.exec) (hlocks : meth.locks = false) {pc : Nat} {Ls : Array Slot} {z w : Int32} {t : FieldType} {rest : List Value} (hret : meth.sig.returnType = some t) (ht : t = .boolean ∨ t = .byte ∨ t = .char ∨ t = .short) (hd : decode c.code pc = .ok (.ireturn, 1)) (hz : nar t z = w) (hq : Qv (some (.int w)) T.heap locs) (hk : cells ≤ k) (hn : slots ≤ n) :
    OwnEnd p e below s Qv k n (T.setTop (mkF m pc Ls (.int z :: rest))) := by
  obtain ⟨fs, hr, hrun, hended, hW, hsame⟩ := X.leave (v := some (.int w)) (fun h => by rw [hret] at h; cases h) hlocks
  exact ⟨_, _, retN X hx hret ht hd (fs := fs) (by rw [hz]; exact hr), hrun, hended, _, _, rfl, hq, ⟨_, rfl⟩, hW, hsame.mono hk hn⟩
theorem own_retI (X : Stand p l e R s m args below meth c T locs cells slots) (hx : p.tables.exec = Jvm.exec) (hlocks : meth.locks = false) {pc : Nat} {Ls : Array Slot} {z : Int32} {rest : List Value} (hret : meth.sig.returnType = some .int) (hd : decode c.code pc = .ok (.ireturn, 1)) (hq : Qv (some (.int z)) T.heap locs) (hk : cells ≤ k) (hn : slots ≤ n) :
    OwnEnd p e below s Qv k n (T.setTop (mkF m pc Ls (.int z :: rest))) := by
  obtain ⟨fs, hr, hrun, hended, hW, hsame⟩ := X.leave (v := some (.int z)) (fun h => by rw [hret] at h; cases h) hlocks
  refine ⟨T.setFrames fs, _, ?_, hrun, hended, _, _, rfl, hq, ⟨_, rfl⟩, hW, hsame.mono hk hn⟩
  have hm' : T.vm.method? m = some meth := X.method'
  have hn' : narrow .int (.int z) = .int z := rfl
  show Steps p.tables e below (T.setTop { method := m, pc := pc, locals := Ls, stack := _ :: rest, locked := none }) _
  jvm_step X.here [X.here.top, hx, hd, hm', hret, hn']
  first | (intro acts; rw [hr _ acts rfl rfl rfl]) | rw [hr _ _ rfl rfl rfl]
  exact Steps.refl _
theorem own_retJ (X : Stand p l e R s m args below meth c T locs cells slots) (hx : p.tables.exec = Jvm.exec) (hlocks : meth.locks = false) {pc : Nat} {Ls : Array Slot} {z : Int64} {rest : List Value} (hret : meth.sig.returnType = some .long) (hd : decode c.code pc = .ok (.lreturn, 1)) (hq : Qv (some (.long z)) T.heap locs) (hk : cells ≤ k) (hn : slots ≤ n) :
    OwnEnd p e below s Qv k n (T.setTop (mkF m pc Ls (.long z :: rest))) := by
  obtain ⟨fs, hr, hrun, hended, hW, hsame⟩ := X.leave (v := some (.long z)) (fun h => by rw [hret] at h; cases h) hlocks
  refine ⟨T.setFrames fs, _, ?_, hrun, hended, _, _, rfl, hq, ⟨_, rfl⟩, hW, hsame.mono hk hn⟩
  have hm' : T.vm.method? m = some meth := X.method'
  have hn' : narrow .long (.long z) = .long z := rfl
  show Steps p.tables e below (T.setTop { method := m, pc := pc, locals := Ls, stack := _ :: rest, locked := none }) _
  jvm_step X.here [X.here.top, hx, hd, hm', hret, hn']
  first | (intro acts; rw [hr _ acts rfl rfl rfl]) | rw [hr _ _ rfl rfl rfl]
  exact Steps.refl _
theorem own_retD (X : Stand p l e R s m args below meth c T locs cells slots) (hx : p.tables.exec = Jvm.exec) (hlocks : meth.locks = false) {pc : Nat} {Ls : Array Slot} {z : UInt64} {rest : List Value} (hret : meth.sig.returnType = some .double) (hd : decode c.code pc = .ok (.dreturn, 1)) (hq : Qv (some (.double z)) T.heap locs) (hk : cells ≤ k) (hn : slots ≤ n) :
    OwnEnd p e below s Qv k n (T.setTop (mkF m pc Ls (.double z :: rest))) := by
  obtain ⟨fs, hr, hrun, hended, hW, hsame⟩ := X.leave (v := some (.double z)) (fun h => by rw [hret] at h; cases h) hlocks
  refine ⟨T.setFrames fs, _, ?_, hrun, hended, _, _, rfl, hq, ⟨_, rfl⟩, hW, hsame.mono hk hn⟩
  have hm' : T.vm.method? m = some meth := X.method'
  have hn' : narrow .double (.double z) = .double z := rfl
  show Steps p.tables e below (T.setTop { method := m, pc := pc, locals := Ls, stack := _ :: rest, locked := none }) _
  jvm_step X.here [X.here.top, hx, hd, hm', hret, hn']
  first | (intro acts; rw [hr _ acts rfl rfl rfl]) | rw [hr _ _ rfl rfl rfl]
  exact Steps.refl _
theorem own_retR (X : Stand p l e R s m args below meth c T locs cells slots) (hx : p.tables.exec = Jvm.exec) (hlocks : meth.locks = false) {pc : Nat} {Ls : Array Slot} {z : Addr} {t : FieldType} {rest : List Value} (hret : meth.sig.returnType = some t) (ht : t.isReference = true) (hd : decode c.code pc = .ok (.areturn, 1)) (hq : Qv (some (.ref z)) T.heap locs) (hk : cells ≤ k) (hn : slots ≤ n) :
    OwnEnd p e below s Qv k n (T.setTop (mkF m pc Ls (.ref z :: rest))) := by
  obtain ⟨fs, hr, hrun, hended, hW, hsame⟩ := X.leave (v := some (.ref z)) (fun h => by rw [hret] at h; cases h) hlocks
  refine ⟨T.setFrames fs, _, ?_, hrun, hended, _, _, rfl, hq, ⟨_, rfl⟩, hW, hsame.mono hk hn⟩
  have hm' : T.vm.method? m = some meth := X.method'
  show Steps p.tables e below (T.setTop { method := m, pc := pc, locals := Ls, stack := _ :: rest, locked := none }) _
  jvm_step X.here [X.here.top, hx, hd, hm', hret, ht, Value.isRef]
  first | (intro acts; rw [hr _ acts rfl rfl rfl]) | rw [hr _ _ rfl rfl rfl]
  exact Steps.refl _
theorem own_ret0 (X : Stand p l e R s m args below meth c T locs cells slots) (hx : p.tables.exec = Jvm.exec) (hlocks : meth.locks = false) {pc : Nat} {Ls : Array Slot} (hret : meth.sig.returnType = none) (hd : decode c.code pc = .ok (.return_, 1)) (hq : Qv none T.heap locs) (hk : cells ≤ k) (hn : slots ≤ n) :
    OwnEnd p e below s Qv k n (T.setTop (mkF m pc Ls [])) := by
  obtain ⟨fs, hr, hrun, hended, hW, hsame⟩ := X.leave (v := none) (fun _ => rfl) hlocks
  exact ⟨_, _, X.returnOut hx hret hd hr, hrun, hended, _, _, rfl, hq, ⟨_, rfl⟩, hW, hsame.mono hk hn⟩
end OwnRet
theorem d1_0 : decode prog_31_method_10_code 0 = .ok (.iload_n 0, 1) := by decide +kernel
theorem d1_1 : decode prog_31_method_10_code 1 = .ok (.bipush 65, 2) := by decide +kernel
theorem d1_3 : decode prog_31_method_10_code 3 = .ok (.if_icmp .lt 9, 3) := by decide +kernel
theorem d1_6 : decode prog_31_method_10_code 6 = .ok (.iload_n 0, 1) := by decide +kernel
theorem d1_7 : decode prog_31_method_10_code 7 = .ok (.bipush 90, 2) := by decide +kernel
theorem d1_9 : decode prog_31_method_10_code 9 = .ok (.if_icmp .le 15, 3) := by decide +kernel
theorem d1_12 : decode prog_31_method_10_code 12 = .ok (.iload_n 0, 1) := by decide +kernel
theorem d1_13 : decode prog_31_method_10_code 13 = .ok (.bipush 97, 2) := by decide +kernel
theorem d1_15 : decode prog_31_method_10_code 15 = .ok (.if_icmp .lt 13, 3) := by decide +kernel
theorem d1_18 : decode prog_31_method_10_code 18 = .ok (.iload_n 0, 1) := by decide +kernel
theorem d1_19 : decode prog_31_method_10_code 19 = .ok (.bipush 122, 2) := by decide +kernel
theorem d1_21 : decode prog_31_method_10_code 21 = .ok (.if_icmp .gt 7, 3) := by decide +kernel
theorem d1_24 : decode prog_31_method_10_code 24 = .ok (.iconst 1, 1) := by decide +kernel
theorem d1_25 : decode prog_31_method_10_code 25 = .ok (.goto 4, 3) := by decide +kernel
theorem d1_28 : decode prog_31_method_10_code 28 = .ok (.iconst 0, 1) := by decide +kernel
theorem d1_29 : decode prog_31_method_10_code 29 = .ok (.ireturn, 1) := by decide +kernel
theorem pn1 : plainName "com/example/grant3/grant3/Identifier" = true := by first | (simp [plainName, overriddenIn]; done) | decide +kernel
theorem ef1 (m : MethodId) (p0 : Int32) : entryFrame m #[(.int p0)] 1 = mkF m 0 #[.val (.int p0)] [] := by first | (simp [entryFrame, mkF, argsToLocals, Value.category]; done) | rfl
def f1 (p0 : Int32) : Int32 := (if p0 < (65 : Int32) then (if p0 < (97 : Int32) then (0 : Int32) else (if (122 : Int32) < p0 then (0 : Int32) else (1 : Int32))) else (if (90 : Int32) < p0 then (if p0 < (97 : Int32) then (0 : Int32) else (if (122 : Int32) < p0 then (0 : Int32) else (1 : Int32))) else (1 : Int32)))
def Q1 (Z : State) (p0 : Int32) (h0 : Heap) (n0 : Nat) (v : Option Value) (h : Heap) (L : List Loc) : Prop := v = some (.int (f1 p0)) ∧ Fr n0 L ∧ h = h0
set_option maxRecDepth 65536 in
set_option maxHeartbeats 40000000 in
theorem rm1 (l : Launch) (Z : State) (aa : Array Value) (hw : ∀ d ∈ tables_1, d.before aa Z = true) (ws : List Jvm.Cond) (p0 : Int32) (h0 : Heap) (n0 : Nat) (Z0 : n0 ≤ h0.size) :
    MetFree l (⟨"com/example/grant3/grant3/Identifier", "isAsciiLetter", "(C)Z"⟩ : MethodName) (head1 (Jvm.Cond.code (⟨"com/example/grant3/grant3/Identifier", "isAsciiLetter", "(C)Z"⟩ : MethodName) prog_31_method_10_code 1 (some .boolean) :: ws) ({ frames := 0, cells := 0, slots := 0, locals := 0 } : Room)) (fun a U => a = #[(.int p0)] ∧ Z.Warmed39 U.vm ∧ U.heap = h0) (fun _ _ _ _ _ => True) (fun _ U o U' => ∃ v L, o = .returned v ∧ Q1 Z p0 h0 n0 v U'.heap L ∧ FrameEnd U o U' L ({ frames := 0, cells := 0, slots := 0, locals := 0 } : Room).cells ({ frames := 0, cells := 0, slots := 0, locals := 0 } : Room).slots) := by
  refine MetFree.of_bodySF (plainFor_of_name pn1) hisR ?_
  intro p e s m args below meth c s₁ Bd hml0 hP hK
  obtain ⟨rfl, hZ, hh⟩ := hP
  have hx := Bd.exec
  have hby := Bd.bytes
  have hml : c.maxLocals = 1 := hml0
  have hown : s.vm.findClass "com/example/grant3/grant3/Identifier" = some m.cls := findClass_of_methodNamed Bd.named
  have hnm := (name_of_methodNamed Bd.named Bd.method).1
  have X0 : Stand p l e ({ frames := 0, cells := 0, slots := 0, locals := 0 } : Room) s m #[(.int p0)] below meth c s₁ [] 0 0 := Stand.of_body Bd
  have e0 : s₁.heap = h0 := by rw [← hh, Bd.state]; rfl
  have N0 := Fr.nil n0
  show OwnEnd p e below s (fun v h L => Q1 Z p0 h0 n0 v h L) ({ frames := 0, cells := 0, slots := 0, locals := 0 } : Room).cells ({ frames := 0, cells := 0, slots := 0, locals := 0 } : Room).slots (s₁.setTop (entryFrame m #[(.int p0)] 1))
  rw [ef1 m p0]
  generalize hW : OwnEnd p e below s (fun v h L => Q1 Z p0 h0 n0 v h L) ({ frames := 0, cells := 0, slots := 0, locals := 0 } : Room).cells ({ frames := 0, cells := 0, slots := 0, locals := 0 } : Room).slots = W
  have stp : ∀ {A B : State}, (∀ t, Steps p.tables e below B t → Steps p.tables e below A t) → W B → W A := by subst hW; exact own_step
  show W (s₁.setTop (mkF m 0 #[.val (.int p0)] []))
  refine stp (fun t k => XS.iloadN X0.here hx rfl (hb hby d1_0) rfl k) ?_
  show W (s₁.setTop (mkF m 1 #[.val (.int p0)] [(.int p0)]))
  refine stp (fun t k => XS.bipush X0.here hx rfl (hb hby d1_1) k) ?_
  show W (s₁.setTop (mkF m 3 #[.val (.int p0)] [(.int (65 : Int32)), (.int p0)]))
  by_cases hc1_1 : p0 < (65 : Int32)
  · refine stp (fun t k => XS.icmpYes X0.here hx rfl (pc0 := 3) (pc' := 12) rfl (hb hby d1_3) rfl ((tlt hc1_1).1) (by decide) (by decide) k) ?_
    show W (s₁.setTop (mkF m 12 #[.val (.int p0)] []))
    refine stp (fun t k => XS.iloadN X0.here hx rfl (hb hby d1_12) rfl k) ?_
    show W (s₁.setTop (mkF m 13 #[.val (.int p0)] [(.int p0)]))
    refine stp (fun t k => XS.bipush X0.here hx rfl (hb hby d1_13) k) ?_
    show W (s₁.setTop (mkF m 15 #[.val (.int p0)] [(.int (97 : Int32)), (.int p0)]))
    by_cases hc1_2 : p0 < (97 : Int32)
    · refine stp (fun t k => XS.icmpYes X0.here hx rfl (pc0 := 15) (pc' := 28) rfl (hb hby d1_15) rfl ((tlt hc1_2).1) (by decide) (by decide) k) ?_
      show W (s₁.setTop (mkF m 28 #[.val (.int p0)] []))
      refine stp (fun t k => XS.iconst X0.here hx rfl (hb hby d1_28) k) ?_
      show W (s₁.setTop (mkF m 29 #[.val (.int p0)] [(.int (0 : Int32))]))
      show W (s₁.setTop (mkF m 29 #[.val (.int p0)] [(.int (0 : Int32))]))
      rw [← hW]
      exact own_retN X0 hx Bd.notSynchronized Bd.returns (w := (0 : Int32)) (by simp) (hb hby d1_29) rfl (by show Q1 Z p0 h0 n0 _ s₁.heap _; rw [e0]; exact ⟨(by rw [f1, if_pos hc1_1, if_pos hc1_2]), N0, rfl⟩) (by decide) (by decide)
    · refine stp (fun t k => XS.icmpNo X0.here hx rfl (hb hby d1_15) rfl ((flt hc1_2).1) k) ?_
      show W (s₁.setTop (mkF m 18 #[.val (.int p0)] []))
      refine stp (fun t k => XS.iloadN X0.here hx rfl (hb hby d1_18) rfl k) ?_
      show W (s₁.setTop (mkF m 19 #[.val (.int p0)] [(.int p0)]))
      refine stp (fun t k => XS.bipush X0.here hx rfl (hb hby d1_19) k) ?_
      show W (s₁.setTop (mkF m 21 #[.val (.int p0)] [(.int (122 : Int32)), (.int p0)]))
      by_cases hc1_3 : (122 : Int32) < p0
      · refine stp (fun t k => XS.icmpYes X0.here hx rfl (pc0 := 21) (pc' := 28) rfl (hb hby d1_21) rfl ((tlt hc1_3).2.2.1) (by decide) (by decide) k) ?_
        show W (s₁.setTop (mkF m 28 #[.val (.int p0)] []))
        refine stp (fun t k => XS.iconst X0.here hx rfl (hb hby d1_28) k) ?_
        show W (s₁.setTop (mkF m 29 #[.val (.int p0)] [(.int (0 : Int32))]))
        show W (s₁.setTop (mkF m 29 #[.val (.int p0)] [(.int (0 : Int32))]))
        rw [← hW]
        exact own_retN X0 hx Bd.notSynchronized Bd.returns (w := (0 : Int32)) (by simp) (hb hby d1_29) rfl (by show Q1 Z p0 h0 n0 _ s₁.heap _; rw [e0]; exact ⟨(by rw [f1, if_pos hc1_1, if_neg hc1_2, if_pos hc1_3]), N0, rfl⟩) (by decide) (by decide)
      · refine stp (fun t k => XS.icmpNo X0.here hx rfl (hb hby d1_21) rfl ((flt hc1_3).2.2.1) k) ?_
        show W (s₁.setTop (mkF m 24 #[.val (.int p0)] []))
        refine stp (fun t k => XS.iconst X0.here hx rfl (hb hby d1_24) k) ?_
        show W (s₁.setTop (mkF m 25 #[.val (.int p0)] [(.int (1 : Int32))]))
        refine stp (fun t k => XS.goto X0.here hx rfl (pc0 := 25) (pc' := 29) rfl (hb hby d1_25) (by decide) (by decide) k) ?_
        show W (s₁.setTop (mkF m 29 #[.val (.int p0)] [(.int (1 : Int32))]))
        show W (s₁.setTop (mkF m 29 #[.val (.int p0)] [(.int (1 : Int32))]))
        rw [← hW]
        exact own_retN X0 hx Bd.notSynchronized Bd.returns (w := (1 : Int32)) (by simp) (hb hby d1_29) rfl (by show Q1 Z p0 h0 n0 _ s₁.heap _; rw [e0]; exact ⟨(by rw [f1, if_pos hc1_1, if_neg hc1_2, if_neg hc1_3]), N0, rfl⟩) (by decide) (by decide)
  · refine stp (fun t k => XS.icmpNo X0.here hx rfl (hb hby d1_3) rfl ((flt hc1_1).1) k) ?_
    show W (s₁.setTop (mkF m 6 #[.val (.int p0)] []))
    refine stp (fun t k => XS.iloadN X0.here hx rfl (hb hby d1_6) rfl k) ?_
    show W (s₁.setTop (mkF m 7 #[.val (.int p0)] [(.int p0)]))
    refine stp (fun t k => XS.bipush X0.here hx rfl (hb hby d1_7) k) ?_
    show W (s₁.setTop (mkF m 9 #[.val (.int p0)] [(.int (90 : Int32)), (.int p0)]))
    by_cases hc1_4 : (90 : Int32) < p0
    · refine stp (fun t k => XS.icmpNo X0.here hx rfl (hb hby d1_9) rfl ((tlt hc1_4).2.2.2) k) ?_
      show W (s₁.setTop (mkF m 12 #[.val (.int p0)] []))
      refine stp (fun t k => XS.iloadN X0.here hx rfl (hb hby d1_12) rfl k) ?_
      show W (s₁.setTop (mkF m 13 #[.val (.int p0)] [(.int p0)]))
      refine stp (fun t k => XS.bipush X0.here hx rfl (hb hby d1_13) k) ?_
      show W (s₁.setTop (mkF m 15 #[.val (.int p0)] [(.int (97 : Int32)), (.int p0)]))
      by_cases hc1_5 : p0 < (97 : Int32)
      · refine stp (fun t k => XS.icmpYes X0.here hx rfl (pc0 := 15) (pc' := 28) rfl (hb hby d1_15) rfl ((tlt hc1_5).1) (by decide) (by decide) k) ?_
        show W (s₁.setTop (mkF m 28 #[.val (.int p0)] []))
        refine stp (fun t k => XS.iconst X0.here hx rfl (hb hby d1_28) k) ?_
        show W (s₁.setTop (mkF m 29 #[.val (.int p0)] [(.int (0 : Int32))]))
        show W (s₁.setTop (mkF m 29 #[.val (.int p0)] [(.int (0 : Int32))]))
        rw [← hW]
        exact own_retN X0 hx Bd.notSynchronized Bd.returns (w := (0 : Int32)) (by simp) (hb hby d1_29) rfl (by show Q1 Z p0 h0 n0 _ s₁.heap _; rw [e0]; exact ⟨(by rw [f1, if_neg hc1_1, if_pos hc1_4, if_pos hc1_5]), N0, rfl⟩) (by decide) (by decide)
      · refine stp (fun t k => XS.icmpNo X0.here hx rfl (hb hby d1_15) rfl ((flt hc1_5).1) k) ?_
        show W (s₁.setTop (mkF m 18 #[.val (.int p0)] []))
        refine stp (fun t k => XS.iloadN X0.here hx rfl (hb hby d1_18) rfl k) ?_
        show W (s₁.setTop (mkF m 19 #[.val (.int p0)] [(.int p0)]))
        refine stp (fun t k => XS.bipush X0.here hx rfl (hb hby d1_19) k) ?_
        show W (s₁.setTop (mkF m 21 #[.val (.int p0)] [(.int (122 : Int32)), (.int p0)]))
        by_cases hc1_6 : (122 : Int32) < p0
        · refine stp (fun t k => XS.icmpYes X0.here hx rfl (pc0 := 21) (pc' := 28) rfl (hb hby d1_21) rfl ((tlt hc1_6).2.2.1) (by decide) (by decide) k) ?_
          show W (s₁.setTop (mkF m 28 #[.val (.int p0)] []))
          refine stp (fun t k => XS.iconst X0.here hx rfl (hb hby d1_28) k) ?_
          show W (s₁.setTop (mkF m 29 #[.val (.int p0)] [(.int (0 : Int32))]))
          show W (s₁.setTop (mkF m 29 #[.val (.int p0)] [(.int (0 : Int32))]))
          rw [← hW]
          exact own_retN X0 hx Bd.notSynchronized Bd.returns (w := (0 : Int32)) (by simp) (hb hby d1_29) rfl (by show Q1 Z p0 h0 n0 _ s₁.heap _; rw [e0]; exact ⟨(by rw [f1, if_neg hc1_1, if_pos hc1_4, if_neg hc1_5, if_pos hc1_6]), N0, rfl⟩) (by decide) (by decide)
        · refine stp (fun t k => XS.icmpNo X0.here hx rfl (hb hby d1_21) rfl ((flt hc1_6).2.2.1) k) ?_
          show W (s₁.setTop (mkF m 24 #[.val (.int p0)] []))
          refine stp (fun t k => XS.iconst X0.here hx rfl (hb hby d1_24) k) ?_
          show W (s₁.setTop (mkF m 25 #[.val (.int p0)] [(.int (1 : Int32))]))
          refine stp (fun t k => XS.goto X0.here hx rfl (pc0 := 25) (pc' := 29) rfl (hb hby d1_25) (by decide) (by decide) k) ?_
          show W (s₁.setTop (mkF m 29 #[.val (.int p0)] [(.int (1 : Int32))]))
          show W (s₁.setTop (mkF m 29 #[.val (.int p0)] [(.int (1 : Int32))]))
          rw [← hW]
          exact own_retN X0 hx Bd.notSynchronized Bd.returns (w := (1 : Int32)) (by simp) (hb hby d1_29) rfl (by show Q1 Z p0 h0 n0 _ s₁.heap _; rw [e0]; exact ⟨(by rw [f1, if_neg hc1_1, if_pos hc1_4, if_neg hc1_5, if_neg hc1_6]), N0, rfl⟩) (by decide) (by decide)
    · refine stp (fun t k => XS.icmpYes X0.here hx rfl (pc0 := 9) (pc' := 24) rfl (hb hby d1_9) rfl ((flt hc1_4).2.2.2) (by decide) (by decide) k) ?_
      show W (s₁.setTop (mkF m 24 #[.val (.int p0)] []))
      refine stp (fun t k => XS.iconst X0.here hx rfl (hb hby d1_24) k) ?_
      show W (s₁.setTop (mkF m 25 #[.val (.int p0)] [(.int (1 : Int32))]))
      refine stp (fun t k => XS.goto X0.here hx rfl (pc0 := 25) (pc' := 29) rfl (hb hby d1_25) (by decide) (by decide) k) ?_
      show W (s₁.setTop (mkF m 29 #[.val (.int p0)] [(.int (1 : Int32))]))
      show W (s₁.setTop (mkF m 29 #[.val (.int p0)] [(.int (1 : Int32))]))
      rw [← hW]
      exact own_retN X0 hx Bd.notSynchronized Bd.returns (w := (1 : Int32)) (by simp) (hb hby d1_29) rfl (by show Q1 Z p0 h0 n0 _ s₁.heap _; rw [e0]; exact ⟨(by rw [f1, if_neg hc1_1, if_neg hc1_4]), N0, rfl⟩) (by decide) (by decide)
theorem d2_0 : decode prog_31_method_11_code 0 = .ok (.iload_n 0, 1) := by decide +kernel
theorem d2_1 : decode prog_31_method_11_code 1 = .ok (.bipush 48, 2) := by decide +kernel
theorem d2_3 : decode prog_31_method_11_code 3 = .ok (.if_icmp .lt 13, 3) := by decide +kernel
theorem d2_6 : decode prog_31_method_11_code 6 = .ok (.iload_n 0, 1) := by decide +kernel
theorem d2_7 : decode prog_31_method_11_code 7 = .ok (.bipush 57, 2) := by decide +kernel
theorem d2_9 : decode prog_31_method_11_code 9 = .ok (.if_icmp .gt 7, 3) := by decide +kernel
theorem d2_12 : decode prog_31_method_11_code 12 = .ok (.iconst 1, 1) := by decide +kernel
theorem d2_13 : decode prog_31_method_11_code 13 = .ok (.goto 4, 3) := by decide +kernel
theorem d2_16 : decode prog_31_method_11_code 16 = .ok (.iconst 0, 1) := by decide +kernel
theorem d2_17 : decode prog_31_method_11_code 17 = .ok (.ireturn, 1) := by decide +kernel
theorem pn2 : plainName "com/example/grant3/grant3/Identifier" = true := by first | (simp [plainName, overriddenIn]; done) | decide +kernel
theorem ef2 (m : MethodId) (p0 : Int32) : entryFrame m #[(.int p0)] 1 = mkF m 0 #[.val (.int p0)] [] := by first | (simp [entryFrame, mkF, argsToLocals, Value.category]; done) | rfl
def f2 (p0 : Int32) : Int32 := (if p0 < (48 : Int32) then (0 : Int32) else (if (57 : Int32) < p0 then (0 : Int32) else (1 : Int32)))
def Q2 (Z : State) (p0 : Int32) (h0 : Heap) (n0 : Nat) (v : Option Value) (h : Heap) (L : List Loc) : Prop := v = some (.int (f2 p0)) ∧ Fr n0 L ∧ h = h0
set_option maxRecDepth 65536 in
set_option maxHeartbeats 40000000 in
theorem rm2 (l : Launch) (Z : State) (aa : Array Value) (hw : ∀ d ∈ tables_1, d.before aa Z = true) (ws : List Jvm.Cond) (p0 : Int32) (h0 : Heap) (n0 : Nat) (Z0 : n0 ≤ h0.size) :
    MetFree l (⟨"com/example/grant3/grant3/Identifier", "isAsciiDigit", "(C)Z"⟩ : MethodName) (head1 (Jvm.Cond.code (⟨"com/example/grant3/grant3/Identifier", "isAsciiDigit", "(C)Z"⟩ : MethodName) prog_31_method_11_code 1 (some .boolean) :: ws) ({ frames := 0, cells := 0, slots := 0, locals := 0 } : Room)) (fun a U => a = #[(.int p0)] ∧ Z.Warmed39 U.vm ∧ U.heap = h0) (fun _ _ _ _ _ => True) (fun _ U o U' => ∃ v L, o = .returned v ∧ Q2 Z p0 h0 n0 v U'.heap L ∧ FrameEnd U o U' L ({ frames := 0, cells := 0, slots := 0, locals := 0 } : Room).cells ({ frames := 0, cells := 0, slots := 0, locals := 0 } : Room).slots) := by
  refine MetFree.of_bodySF (plainFor_of_name pn2) hisR ?_
  intro p e s m args below meth c s₁ Bd hml0 hP hK
  obtain ⟨rfl, hZ, hh⟩ := hP
  have hx := Bd.exec
  have hby := Bd.bytes
  have hml : c.maxLocals = 1 := hml0
  have hown : s.vm.findClass "com/example/grant3/grant3/Identifier" = some m.cls := findClass_of_methodNamed Bd.named
  have hnm := (name_of_methodNamed Bd.named Bd.method).1
  have X0 : Stand p l e ({ frames := 0, cells := 0, slots := 0, locals := 0 } : Room) s m #[(.int p0)] below meth c s₁ [] 0 0 := Stand.of_body Bd
  have e0 : s₁.heap = h0 := by rw [← hh, Bd.state]; rfl
  have N0 := Fr.nil n0
  show OwnEnd p e below s (fun v h L => Q2 Z p0 h0 n0 v h L) ({ frames := 0, cells := 0, slots := 0, locals := 0 } : Room).cells ({ frames := 0, cells := 0, slots := 0, locals := 0 } : Room).slots (s₁.setTop (entryFrame m #[(.int p0)] 1))
  rw [ef2 m p0]
  generalize hW : OwnEnd p e below s (fun v h L => Q2 Z p0 h0 n0 v h L) ({ frames := 0, cells := 0, slots := 0, locals := 0 } : Room).cells ({ frames := 0, cells := 0, slots := 0, locals := 0 } : Room).slots = W
  have stp : ∀ {A B : State}, (∀ t, Steps p.tables e below B t → Steps p.tables e below A t) → W B → W A := by subst hW; exact own_step
  show W (s₁.setTop (mkF m 0 #[.val (.int p0)] []))
  refine stp (fun t k => XS.iloadN X0.here hx rfl (hb hby d2_0) rfl k) ?_
  show W (s₁.setTop (mkF m 1 #[.val (.int p0)] [(.int p0)]))
  refine stp (fun t k => XS.bipush X0.here hx rfl (hb hby d2_1) k) ?_
  show W (s₁.setTop (mkF m 3 #[.val (.int p0)] [(.int (48 : Int32)), (.int p0)]))
  by_cases hc2_1 : p0 < (48 : Int32)
  · refine stp (fun t k => XS.icmpYes X0.here hx rfl (pc0 := 3) (pc' := 16) rfl (hb hby d2_3) rfl ((tlt hc2_1).1) (by decide) (by decide) k) ?_
    show W (s₁.setTop (mkF m 16 #[.val (.int p0)] []))
    refine stp (fun t k => XS.iconst X0.here hx rfl (hb hby d2_16) k) ?_
    show W (s₁.setTop (mkF m 17 #[.val (.int p0)] [(.int (0 : Int32))]))
    show W (s₁.setTop (mkF m 17 #[.val (.int p0)] [(.int (0 : Int32))]))
    rw [← hW]
    exact own_retN X0 hx Bd.notSynchronized Bd.returns (w := (0 : Int32)) (by simp) (hb hby d2_17) rfl (by show Q2 Z p0 h0 n0 _ s₁.heap _; rw [e0]; exact ⟨(by rw [f2, if_pos hc2_1]), N0, rfl⟩) (by decide) (by decide)
  · refine stp (fun t k => XS.icmpNo X0.here hx rfl (hb hby d2_3) rfl ((flt hc2_1).1) k) ?_
    show W (s₁.setTop (mkF m 6 #[.val (.int p0)] []))
    refine stp (fun t k => XS.iloadN X0.here hx rfl (hb hby d2_6) rfl k) ?_
    show W (s₁.setTop (mkF m 7 #[.val (.int p0)] [(.int p0)]))
    refine stp (fun t k => XS.bipush X0.here hx rfl (hb hby d2_7) k) ?_
    show W (s₁.setTop (mkF m 9 #[.val (.int p0)] [(.int (57 : Int32)), (.int p0)]))
    by_cases hc2_2 : (57 : Int32) < p0
    · refine stp (fun t k => XS.icmpYes X0.here hx rfl (pc0 := 9) (pc' := 16) rfl (hb hby d2_9) rfl ((tlt hc2_2).2.2.1) (by decide) (by decide) k) ?_
      show W (s₁.setTop (mkF m 16 #[.val (.int p0)] []))
      refine stp (fun t k => XS.iconst X0.here hx rfl (hb hby d2_16) k) ?_
      show W (s₁.setTop (mkF m 17 #[.val (.int p0)] [(.int (0 : Int32))]))
      show W (s₁.setTop (mkF m 17 #[.val (.int p0)] [(.int (0 : Int32))]))
      rw [← hW]
      exact own_retN X0 hx Bd.notSynchronized Bd.returns (w := (0 : Int32)) (by simp) (hb hby d2_17) rfl (by show Q2 Z p0 h0 n0 _ s₁.heap _; rw [e0]; exact ⟨(by rw [f2, if_neg hc2_1, if_pos hc2_2]), N0, rfl⟩) (by decide) (by decide)
    · refine stp (fun t k => XS.icmpNo X0.here hx rfl (hb hby d2_9) rfl ((flt hc2_2).2.2.1) k) ?_
      show W (s₁.setTop (mkF m 12 #[.val (.int p0)] []))
      refine stp (fun t k => XS.iconst X0.here hx rfl (hb hby d2_12) k) ?_
      show W (s₁.setTop (mkF m 13 #[.val (.int p0)] [(.int (1 : Int32))]))
      refine stp (fun t k => XS.goto X0.here hx rfl (pc0 := 13) (pc' := 17) rfl (hb hby d2_13) (by decide) (by decide) k) ?_
      show W (s₁.setTop (mkF m 17 #[.val (.int p0)] [(.int (1 : Int32))]))
      show W (s₁.setTop (mkF m 17 #[.val (.int p0)] [(.int (1 : Int32))]))
      rw [← hW]
      exact own_retN X0 hx Bd.notSynchronized Bd.returns (w := (1 : Int32)) (by simp) (hb hby d2_17) rfl (by show Q2 Z p0 h0 n0 _ s₁.heap _; rw [e0]; exact ⟨(by rw [f2, if_neg hc2_1, if_neg hc2_2]), N0, rfl⟩) (by decide) (by decide)
theorem d3_0 : decode prog_31_method_7_code 0 = .ok (.iload_n 0, 1) := by decide +kernel
theorem d3_1 : decode prog_31_method_7_code 1 = .ok (.invokestatic 125, 3) := by decide +kernel
theorem d3_4 : decode prog_31_method_7_code 4 = .ok (.ifCond .ne 22, 3) := by decide +kernel
theorem d3_7 : decode prog_31_method_7_code 7 = .ok (.iload_n 0, 1) := by decide +kernel
theorem d3_8 : decode prog_31_method_7_code 8 = .ok (.invokestatic 128, 3) := by decide +kernel
theorem d3_11 : decode prog_31_method_7_code 11 = .ok (.ifCond .ne 15, 3) := by decide +kernel
theorem d3_14 : decode prog_31_method_7_code 14 = .ok (.iload_n 0, 1) := by decide +kernel
theorem d3_15 : decode prog_31_method_7_code 15 = .ok (.bipush 95, 2) := by decide +kernel
theorem d3_17 : decode prog_31_method_7_code 17 = .ok (.if_icmp .eq 9, 3) := by decide +kernel
theorem d3_20 : decode prog_31_method_7_code 20 = .ok (.iload_n 0, 1) := by decide +kernel
theorem d3_21 : decode prog_31_method_7_code 21 = .ok (.bipush 36, 2) := by decide +kernel
theorem d3_23 : decode prog_31_method_7_code 23 = .ok (.if_icmp .ne 7, 3) := by decide +kernel
theorem d3_26 : decode prog_31_method_7_code 26 = .ok (.iconst 1, 1) := by decide +kernel
theorem d3_27 : decode prog_31_method_7_code 27 = .ok (.goto 4, 3) := by decide +kernel
theorem d3_30 : decode prog_31_method_7_code 30 = .ok (.iconst 0, 1) := by decide +kernel
theorem d3_31 : decode prog_31_method_7_code 31 = .ok (.ireturn, 1) := by decide +kernel
theorem pn3 : plainName "com/example/grant3/grant3/Identifier" = true := by first | (simp [plainName, overriddenIn]; done) | decide +kernel
theorem pd3_0 : parseMethodDescriptor "(C)Z" = some ⟨[.char], some .boolean⟩ := by decide +kernel
theorem ef3 (m : MethodId) (p0 : Int32) : entryFrame m #[(.int p0)] 1 = mkF m 0 #[.val (.int p0)] [] := by first | (simp [entryFrame, mkF, argsToLocals, Value.category]; done) | rfl
def f3 (p0 : Int32) : Int32 := (if (f1 p0) = (0 : Int32) then (if (f2 p0) = (0 : Int32) then (if p0 = (95 : Int32) then (1 : Int32) else (if p0 = (36 : Int32) then (1 : Int32) else (0 : Int32))) else (1 : Int32)) else (1 : Int32))
def Q3 (Z : State) (p0 : Int32) (h0 : Heap) (n0 : Nat) (v : Option Value) (h : Heap) (L : List Loc) : Prop := v = some (.int (f3 p0)) ∧ Fr n0 L ∧ h = h0
set_option maxRecDepth 65536 in
set_option maxHeartbeats 40000000 in
theorem rm3 (l : Launch) (Z : State) (aa : Array Value) (hw : ∀ d ∈ tables_1, d.before aa Z = true) (ws : List Jvm.Cond) (p0 : Int32) (h0 : Heap) (n0 : Nat) (Z0 : n0 ≤ h0.size) :
    MetFree l (⟨"com/example/grant3/grant3/Identifier", "isUnquotedPart", "(C)Z"⟩ : MethodName) (head1 (Jvm.Cond.code (⟨"com/example/grant3/grant3/Identifier", "isUnquotedPart", "(C)Z"⟩ : MethodName) prog_31_method_7_code 1 (some .boolean) :: ws) ({ frames := 1, cells := 0, slots := 0, locals := 12 } : Room)) (fun a U => a = #[(.int p0)] ∧ Z.Warmed39 U.vm ∧ U.heap = h0) (fun _ _ _ _ _ => True) (fun _ U o U' => ∃ v L, o = .returned v ∧ Q3 Z p0 h0 n0 v U'.heap L ∧ FrameEnd U o U' L ({ frames := 1, cells := 0, slots := 0, locals := 12 } : Room).cells ({ frames := 1, cells := 0, slots := 0, locals := 12 } : Room).slots) := by
  refine MetFree.of_bodySF (plainFor_of_name pn3) hisR ?_
  intro p e s m args below meth c s₁ Bd hml0 hP hK
  obtain ⟨rfl, hZ, hh⟩ := hP
  have hx := Bd.exec
  have hby := Bd.bytes
  have hml : c.maxLocals = 1 := hml0
  have hown : s.vm.findClass "com/example/grant3/grant3/Identifier" = some m.cls := findClass_of_methodNamed Bd.named
  have hnm := (name_of_methodNamed Bd.named Bd.method).1
  have X0 : Stand p l e ({ frames := 1, cells := 0, slots := 0, locals := 12 } : Room) s m #[(.int p0)] below meth c s₁ [] 0 0 := Stand.of_body Bd
  have e0 : s₁.heap = h0 := by rw [← hh, Bd.state]; rfl
  have N0 := Fr.nil n0
  show OwnEnd p e below s (fun v h L => Q3 Z p0 h0 n0 v h L) ({ frames := 1, cells := 0, slots := 0, locals := 12 } : Room).cells ({ frames := 1, cells := 0, slots := 0, locals := 12 } : Room).slots (s₁.setTop (entryFrame m #[(.int p0)] 1))
  rw [ef3 m p0]
  generalize hW : OwnEnd p e below s (fun v h L => Q3 Z p0 h0 n0 v h L) ({ frames := 1, cells := 0, slots := 0, locals := 12 } : Room).cells ({ frames := 1, cells := 0, slots := 0, locals := 12 } : Room).slots = W
  have stp : ∀ {A B : State}, (∀ t, Steps p.tables e below B t → Steps p.tables e below A t) → W B → W A := by subst hW; exact own_step
  show W (s₁.setTop (mkF m 0 #[.val (.int p0)] []))
  refine stp (fun t k => XS.iloadN X0.here hx rfl (hb hby d3_0) rfl k) ?_
  show W (s₁.setTop (mkF m 1 #[.val (.int p0)] [(.int p0)]))
  obtain ⟨_, _, ⟨T3c1, L3c1, k3c1, n3c1⟩, -, X3c1, ⟨Lc3c1, hQ3c1, l3c1, y3c1, z3c1⟩, st3c1⟩ := Jvm.LawKit.callS X0 hx (y := (⟨"com/example/grant3/grant3/Identifier", "isAsciiLetter", "(C)Z"⟩ : MethodName)) hown (mvT hZ (hw _ (List.mem_of_getElem? (i := 5) rfl))) (mvT hZ (hw _ (List.mem_of_getElem? (i := 6) rfl))) (mvT hZ (hw _ (List.mem_of_getElem? (i := 3) rfl))) (mvT hZ (hw _ (List.mem_of_getElem? (i := 7) rfl))) (by decide) (backOf (W := 0) (rm1 l Z aa hw [] p0  h0 n0 Z0 ) hZ (hw _ (List.mem_of_getElem? (i := 7) rfl)) (hw _ (List.mem_of_getElem? (i := 3) rfl)) (by decide) (by decide)) (g := (mkF m 1 #[.val (.int p0)] [(.int p0)])) rfl (by rw [hml]; rfl) (argsL := [(.int p0)]) (rest := []) (lenOf pd3_0 rfl) rfl (by show 2 * 0 + _ ≤ _; exact Nat.le_of_eq rfl) (hb hby d3_1) (fun _ _ => ⟨rfl, e0, (by decide : 0 + 0 ≤ _), (by decide : 0 + 0 ≤ _)⟩)
  dsimp only [Pt.U, Pt.locs, Pt.cells, Pt.slots] at X3c1 l3c1 y3c1 z3c1 st3c1 hQ3c1
  subst l3c1 y3c1 z3c1
  obtain ⟨rfl, N3c1q, e3c1⟩ := hQ3c1
  have N3c1 := Fr.app N0 N3c1q
  refine stp (fun t k => st3c1 t k) ?_
  show W (T3c1.setTop (mkF m 4 #[.val (.int p0)] [(.int (f1 p0))]))
  by_cases hc3_2 : (f1 p0) = (0 : Int32)
  · refine stp (fun t k => XS.ifNo X3c1.here hx rfl (hb hby d3_4) rfl ((if0 _ _).trans (teq hc3_2).2) k) ?_
    show W (T3c1.setTop (mkF m 7 #[.val (.int p0)] []))
    refine stp (fun t k => XS.iloadN X3c1.here hx rfl (hb hby d3_7) rfl k) ?_
    show W (T3c1.setTop (mkF m 8 #[.val (.int p0)] [(.int p0)]))
    obtain ⟨_, _, ⟨T3c3, L3c3, k3c3, n3c3⟩, -, X3c3, ⟨Lc3c3, hQ3c3, l3c3, y3c3, z3c3⟩, st3c3⟩ := Jvm.LawKit.callS X3c1 hx (y := (⟨"com/example/grant3/grant3/Identifier", "isAsciiDigit", "(C)Z"⟩ : MethodName)) hown (mvT hZ (hw _ (List.mem_of_getElem? (i := 8) rfl))) (mvT hZ (hw _ (List.mem_of_getElem? (i := 9) rfl))) (mvT hZ (hw _ (List.mem_of_getElem? (i := 3) rfl))) (mvT hZ (hw _ (List.mem_of_getElem? (i := 10) rfl))) (by decide) (backOf (W := 0) (rm2 l Z aa hw [] p0  h0 n0 Z0 ) hZ (hw _ (List.mem_of_getElem? (i := 10) rfl)) (hw _ (List.mem_of_getElem? (i := 3) rfl)) (by decide) (by decide)) (g := (mkF m 8 #[.val (.int p0)] [(.int p0)])) rfl (by rw [hml]; rfl) (argsL := [(.int p0)]) (rest := []) (lenOf pd3_0 rfl) rfl (by show 2 * 0 + _ ≤ _; exact Nat.le_of_eq rfl) (hb hby d3_8) (fun _ _ => ⟨rfl, e3c1, (by decide : 0 + 0 ≤ _), (by decide : 0 + 0 ≤ _)⟩)
    dsimp only [Pt.U, Pt.locs, Pt.cells, Pt.slots] at X3c3 l3c3 y3c3 z3c3 st3c3 hQ3c3
    subst l3c3 y3c3 z3c3
    obtain ⟨rfl, N3c3q, e3c3⟩ := hQ3c3
    have N3c3 := Fr.app N3c1 N3c3q
    refine stp (fun t k => st3c3 t k) ?_
    show W (T3c3.setTop (mkF m 11 #[.val (.int p0)] [(.int (f2 p0))]))
    by_cases hc3_4 : (f2 p0) = (0 : Int32)
    · refine stp (fun t k => XS.ifNo X3c3.here hx rfl (hb hby d3_11) rfl ((if0 _ _).trans (teq hc3_4).2) k) ?_
      show W (T3c3.setTop (mkF m 14 #[.val (.int p0)] []))
      refine stp (fun t k => XS.iloadN X3c3.here hx rfl (hb hby d3_14) rfl k) ?_
      show W (T3c3.setTop (mkF m 15 #[.val (.int p0)] [(.int p0)]))
      refine stp (fun t k => XS.bipush X3c3.here hx rfl (hb hby d3_15) k) ?_
      show W (T3c3.setTop (mkF m 17 #[.val (.int p0)] [(.int (95 : Int32)), (.int p0)]))
      by_cases hc3_5 : p0 = (95 : Int32)
      · refine stp (fun t k => XS.icmpYes X3c3.here hx rfl (pc0 := 17) (pc' := 26) rfl (hb hby d3_17) rfl ((teq hc3_5).1) (by decide) (by decide) k) ?_
        show W (T3c3.setTop (mkF m 26 #[.val (.int p0)] []))
        refine stp (fun t k => XS.iconst X3c3.here hx rfl (hb hby d3_26) k) ?_
        show W (T3c3.setTop (mkF m 27 #[.val (.int p0)] [(.int (1 : Int32))]))
        refine stp (fun t k => XS.goto X3c3.here hx rfl (pc0 := 27) (pc' := 31) rfl (hb hby d3_27) (by decide) (by decide) k) ?_
        show W (T3c3.setTop (mkF m 31 #[.val (.int p0)] [(.int (1 : Int32))]))
        show W (T3c3.setTop (mkF m 31 #[.val (.int p0)] [(.int (1 : Int32))]))
        rw [← hW]
        exact own_retN X3c3 hx Bd.notSynchronized Bd.returns (w := (1 : Int32)) (by simp) (hb hby d3_31) rfl (by show Q3 Z p0 h0 n0 _ T3c3.heap _; rw [e3c3]; exact ⟨(by rw [f3, if_pos hc3_2, if_pos hc3_4, if_pos hc3_5]), N3c3, rfl⟩) (by decide) (by decide)
      · refine stp (fun t k => XS.icmpNo X3c3.here hx rfl (hb hby d3_17) rfl ((feq hc3_5).1) k) ?_
        show W (T3c3.setTop (mkF m 20 #[.val (.int p0)] []))
        refine stp (fun t k => XS.iloadN X3c3.here hx rfl (hb hby d3_20) rfl k) ?_
        show W (T3c3.setTop (mkF m 21 #[.val (.int p0)] [(.int p0)]))
        refine stp (fun t k => XS.bipush X3c3.here hx rfl (hb hby d3_21) k) ?_
        show W (T3c3.setTop (mkF m 23 #[.val (.int p0)] [(.int (36 : Int32)), (.int p0)]))
        by_cases hc3_6 : p0 = (36 : Int32)
        · refine stp (fun t k => XS.icmpNo X3c3.here hx rfl (hb hby d3_23) rfl ((teq hc3_6).2) k) ?_
          show W (T3c3.setTop (mkF m 26 #[.val (.int p0)] []))
          refine stp (fun t k => XS.iconst X3c3.here hx rfl (hb hby d3_26) k) ?_
          show W (T3c3.setTop (mkF m 27 #[.val (.int p0)] [(.int (1 : Int32))]))
          refine stp (fun t k => XS.goto X3c3.here hx rfl (pc0 := 27) (pc' := 31) rfl (hb hby d3_27) (by decide) (by decide) k) ?_
          show W (T3c3.setTop (mkF m 31 #[.val (.int p0)] [(.int (1 : Int32))]))
          show W (T3c3.setTop (mkF m 31 #[.val (.int p0)] [(.int (1 : Int32))]))
          rw [← hW]
          exact own_retN X3c3 hx Bd.notSynchronized Bd.returns (w := (1 : Int32)) (by simp) (hb hby d3_31) rfl (by show Q3 Z p0 h0 n0 _ T3c3.heap _; rw [e3c3]; exact ⟨(by rw [f3, if_pos hc3_2, if_pos hc3_4, if_neg hc3_5, if_pos hc3_6]), N3c3, rfl⟩) (by decide) (by decide)
        · refine stp (fun t k => XS.icmpYes X3c3.here hx rfl (pc0 := 23) (pc' := 30) rfl (hb hby d3_23) rfl ((feq hc3_6).2) (by decide) (by decide) k) ?_
          show W (T3c3.setTop (mkF m 30 #[.val (.int p0)] []))
          refine stp (fun t k => XS.iconst X3c3.here hx rfl (hb hby d3_30) k) ?_
          show W (T3c3.setTop (mkF m 31 #[.val (.int p0)] [(.int (0 : Int32))]))
          show W (T3c3.setTop (mkF m 31 #[.val (.int p0)] [(.int (0 : Int32))]))
          rw [← hW]
          exact own_retN X3c3 hx Bd.notSynchronized Bd.returns (w := (0 : Int32)) (by simp) (hb hby d3_31) rfl (by show Q3 Z p0 h0 n0 _ T3c3.heap _; rw [e3c3]; exact ⟨(by rw [f3, if_pos hc3_2, if_pos hc3_4, if_neg hc3_5, if_neg hc3_6]), N3c3, rfl⟩) (by decide) (by decide)
    · refine stp (fun t k => XS.ifYes X3c3.here hx rfl (pc0 := 11) (pc' := 26) rfl (hb hby d3_11) rfl ((if0 _ _).trans (feq hc3_4).2) (by decide) (by decide) k) ?_
      show W (T3c3.setTop (mkF m 26 #[.val (.int p0)] []))
      refine stp (fun t k => XS.iconst X3c3.here hx rfl (hb hby d3_26) k) ?_
      show W (T3c3.setTop (mkF m 27 #[.val (.int p0)] [(.int (1 : Int32))]))
      refine stp (fun t k => XS.goto X3c3.here hx rfl (pc0 := 27) (pc' := 31) rfl (hb hby d3_27) (by decide) (by decide) k) ?_
      show W (T3c3.setTop (mkF m 31 #[.val (.int p0)] [(.int (1 : Int32))]))
      show W (T3c3.setTop (mkF m 31 #[.val (.int p0)] [(.int (1 : Int32))]))
      rw [← hW]
      exact own_retN X3c3 hx Bd.notSynchronized Bd.returns (w := (1 : Int32)) (by simp) (hb hby d3_31) rfl (by show Q3 Z p0 h0 n0 _ T3c3.heap _; rw [e3c3]; exact ⟨(by rw [f3, if_pos hc3_2, if_neg hc3_4]), N3c3, rfl⟩) (by decide) (by decide)
  · refine stp (fun t k => XS.ifYes X3c1.here hx rfl (pc0 := 4) (pc' := 26) rfl (hb hby d3_4) rfl ((if0 _ _).trans (feq hc3_2).2) (by decide) (by decide) k) ?_
    show W (T3c1.setTop (mkF m 26 #[.val (.int p0)] []))
    refine stp (fun t k => XS.iconst X3c1.here hx rfl (hb hby d3_26) k) ?_
    show W (T3c1.setTop (mkF m 27 #[.val (.int p0)] [(.int (1 : Int32))]))
    refine stp (fun t k => XS.goto X3c1.here hx rfl (pc0 := 27) (pc' := 31) rfl (hb hby d3_27) (by decide) (by decide) k) ?_
    show W (T3c1.setTop (mkF m 31 #[.val (.int p0)] [(.int (1 : Int32))]))
    show W (T3c1.setTop (mkF m 31 #[.val (.int p0)] [(.int (1 : Int32))]))
    rw [← hW]
    exact own_retN X3c1 hx Bd.notSynchronized Bd.returns (w := (1 : Int32)) (by simp) (hb hby d3_31) rfl (by show Q3 Z p0 h0 n0 _ T3c1.heap _; rw [e3c1]; exact ⟨(by rw [f3, if_neg hc3_2]), N3c1, rfl⟩) (by decide) (by decide)
theorem d4_0 : decode method_2_code 0 = .ok (.iload_n 0, 1) := by decide +kernel
theorem d4_1 : decode method_2_code 1 = .ok (.bipush 64, 2) := by decide +kernel
theorem d4_3 : decode method_2_code 3 = .ok (.if_icmp .ge 21, 3) := by decide +kernel
theorem d4_6 : decode method_2_code 6 = .ok (.ldc2_w 9, 3) := by decide +kernel
theorem d4_9 : decode method_2_code 9 = .ok (.iload_n 0, 1) := by decide +kernel
theorem d4_10 : decode method_2_code 10 = .ok (.lushr, 1) := by decide +kernel
theorem d4_11 : decode method_2_code 11 = .ok (.lconst 1, 1) := by decide +kernel
theorem d4_12 : decode method_2_code 12 = .ok (.land, 1) := by decide +kernel
theorem d4_13 : decode method_2_code 13 = .ok (.lconst 0, 1) := by decide +kernel
theorem d4_14 : decode method_2_code 14 = .ok (.lcmp, 1) := by decide +kernel
theorem d4_15 : decode method_2_code 15 = .ok (.ifCond .eq 7, 3) := by decide +kernel
theorem d4_18 : decode method_2_code 18 = .ok (.iconst 1, 1) := by decide +kernel
theorem d4_19 : decode method_2_code 19 = .ok (.goto 4, 3) := by decide +kernel
theorem d4_22 : decode method_2_code 22 = .ok (.iconst 0, 1) := by decide +kernel
theorem d4_23 : decode method_2_code 23 = .ok (.ireturn, 1) := by decide +kernel
theorem d4_24 : decode method_2_code 24 = .ok (.iload_n 0, 1) := by decide +kernel
theorem d4_25 : decode method_2_code 25 = .ok (.sipush 128, 3) := by decide +kernel
theorem d4_28 : decode method_2_code 28 = .ok (.if_icmp .ge 24, 3) := by decide +kernel
theorem d4_31 : decode method_2_code 31 = .ok (.ldc2_w 11, 3) := by decide +kernel
theorem d4_34 : decode method_2_code 34 = .ok (.iload_n 0, 1) := by decide +kernel
theorem d4_35 : decode method_2_code 35 = .ok (.bipush 64, 2) := by decide +kernel
theorem d4_37 : decode method_2_code 37 = .ok (.isub, 1) := by decide +kernel
theorem d4_38 : decode method_2_code 38 = .ok (.lushr, 1) := by decide +kernel
theorem d4_39 : decode method_2_code 39 = .ok (.lconst 1, 1) := by decide +kernel
theorem d4_40 : decode method_2_code 40 = .ok (.land, 1) := by decide +kernel
theorem d4_41 : decode method_2_code 41 = .ok (.lconst 0, 1) := by decide +kernel
theorem d4_42 : decode method_2_code 42 = .ok (.lcmp, 1) := by decide +kernel
theorem d4_43 : decode method_2_code 43 = .ok (.ifCond .eq 7, 3) := by decide +kernel
theorem d4_46 : decode method_2_code 46 = .ok (.iconst 1, 1) := by decide +kernel
theorem d4_47 : decode method_2_code 47 = .ok (.goto 4, 3) := by decide +kernel
theorem d4_50 : decode method_2_code 50 = .ok (.iconst 0, 1) := by decide +kernel
theorem d4_51 : decode method_2_code 51 = .ok (.ireturn, 1) := by decide +kernel
theorem d4_52 : decode method_2_code 52 = .ok (.iconst 0, 1) := by decide +kernel
theorem d4_53 : decode method_2_code 53 = .ok (.ireturn, 1) := by decide +kernel
theorem pn4 : plainName "com/example/grant3/grant3/IdentifierIsUnquotedPartPinLaw" = true := by first | (simp [plainName, overriddenIn]; done) | decide +kernel
theorem ef4 (m : MethodId) (p0 : Int32) : entryFrame m #[(.int p0)] 1 = mkF m 0 #[.val (.int p0)] [] := by first | (simp [entryFrame, mkF, argsToLocals, Value.category]; done) | rfl
def f4 (p0 : Int32) : Int32 := (if p0 < (64 : Int32) then (if ((((287948969894477824 : Int64).toUInt64 >>> (p0 &&& 0x3f).toInt64.toUInt64).toInt64) &&& (1 : Int64)) = (0 : Int64) then (0 : Int32) else (1 : Int32)) else (if p0 < (128 : Int32) then (if ((((576460745995190270 : Int64).toUInt64 >>> ((p0 - (64 : Int32)) &&& 0x3f).toInt64.toUInt64).toInt64) &&& (1 : Int64)) = (0 : Int64) then (0 : Int32) else (1 : Int32)) else (0 : Int32)))
def Q4 (Z : State) (p0 : Int32) (h0 : Heap) (n0 : Nat) (v : Option Value) (h : Heap) (L : List Loc) : Prop := v = some (.int (f4 p0)) ∧ Fr n0 L ∧ h = h0
set_option maxRecDepth 65536 in
set_option maxHeartbeats 40000000 in
theorem rm4 (l : Launch) (Z : State) (aa : Array Value) (hw : ∀ d ∈ tables_1, d.before aa Z = true) (ws : List Jvm.Cond) (p0 : Int32) (h0 : Heap) (n0 : Nat) (Z0 : n0 ≤ h0.size) :
    MetFree l (⟨"com/example/grant3/grant3/IdentifierIsUnquotedPartPinLaw", "expected", "(I)Z"⟩ : MethodName) (head1 (Jvm.Cond.code (⟨"com/example/grant3/grant3/IdentifierIsUnquotedPartPinLaw", "expected", "(I)Z"⟩ : MethodName) method_2_code 1 (some .boolean) :: ws) ({ frames := 0, cells := 0, slots := 0, locals := 0 } : Room)) (fun a U => a = #[(.int p0)] ∧ Z.Warmed39 U.vm ∧ U.heap = h0) (fun _ _ _ _ _ => True) (fun _ U o U' => ∃ v L, o = .returned v ∧ Q4 Z p0 h0 n0 v U'.heap L ∧ FrameEnd U o U' L ({ frames := 0, cells := 0, slots := 0, locals := 0 } : Room).cells ({ frames := 0, cells := 0, slots := 0, locals := 0 } : Room).slots) := by
  refine MetFree.of_bodySF (plainFor_of_name pn4) hisR ?_
  intro p e s m args below meth c s₁ Bd hml0 hP hK
  obtain ⟨rfl, hZ, hh⟩ := hP
  have hx := Bd.exec
  have hby := Bd.bytes
  have hml : c.maxLocals = 1 := hml0
  have hown : s.vm.findClass "com/example/grant3/grant3/IdentifierIsUnquotedPartPinLaw" = some m.cls := findClass_of_methodNamed Bd.named
  have hnm := (name_of_methodNamed Bd.named Bd.method).1
  have X0 : Stand p l e ({ frames := 0, cells := 0, slots := 0, locals := 0 } : Room) s m #[(.int p0)] below meth c s₁ [] 0 0 := Stand.of_body Bd
  have e0 : s₁.heap = h0 := by rw [← hh, Bd.state]; rfl
  have N0 := Fr.nil n0
  show OwnEnd p e below s (fun v h L => Q4 Z p0 h0 n0 v h L) ({ frames := 0, cells := 0, slots := 0, locals := 0 } : Room).cells ({ frames := 0, cells := 0, slots := 0, locals := 0 } : Room).slots (s₁.setTop (entryFrame m #[(.int p0)] 1))
  rw [ef4 m p0]
  generalize hW : OwnEnd p e below s (fun v h L => Q4 Z p0 h0 n0 v h L) ({ frames := 0, cells := 0, slots := 0, locals := 0 } : Room).cells ({ frames := 0, cells := 0, slots := 0, locals := 0 } : Room).slots = W
  have stp : ∀ {A B : State}, (∀ t, Steps p.tables e below B t → Steps p.tables e below A t) → W B → W A := by subst hW; exact own_step
  show W (s₁.setTop (mkF m 0 #[.val (.int p0)] []))
  refine stp (fun t k => XS.iloadN X0.here hx rfl (hb hby d4_0) rfl k) ?_
  show W (s₁.setTop (mkF m 1 #[.val (.int p0)] [(.int p0)]))
  refine stp (fun t k => XS.bipush X0.here hx rfl (hb hby d4_1) k) ?_
  show W (s₁.setTop (mkF m 3 #[.val (.int p0)] [(.int (64 : Int32)), (.int p0)]))
  by_cases hc4_1 : p0 < (64 : Int32)
  · refine stp (fun t k => XS.icmpNo X0.here hx rfl (hb hby d4_3) rfl ((tlt hc4_1).2.1) k) ?_
    show W (s₁.setTop (mkF m 6 #[.val (.int p0)] []))
    refine stp (fun t k => X0.ldc2Long hx hown (mvT hZ (hw _ (List.mem_of_getElem? (i := 15) rfl))) (g := (mkF m 6 #[.val (.int p0)] [])) rfl (hb hby d4_6) _ k) ?_
    show W (s₁.setTop (mkF m 9 #[.val (.int p0)] [(.long (287948969894477824 : Int64))]))
    refine stp (fun t k => XS.iloadN X0.here hx rfl (hb hby d4_9) rfl k) ?_
    show W (s₁.setTop (mkF m 10 #[.val (.int p0)] [(.int p0), (.long (287948969894477824 : Int64))]))
    refine stp (fun t k => XS.lushr X0.here hx rfl (hb hby d4_10) rfl k) ?_
    show W (s₁.setTop (mkF m 11 #[.val (.int p0)] [(.long (((287948969894477824 : Int64).toUInt64 >>> (p0 &&& 0x3f).toInt64.toUInt64).toInt64))]))
    refine stp (fun t k => XS.lconst X0.here hx rfl (hb hby d4_11) k) ?_
    show W (s₁.setTop (mkF m 12 #[.val (.int p0)] [(.long (1 : Int64)), (.long (((287948969894477824 : Int64).toUInt64 >>> (p0 &&& 0x3f).toInt64.toUInt64).toInt64))]))
    refine stp (fun t k => XS.land X0.here hx rfl (hb hby d4_12) rfl k) ?_
    show W (s₁.setTop (mkF m 13 #[.val (.int p0)] [(.long ((((287948969894477824 : Int64).toUInt64 >>> (p0 &&& 0x3f).toInt64.toUInt64).toInt64) &&& (1 : Int64)))]))
    refine stp (fun t k => XS.lconst X0.here hx rfl (hb hby d4_13) k) ?_
    show W (s₁.setTop (mkF m 14 #[.val (.int p0)] [(.long (0 : Int64)), (.long ((((287948969894477824 : Int64).toUInt64 >>> (p0 &&& 0x3f).toInt64.toUInt64).toInt64) &&& (1 : Int64)))]))
    refine stp (fun t k => XS.lcmp X0.here hx rfl (hb hby d4_14) rfl k) ?_
    show W (s₁.setTop (mkF m 15 #[.val (.int p0)] [(.int (lcmpW ((((287948969894477824 : Int64).toUInt64 >>> (p0 &&& 0x3f).toInt64.toUInt64).toInt64) &&& (1 : Int64)) (0 : Int64)))]))
    by_cases hc4_2 : ((((287948969894477824 : Int64).toUInt64 >>> (p0 &&& 0x3f).toInt64.toUInt64).toInt64) &&& (1 : Int64)) = (0 : Int64)
    · refine stp (fun t k => XS.ifYes X0.here hx rfl (pc0 := 15) (pc' := 22) rfl (hb hby d4_15) rfl ((if0 _ _).trans (teq ((lw_eq ((((287948969894477824 : Int64).toUInt64 >>> (p0 &&& 0x3f).toInt64.toUInt64).toInt64) &&& (1 : Int64)) (0 : Int64)).mpr hc4_2)).1) (by decide) (by decide) k) ?_
      show W (s₁.setTop (mkF m 22 #[.val (.int p0)] []))
      refine stp (fun t k => XS.iconst X0.here hx rfl (hb hby d4_22) k) ?_
      show W (s₁.setTop (mkF m 23 #[.val (.int p0)] [(.int (0 : Int32))]))
      show W (s₁.setTop (mkF m 23 #[.val (.int p0)] [(.int (0 : Int32))]))
      rw [← hW]
      exact own_retN X0 hx Bd.notSynchronized Bd.returns (w := (0 : Int32)) (by simp) (hb hby d4_23) rfl (by show Q4 Z p0 h0 n0 _ s₁.heap _; rw [e0]; exact ⟨(by rw [f4, if_pos hc4_1, if_pos hc4_2]), N0, rfl⟩) (by decide) (by decide)
    · refine stp (fun t k => XS.ifNo X0.here hx rfl (hb hby d4_15) rfl ((if0 _ _).trans (feq (fun q => hc4_2 ((lw_eq ((((287948969894477824 : Int64).toUInt64 >>> (p0 &&& 0x3f).toInt64.toUInt64).toInt64) &&& (1 : Int64)) (0 : Int64)).mp q))).1) k) ?_
      show W (s₁.setTop (mkF m 18 #[.val (.int p0)] []))
      refine stp (fun t k => XS.iconst X0.here hx rfl (hb hby d4_18) k) ?_
      show W (s₁.setTop (mkF m 19 #[.val (.int p0)] [(.int (1 : Int32))]))
      refine stp (fun t k => XS.goto X0.here hx rfl (pc0 := 19) (pc' := 23) rfl (hb hby d4_19) (by decide) (by decide) k) ?_
      show W (s₁.setTop (mkF m 23 #[.val (.int p0)] [(.int (1 : Int32))]))
      show W (s₁.setTop (mkF m 23 #[.val (.int p0)] [(.int (1 : Int32))]))
      rw [← hW]
      exact own_retN X0 hx Bd.notSynchronized Bd.returns (w := (1 : Int32)) (by simp) (hb hby d4_23) rfl (by show Q4 Z p0 h0 n0 _ s₁.heap _; rw [e0]; exact ⟨(by rw [f4, if_pos hc4_1, if_neg hc4_2]), N0, rfl⟩) (by decide) (by decide)
  · refine stp (fun t k => XS.icmpYes X0.here hx rfl (pc0 := 3) (pc' := 24) rfl (hb hby d4_3) rfl ((flt hc4_1).2.1) (by decide) (by decide) k) ?_
    show W (s₁.setTop (mkF m 24 #[.val (.int p0)] []))
    refine stp (fun t k => XS.iloadN X0.here hx rfl (hb hby d4_24) rfl k) ?_
    show W (s₁.setTop (mkF m 25 #[.val (.int p0)] [(.int p0)]))
    refine stp (fun t k => XS.sipush X0.here hx rfl (hb hby d4_25) k) ?_
    show W (s₁.setTop (mkF m 28 #[.val (.int p0)] [(.int (128 : Int32)), (.int p0)]))
    by_cases hc4_3 : p0 < (128 : Int32)
    · refine stp (fun t k => XS.icmpNo X0.here hx rfl (hb hby d4_28) rfl ((tlt hc4_3).2.1) k) ?_
      show W (s₁.setTop (mkF m 31 #[.val (.int p0)] []))
      refine stp (fun t k => X0.ldc2Long hx hown (mvT hZ (hw _ (List.mem_of_getElem? (i := 16) rfl))) (g := (mkF m 31 #[.val (.int p0)] [])) rfl (hb hby d4_31) _ k) ?_
      show W (s₁.setTop (mkF m 34 #[.val (.int p0)] [(.long (576460745995190270 : Int64))]))
      refine stp (fun t k => XS.iloadN X0.here hx rfl (hb hby d4_34) rfl k) ?_
      show W (s₁.setTop (mkF m 35 #[.val (.int p0)] [(.int p0), (.long (576460745995190270 : Int64))]))
      refine stp (fun t k => XS.bipush X0.here hx rfl (hb hby d4_35) k) ?_
      show W (s₁.setTop (mkF m 37 #[.val (.int p0)] [(.int (64 : Int32)), (.int p0), (.long (576460745995190270 : Int64))]))
      refine stp (fun t k => XS.isub X0.here hx rfl (hb hby d4_37) rfl k) ?_
      show W (s₁.setTop (mkF m 38 #[.val (.int p0)] [(.int (p0 - (64 : Int32))), (.long (576460745995190270 : Int64))]))
      refine stp (fun t k => XS.lushr X0.here hx rfl (hb hby d4_38) rfl k) ?_
      show W (s₁.setTop (mkF m 39 #[.val (.int p0)] [(.long (((576460745995190270 : Int64).toUInt64 >>> ((p0 - (64 : Int32)) &&& 0x3f).toInt64.toUInt64).toInt64))]))
      refine stp (fun t k => XS.lconst X0.here hx rfl (hb hby d4_39) k) ?_
      show W (s₁.setTop (mkF m 40 #[.val (.int p0)] [(.long (1 : Int64)), (.long (((576460745995190270 : Int64).toUInt64 >>> ((p0 - (64 : Int32)) &&& 0x3f).toInt64.toUInt64).toInt64))]))
      refine stp (fun t k => XS.land X0.here hx rfl (hb hby d4_40) rfl k) ?_
      show W (s₁.setTop (mkF m 41 #[.val (.int p0)] [(.long ((((576460745995190270 : Int64).toUInt64 >>> ((p0 - (64 : Int32)) &&& 0x3f).toInt64.toUInt64).toInt64) &&& (1 : Int64)))]))
      refine stp (fun t k => XS.lconst X0.here hx rfl (hb hby d4_41) k) ?_
      show W (s₁.setTop (mkF m 42 #[.val (.int p0)] [(.long (0 : Int64)), (.long ((((576460745995190270 : Int64).toUInt64 >>> ((p0 - (64 : Int32)) &&& 0x3f).toInt64.toUInt64).toInt64) &&& (1 : Int64)))]))
      refine stp (fun t k => XS.lcmp X0.here hx rfl (hb hby d4_42) rfl k) ?_
      show W (s₁.setTop (mkF m 43 #[.val (.int p0)] [(.int (lcmpW ((((576460745995190270 : Int64).toUInt64 >>> ((p0 - (64 : Int32)) &&& 0x3f).toInt64.toUInt64).toInt64) &&& (1 : Int64)) (0 : Int64)))]))
      by_cases hc4_4 : ((((576460745995190270 : Int64).toUInt64 >>> ((p0 - (64 : Int32)) &&& 0x3f).toInt64.toUInt64).toInt64) &&& (1 : Int64)) = (0 : Int64)
      · refine stp (fun t k => XS.ifYes X0.here hx rfl (pc0 := 43) (pc' := 50) rfl (hb hby d4_43) rfl ((if0 _ _).trans (teq ((lw_eq ((((576460745995190270 : Int64).toUInt64 >>> ((p0 - (64 : Int32)) &&& 0x3f).toInt64.toUInt64).toInt64) &&& (1 : Int64)) (0 : Int64)).mpr hc4_4)).1) (by decide) (by decide) k) ?_
        show W (s₁.setTop (mkF m 50 #[.val (.int p0)] []))
        refine stp (fun t k => XS.iconst X0.here hx rfl (hb hby d4_50) k) ?_
        show W (s₁.setTop (mkF m 51 #[.val (.int p0)] [(.int (0 : Int32))]))
        show W (s₁.setTop (mkF m 51 #[.val (.int p0)] [(.int (0 : Int32))]))
        rw [← hW]
        exact own_retN X0 hx Bd.notSynchronized Bd.returns (w := (0 : Int32)) (by simp) (hb hby d4_51) rfl (by show Q4 Z p0 h0 n0 _ s₁.heap _; rw [e0]; exact ⟨(by rw [f4, if_neg hc4_1, if_pos hc4_3, if_pos hc4_4]), N0, rfl⟩) (by decide) (by decide)
      · refine stp (fun t k => XS.ifNo X0.here hx rfl (hb hby d4_43) rfl ((if0 _ _).trans (feq (fun q => hc4_4 ((lw_eq ((((576460745995190270 : Int64).toUInt64 >>> ((p0 - (64 : Int32)) &&& 0x3f).toInt64.toUInt64).toInt64) &&& (1 : Int64)) (0 : Int64)).mp q))).1) k) ?_
        show W (s₁.setTop (mkF m 46 #[.val (.int p0)] []))
        refine stp (fun t k => XS.iconst X0.here hx rfl (hb hby d4_46) k) ?_
        show W (s₁.setTop (mkF m 47 #[.val (.int p0)] [(.int (1 : Int32))]))
        refine stp (fun t k => XS.goto X0.here hx rfl (pc0 := 47) (pc' := 51) rfl (hb hby d4_47) (by decide) (by decide) k) ?_
        show W (s₁.setTop (mkF m 51 #[.val (.int p0)] [(.int (1 : Int32))]))
        show W (s₁.setTop (mkF m 51 #[.val (.int p0)] [(.int (1 : Int32))]))
        rw [← hW]
        exact own_retN X0 hx Bd.notSynchronized Bd.returns (w := (1 : Int32)) (by simp) (hb hby d4_51) rfl (by show Q4 Z p0 h0 n0 _ s₁.heap _; rw [e0]; exact ⟨(by rw [f4, if_neg hc4_1, if_pos hc4_3, if_neg hc4_4]), N0, rfl⟩) (by decide) (by decide)
    · refine stp (fun t k => XS.icmpYes X0.here hx rfl (pc0 := 28) (pc' := 52) rfl (hb hby d4_28) rfl ((flt hc4_3).2.1) (by decide) (by decide) k) ?_
      show W (s₁.setTop (mkF m 52 #[.val (.int p0)] []))
      refine stp (fun t k => XS.iconst X0.here hx rfl (hb hby d4_52) k) ?_
      show W (s₁.setTop (mkF m 53 #[.val (.int p0)] [(.int (0 : Int32))]))
      show W (s₁.setTop (mkF m 53 #[.val (.int p0)] [(.int (0 : Int32))]))
      rw [← hW]
      exact own_retN X0 hx Bd.notSynchronized Bd.returns (w := (0 : Int32)) (by simp) (hb hby d4_53) rfl (by show Q4 Z p0 h0 n0 _ s₁.heap _; rw [e0]; exact ⟨(by rw [f4, if_neg hc4_1, if_neg hc4_3]), N0, rfl⟩) (by decide) (by decide)
theorem own_small : ∀ n : Fin 128, f3 (Int32.ofNat n.val) = f4 (Int32.ofNat n.val) := by decide +kernel
theorem own_ge {v : Int32} (h : 128 ≤ v.toInt) : f3 v = f4 v := by
  have l1 : ∀ k : Int32, k.toInt ≤ 128 → ¬ v < k := fun k hk q => by rw [Int32.lt_iff_toInt_lt] at q; omega
  have l2 : ∀ k : Int32, k.toInt < 128 → k < v := fun k hk => by rw [Int32.lt_iff_toInt_lt]; omega
  have l3 : ∀ k : Int32, k.toInt < 128 → ¬ v = k := fun k hk q => by subst q; omega
  have e1 : f1 v = 0 := by
    simp only [f1, if_neg (l1 65 (by decide)), if_pos (l2 90 (by decide)), if_neg (l1 97 (by decide)), if_pos (l2 122 (by decide))]
  have e2 : f2 v = 0 := by
    simp only [f2, if_neg (l1 48 (by decide)), if_pos (l2 57 (by decide))]
  rw [f3, e1, e2, if_pos rfl, if_pos rfl, if_neg (l3 95 (by decide)), if_neg (l3 36 (by decide)), f4, if_neg (l1 64 (by decide)), if_neg (l1 128 (by decide))]
theorem own_all (p0 : Int32) : (f3 ((p0 &&& (65535 : Int32)).toUInt32.toUInt16.toUInt32.toInt32)) = (f4 (p0 &&& (65535 : Int32))) := by
  have h1 := c_mask p0 65535 16 (by decide) (by decide)
  have h2 := c_i2c (p0 &&& 65535)
  generalize (p0 &&& 65535) = v at *
  have h3 : v.toUInt32.toUInt16.toUInt32.toInt32 = v := by apply Int32.toInt_inj.mp; omega
  rw [h3]
  by_cases hv : 128 ≤ v.toInt
  · exact own_ge hv
  · have h4 : v = Int32.ofNat v.toInt.toNat := by
      apply Int32.toInt_inj.mp
      rw [Int32.toInt_ofNat_of_lt (by omega)]
      omega
    rw [h4]
    exact own_small ⟨v.toInt.toNat, by omega⟩
theorem pn0 : plainName "com/example/grant3/grant3/IdentifierIsUnquotedPartPinLaw" = true := by first | (simp [plainName, overriddenIn]; done) | decide +kernel
theorem pd0_0 : parseMethodDescriptor "(C)Z" = some ⟨[.char], some .boolean⟩ := by decide +kernel
theorem pd0_1 : parseMethodDescriptor "(I)Z" = some ⟨[.int], some .boolean⟩ := by decide +kernel
theorem ef0 (m : MethodId) (p0 : Int32) : entryFrame m #[(.int p0)] maxLocals = mkF m 0 #[.val (.int p0), .unset, .unset] [] := by first | (simp [entryFrame, mkF, argsToLocals, Value.category, maxLocals]; done) | rfl
theorem own_0_16_3 (p0 : Int32)   : (f3 ((p0 &&& (65535 : Int32)).toUInt32.toUInt16.toUInt32.toInt32)) = (f4 (p0 &&& (65535 : Int32))) := own_all p0
def Q0 (Z : State) (p0 : Int32) (h0 : Heap) (n0 : Nat) (v : Option Value) (h : Heap) (L : List Loc) : Prop := v = some (.int (1 : Int32)) ∧ Fr n0 L
set_option maxRecDepth 65536 in
set_option maxHeartbeats 40000000 in
theorem rm0 (l : Launch) (Z : State) (aa : Array Value) (hw : ∀ d ∈ tables_1, d.before aa Z = true) (ws : List Jvm.Cond) (p0 : Int32) (h0 : Heap) (n0 : Nat) (Z0 : n0 ≤ h0.size) :
    MetFree l x (head1 (Jvm.Cond.code x code maxLocals ret :: ws) room_1) (fun a U => a = #[(.int p0)] ∧ Z.Warmed39 U.vm ∧ U.heap = h0) (fun _ _ _ _ _ => True) (fun _ U o U' => ∃ v L, o = .returned v ∧ Q0 Z p0 h0 n0 v U'.heap L ∧ FrameEnd U o U' L room_1.cells room_1.slots) := by
  refine MetFree.of_bodySF (plainFor_of_name pn0) hisR ?_
  intro p e s m args below meth c s₁ Bd hml0 hP hK
  obtain ⟨rfl, hZ, hh⟩ := hP
  have hx := Bd.exec
  have hby := Bd.bytes
  have hml : c.maxLocals = 3 := hml0
  have hown : s.vm.findClass "com/example/grant3/grant3/IdentifierIsUnquotedPartPinLaw" = some m.cls := findClass_of_methodNamed Bd.named
  have hnm := (name_of_methodNamed Bd.named Bd.method).1
  have X0 : Stand p l e room_1 s m #[(.int p0)] below meth c s₁ [] 0 0 := Stand.of_body Bd
  have e0 : s₁.heap = h0 := by rw [← hh, Bd.state]; rfl
  have N0 := Fr.nil n0
  show OwnEnd p e below s (fun v h L => Q0 Z p0 h0 n0 v h L) room_1.cells room_1.slots (s₁.setTop (entryFrame m #[(.int p0)] maxLocals))
  rw [ef0 m p0]
  generalize hW : OwnEnd p e below s (fun v h L => Q0 Z p0 h0 n0 v h L) room_1.cells room_1.slots = W
  have stp : ∀ {A B : State}, (∀ t, Steps p.tables e below B t → Steps p.tables e below A t) → W B → W A := by subst hW; exact own_step
  show W (s₁.setTop (mkF m 0 #[.val (.int p0), .unset, .unset] []))
  refine stp (fun t k => XS.iloadN X0.here hx rfl (hb hby at_0) rfl k) ?_
  show W (s₁.setTop (mkF m 1 #[.val (.int p0), .unset, .unset] [(.int p0)]))
  refine stp (fun t k => X0.ldcInt hx hown (mvT hZ (hw _ (List.mem_of_getElem? (i := 0) rfl))) (g := (mkF m 1 #[.val (.int p0), .unset, .unset] [(.int p0)])) rfl (hb hby at_1) _ k) ?_
  show W (s₁.setTop (mkF m 3 #[.val (.int p0), .unset, .unset] [(.int (65535 : Int32)), (.int p0)]))
  refine stp (fun t k => XS.iand X0.here hx rfl (hb hby at_3) rfl k) ?_
  show W (s₁.setTop (mkF m 4 #[.val (.int p0), .unset, .unset] [(.int (p0 &&& (65535 : Int32)))]))
  refine stp (fun t k => XS.istoreN X0.here hx rfl (hb hby at_4) rfl (l' := #[.val (.int p0), .val (.int (p0 &&& (65535 : Int32))), .unset]) rfl k) ?_
  show W (s₁.setTop (mkF m 5 #[.val (.int p0), .val (.int (p0 &&& (65535 : Int32))), .unset] []))
  refine stp (fun t k => XS.iloadN X0.here hx rfl (hb hby at_5) rfl k) ?_
  show W (s₁.setTop (mkF m 6 #[.val (.int p0), .val (.int (p0 &&& (65535 : Int32))), .unset] [(.int (p0 &&& (65535 : Int32)))]))
  refine stp (fun t k => XS.i2c X0.here hx rfl (hb hby at_6) rfl k) ?_
  show W (s₁.setTop (mkF m 7 #[.val (.int p0), .val (.int (p0 &&& (65535 : Int32))), .unset] [(.int ((p0 &&& (65535 : Int32)).toUInt32.toUInt16.toUInt32.toInt32))]))
  refine stp (fun t k => XS.istoreN X0.here hx rfl (hb hby at_7) rfl (l' := #[.val (.int p0), .val (.int (p0 &&& (65535 : Int32))), .val (.int ((p0 &&& (65535 : Int32)).toUInt32.toUInt16.toUInt32.toInt32))]) rfl k) ?_
  show W (s₁.setTop (mkF m 8 #[.val (.int p0), .val (.int (p0 &&& (65535 : Int32))), .val (.int ((p0 &&& (65535 : Int32)).toUInt32.toUInt16.toUInt32.toInt32))] []))
  refine stp (fun t k => XS.iloadN X0.here hx rfl (hb hby at_8) rfl k) ?_
  show W (s₁.setTop (mkF m 9 #[.val (.int p0), .val (.int (p0 &&& (65535 : Int32))), .val (.int ((p0 &&& (65535 : Int32)).toUInt32.toUInt16.toUInt32.toInt32))] [(.int ((p0 &&& (65535 : Int32)).toUInt32.toUInt16.toUInt32.toInt32))]))
  obtain ⟨_, _, ⟨T0c1, L0c1, k0c1, n0c1⟩, -, X0c1, ⟨Lc0c1, hQ0c1, l0c1, y0c1, z0c1⟩, st0c1⟩ := Jvm.LawKit.callS X0 hx (y := (⟨"com/example/grant3/grant3/Identifier", "isUnquotedPart", "(C)Z"⟩ : MethodName)) hown (mvT hZ (hw _ (List.mem_of_getElem? (i := 1) rfl))) (mvT hZ (hw _ (List.mem_of_getElem? (i := 2) rfl))) (mvT hZ (hw _ (List.mem_of_getElem? (i := 3) rfl))) (mvT hZ (hw _ (List.mem_of_getElem? (i := 4) rfl))) (by decide) (backOf (W := 0) (rm3 l Z aa hw [] ((p0 &&& (65535 : Int32)).toUInt32.toUInt16.toUInt32.toInt32)  h0 n0 Z0 ) hZ (hw _ (List.mem_of_getElem? (i := 4) rfl)) (hw _ (List.mem_of_getElem? (i := 3) rfl)) (by decide) (by decide)) (g := (mkF m 9 #[.val (.int p0), .val (.int (p0 &&& (65535 : Int32))), .val (.int ((p0 &&& (65535 : Int32)).toUInt32.toUInt16.toUInt32.toInt32))] [(.int ((p0 &&& (65535 : Int32)).toUInt32.toUInt16.toUInt32.toInt32))])) rfl (by rw [hml]; rfl) (argsL := [(.int ((p0 &&& (65535 : Int32)).toUInt32.toUInt16.toUInt32.toInt32))]) (rest := []) (lenOf pd0_0 rfl) rfl (by show 2 * 0 + _ ≤ _; exact Nat.le_of_eq rfl) (hb hby at_9) (fun _ _ => ⟨rfl, e0, (by decide : 0 + 0 ≤ _), (by decide : 0 + 0 ≤ _)⟩)
  dsimp only [Pt.U, Pt.locs, Pt.cells, Pt.slots] at X0c1 l0c1 y0c1 z0c1 st0c1 hQ0c1
  subst l0c1 y0c1 z0c1
  obtain ⟨rfl, N0c1q, e0c1⟩ := hQ0c1
  have N0c1 := Fr.app N0 N0c1q
  refine stp (fun t k => st0c1 t k) ?_
  show W (T0c1.setTop (mkF m 12 #[.val (.int p0), .val (.int (p0 &&& (65535 : Int32))), .val (.int ((p0 &&& (65535 : Int32)).toUInt32.toUInt16.toUInt32.toInt32))] [(.int (f3 ((p0 &&& (65535 : Int32)).toUInt32.toUInt16.toUInt32.toInt32)))]))
  refine stp (fun t k => XS.iloadN X0c1.here hx rfl (hb hby at_12) rfl k) ?_
  show W (T0c1.setTop (mkF m 13 #[.val (.int p0), .val (.int (p0 &&& (65535 : Int32))), .val (.int ((p0 &&& (65535 : Int32)).toUInt32.toUInt16.toUInt32.toInt32))] [(.int (p0 &&& (65535 : Int32))), (.int (f3 ((p0 &&& (65535 : Int32)).toUInt32.toUInt16.toUInt32.toInt32)))]))
  obtain ⟨_, _, ⟨T0c2, L0c2, k0c2, n0c2⟩, -, X0c2, ⟨Lc0c2, hQ0c2, l0c2, y0c2, z0c2⟩, st0c2⟩ := Jvm.LawKit.callS X0c1 hx (y := (⟨"com/example/grant3/grant3/IdentifierIsUnquotedPartPinLaw", "expected", "(I)Z"⟩ : MethodName)) hown (mvT hZ (hw _ (List.mem_of_getElem? (i := 11) rfl))) (mvT hZ (hw _ (List.mem_of_getElem? (i := 12) rfl))) (mvT hZ (hw _ (List.mem_of_getElem? (i := 13) rfl))) (mvT hZ (hw _ (List.mem_of_getElem? (i := 14) rfl))) (by decide) (backOf (W := 1) (rm4 l Z aa hw [] (p0 &&& (65535 : Int32))  h0 n0 Z0 ) hZ (hw _ (List.mem_of_getElem? (i := 14) rfl)) (hw _ (List.mem_of_getElem? (i := 13) rfl)) (by decide) (by decide)) (g := (mkF m 13 #[.val (.int p0), .val (.int (p0 &&& (65535 : Int32))), .val (.int ((p0 &&& (65535 : Int32)).toUInt32.toUInt16.toUInt32.toInt32))] [(.int (p0 &&& (65535 : Int32))), (.int (f3 ((p0 &&& (65535 : Int32)).toUInt32.toUInt16.toUInt32.toInt32)))])) rfl (by rw [hml]; rfl) (argsL := [(.int (p0 &&& (65535 : Int32)))]) (rest := [(.int (f3 ((p0 &&& (65535 : Int32)).toUInt32.toUInt16.toUInt32.toInt32)))]) (lenOf pd0_1 rfl) rfl (by show 2 * 0 + _ ≤ _; exact Nat.le_of_eq rfl) (hb hby at_13) (fun _ _ => ⟨rfl, e0c1, (by decide : 0 + 0 ≤ _), (by decide : 0 + 0 ≤ _)⟩)
  dsimp only [Pt.U, Pt.locs, Pt.cells, Pt.slots] at X0c2 l0c2 y0c2 z0c2 st0c2 hQ0c2
  subst l0c2 y0c2 z0c2
  obtain ⟨rfl, N0c2q, e0c2⟩ := hQ0c2
  have N0c2 := Fr.app N0c1 N0c2q
  refine stp (fun t k => st0c2 t k) ?_
  show W (T0c2.setTop (mkF m 16 #[.val (.int p0), .val (.int (p0 &&& (65535 : Int32))), .val (.int ((p0 &&& (65535 : Int32)).toUInt32.toUInt16.toUInt32.toInt32))] [(.int (f4 (p0 &&& (65535 : Int32)))), (.int (f3 ((p0 &&& (65535 : Int32)).toUInt32.toUInt16.toUInt32.toInt32)))]))
  refine stp (fun t k => XS.icmpNo X0c2.here hx rfl (hb hby at_16) rfl ((teq (by exact own_0_16_3 p0  )).2) k) ?_
  show W (T0c2.setTop (mkF m 19 #[.val (.int p0), .val (.int (p0 &&& (65535 : Int32))), .val (.int ((p0 &&& (65535 : Int32)).toUInt32.toUInt16.toUInt32.toInt32))] []))
  refine stp (fun t k => XS.iconst X0c2.here hx rfl (hb hby at_19) k) ?_
  show W (T0c2.setTop (mkF m 20 #[.val (.int p0), .val (.int (p0 &&& (65535 : Int32))), .val (.int ((p0 &&& (65535 : Int32)).toUInt32.toUInt16.toUInt32.toInt32))] [(.int (1 : Int32))]))
  refine stp (fun t k => XS.goto X0c2.here hx rfl (pc0 := 20) (pc' := 24) rfl (hb hby at_20) (by decide) (by decide) k) ?_
  show W (T0c2.setTop (mkF m 24 #[.val (.int p0), .val (.int (p0 &&& (65535 : Int32))), .val (.int ((p0 &&& (65535 : Int32)).toUInt32.toUInt16.toUInt32.toInt32))] [(.int (1 : Int32))]))
  show W (T0c2.setTop (mkF m 24 #[.val (.int p0), .val (.int (p0 &&& (65535 : Int32))), .val (.int ((p0 &&& (65535 : Int32)).toUInt32.toUInt16.toUInt32.toInt32))] [(.int (1 : Int32))]))
  rw [← hW]
  exact own_retN X0c2 hx Bd.notSynchronized Bd.returns (w := (1 : Int32)) (by simp) (hb hby at_24) rfl (by show Q0 Z p0 h0 n0 _ T0c2.heap _; rw [e0c2]; exact ⟨rfl, N0c2⟩) (by decide) (by decide)
set_option maxRecDepth 65536 in
set_option maxHeartbeats 40000000 in
theorem comes_1 {Post : Tables → Env → Array Value → State → Outcome → State → Prop} (hpost : ∀ tb e args s v u, (limb_1_1.after args s (.returned v) u = true ∧ limb_1_2.after args s (.returned v) u = true ∧ True) → FrameEnd s (.returned v) u (Jvm.fieldLocs frame_1_writes args s ++ Jvm.arrayLocs frame_1_arrays args s ++ Jvm.staticLocs frame_1_statics s) 0 0 → Post tb e args s (.returned v) u) :
    ArmFor flags0 classFile x code maxLocals ret World_1 tables_1 room_1 Calls_1 rest_1 Pre_1 Post := by
  intro l hfl _ _ p e ha hc hk s m args below hf hA hF happ hP
  obtain ⟨hcalls, hrest, hpre⟩ := hP
  obtain ⟨-, -, -, hnamed, -, -, -, hat⟩ := (Spec.applies_iff hf).mp happ
  obtain ⟨hg, hn⟩ := and_e (Cond.before_iff.mp (show (Jvm.Cond.and given_1 narrow_1).before args s = true from hpre))
  obtain ⟨gc, hg⟩ := and_e hg
  have g0 := hg
  obtain ⟨w0, rfl⟩ : ∃ w0 : Value, args = #[w0] := by
    have hs : args.size = 1 := by simpa [Cond.value, given_1] using gc
    obtain ⟨L⟩ := args
    match L, hs with
    | [w0], _ => exact ⟨w0, rfl⟩
  have hw := fun d (hd : d ∈ tables_1) => atoms_spec (ws := Jvm.Cond.code x code maxLocals ret :: tables_1) hat d (List.mem_cons_of_mem _ hd)
  have hfit : Fit s := fun {y c} hc i hi => by
    obtain ⟨ha, rfl⟩ := Array.getElem?_eq_some_iff.mp hc
    have q := List.all_eq_true.mp ((Array.all_eq_true_iff_forall_mem.mp hF) _ (Array.getElem_mem ha)) i (List.mem_range.mpr hi)
    simpa [Array.getElem?_eq_getElem hi] using q
  obtain ⟨i0, ei0⟩ := is_v g0
  obtain rfl : w0 = (.int i0) := Option.some.inj ei0
  obtain ⟨n, o, h1, h2, h3, _, L, rfl, ⟨rfl, N⟩, hq⟩ := rm0 l s _ hw tables_1 i0 s.heap s.heap.size (Nat.le_refl _) p e ha hc hk s m _ below hf ((Spec.applies_iff_loose hf).mp happ).1 ⟨rfl, State.Warmed39.refl s, rfl⟩ trivial
  refine ⟨n, _, h1, h2, h3, hpost _ _ _ _ _ _ ⟨Cond.after_iff.mpr rfl, Cond.after_iff.mpr (eq_i res_at (Term.int_eval (1)) rfl), trivial⟩ ⟨hq.1, hq.2.1, (hq.2.2.sift fun y hy => Or.inr (N y hy)).mono (by decide) (by decide)⟩⟩
theorem main_1_1 : Claimed_1_1 := comes_1 fun _ _ _ _ _ _ h hF => ⟨h.1, hF⟩
theorem main_1_2 : Claimed_1_2 := comes_1 fun _ _ _ _ _ _ h hF => ⟨h.2.1, hF⟩
end Jvm.Pilot.@@N@@
namespace Jvm.Pilot.@@N@@
open Jvm Jvm.ClassFile Sem Op Lib Jvm.Free Jvm.Stand Jvm.Pilot.@@N@@.Jvm.D
/-! MADE BY PROGRAM (witnessworld.py) out of the Statement's table words and the real class files: 10 classes; the members and pool entries that the words name. The judged class is class 1, her method 2. -/
namespace start1
open Jvm.ClassFile
def u (s : String) : CpInfo := .utf8 (stringToUtf16 s)
/-- a pool by its gaps: so many unusable entries, then the entry; so many at the end -/
def gap : Nat → List CpInfo → List CpInfo
  | 0, r => r
  | n + 1, r => .unusable :: gap n r
def poolList (es : List (Nat × CpInfo)) (last : Nat) : List CpInfo := es.foldr (fun e r => gap e.1 (e.2 :: r)) (gap last [])
def pool (es : List (Nat × CpInfo)) (last : Nat) : Array CpInfo := ⟨poolList es last⟩
def fileOf (pool : Array CpInfo) (this : Nat) (attrs : Array Attribute := #[]) (ms : Array MethodInfo := #[]) (fl : Nat := 33) (sup : Nat := 0) (ifs : Array Nat := #[]) (fds : Array FieldInfo := #[]) : ClassFile where
  minorVersion := 0
  majorVersion := 65
  constantPool := pool
  accessFlags := fl
  thisClass := this
  superClass := sup
  interfaces := ifs
  fields := fds
  methods := ms
  attributes := attrs
def plain (name : String) (sup : Option ClassId) : Class where
  name := name
  kind := .ordinary
  loader := none
  accessFlags := 33
  super := sup
  interfaces := #[]
  cf := none
  fields := #[]
  methods := #[]
  instanceTypes := #[]
  staticTypes := #[]
  resolved := #[]
  callSites := []
  init := .initialized
  statics := none
  mirror := none

def pool0 : Array CpInfo := pool [(5, u "<init>"), (0, u "()V"), (1, .class_ 10), (1, u "java/lang/Object")] 113

def k0m0 : Method := { name := "<init>", desc := "()V", sig := { parameters := [], returnType := none }, accessFlags := 1, code := none }
/-- java/lang/Object -/
def k0 : Class := { plain "java/lang/Object" none with
  accessFlags := 33
  interfaces := #[]
  cf := some (fileOf pool0 8 #[] #[{ accessFlags := 1, nameIndex := 5, descriptorIndex := 6, attributes := #[] }] 33 0 #[] #[])
  fields := #[]
  methods := #[k0m0]
  instanceTypes := #[]
  staticTypes := #[]
  resolved := Array.replicate 124 none
  statics := none }

def pool1 : Array CpInfo := pool [(2, .class_ 4), (1, u "java/lang/Object"), (0, u "<init>"), (0, u "()V"), (0, .class_ 8), (0, u "com/example/grant3/grant3/IdentifierIsUnquotedPartPinLaw"), (0, .long 287948969894477824), (1, .long 576460745995190270), (1, .integer 65535), (0, .methodref 15 16), (0, .class_ 17), (0, .nameAndType 18 19), (0, u "com/example/grant3/grant3/Identifier"), (0, u "isUnquotedPart"), (0, u "(C)Z"), (0, .methodref 7 21), (0, .nameAndType 22 23), (0, u "expected"), (0, u "(I)Z"), (0, u "LOW"), (0, u "J"), (1, u "HIGH"), (3, u "law")] 2

def k1m0 : Method := { name := "<init>", desc := "()V", sig := { parameters := [], returnType := none }, accessFlags := 2, code := none }
def k1c1 : Code := { maxStack := 4, maxLocals := 1, code := method_2_code, exceptionTable := #[], attributes := #[] }
def k1m1 : Method := { name := "expected", desc := "(I)Z", sig := { parameters := [.int], returnType := some .boolean }, accessFlags := 10, code := some k1c1 }
def k1c2 : Code := { maxStack := 2, maxLocals := 3, code := code, exceptionTable := #[], attributes := #[] }
def k1m2 : Method := { name := "law", desc := "(I)Z", sig := { parameters := [.int], returnType := some .boolean }, accessFlags := 9, code := some k1c2 }
/-- com/example/grant3/grant3/IdentifierIsUnquotedPartPinLaw -/
def k1 : Class := { plain "com/example/grant3/grant3/IdentifierIsUnquotedPartPinLaw" (some 0) with
  accessFlags := 49
  interfaces := #[]
  cf := some (fileOf pool1 7 #[] #[{ accessFlags := 2, nameIndex := 5, descriptorIndex := 6, attributes := #[] }, { accessFlags := 10, nameIndex := 22, descriptorIndex := 23, attributes := #[] }, { accessFlags := 9, nameIndex := 31, descriptorIndex := 23, attributes := #[] }] 49 2 #[] #[{ accessFlags := 26, nameIndex := 24, descriptorIndex := 25, attributes := #[] }, { accessFlags := 26, nameIndex := 27, descriptorIndex := 25, attributes := #[] }])
  fields := #[{ name := "LOW", type := .long, accessFlags := 26, slot := 0, constantValue := 0 }, { name := "HIGH", type := .long, accessFlags := 26, slot := 1, constantValue := 0 }]
  methods := #[k1m0, k1m1, k1m2]
  instanceTypes := #[]
  staticTypes := #[.long, .long]
  resolved := Array.replicate 34 none
  statics := none }

def pool2 : Array CpInfo := pool [(2, .class_ 4), (1, u "java/lang/Object"), (0, u "<init>"), (0, u "()V"), (0, .class_ 8), (0, u "java/lang/Record")] 13

def k2m0 : Method := { name := "<init>", desc := "()V", sig := { parameters := [], returnType := none }, accessFlags := 4, code := none }
/-- java/lang/Record -/
def k2 : Class := { plain "java/lang/Record" (some 0) with
  accessFlags := 1057
  interfaces := #[]
  cf := some (fileOf pool2 7 #[] #[{ accessFlags := 4, nameIndex := 5, descriptorIndex := 6, attributes := #[] }] 1057 2 #[] #[])
  fields := #[]
  methods := #[k2m0]
  instanceTypes := #[]
  staticTypes := #[]
  resolved := Array.replicate 22 none
  statics := none }

def pool3 : Array CpInfo := pool [(2, .class_ 4), (1, u "java/lang/Record"), (3, u "name"), (27, .class_ 37), (0, u "com/example/grant3/grant3/Identifier"), (6, u "Ljava/lang/String;"), (16, u "(C)Z"), (47, u "isUnquotedPart"), (15, .methodref 36 126), (0, .nameAndType 127 61), (0, u "isAsciiLetter"), (0, .methodref 36 129), (0, .nameAndType 130 61), (0, u "isAsciiDigit"), (16, u "MAX_LENGTH"), (0, u "I"), (2, u "QUOTE"), (0, u "C")] 51

def k3c0 : Code := { maxStack := 2, maxLocals := 1, code := prog_31_method_7_code, exceptionTable := #[], attributes := #[] }
def k3m0 : Method := { name := "isUnquotedPart", desc := "(C)Z", sig := { parameters := [.char], returnType := some .boolean }, accessFlags := 8, code := some k3c0 }
def k3c1 : Code := { maxStack := 2, maxLocals := 1, code := prog_31_method_10_code, exceptionTable := #[], attributes := #[] }
def k3m1 : Method := { name := "isAsciiLetter", desc := "(C)Z", sig := { parameters := [.char], returnType := some .boolean }, accessFlags := 10, code := some k3c1 }
def k3c2 : Code := { maxStack := 2, maxLocals := 1, code := prog_31_method_11_code, exceptionTable := #[], attributes := #[] }
def k3m2 : Method := { name := "isAsciiDigit", desc := "(C)Z", sig := { parameters := [.char], returnType := some .boolean }, accessFlags := 10, code := some k3c2 }
/-- com/example/grant3/grant3/Identifier -/
def k3 : Class := { plain "com/example/grant3/grant3/Identifier" (some 2) with
  accessFlags := 49
  interfaces := #[]
  cf := some (fileOf pool3 36 #[] #[{ accessFlags := 8, nameIndex := 109, descriptorIndex := 61, attributes := #[] }, { accessFlags := 10, nameIndex := 127, descriptorIndex := 61, attributes := #[] }, { accessFlags := 10, nameIndex := 130, descriptorIndex := 61, attributes := #[] }] 49 2 #[] #[{ accessFlags := 18, nameIndex := 8, descriptorIndex := 44, attributes := #[] }, { accessFlags := 25, nameIndex := 147, descriptorIndex := 148, attributes := #[] }, { accessFlags := 26, nameIndex := 151, descriptorIndex := 152, attributes := #[] }])
  fields := #[{ name := "name", type := (.object "java/lang/String"), accessFlags := 18, slot := 0, constantValue := 0 }, { name := "MAX_LENGTH", type := .int, accessFlags := 25, slot := 0, constantValue := 0 }, { name := "QUOTE", type := .char, accessFlags := 26, slot := 1, constantValue := 0 }]
  methods := #[k3m0, k3m1, k3m2]
  instanceTypes := #[(.object "java/lang/String")]
  staticTypes := #[.int, .char]
  resolved := Array.replicate 204 none
  statics := none }

def pool4 : Array CpInfo := pool [(1, u "java/lang/Cloneable"), (0, .class_ 1), (0, u "java/lang/Object"), (0, .class_ 3)] 3

/-- java/lang/Cloneable -/
def k4 : Class := { plain "java/lang/Cloneable" (some 0) with
  accessFlags := 1537
  interfaces := #[]
  cf := some (fileOf pool4 2 #[] #[] 1537 4 #[] #[])
  fields := #[]
  methods := #[]
  instanceTypes := #[]
  staticTypes := #[]
  resolved := Array.replicate 8 none
  statics := none }

def pool5 : Array CpInfo := pool [(1, u "java/io/Serializable"), (0, .class_ 1), (0, u "java/lang/Object"), (0, .class_ 3)] 3

/-- java/io/Serializable -/
def k5 : Class := { plain "java/io/Serializable" (some 0) with
  accessFlags := 1537
  interfaces := #[]
  cf := some (fileOf pool5 2 #[] #[] 1537 4 #[] #[])
  fields := #[]
  methods := #[]
  instanceTypes := #[]
  staticTypes := #[]
  resolved := Array.replicate 8 none
  statics := none }

/-- the primitive byte -/
def k6 : Class := { plain "byte" none with kind := .primitive 'B', accessFlags := 0x411 }
/-- [B -/
def k7 : Class := { plain "[B" (some 0) with kind := .array 6 .byte, interfaces := #[4, 5], accessFlags := 1041 }

/-- the primitive int -/
def k8 : Class := { plain "int" none with kind := .primitive 'I', accessFlags := 0x411 }
/-- [I -/
def k9 : Class := { plain "[I" (some 0) with kind := .array 8 .int, interfaces := #[4, 5], accessFlags := 1041 }

def heap : Heap := #[]
def classes : Array Class := #[k0, k1, k2, k3, k4, k5, k6, k7, k8, k9]
def interned : List (Array UInt16 × Addr) := []
def slotsUsed : Nat := 0
def theMethod : MethodId := ⟨1, 2⟩
def args0 : Array Value := #[.int 70]
def aboutOver (below : List Frame) : State where
  vm := { classes := classes, interned := interned.toArray }
  heap := heap
  slotsUsed := slotsUsed
  threads := #[{ frames := .invoking theMethod args0 :: below }]
def below0 : List Frame := [.native { method := ⟨0, 0⟩, args := #[] }]
def about1 : State := aboutOver below0
def p0 : Program := .bare "" "" ""
def e0 : Env := launch0.env 0 0 0
theorem w_frames : about1.frames = Frame.invoking theMethod args0 :: below0 := rfl
set_option maxRecDepth 65536 in
theorem w_args : argsFit about1.vm theMethod args0 = true := by decide +kernel
set_option maxRecDepth 65536 in
theorem w_heap : heapFits about1 = true := by decide +kernel
set_option maxRecDepth 65536 in
theorem w_runnable : about1.curStatus? = some .runnable := by decide +kernel
set_option maxRecDepth 65536 in
theorem w_alone : about1.alone = true := by decide +kernel
set_option maxRecDepth 65536 in
theorem w_named : about1.methodNamed? x = some theMethod := by decide +kernel
set_option maxRecDepth 65536 in
theorem w_hears : about1.hears theMethod below0 = true := by decide +kernel
set_option maxRecDepth 65536 in
theorem w_ripe : about1.ripe theMethod args0 below0 = true := by decide +kernel
theorem w_running : about1.status = .running := rfl
set_option maxRecDepth 65536 in
theorem w_room : about1.hasRoom e0.platform room_1 = true :=
  launch0.hasRoom_least _ room_1 (by decide +kernel) (by decide +kernel) (by decide +kernel) (by decide +kernel) (by decide +kernel) (by decide +kernel)
theorem allAtoms_all (ts : List Jvm.Cond) (a : Array Jvm.Value) (st : Jvm.State) : (allAtoms ts).before a st = ts.all (fun c => c.before a st) := by
  induction ts with
  | nil => rfl
  | cons c t ih =>
    show (Jvm.Cond.and c (allAtoms t)).before a st = _
    rw [Jvm.Cond.before_and, ih, List.all_cons]
def words1 : List Jvm.Cond := Jvm.Cond.code x code maxLocals ret :: tables_1
/-- a 'code' word, met by the world's own term for the bytes: nothing is compared byte by byte -/
theorem code_word {y : MethodName} {bytes : ByteArray} {mx : Nat} {rt : Option FieldType} {a : Array Value} {s : State} {m : MethodId} {meth : Method} {c : Code} (h1 : s.methodNamed? y = some m) (h2 : s.vm.method? m = some meth) (h3 : meth.code = some c) (h4 : c.code = bytes)
    (h5 : (c.maxLocals == mx && c.exceptionTable.isEmpty && decide (c.maxStack ≤ mostOperands) && decide (meth.sig.returnType = rt) && !meth.locks && decide (parseMethodDescriptor y.desc = some meth.sig)) = true) : (Jvm.Cond.code y bytes mx rt).before a s = true := by
  simp only [Bool.and_eq_true, beq_iff_eq, Bool.not_eq_true', decide_eq_true_eq] at h5
  obtain ⟨⟨⟨⟨⟨g1, g2⟩, g3⟩, g4⟩, g5⟩, g6⟩ := h5
  simp [Cond.before, Cond.holds, Cond.value, h1, h2, h3, h4, g1, g2, g3, g4, g5, g6]
def isCode : Jvm.Cond → Bool
  | .code _ _ _ _ => true
  | _ => false
theorem all_split {L : List Jvm.Cond} {P : Jvm.Cond → Bool} (h1 : L.all (fun c => isCode c || P c) = true) (h2 : ∀ c ∈ L.filter isCode, P c = true) : L.all P = true := by
  refine List.all_eq_true.mpr fun c hc => ?_
  have h := List.all_eq_true.mp h1 c hc
  rcases Bool.eq_false_or_eq_true (isCode c) with hi | hi
  · exact h2 c (List.mem_filter.mpr ⟨hc, hi⟩)
  · simpa [hi] using h
set_option maxRecDepth 65536 in
theorem w_c0 : (Jvm.Cond.code x code maxLocals ret).before args0 about1 = true := code_word (m := ⟨1, 2⟩) (meth := k1m2) (c := k1c2) (by decide +kernel) rfl rfl rfl (by decide +kernel)
set_option maxRecDepth 65536 in
theorem w_c1 : (Jvm.Cond.code ({ cls := "com/example/grant3/grant3/Identifier", name := "isUnquotedPart", desc := "(C)Z" } : Jvm.MethodName) prog_31_method_7_code (1 : Nat) (Option.some Jvm.ClassFile.FieldType.boolean)).before args0 about1 = true := code_word (m := ⟨3, 0⟩) (meth := k3m0) (c := k3c0) (by decide +kernel) rfl rfl rfl (by decide +kernel)
set_option maxRecDepth 65536 in
theorem w_c2 : (Jvm.Cond.code ({ cls := "com/example/grant3/grant3/Identifier", name := "isAsciiLetter", desc := "(C)Z" } : Jvm.MethodName) prog_31_method_10_code (1 : Nat) (Option.some Jvm.ClassFile.FieldType.boolean)).before args0 about1 = true := code_word (m := ⟨3, 1⟩) (meth := k3m1) (c := k3c1) (by decide +kernel) rfl rfl rfl (by decide +kernel)
set_option maxRecDepth 65536 in
theorem w_c3 : (Jvm.Cond.code ({ cls := "com/example/grant3/grant3/Identifier", name := "isAsciiDigit", desc := "(C)Z" } : Jvm.MethodName) prog_31_method_11_code (1 : Nat) (Option.some Jvm.ClassFile.FieldType.boolean)).before args0 about1 = true := code_word (m := ⟨3, 2⟩) (meth := k3m2) (c := k3c2) (by decide +kernel) rfl rfl rfl (by decide +kernel)
set_option maxRecDepth 65536 in
theorem w_c4 : (Jvm.Cond.code ({ cls := "com/example/grant3/grant3/IdentifierIsUnquotedPartPinLaw", name := "expected", desc := "(I)Z" } : Jvm.MethodName) method_2_code (1 : Nat) (Option.some Jvm.ClassFile.FieldType.boolean)).before args0 about1 = true := code_word (m := ⟨1, 1⟩) (meth := k1m1) (c := k1c1) (by decide +kernel) rfl rfl rfl (by decide +kernel)
def codes1 : List Jvm.Cond := [Jvm.Cond.code x code maxLocals ret, Jvm.Cond.code ({ cls := "com/example/grant3/grant3/Identifier", name := "isUnquotedPart", desc := "(C)Z" } : Jvm.MethodName) prog_31_method_7_code (1 : Nat) (Option.some Jvm.ClassFile.FieldType.boolean), Jvm.Cond.code ({ cls := "com/example/grant3/grant3/Identifier", name := "isAsciiLetter", desc := "(C)Z" } : Jvm.MethodName) prog_31_method_10_code (1 : Nat) (Option.some Jvm.ClassFile.FieldType.boolean), Jvm.Cond.code ({ cls := "com/example/grant3/grant3/Identifier", name := "isAsciiDigit", desc := "(C)Z" } : Jvm.MethodName) prog_31_method_11_code (1 : Nat) (Option.some Jvm.ClassFile.FieldType.boolean), Jvm.Cond.code ({ cls := "com/example/grant3/grant3/IdentifierIsUnquotedPartPinLaw", name := "expected", desc := "(I)Z" } : Jvm.MethodName) method_2_code (1 : Nat) (Option.some Jvm.ClassFile.FieldType.boolean)]
set_option maxRecDepth 65536 in
theorem codes_eq : words1.filter isCode = codes1 := rfl
theorem w_codes : ∀ c ∈ words1.filter isCode, c.before args0 about1 = true := by
  rw [codes_eq]
  intro c hc
  simp only [codes1, List.mem_cons, List.not_mem_nil, or_false] at hc
  rcases hc with rfl | rfl | rfl | rfl | rfl
  · exact w_c0
  · exact w_c1
  · exact w_c2
  · exact w_c3
  · exact w_c4
set_option maxRecDepth 65536 in
theorem w_t1 : words1.all (fun c => isCode c || c.before args0 about1) = true := by decide +kernel
theorem w_tables : (allAtoms (Jvm.Cond.code x code maxLocals ret :: tables_1)).before args0 about1 = true := by
  rw [allAtoms_all]
  show words1.all (fun c => c.before args0 about1) = true
  refine all_split ?_ w_codes
  rw [w_t1]
set_option maxRecDepth 65536 in
theorem w_case : (Jvm.Cond.and given_1 narrow_1).before args0 about1 = true := by decide +kernel
theorem w_applies : (headSpec (Jvm.Cond.code x code maxLocals ret :: tables_1) room_1).applies x e0.platform about1 = true :=
  (Spec.applies_iff w_frames).mpr ⟨w_running, w_runnable, w_alone, w_named, w_hears, w_ripe, w_room, w_tables⟩
theorem atStart : AtStart classFile x code maxLocals ret World_1 tables_1 room_1 Calls_1 rest_1 Pre_1 launch0 p0 e0 about1 theMethod args0 below0 :=
  ⟨lists_1, trivial, launch0.admits_env _ _ _, launch0.least_env, fairChoices_fair.cas, fairChoices_fair.clock, w_frames, w_args, w_heap, w_applies, trivial, trivial, w_case⟩
end start1
theorem witness_1 : WitnessClaimed_1 := ⟨start1.p0, start1.e0, start1.about1, start1.theMethod, start1.args0, start1.below0, start1.atStart⟩
end Jvm.Pilot.@@N@@
