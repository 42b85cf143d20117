import JvmDerived
import JvmDerived.Pilot.@@N@@Statement
import JvmDerived.Pilot.@@N@@Code
set_option linter.unusedVariables false
set_option linter.unusedSimpArgs false
namespace Jvm.Pilot.@@N@@
open Jvm Jvm.ClassFile Sem Op Lib Jvm.Free Jvm.Stand Jvm.LawKit Jvm.RoadKit Bundle Jvm.Pilot.@@N@@.Jvm.D
/-! the walk's goal: from the state A the run ends, returning what Qv says -/
def OwnEnd (p : Program) (e : Env) (below : List Frame) (s : State) (Qv : Option Value → Heap → List Loc → Prop) (k n : Nat) (A : State) : Prop :=
  ∃ s₂ o, Steps p.tables e below A s₂ ∧ s₂.status = .running ∧ Ended s₂ below o ∧ ∃ v L, o = .returned v ∧ Qv v s₂.heap L ∧ FrameEnd s o s₂ L k n
theorem own_step {p : Program} {e : Env} {below : List Frame} {s : State} {Qv : Option Value → Heap → List Loc → Prop} {k n : Nat} {A B : State} (h : ∀ t, Steps p.tables e below B t → Steps p.tables e below A t) (q : OwnEnd p e below s Qv k n B) : OwnEnd p e below s Qv k n A := by
  obtain ⟨s₂, o, h1, h2⟩ := q
  exact ⟨s₂, o, h _ h1, h2⟩
theorem own_arvEq {Z : State} {h : Heap} {a : Addr} {k : ClassId} {ty : FieldType} {z : Int32} {vs vs' : List Value} {d : Value} (e : vs = vs') (F : Arv Z h a k ty z vs d) : Arv Z h a k ty z vs' d := by subst e; exact F
theorem own_fldEq {Z : State} {h : Heap} {a : Addr} {C n d : String} {x y : Int32} (e : x = y) (F : Fld Z h a C n d (.int x)) : Fld Z h a C n d (.int y) := by subst e; exact F
section OwnRet
variable {p : Program} {l : Launch} {e : Env} {R : Room} {s : State} {m : MethodId} {args : Array Value} {below : List Frame} {meth : Method} {c : Code} {T : State} {locs : List Loc} {cells slots k n : Nat} {Qv : Option Value → Heap → List Loc → Prop}
theorem own_retN (X : Stand p l e R s m args below meth c T locs cells slots) (hx : p.tables.exec = Jvm.exec) (hlocks : meth.locks = false) {pc : Nat} {Ls : Array Slot} {z w : Int32} {t : FieldType} {rest : List Value} (hret : meth.sig.returnType = some t) (ht : t = .boolean ∨ t = .byte ∨ t = .char ∨ t = .short) (hd : decode c.code pc = .ok (.ireturn, 1)) (hz : nar t z = w) (hq : Qv (some (.int w)) T.heap locs) (hk : cells ≤ k) (hn : slots ≤ n) :
    OwnEnd p e below s Qv k n (T.setTop (mkF m pc Ls (.int z :: rest))) := by
  obtain ⟨fs, hr, hrun, hended, hW, hsame⟩ := X.leave (v := some (.int w)) (fun h => by rw [hret] at h; cases h) hlocks
  exact ⟨_, _, retN X hx hret ht hd (fs := fs) (by rw [hz]; exact hr), hrun, hended, _, _, rfl, hq, ⟨_, rfl⟩, hW, hsame.mono hk hn⟩
theorem own_retI (X : Stand p l e R s m args below meth c T locs cells slots) (hx : p.tables.exec = Jvm.exec) (hlocks : meth.locks = false) {pc : Nat} {Ls : Array Slot} {z : Int32} {rest : List Value} (hret : meth.sig.returnType = some .int) (hd : decode c.code pc = .ok (.ireturn, 1)) (hq : Qv (some (.int z)) T.heap locs) (hk : cells ≤ k) (hn : slots ≤ n) :
    OwnEnd p e below s Qv k n (T.setTop (mkF m pc Ls (.int z :: rest))) := by
  obtain ⟨fs, hr, hrun, hended, hW, hsame⟩ := X.leave (v := some (.int z)) (fun h => by rw [hret] at h; cases h) hlocks
  refine ⟨T.setFrames fs, _, ?_, hrun, hended, _, _, rfl, hq, ⟨_, rfl⟩, hW, hsame.mono hk hn⟩
  have hm' : T.vm.method? m = some meth := X.method'
  have hn' : narrow .int (.int z) = .int z := rfl
  show Steps p.tables e below (T.setTop { method := m, pc := pc, locals := Ls, stack := _ :: rest, locked := none }) _
  jvm_step X.here [X.here.top, hx, hd, hm', hret, hn']
  first | (intro acts; rw [hr _ acts rfl rfl rfl]) | rw [hr _ _ rfl rfl rfl]
  exact Steps.refl _
theorem own_retJ (X : Stand p l e R s m args below meth c T locs cells slots) (hx : p.tables.exec = Jvm.exec) (hlocks : meth.locks = false) {pc : Nat} {Ls : Array Slot} {z : Int64} {rest : List Value} (hret : meth.sig.returnType = some .long) (hd : decode c.code pc = .ok (.lreturn, 1)) (hq : Qv (some (.long z)) T.heap locs) (hk : cells ≤ k) (hn : slots ≤ n) :
    OwnEnd p e below s Qv k n (T.setTop (mkF m pc Ls (.long z :: rest))) := by
  obtain ⟨fs, hr, hrun, hended, hW, hsame⟩ := X.leave (v := some (.long z)) (fun h => by rw [hret] at h; cases h) hlocks
  refine ⟨T.setFrames fs, _, ?_, hrun, hended, _, _, rfl, hq, ⟨_, rfl⟩, hW, hsame.mono hk hn⟩
  have hm' : T.vm.method? m = some meth := X.method'
  have hn' : narrow .long (.long z) = .long z := rfl
  show Steps p.tables e below (T.setTop { method := m, pc := pc, locals := Ls, stack := _ :: rest, locked := none }) _
  jvm_step X.here [X.here.top, hx, hd, hm', hret, hn']
  first | (intro acts; rw [hr _ acts rfl rfl rfl]) | rw [hr _ _ rfl rfl rfl]
  exact Steps.refl _
theorem own_retD (X : Stand p l e R s m args below meth c T locs cells slots) (hx : p.tables.exec = Jvm.exec) (hlocks : meth.locks = false) {pc : Nat} {Ls : Array Slot} {z : UInt64} {rest : List Value} (hret : meth.sig.returnType = some .double) (hd : decode c.code pc = .ok (.dreturn, 1)) (hq : Qv (some (.double z)) T.heap locs) (hk : cells ≤ k) (hn : slots ≤ n) :
    OwnEnd p e below s Qv k n (T.setTop (mkF m pc Ls (.double z :: rest))) := by
  obtain ⟨fs, hr, hrun, hended, hW, hsame⟩ := X.leave (v := some (.double z)) (fun h => by rw [hret] at h; cases h) hlocks
  refine ⟨T.setFrames fs, _, ?_, hrun, hended, _, _, rfl, hq, ⟨_, rfl⟩, hW, hsame.mono hk hn⟩
  have hm' : T.vm.method? m = some meth := X.method'
  have hn' : narrow .double (.double z) = .double z := rfl
  show Steps p.tables e below (T.setTop { method := m, pc := pc, locals := Ls, stack := _ :: rest, locked := none }) _
  jvm_step X.here [X.here.top, hx, hd, hm', hret, hn']
  first | (intro acts; rw [hr _ acts rfl rfl rfl]) | rw [hr _ _ rfl rfl rfl]
  exact Steps.refl _
theorem own_retR (X : Stand p l e R s m args below meth c T locs cells slots) (hx : p.tables.exec = Jvm.exec) (hlocks : meth.locks = false) {pc : Nat} {Ls : Array Slot} {z : Addr} {t : FieldType} {rest : List Value} (hret : meth.sig.returnType = some t) (ht : t.isReference = true) (hd : decode c.code pc = .ok (.areturn, 1)) (hq : Qv (some (.ref z)) T.heap locs) (hk : cells ≤ k) (hn : slots ≤ n) :
    OwnEnd p e below s Qv k n (T.setTop (mkF m pc Ls (.ref z :: rest))) := by
  obtain ⟨fs, hr, hrun, hended, hW, hsame⟩ := X.leave (v := some (.ref z)) (fun h => by rw [hret] at h; cases h) hlocks
  refine ⟨T.setFrames fs, _, ?_, hrun, hended, _, _, rfl, hq, ⟨_, rfl⟩, hW, hsame.mono hk hn⟩
  have hm' : T.vm.method? m = some meth := X.method'
  show Steps p.tables e below (T.setTop { method := m, pc := pc, locals := Ls, stack := _ :: rest, locked := none }) _
  jvm_step X.here [X.here.top, hx, hd, hm', hret, ht, Value.isRef]
  first | (intro acts; rw [hr _ acts rfl rfl rfl]) | rw [hr _ _ rfl rfl rfl]
  exact Steps.refl _
theorem own_ret0 (X : Stand p l e R s m args below meth c T locs cells slots) (hx : p.tables.exec = Jvm.exec) (hlocks : meth.locks = false) {pc : Nat} {Ls : Array Slot} (hret : meth.sig.returnType = none) (hd : decode c.code pc = .ok (.return_, 1)) (hq : Qv none T.heap locs) (hk : cells ≤ k) (hn : slots ≤ n) :
    OwnEnd p e below s Qv k n (T.setTop (mkF m pc Ls [])) := by
  obtain ⟨fs, hr, hrun, hended, hW, hsame⟩ := X.leave (v := none) (fun _ => rfl) hlocks
  exact ⟨_, _, X.returnOut hx hret hd hr, hrun, hended, _, _, rfl, hq, ⟨_, rfl⟩, hW, hsame.mono hk hn⟩
end OwnRet
theorem d1_0 : decode prog_43_method_3_code 0 = .ok (.iconst 0, 1) := by decide +kernel
theorem d1_1 : decode prog_43_method_3_code 1 = .ok (.istore_n 2, 1) := by decide +kernel
theorem d1_2 : decode prog_43_method_3_code 2 = .ok (.getstatic 58, 3) := by decide +kernel
theorem d1_5 : decode prog_43_method_3_code 5 = .ok (.astore_n 3, 1) := by decide +kernel
theorem d1_6 : decode prog_43_method_3_code 6 = .ok (.aload_n 3, 1) := by decide +kernel
theorem d1_7 : decode prog_43_method_3_code 7 = .ok (.arraylength, 1) := by decide +kernel
theorem d1_8 : decode prog_43_method_3_code 8 = .ok (.istore 4, 2) := by decide +kernel
theorem d1_10 : decode prog_43_method_3_code 10 = .ok (.iconst 0, 1) := by decide +kernel
theorem d1_11 : decode prog_43_method_3_code 11 = .ok (.istore 5, 2) := by decide +kernel
theorem d1_13 : decode prog_43_method_3_code 13 = .ok (.iload 5, 2) := by decide +kernel
theorem d1_15 : decode prog_43_method_3_code 15 = .ok (.iload 4, 2) := by decide +kernel
theorem d1_17 : decode prog_43_method_3_code 17 = .ok (.if_icmp .ge 44, 3) := by decide +kernel
theorem d1_20 : decode prog_43_method_3_code 20 = .ok (.aload_n 3, 1) := by decide +kernel
theorem d1_21 : decode prog_43_method_3_code 21 = .ok (.iload 5, 2) := by decide +kernel
theorem d1_23 : decode prog_43_method_3_code 23 = .ok (.iaload, 1) := by decide +kernel
theorem d1_24 : decode prog_43_method_3_code 24 = .ok (.istore 6, 2) := by decide +kernel
theorem d1_26 : decode prog_43_method_3_code 26 = .ok (.iload 6, 2) := by decide +kernel
theorem d1_28 : decode prog_43_method_3_code 28 = .ok (.i2l, 1) := by decide +kernel
theorem d1_29 : decode prog_43_method_3_code 29 = .ok (.iload_n 1, 1) := by decide +kernel
theorem d1_30 : decode prog_43_method_3_code 30 = .ok (.i2l, 1) := by decide +kernel
theorem d1_31 : decode prog_43_method_3_code 31 = .ok (.lmul, 1) := by decide +kernel
theorem d1_32 : decode prog_43_method_3_code 32 = .ok (.ldc2_w 62, 3) := by decide +kernel
theorem d1_35 : decode prog_43_method_3_code 35 = .ok (.ladd, 1) := by decide +kernel
theorem d1_36 : decode prog_43_method_3_code 36 = .ok (.lconst 1, 1) := by decide +kernel
theorem d1_37 : decode prog_43_method_3_code 37 = .ok (.lsub, 1) := by decide +kernel
theorem d1_38 : decode prog_43_method_3_code 38 = .ok (.ldc2_w 62, 3) := by decide +kernel
theorem d1_41 : decode prog_43_method_3_code 41 = .ok (.ldiv, 1) := by decide +kernel
theorem d1_42 : decode prog_43_method_3_code 42 = .ok (.lstore 7, 2) := by decide +kernel
theorem d1_44 : decode prog_43_method_3_code 44 = .ok (.iload_n 0, 1) := by decide +kernel
theorem d1_45 : decode prog_43_method_3_code 45 = .ok (.i2l, 1) := by decide +kernel
theorem d1_46 : decode prog_43_method_3_code 46 = .ok (.lload 7, 2) := by decide +kernel
theorem d1_48 : decode prog_43_method_3_code 48 = .ok (.lcmp, 1) := by decide +kernel
theorem d1_49 : decode prog_43_method_3_code 49 = .ok (.ifCond .ge 6, 3) := by decide +kernel
theorem d1_52 : decode prog_43_method_3_code 52 = .ok (.iinc 2 1, 3) := by decide +kernel
theorem d1_55 : decode prog_43_method_3_code 55 = .ok (.iinc 5 1, 3) := by decide +kernel
theorem d1_58 : decode prog_43_method_3_code 58 = .ok (.goto (-45), 3) := by decide +kernel
theorem d1_61 : decode prog_43_method_3_code 61 = .ok (.iload_n 2, 1) := by decide +kernel
theorem d1_62 : decode prog_43_method_3_code 62 = .ok (.ireturn, 1) := by decide +kernel
theorem pn1 : plainName "com/example/usher/usher/study/Preference" = true := by first | (simp [plainName, overriddenIn]; done) | decide +kernel
theorem ef1 (m : MethodId) (p0 : Int32) (p1 : Int32) : entryFrame m #[(.int p0), (.int p1)] 9 = mkF m 0 #[.val (.int p0), .val (.int p1), .unset, .unset, .unset, .unset, .unset, .unset, .unset] [] := by first | (simp [entryFrame, mkF, argsToLocals, Value.category]; done) | rfl
def f1 (p0 : Int32) (p1 : Int32) : Int32 := (if (p0.toInt64) < ((((((1 : Int32).toInt64) * (p1.toInt64)) + (100 : Int64)) - (1 : Int64)) / (100 : Int64)) then ((if (p0.toInt64) < ((((((5 : Int32).toInt64) * (p1.toInt64)) + (100 : Int64)) - (1 : Int64)) / (100 : Int64)) then ((if (p0.toInt64) < ((((((10 : Int32).toInt64) * (p1.toInt64)) + (100 : Int64)) - (1 : Int64)) / (100 : Int64)) then ((if (p0.toInt64) < ((((((25 : Int32).toInt64) * (p1.toInt64)) + (100 : Int64)) - (1 : Int64)) / (100 : Int64)) then ((if (p0.toInt64) < ((((((50 : Int32).toInt64) * (p1.toInt64)) + (100 : Int64)) - (1 : Int64)) / (100 : Int64)) then (1 : Int32) else (0 : Int32)) + (1 : Int32)) else (if (p0.toInt64) < ((((((50 : Int32).toInt64) * (p1.toInt64)) + (100 : Int64)) - (1 : Int64)) / (100 : Int64)) then (1 : Int32) else (0 : Int32))) + (1 : Int32)) else (if (p0.toInt64) < ((((((25 : Int32).toInt64) * (p1.toInt64)) + (100 : Int64)) - (1 : Int64)) / (100 : Int64)) then ((if (p0.toInt64) < ((((((50 : Int32).toInt64) * (p1.toInt64)) + (100 : Int64)) - (1 : Int64)) / (100 : Int64)) then (1 : Int32) else (0 : Int32)) + (1 : Int32)) else (if (p0.toInt64) < ((((((50 : Int32).toInt64) * (p1.toInt64)) + (100 : Int64)) - (1 : Int64)) / (100 : Int64)) then (1 : Int32) else (0 : Int32)))) + (1 : Int32)) else (if (p0.toInt64) < ((((((10 : Int32).toInt64) * (p1.toInt64)) + (100 : Int64)) - (1 : Int64)) / (100 : Int64)) then ((if (p0.toInt64) < ((((((25 : Int32).toInt64) * (p1.toInt64)) + (100 : Int64)) - (1 : Int64)) / (100 : Int64)) then ((if (p0.toInt64) < ((((((50 : Int32).toInt64) * (p1.toInt64)) + (100 : Int64)) - (1 : Int64)) / (100 : Int64)) then (1 : Int32) else (0 : Int32)) + (1 : Int32)) else (if (p0.toInt64) < ((((((50 : Int32).toInt64) * (p1.toInt64)) + (100 : Int64)) - (1 : Int64)) / (100 : Int64)) then (1 : Int32) else (0 : Int32))) + (1 : Int32)) else (if (p0.toInt64) < ((((((25 : Int32).toInt64) * (p1.toInt64)) + (100 : Int64)) - (1 : Int64)) / (100 : Int64)) then ((if (p0.toInt64) < ((((((50 : Int32).toInt64) * (p1.toInt64)) + (100 : Int64)) - (1 : Int64)) / (100 : Int64)) then (1 : Int32) else (0 : Int32)) + (1 : Int32)) else (if (p0.toInt64) < ((((((50 : Int32).toInt64) * (p1.toInt64)) + (100 : Int64)) - (1 : Int64)) / (100 : Int64)) then (1 : Int32) else (0 : Int32))))) + (1 : Int32)) else (if (p0.toInt64) < ((((((5 : Int32).toInt64) * (p1.toInt64)) + (100 : Int64)) - (1 : Int64)) / (100 : Int64)) then ((if (p0.toInt64) < ((((((10 : Int32).toInt64) * (p1.toInt64)) + (100 : Int64)) - (1 : Int64)) / (100 : Int64)) then ((if (p0.toInt64) < ((((((25 : Int32).toInt64) * (p1.toInt64)) + (100 : Int64)) - (1 : Int64)) / (100 : Int64)) then ((if (p0.toInt64) < ((((((50 : Int32).toInt64) * (p1.toInt64)) + (100 : Int64)) - (1 : Int64)) / (100 : Int64)) then (1 : Int32) else (0 : Int32)) + (1 : Int32)) else (if (p0.toInt64) < ((((((50 : Int32).toInt64) * (p1.toInt64)) + (100 : Int64)) - (1 : Int64)) / (100 : Int64)) then (1 : Int32) else (0 : Int32))) + (1 : Int32)) else (if (p0.toInt64) < ((((((25 : Int32).toInt64) * (p1.toInt64)) + (100 : Int64)) - (1 : Int64)) / (100 : Int64)) then ((if (p0.toInt64) < ((((((50 : Int32).toInt64) * (p1.toInt64)) + (100 : Int64)) - (1 : Int64)) / (100 : Int64)) then (1 : Int32) else (0 : Int32)) + (1 : Int32)) else (if (p0.toInt64) < ((((((50 : Int32).toInt64) * (p1.toInt64)) + (100 : Int64)) - (1 : Int64)) / (100 : Int64)) then (1 : Int32) else (0 : Int32)))) + (1 : Int32)) else (if (p0.toInt64) < ((((((10 : Int32).toInt64) * (p1.toInt64)) + (100 : Int64)) - (1 : Int64)) / (100 : Int64)) then ((if (p0.toInt64) < ((((((25 : Int32).toInt64) * (p1.toInt64)) + (100 : Int64)) - (1 : Int64)) / (100 : Int64)) then ((if (p0.toInt64) < ((((((50 : Int32).toInt64) * (p1.toInt64)) + (100 : Int64)) - (1 : Int64)) / (100 : Int64)) then (1 : Int32) else (0 : Int32)) + (1 : Int32)) else (if (p0.toInt64) < ((((((50 : Int32).toInt64) * (p1.toInt64)) + (100 : Int64)) - (1 : Int64)) / (100 : Int64)) then (1 : Int32) else (0 : Int32))) + (1 : Int32)) else (if (p0.toInt64) < ((((((25 : Int32).toInt64) * (p1.toInt64)) + (100 : Int64)) - (1 : Int64)) / (100 : Int64)) then ((if (p0.toInt64) < ((((((50 : Int32).toInt64) * (p1.toInt64)) + (100 : Int64)) - (1 : Int64)) / (100 : Int64)) then (1 : Int32) else (0 : Int32)) + (1 : Int32)) else (if (p0.toInt64) < ((((((50 : Int32).toInt64) * (p1.toInt64)) + (100 : Int64)) - (1 : Int64)) / (100 : Int64)) then (1 : Int32) else (0 : Int32))))))
def Q1 (Z : State) (p0 : Int32) (p1 : Int32) (pa : Addr) (kp : ClassId) (h0 : Heap) (n0 : Nat) (v : Option Value) (h : Heap) (L : List Loc) : Prop := v = some (.int (f1 p0 p1)) ∧ Fr n0 L ∧ h = h0
set_option maxRecDepth 65536 in
set_option maxHeartbeats 40000000 in
theorem rm1 (l : Launch) (Z : State) (aa : Array Value) (hw : ∀ d ∈ tables_1, d.before aa Z = true) (ws : List Jvm.Cond) (p0 : Int32) (p1 : Int32) (pa : Addr) (kp : ClassId) (h0 : Heap) (n0 : Nat) (Z0 : n0 ≤ h0.size) (S_pct : Sta Z h0 "com/example/usher/usher/study/Preference" "PERCENT_OF_GRADE" "[I" (.ref pa)) (V_pa : Arv Z h0 pa kp .int (5 : Int32) [(.int (50 : Int32)), (.int (25 : Int32)), (.int (10 : Int32)), (.int (5 : Int32)), (.int (1 : Int32))] (.int (0 : Int32))) :
    MetFree l (⟨"com/example/usher/usher/study/Preference", "grade", "(II)I"⟩ : MethodName) (head1 (Jvm.Cond.code (⟨"com/example/usher/usher/study/Preference", "grade", "(II)I"⟩ : MethodName) prog_43_method_3_code 9 (some .int) :: ws) ({ frames := 0, cells := 0, slots := 0, locals := 0 } : Room)) (fun a U => a = #[(.int p0), (.int p1)] ∧ Z.Warmed39 U.vm ∧ U.heap = h0) (fun _ _ _ _ _ => True) (fun _ U o U' => ∃ v L, o = .returned v ∧ Q1 Z p0 p1 pa kp h0 n0 v U'.heap L ∧ FrameEnd U o U' L ({ frames := 0, cells := 0, slots := 0, locals := 0 } : Room).cells ({ frames := 0, cells := 0, slots := 0, locals := 0 } : Room).slots) := by
  refine MetFree.of_bodySF (plainFor_of_name pn1) hisR ?_
  intro p e s m args below meth c s₁ Bd hml0 hP hK
  obtain ⟨rfl, hZ, hh⟩ := hP
  have hx := Bd.exec
  have hby := Bd.bytes
  have hml : c.maxLocals = 9 := hml0
  have hown : s.vm.findClass "com/example/usher/usher/study/Preference" = some m.cls := findClass_of_methodNamed Bd.named
  have hnm := (name_of_methodNamed Bd.named Bd.method).1
  have X0 : Stand p l e ({ frames := 0, cells := 0, slots := 0, locals := 0 } : Room) s m #[(.int p0), (.int p1)] below meth c s₁ [] 0 0 := Stand.of_body Bd
  have e0 : s₁.heap = h0 := by rw [← hh, Bd.state]; rfl
  have N0 := Fr.nil n0
  show OwnEnd p e below s (fun v h L => Q1 Z p0 p1 pa kp h0 n0 v h L) ({ frames := 0, cells := 0, slots := 0, locals := 0 } : Room).cells ({ frames := 0, cells := 0, slots := 0, locals := 0 } : Room).slots (s₁.setTop (entryFrame m #[(.int p0), (.int p1)] 9))
  rw [ef1 m p0 p1]
  generalize hW : OwnEnd p e below s (fun v h L => Q1 Z p0 p1 pa kp h0 n0 v h L) ({ frames := 0, cells := 0, slots := 0, locals := 0 } : Room).cells ({ frames := 0, cells := 0, slots := 0, locals := 0 } : Room).slots = W
  have stp : ∀ {A B : State}, (∀ t, Steps p.tables e below B t → Steps p.tables e below A t) → W B → W A := by subst hW; exact own_step
  show W (s₁.setTop (mkF m 0 #[.val (.int p0), .val (.int p1), .unset, .unset, .unset, .unset, .unset, .unset, .unset] []))
  refine stp (fun t k => XS.iconst X0.here hx rfl (hb hby d1_0) k) ?_
  show W (s₁.setTop (mkF m 1 #[.val (.int p0), .val (.int p1), .unset, .unset, .unset, .unset, .unset, .unset, .unset] [(.int (0 : Int32))]))
  refine stp (fun t k => XS.istoreN X0.here hx rfl (hb hby d1_1) rfl (l' := #[.val (.int p0), .val (.int p1), .val (.int (0 : Int32)), .unset, .unset, .unset, .unset, .unset, .unset]) rfl k) ?_
  show W (s₁.setTop (mkF m 2 #[.val (.int p0), .val (.int p1), .val (.int (0 : Int32)), .unset, .unset, .unset, .unset, .unset, .unset] []))
  obtain ⟨T11, X11, e11, st11⟩ := getS2 X0 hx hZ hown (host := "") (Or.inl (hw _ (List.mem_of_getElem? (i := 5) rfl))) Via.refl e0 S_pct (g := (mkF m 2 #[.val (.int p0), .val (.int p1), .val (.int (0 : Int32)), .unset, .unset, .unset, .unset, .unset, .unset] [])) rfl (hb hby d1_2)
  refine stp (fun t k => st11 t k) ?_
  show W (T11.setTop (mkF m 5 #[.val (.int p0), .val (.int p1), .val (.int (0 : Int32)), .unset, .unset, .unset, .unset, .unset, .unset] [(.ref pa)]))
  refine stp (fun t k => XS.astoreN X11.here hx rfl (hb hby d1_5) rfl rfl (l' := #[.val (.int p0), .val (.int p1), .val (.int (0 : Int32)), .val (.ref pa), .unset, .unset, .unset, .unset, .unset]) rfl k) ?_
  show W (T11.setTop (mkF m 6 #[.val (.int p0), .val (.int p1), .val (.int (0 : Int32)), .val (.ref pa), .unset, .unset, .unset, .unset, .unset] []))
  refine stp (fun t k => XS.aloadN X11.here hx rfl (hb hby d1_6) rfl rfl k) ?_
  show W (T11.setTop (mkF m 7 #[.val (.int p0), .val (.int p1), .val (.int (0 : Int32)), .val (.ref pa), .unset, .unset, .unset, .unset, .unset] [(.ref pa)]))
  obtain ⟨cl12, Ar12, qk12, qs12, qn12, qh12, qg12⟩ := id V_pa
  refine stp (fun t k => X11.arraylength hx (by rw [e11]; exact Ar12.1) (State.isArrayOf_alike hZ.alike Ar12.2.1) (g := (mkF m 7 #[.val (.int p0), .val (.int p1), .val (.int (0 : Int32)), .val (.ref pa), .unset, .unset, .unset, .unset, .unset] [(.ref pa)])) rfl rfl (hb hby d1_7) _ k) ?_
  rw [len_of qs12 qn12]
  show W (T11.setTop (mkF m 8 #[.val (.int p0), .val (.int p1), .val (.int (0 : Int32)), .val (.ref pa), .unset, .unset, .unset, .unset, .unset] [(.int (5 : Int32))]))
  refine stp (fun t k => XS.istore X11.here hx rfl (hb hby d1_8) rfl (l' := #[.val (.int p0), .val (.int p1), .val (.int (0 : Int32)), .val (.ref pa), .val (.int (5 : Int32)), .unset, .unset, .unset, .unset]) rfl k) ?_
  show W (T11.setTop (mkF m 10 #[.val (.int p0), .val (.int p1), .val (.int (0 : Int32)), .val (.ref pa), .val (.int (5 : Int32)), .unset, .unset, .unset, .unset] []))
  refine stp (fun t k => XS.iconst X11.here hx rfl (hb hby d1_10) k) ?_
  show W (T11.setTop (mkF m 11 #[.val (.int p0), .val (.int p1), .val (.int (0 : Int32)), .val (.ref pa), .val (.int (5 : Int32)), .unset, .unset, .unset, .unset] [(.int (0 : Int32))]))
  refine stp (fun t k => XS.istore X11.here hx rfl (hb hby d1_11) rfl (l' := #[.val (.int p0), .val (.int p1), .val (.int (0 : Int32)), .val (.ref pa), .val (.int (5 : Int32)), .val (.int (0 : Int32)), .unset, .unset, .unset]) rfl k) ?_
  show W (T11.setTop (mkF m 13 #[.val (.int p0), .val (.int p1), .val (.int (0 : Int32)), .val (.ref pa), .val (.int (5 : Int32)), .val (.int (0 : Int32)), .unset, .unset, .unset] []))
  refine stp (fun t k => XS.iload X11.here hx rfl (hb hby d1_13) rfl k) ?_
  show W (T11.setTop (mkF m 15 #[.val (.int p0), .val (.int p1), .val (.int (0 : Int32)), .val (.ref pa), .val (.int (5 : Int32)), .val (.int (0 : Int32)), .unset, .unset, .unset] [(.int (0 : Int32))]))
  refine stp (fun t k => XS.iload X11.here hx rfl (hb hby d1_15) rfl k) ?_
  show W (T11.setTop (mkF m 17 #[.val (.int p0), .val (.int p1), .val (.int (0 : Int32)), .val (.ref pa), .val (.int (5 : Int32)), .val (.int (0 : Int32)), .unset, .unset, .unset] [(.int (5 : Int32)), (.int (0 : Int32))]))
  refine stp (fun t k => XS.icmpNo X11.here hx rfl (hb hby d1_17) rfl ((tlt (by decide)).2.1) k) ?_
  show W (T11.setTop (mkF m 20 #[.val (.int p0), .val (.int p1), .val (.int (0 : Int32)), .val (.ref pa), .val (.int (5 : Int32)), .val (.int (0 : Int32)), .unset, .unset, .unset] []))
  refine stp (fun t k => XS.aloadN X11.here hx rfl (hb hby d1_20) rfl rfl k) ?_
  show W (T11.setTop (mkF m 21 #[.val (.int p0), .val (.int p1), .val (.int (0 : Int32)), .val (.ref pa), .val (.int (5 : Int32)), .val (.int (0 : Int32)), .unset, .unset, .unset] [(.ref pa)]))
  refine stp (fun t k => XS.iload X11.here hx rfl (hb hby d1_21) rfl k) ?_
  show W (T11.setTop (mkF m 23 #[.val (.int p0), .val (.int p1), .val (.int (0 : Int32)), .val (.ref pa), .val (.int (5 : Int32)), .val (.int (0 : Int32)), .unset, .unset, .unset] [(.int (0 : Int32)), (.ref pa)]))
  obtain ⟨cl13, Ar13, qk13, qs13, qn13, qh13, qg13⟩ := id V_pa
  have hin13 : ¬ ((0 : Int32) < 0 ∨ cl13.slots.size ≤ ((0 : Int32)).toNatClampNeg) := inb_of qs13 ⟨by decide, by decide⟩
  have hat13 : cl13.slots[((0 : Int32)).toNatClampNeg]? = some (.int (50 : Int32)) := qh13.at hin13 rfl
  refine stp (fun t k => X11.iaload hx (j := (0 : Int32)) (v := (.int (50 : Int32))) (by rw [e11]; exact Ar13.1) (State.isArrayOf_alike hZ.alike Ar13.2.1) Ar13.2.2 hin13 hat13 (g := (mkF m 23 #[.val (.int p0), .val (.int p1), .val (.int (0 : Int32)), .val (.ref pa), .val (.int (5 : Int32)), .val (.int (0 : Int32)), .unset, .unset, .unset] [(.int (0 : Int32)), (.ref pa)])) rfl rfl (hb hby d1_23) _ k) ?_
  show W (T11.setTop (mkF m 24 #[.val (.int p0), .val (.int p1), .val (.int (0 : Int32)), .val (.ref pa), .val (.int (5 : Int32)), .val (.int (0 : Int32)), .unset, .unset, .unset] [(.int (50 : Int32))]))
  refine stp (fun t k => XS.istore X11.here hx rfl (hb hby d1_24) rfl (l' := #[.val (.int p0), .val (.int p1), .val (.int (0 : Int32)), .val (.ref pa), .val (.int (5 : Int32)), .val (.int (0 : Int32)), .val (.int (50 : Int32)), .unset, .unset]) rfl k) ?_
  show W (T11.setTop (mkF m 26 #[.val (.int p0), .val (.int p1), .val (.int (0 : Int32)), .val (.ref pa), .val (.int (5 : Int32)), .val (.int (0 : Int32)), .val (.int (50 : Int32)), .unset, .unset] []))
  refine stp (fun t k => XS.iload X11.here hx rfl (hb hby d1_26) rfl k) ?_
  show W (T11.setTop (mkF m 28 #[.val (.int p0), .val (.int p1), .val (.int (0 : Int32)), .val (.ref pa), .val (.int (5 : Int32)), .val (.int (0 : Int32)), .val (.int (50 : Int32)), .unset, .unset] [(.int (50 : Int32))]))
  refine stp (fun t k => XS.i2l X11.here hx rfl (hb hby d1_28) rfl k) ?_
  show W (T11.setTop (mkF m 29 #[.val (.int p0), .val (.int p1), .val (.int (0 : Int32)), .val (.ref pa), .val (.int (5 : Int32)), .val (.int (0 : Int32)), .val (.int (50 : Int32)), .unset, .unset] [(.long ((50 : Int32).toInt64))]))
  refine stp (fun t k => XS.iloadN X11.here hx rfl (hb hby d1_29) rfl k) ?_
  show W (T11.setTop (mkF m 30 #[.val (.int p0), .val (.int p1), .val (.int (0 : Int32)), .val (.ref pa), .val (.int (5 : Int32)), .val (.int (0 : Int32)), .val (.int (50 : Int32)), .unset, .unset] [(.int p1), (.long ((50 : Int32).toInt64))]))
  refine stp (fun t k => XS.i2l X11.here hx rfl (hb hby d1_30) rfl k) ?_
  show W (T11.setTop (mkF m 31 #[.val (.int p0), .val (.int p1), .val (.int (0 : Int32)), .val (.ref pa), .val (.int (5 : Int32)), .val (.int (0 : Int32)), .val (.int (50 : Int32)), .unset, .unset] [(.long (p1.toInt64)), (.long ((50 : Int32).toInt64))]))
  refine stp (fun t k => XS.lmul X11.here hx rfl (hb hby d1_31) rfl k) ?_
  show W (T11.setTop (mkF m 32 #[.val (.int p0), .val (.int p1), .val (.int (0 : Int32)), .val (.ref pa), .val (.int (5 : Int32)), .val (.int (0 : Int32)), .val (.int (50 : Int32)), .unset, .unset] [(.long (((50 : Int32).toInt64) * (p1.toInt64)))]))
  refine stp (fun t k => X11.ldc2Long hx hown (mvT hZ (hw _ (List.mem_of_getElem? (i := 7) rfl))) (g := (mkF m 32 #[.val (.int p0), .val (.int p1), .val (.int (0 : Int32)), .val (.ref pa), .val (.int (5 : Int32)), .val (.int (0 : Int32)), .val (.int (50 : Int32)), .unset, .unset] [(.long (((50 : Int32).toInt64) * (p1.toInt64)))])) rfl (hb hby d1_32) _ k) ?_
  show W (T11.setTop (mkF m 35 #[.val (.int p0), .val (.int p1), .val (.int (0 : Int32)), .val (.ref pa), .val (.int (5 : Int32)), .val (.int (0 : Int32)), .val (.int (50 : Int32)), .unset, .unset] [(.long (100 : Int64)), (.long (((50 : Int32).toInt64) * (p1.toInt64)))]))
  refine stp (fun t k => XS.ladd X11.here hx rfl (hb hby d1_35) rfl k) ?_
  show W (T11.setTop (mkF m 36 #[.val (.int p0), .val (.int p1), .val (.int (0 : Int32)), .val (.ref pa), .val (.int (5 : Int32)), .val (.int (0 : Int32)), .val (.int (50 : Int32)), .unset, .unset] [(.long ((((50 : Int32).toInt64) * (p1.toInt64)) + (100 : Int64)))]))
  refine stp (fun t k => XS.lconst X11.here hx rfl (hb hby d1_36) k) ?_
  show W (T11.setTop (mkF m 37 #[.val (.int p0), .val (.int p1), .val (.int (0 : Int32)), .val (.ref pa), .val (.int (5 : Int32)), .val (.int (0 : Int32)), .val (.int (50 : Int32)), .unset, .unset] [(.long (1 : Int64)), (.long ((((50 : Int32).toInt64) * (p1.toInt64)) + (100 : Int64)))]))
  refine stp (fun t k => XS.lsub X11.here hx rfl (hb hby d1_37) rfl k) ?_
  show W (T11.setTop (mkF m 38 #[.val (.int p0), .val (.int p1), .val (.int (0 : Int32)), .val (.ref pa), .val (.int (5 : Int32)), .val (.int (0 : Int32)), .val (.int (50 : Int32)), .unset, .unset] [(.long (((((50 : Int32).toInt64) * (p1.toInt64)) + (100 : Int64)) - (1 : Int64)))]))
  refine stp (fun t k => X11.ldc2Long hx hown (mvT hZ (hw _ (List.mem_of_getElem? (i := 7) rfl))) (g := (mkF m 38 #[.val (.int p0), .val (.int p1), .val (.int (0 : Int32)), .val (.ref pa), .val (.int (5 : Int32)), .val (.int (0 : Int32)), .val (.int (50 : Int32)), .unset, .unset] [(.long (((((50 : Int32).toInt64) * (p1.toInt64)) + (100 : Int64)) - (1 : Int64)))])) rfl (hb hby d1_38) _ k) ?_
  show W (T11.setTop (mkF m 41 #[.val (.int p0), .val (.int p1), .val (.int (0 : Int32)), .val (.ref pa), .val (.int (5 : Int32)), .val (.int (0 : Int32)), .val (.int (50 : Int32)), .unset, .unset] [(.long (100 : Int64)), (.long (((((50 : Int32).toInt64) * (p1.toInt64)) + (100 : Int64)) - (1 : Int64)))]))
  refine stp (fun t k => XS.ldiv X11.here hx rfl (hb hby d1_41) rfl (by decide) k) ?_
  show W (T11.setTop (mkF m 42 #[.val (.int p0), .val (.int p1), .val (.int (0 : Int32)), .val (.ref pa), .val (.int (5 : Int32)), .val (.int (0 : Int32)), .val (.int (50 : Int32)), .unset, .unset] [(.long ((((((50 : Int32).toInt64) * (p1.toInt64)) + (100 : Int64)) - (1 : Int64)) / (100 : Int64)))]))
  refine stp (fun t k => XS.lstore X11.here hx rfl (hb hby d1_42) rfl (l' := #[.val (.int p0), .val (.int p1), .val (.int (0 : Int32)), .val (.ref pa), .val (.int (5 : Int32)), .val (.int (0 : Int32)), .val (.int (50 : Int32)), .val (.long ((((((50 : Int32).toInt64) * (p1.toInt64)) + (100 : Int64)) - (1 : Int64)) / (100 : Int64))), .second]) rfl k) ?_
  show W (T11.setTop (mkF m 44 #[.val (.int p0), .val (.int p1), .val (.int (0 : Int32)), .val (.ref pa), .val (.int (5 : Int32)), .val (.int (0 : Int32)), .val (.int (50 : Int32)), .val (.long ((((((50 : Int32).toInt64) * (p1.toInt64)) + (100 : Int64)) - (1 : Int64)) / (100 : Int64))), .second] []))
  generalize hw1_4 : ((((((50 : Int32).toInt64) * (p1.toInt64)) + (100 : Int64)) - (1 : Int64)) / (100 : Int64)) = w1_4
  show W (T11.setTop (mkF m 44 #[.val (.int p0), .val (.int p1), .val (.int (0 : Int32)), .val (.ref pa), .val (.int (5 : Int32)), .val (.int (0 : Int32)), .val (.int (50 : Int32)), .val (.long w1_4), .second] []))
  refine stp (fun t k => XS.iloadN X11.here hx rfl (hb hby d1_44) rfl k) ?_
  show W (T11.setTop (mkF m 45 #[.val (.int p0), .val (.int p1), .val (.int (0 : Int32)), .val (.ref pa), .val (.int (5 : Int32)), .val (.int (0 : Int32)), .val (.int (50 : Int32)), .val (.long w1_4), .second] [(.int p0)]))
  refine stp (fun t k => XS.i2l X11.here hx rfl (hb hby d1_45) rfl k) ?_
  show W (T11.setTop (mkF m 46 #[.val (.int p0), .val (.int p1), .val (.int (0 : Int32)), .val (.ref pa), .val (.int (5 : Int32)), .val (.int (0 : Int32)), .val (.int (50 : Int32)), .val (.long w1_4), .second] [(.long (p0.toInt64))]))
  refine stp (fun t k => XS.lload X11.here hx rfl (hb hby d1_46) rfl k) ?_
  show W (T11.setTop (mkF m 48 #[.val (.int p0), .val (.int p1), .val (.int (0 : Int32)), .val (.ref pa), .val (.int (5 : Int32)), .val (.int (0 : Int32)), .val (.int (50 : Int32)), .val (.long w1_4), .second] [(.long w1_4), (.long (p0.toInt64))]))
  refine stp (fun t k => XS.lcmp X11.here hx rfl (hb hby d1_48) rfl k) ?_
  show W (T11.setTop (mkF m 49 #[.val (.int p0), .val (.int p1), .val (.int (0 : Int32)), .val (.ref pa), .val (.int (5 : Int32)), .val (.int (0 : Int32)), .val (.int (50 : Int32)), .val (.long w1_4), .second] [(.int (lcmpW (p0.toInt64) w1_4))]))
  have J1_55_7 : ∀ (T17 : State) (lc17 : List Loc) (v1_6 : Int32) (hv1_6 : v1_6 = (if (p0.toInt64) < w1_4 then (1 : Int32) else (0 : Int32))) (X17 : Stand p l e ({ frames := 0, cells := 0, slots := 0, locals := 0 } : Room) s m #[(.int p0), (.int p1)] below meth c T17 lc17 0 0) (e17 : T17.heap = h0) (N17 : Fr n0 lc17), W (T17.setTop (mkF m 55 #[.val (.int p0), .val (.int p1), .val (.int v1_6), .val (.ref pa), .val (.int (5 : Int32)), .val (.int (0 : Int32)), .val (.int (50 : Int32)), .val (.long w1_4), .second] [])) := by
    intro T17 lc17 v1_6 hv1_6  X17 e17 N17
    show W (T17.setTop (mkF m 55 #[.val (.int p0), .val (.int p1), .val (.int v1_6), .val (.ref pa), .val (.int (5 : Int32)), .val (.int (0 : Int32)), .val (.int (50 : Int32)), .val (.long w1_4), .second] []))
    refine stp (fun t k => XS.iinc X17.here hx rfl (hb hby d1_55) rfl (l' := #[.val (.int p0), .val (.int p1), .val (.int v1_6), .val (.ref pa), .val (.int (5 : Int32)), .val (.int ((0 : Int32) + (1 : Int32))), .val (.int (50 : Int32)), .val (.long w1_4), .second]) rfl k) ?_
    show W (T17.setTop (mkF m 58 #[.val (.int p0), .val (.int p1), .val (.int v1_6), .val (.ref pa), .val (.int (5 : Int32)), .val (.int ((0 : Int32) + (1 : Int32))), .val (.int (50 : Int32)), .val (.long w1_4), .second] []))
    rw [show ((0 : Int32) + (1 : Int32)) = (1 : Int32) from by decide]
    show W (T17.setTop (mkF m 58 #[.val (.int p0), .val (.int p1), .val (.int v1_6), .val (.ref pa), .val (.int (5 : Int32)), .val (.int (1 : Int32)), .val (.int (50 : Int32)), .val (.long w1_4), .second] []))
    refine stp (fun t k => XS.goto X17.here hx rfl (pc0 := 58) (pc' := 13) rfl (hb hby d1_58) (by decide) (by decide) k) ?_
    show W (T17.setTop (mkF m 13 #[.val (.int p0), .val (.int p1), .val (.int v1_6), .val (.ref pa), .val (.int (5 : Int32)), .val (.int (1 : Int32)), .val (.int (50 : Int32)), .val (.long w1_4), .second] []))
    refine stp (fun t k => XS.iload X17.here hx rfl (hb hby d1_13) rfl k) ?_
    show W (T17.setTop (mkF m 15 #[.val (.int p0), .val (.int p1), .val (.int v1_6), .val (.ref pa), .val (.int (5 : Int32)), .val (.int (1 : Int32)), .val (.int (50 : Int32)), .val (.long w1_4), .second] [(.int (1 : Int32))]))
    refine stp (fun t k => XS.iload X17.here hx rfl (hb hby d1_15) rfl k) ?_
    show W (T17.setTop (mkF m 17 #[.val (.int p0), .val (.int p1), .val (.int v1_6), .val (.ref pa), .val (.int (5 : Int32)), .val (.int (1 : Int32)), .val (.int (50 : Int32)), .val (.long w1_4), .second] [(.int (5 : Int32)), (.int (1 : Int32))]))
    refine stp (fun t k => XS.icmpNo X17.here hx rfl (hb hby d1_17) rfl ((tlt (by decide)).2.1) k) ?_
    show W (T17.setTop (mkF m 20 #[.val (.int p0), .val (.int p1), .val (.int v1_6), .val (.ref pa), .val (.int (5 : Int32)), .val (.int (1 : Int32)), .val (.int (50 : Int32)), .val (.long w1_4), .second] []))
    refine stp (fun t k => XS.aloadN X17.here hx rfl (hb hby d1_20) rfl rfl k) ?_
    show W (T17.setTop (mkF m 21 #[.val (.int p0), .val (.int p1), .val (.int v1_6), .val (.ref pa), .val (.int (5 : Int32)), .val (.int (1 : Int32)), .val (.int (50 : Int32)), .val (.long w1_4), .second] [(.ref pa)]))
    refine stp (fun t k => XS.iload X17.here hx rfl (hb hby d1_21) rfl k) ?_
    show W (T17.setTop (mkF m 23 #[.val (.int p0), .val (.int p1), .val (.int v1_6), .val (.ref pa), .val (.int (5 : Int32)), .val (.int (1 : Int32)), .val (.int (50 : Int32)), .val (.long w1_4), .second] [(.int (1 : Int32)), (.ref pa)]))
    obtain ⟨cl18, Ar18, qk18, qs18, qn18, qh18, qg18⟩ := id V_pa
    have hin18 : ¬ ((1 : Int32) < 0 ∨ cl18.slots.size ≤ ((1 : Int32)).toNatClampNeg) := inb_of qs18 ⟨by decide, by decide⟩
    have hat18 : cl18.slots[((1 : Int32)).toNatClampNeg]? = some (.int (25 : Int32)) := qh18.at hin18 rfl
    refine stp (fun t k => X17.iaload hx (j := (1 : Int32)) (v := (.int (25 : Int32))) (by rw [e17]; exact Ar18.1) (State.isArrayOf_alike hZ.alike Ar18.2.1) Ar18.2.2 hin18 hat18 (g := (mkF m 23 #[.val (.int p0), .val (.int p1), .val (.int v1_6), .val (.ref pa), .val (.int (5 : Int32)), .val (.int (1 : Int32)), .val (.int (50 : Int32)), .val (.long w1_4), .second] [(.int (1 : Int32)), (.ref pa)])) rfl rfl (hb hby d1_23) _ k) ?_
    show W (T17.setTop (mkF m 24 #[.val (.int p0), .val (.int p1), .val (.int v1_6), .val (.ref pa), .val (.int (5 : Int32)), .val (.int (1 : Int32)), .val (.int (50 : Int32)), .val (.long w1_4), .second] [(.int (25 : Int32))]))
    refine stp (fun t k => XS.istore X17.here hx rfl (hb hby d1_24) rfl (l' := #[.val (.int p0), .val (.int p1), .val (.int v1_6), .val (.ref pa), .val (.int (5 : Int32)), .val (.int (1 : Int32)), .val (.int (25 : Int32)), .val (.long w1_4), .second]) rfl k) ?_
    show W (T17.setTop (mkF m 26 #[.val (.int p0), .val (.int p1), .val (.int v1_6), .val (.ref pa), .val (.int (5 : Int32)), .val (.int (1 : Int32)), .val (.int (25 : Int32)), .val (.long w1_4), .second] []))
    refine stp (fun t k => XS.iload X17.here hx rfl (hb hby d1_26) rfl k) ?_
    show W (T17.setTop (mkF m 28 #[.val (.int p0), .val (.int p1), .val (.int v1_6), .val (.ref pa), .val (.int (5 : Int32)), .val (.int (1 : Int32)), .val (.int (25 : Int32)), .val (.long w1_4), .second] [(.int (25 : Int32))]))
    refine stp (fun t k => XS.i2l X17.here hx rfl (hb hby d1_28) rfl k) ?_
    show W (T17.setTop (mkF m 29 #[.val (.int p0), .val (.int p1), .val (.int v1_6), .val (.ref pa), .val (.int (5 : Int32)), .val (.int (1 : Int32)), .val (.int (25 : Int32)), .val (.long w1_4), .second] [(.long ((25 : Int32).toInt64))]))
    refine stp (fun t k => XS.iloadN X17.here hx rfl (hb hby d1_29) rfl k) ?_
    show W (T17.setTop (mkF m 30 #[.val (.int p0), .val (.int p1), .val (.int v1_6), .val (.ref pa), .val (.int (5 : Int32)), .val (.int (1 : Int32)), .val (.int (25 : Int32)), .val (.long w1_4), .second] [(.int p1), (.long ((25 : Int32).toInt64))]))
    refine stp (fun t k => XS.i2l X17.here hx rfl (hb hby d1_30) rfl k) ?_
    show W (T17.setTop (mkF m 31 #[.val (.int p0), .val (.int p1), .val (.int v1_6), .val (.ref pa), .val (.int (5 : Int32)), .val (.int (1 : Int32)), .val (.int (25 : Int32)), .val (.long w1_4), .second] [(.long (p1.toInt64)), (.long ((25 : Int32).toInt64))]))
    refine stp (fun t k => XS.lmul X17.here hx rfl (hb hby d1_31) rfl k) ?_
    show W (T17.setTop (mkF m 32 #[.val (.int p0), .val (.int p1), .val (.int v1_6), .val (.ref pa), .val (.int (5 : Int32)), .val (.int (1 : Int32)), .val (.int (25 : Int32)), .val (.long w1_4), .second] [(.long (((25 : Int32).toInt64) * (p1.toInt64)))]))
    refine stp (fun t k => X17.ldc2Long hx hown (mvT hZ (hw _ (List.mem_of_getElem? (i := 7) rfl))) (g := (mkF m 32 #[.val (.int p0), .val (.int p1), .val (.int v1_6), .val (.ref pa), .val (.int (5 : Int32)), .val (.int (1 : Int32)), .val (.int (25 : Int32)), .val (.long w1_4), .second] [(.long (((25 : Int32).toInt64) * (p1.toInt64)))])) rfl (hb hby d1_32) _ k) ?_
    show W (T17.setTop (mkF m 35 #[.val (.int p0), .val (.int p1), .val (.int v1_6), .val (.ref pa), .val (.int (5 : Int32)), .val (.int (1 : Int32)), .val (.int (25 : Int32)), .val (.long w1_4), .second] [(.long (100 : Int64)), (.long (((25 : Int32).toInt64) * (p1.toInt64)))]))
    refine stp (fun t k => XS.ladd X17.here hx rfl (hb hby d1_35) rfl k) ?_
    show W (T17.setTop (mkF m 36 #[.val (.int p0), .val (.int p1), .val (.int v1_6), .val (.ref pa), .val (.int (5 : Int32)), .val (.int (1 : Int32)), .val (.int (25 : Int32)), .val (.long w1_4), .second] [(.long ((((25 : Int32).toInt64) * (p1.toInt64)) + (100 : Int64)))]))
    refine stp (fun t k => XS.lconst X17.here hx rfl (hb hby d1_36) k) ?_
    show W (T17.setTop (mkF m 37 #[.val (.int p0), .val (.int p1), .val (.int v1_6), .val (.ref pa), .val (.int (5 : Int32)), .val (.int (1 : Int32)), .val (.int (25 : Int32)), .val (.long w1_4), .second] [(.long (1 : Int64)), (.long ((((25 : Int32).toInt64) * (p1.toInt64)) + (100 : Int64)))]))
    refine stp (fun t k => XS.lsub X17.here hx rfl (hb hby d1_37) rfl k) ?_
    show W (T17.setTop (mkF m 38 #[.val (.int p0), .val (.int p1), .val (.int v1_6), .val (.ref pa), .val (.int (5 : Int32)), .val (.int (1 : Int32)), .val (.int (25 : Int32)), .val (.long w1_4), .second] [(.long (((((25 : Int32).toInt64) * (p1.toInt64)) + (100 : Int64)) - (1 : Int64)))]))
    refine stp (fun t k => X17.ldc2Long hx hown (mvT hZ (hw _ (List.mem_of_getElem? (i := 7) rfl))) (g := (mkF m 38 #[.val (.int p0), .val (.int p1), .val (.int v1_6), .val (.ref pa), .val (.int (5 : Int32)), .val (.int (1 : Int32)), .val (.int (25 : Int32)), .val (.long w1_4), .second] [(.long (((((25 : Int32).toInt64) * (p1.toInt64)) + (100 : Int64)) - (1 : Int64)))])) rfl (hb hby d1_38) _ k) ?_
    show W (T17.setTop (mkF m 41 #[.val (.int p0), .val (.int p1), .val (.int v1_6), .val (.ref pa), .val (.int (5 : Int32)), .val (.int (1 : Int32)), .val (.int (25 : Int32)), .val (.long w1_4), .second] [(.long (100 : Int64)), (.long (((((25 : Int32).toInt64) * (p1.toInt64)) + (100 : Int64)) - (1 : Int64)))]))
    refine stp (fun t k => XS.ldiv X17.here hx rfl (hb hby d1_41) rfl (by decide) k) ?_
    show W (T17.setTop (mkF m 42 #[.val (.int p0), .val (.int p1), .val (.int v1_6), .val (.ref pa), .val (.int (5 : Int32)), .val (.int (1 : Int32)), .val (.int (25 : Int32)), .val (.long w1_4), .second] [(.long ((((((25 : Int32).toInt64) * (p1.toInt64)) + (100 : Int64)) - (1 : Int64)) / (100 : Int64)))]))
    refine stp (fun t k => XS.lstore X17.here hx rfl (hb hby d1_42) rfl (l' := #[.val (.int p0), .val (.int p1), .val (.int v1_6), .val (.ref pa), .val (.int (5 : Int32)), .val (.int (1 : Int32)), .val (.int (25 : Int32)), .val (.long ((((((25 : Int32).toInt64) * (p1.toInt64)) + (100 : Int64)) - (1 : Int64)) / (100 : Int64))), .second]) rfl k) ?_
    show W (T17.setTop (mkF m 44 #[.val (.int p0), .val (.int p1), .val (.int v1_6), .val (.ref pa), .val (.int (5 : Int32)), .val (.int (1 : Int32)), .val (.int (25 : Int32)), .val (.long ((((((25 : Int32).toInt64) * (p1.toInt64)) + (100 : Int64)) - (1 : Int64)) / (100 : Int64))), .second] []))
    generalize hw1_9 : ((((((25 : Int32).toInt64) * (p1.toInt64)) + (100 : Int64)) - (1 : Int64)) / (100 : Int64)) = w1_9
    show W (T17.setTop (mkF m 44 #[.val (.int p0), .val (.int p1), .val (.int v1_6), .val (.ref pa), .val (.int (5 : Int32)), .val (.int (1 : Int32)), .val (.int (25 : Int32)), .val (.long w1_9), .second] []))
    refine stp (fun t k => XS.iloadN X17.here hx rfl (hb hby d1_44) rfl k) ?_
    show W (T17.setTop (mkF m 45 #[.val (.int p0), .val (.int p1), .val (.int v1_6), .val (.ref pa), .val (.int (5 : Int32)), .val (.int (1 : Int32)), .val (.int (25 : Int32)), .val (.long w1_9), .second] [(.int p0)]))
    refine stp (fun t k => XS.i2l X17.here hx rfl (hb hby d1_45) rfl k) ?_
    show W (T17.setTop (mkF m 46 #[.val (.int p0), .val (.int p1), .val (.int v1_6), .val (.ref pa), .val (.int (5 : Int32)), .val (.int (1 : Int32)), .val (.int (25 : Int32)), .val (.long w1_9), .second] [(.long (p0.toInt64))]))
    refine stp (fun t k => XS.lload X17.here hx rfl (hb hby d1_46) rfl k) ?_
    show W (T17.setTop (mkF m 48 #[.val (.int p0), .val (.int p1), .val (.int v1_6), .val (.ref pa), .val (.int (5 : Int32)), .val (.int (1 : Int32)), .val (.int (25 : Int32)), .val (.long w1_9), .second] [(.long w1_9), (.long (p0.toInt64))]))
    refine stp (fun t k => XS.lcmp X17.here hx rfl (hb hby d1_48) rfl k) ?_
    show W (T17.setTop (mkF m 49 #[.val (.int p0), .val (.int p1), .val (.int v1_6), .val (.ref pa), .val (.int (5 : Int32)), .val (.int (1 : Int32)), .val (.int (25 : Int32)), .val (.long w1_9), .second] [(.int (lcmpW (p0.toInt64) w1_9))]))
    have J1_55_12 : ∀ (T112 : State) (lc112 : List Loc) (v1_11 : Int32) (hv1_11 : v1_11 = (if (p0.toInt64) < w1_9 then (v1_6 + (1 : Int32)) else v1_6)) (X112 : Stand p l e ({ frames := 0, cells := 0, slots := 0, locals := 0 } : Room) s m #[(.int p0), (.int p1)] below meth c T112 lc112 0 0) (e112 : T112.heap = h0) (N112 : Fr n0 lc112), W (T112.setTop (mkF m 55 #[.val (.int p0), .val (.int p1), .val (.int v1_11), .val (.ref pa), .val (.int (5 : Int32)), .val (.int (1 : Int32)), .val (.int (25 : Int32)), .val (.long w1_9), .second] [])) := by
      intro T112 lc112 v1_11 hv1_11  X112 e112 N112
      show W (T112.setTop (mkF m 55 #[.val (.int p0), .val (.int p1), .val (.int v1_11), .val (.ref pa), .val (.int (5 : Int32)), .val (.int (1 : Int32)), .val (.int (25 : Int32)), .val (.long w1_9), .second] []))
      refine stp (fun t k => XS.iinc X112.here hx rfl (hb hby d1_55) rfl (l' := #[.val (.int p0), .val (.int p1), .val (.int v1_11), .val (.ref pa), .val (.int (5 : Int32)), .val (.int ((1 : Int32) + (1 : Int32))), .val (.int (25 : Int32)), .val (.long w1_9), .second]) rfl k) ?_
      show W (T112.setTop (mkF m 58 #[.val (.int p0), .val (.int p1), .val (.int v1_11), .val (.ref pa), .val (.int (5 : Int32)), .val (.int ((1 : Int32) + (1 : Int32))), .val (.int (25 : Int32)), .val (.long w1_9), .second] []))
      rw [show ((1 : Int32) + (1 : Int32)) = (2 : Int32) from by decide]
      show W (T112.setTop (mkF m 58 #[.val (.int p0), .val (.int p1), .val (.int v1_11), .val (.ref pa), .val (.int (5 : Int32)), .val (.int (2 : Int32)), .val (.int (25 : Int32)), .val (.long w1_9), .second] []))
      refine stp (fun t k => XS.goto X112.here hx rfl (pc0 := 58) (pc' := 13) rfl (hb hby d1_58) (by decide) (by decide) k) ?_
      show W (T112.setTop (mkF m 13 #[.val (.int p0), .val (.int p1), .val (.int v1_11), .val (.ref pa), .val (.int (5 : Int32)), .val (.int (2 : Int32)), .val (.int (25 : Int32)), .val (.long w1_9), .second] []))
      refine stp (fun t k => XS.iload X112.here hx rfl (hb hby d1_13) rfl k) ?_
      show W (T112.setTop (mkF m 15 #[.val (.int p0), .val (.int p1), .val (.int v1_11), .val (.ref pa), .val (.int (5 : Int32)), .val (.int (2 : Int32)), .val (.int (25 : Int32)), .val (.long w1_9), .second] [(.int (2 : Int32))]))
      refine stp (fun t k => XS.iload X112.here hx rfl (hb hby d1_15) rfl k) ?_
      show W (T112.setTop (mkF m 17 #[.val (.int p0), .val (.int p1), .val (.int v1_11), .val (.ref pa), .val (.int (5 : Int32)), .val (.int (2 : Int32)), .val (.int (25 : Int32)), .val (.long w1_9), .second] [(.int (5 : Int32)), (.int (2 : Int32))]))
      refine stp (fun t k => XS.icmpNo X112.here hx rfl (hb hby d1_17) rfl ((tlt (by decide)).2.1) k) ?_
      show W (T112.setTop (mkF m 20 #[.val (.int p0), .val (.int p1), .val (.int v1_11), .val (.ref pa), .val (.int (5 : Int32)), .val (.int (2 : Int32)), .val (.int (25 : Int32)), .val (.long w1_9), .second] []))
      refine stp (fun t k => XS.aloadN X112.here hx rfl (hb hby d1_20) rfl rfl k) ?_
      show W (T112.setTop (mkF m 21 #[.val (.int p0), .val (.int p1), .val (.int v1_11), .val (.ref pa), .val (.int (5 : Int32)), .val (.int (2 : Int32)), .val (.int (25 : Int32)), .val (.long w1_9), .second] [(.ref pa)]))
      refine stp (fun t k => XS.iload X112.here hx rfl (hb hby d1_21) rfl k) ?_
      show W (T112.setTop (mkF m 23 #[.val (.int p0), .val (.int p1), .val (.int v1_11), .val (.ref pa), .val (.int (5 : Int32)), .val (.int (2 : Int32)), .val (.int (25 : Int32)), .val (.long w1_9), .second] [(.int (2 : Int32)), (.ref pa)]))
      obtain ⟨cl113, Ar113, qk113, qs113, qn113, qh113, qg113⟩ := id V_pa
      have hin113 : ¬ ((2 : Int32) < 0 ∨ cl113.slots.size ≤ ((2 : Int32)).toNatClampNeg) := inb_of qs113 ⟨by decide, by decide⟩
      have hat113 : cl113.slots[((2 : Int32)).toNatClampNeg]? = some (.int (10 : Int32)) := qh113.at hin113 rfl
      refine stp (fun t k => X112.iaload hx (j := (2 : Int32)) (v := (.int (10 : Int32))) (by rw [e112]; exact Ar113.1) (State.isArrayOf_alike hZ.alike Ar113.2.1) Ar113.2.2 hin113 hat113 (g := (mkF m 23 #[.val (.int p0), .val (.int p1), .val (.int v1_11), .val (.ref pa), .val (.int (5 : Int32)), .val (.int (2 : Int32)), .val (.int (25 : Int32)), .val (.long w1_9), .second] [(.int (2 : Int32)), (.ref pa)])) rfl rfl (hb hby d1_23) _ k) ?_
      show W (T112.setTop (mkF m 24 #[.val (.int p0), .val (.int p1), .val (.int v1_11), .val (.ref pa), .val (.int (5 : Int32)), .val (.int (2 : Int32)), .val (.int (25 : Int32)), .val (.long w1_9), .second] [(.int (10 : Int32))]))
      refine stp (fun t k => XS.istore X112.here hx rfl (hb hby d1_24) rfl (l' := #[.val (.int p0), .val (.int p1), .val (.int v1_11), .val (.ref pa), .val (.int (5 : Int32)), .val (.int (2 : Int32)), .val (.int (10 : Int32)), .val (.long w1_9), .second]) rfl k) ?_
      show W (T112.setTop (mkF m 26 #[.val (.int p0), .val (.int p1), .val (.int v1_11), .val (.ref pa), .val (.int (5 : Int32)), .val (.int (2 : Int32)), .val (.int (10 : Int32)), .val (.long w1_9), .second] []))
      refine stp (fun t k => XS.iload X112.here hx rfl (hb hby d1_26) rfl k) ?_
      show W (T112.setTop (mkF m 28 #[.val (.int p0), .val (.int p1), .val (.int v1_11), .val (.ref pa), .val (.int (5 : Int32)), .val (.int (2 : Int32)), .val (.int (10 : Int32)), .val (.long w1_9), .second] [(.int (10 : Int32))]))
      refine stp (fun t k => XS.i2l X112.here hx rfl (hb hby d1_28) rfl k) ?_
      show W (T112.setTop (mkF m 29 #[.val (.int p0), .val (.int p1), .val (.int v1_11), .val (.ref pa), .val (.int (5 : Int32)), .val (.int (2 : Int32)), .val (.int (10 : Int32)), .val (.long w1_9), .second] [(.long ((10 : Int32).toInt64))]))
      refine stp (fun t k => XS.iloadN X112.here hx rfl (hb hby d1_29) rfl k) ?_
      show W (T112.setTop (mkF m 30 #[.val (.int p0), .val (.int p1), .val (.int v1_11), .val (.ref pa), .val (.int (5 : Int32)), .val (.int (2 : Int32)), .val (.int (10 : Int32)), .val (.long w1_9), .second] [(.int p1), (.long ((10 : Int32).toInt64))]))
      refine stp (fun t k => XS.i2l X112.here hx rfl (hb hby d1_30) rfl k) ?_
      show W (T112.setTop (mkF m 31 #[.val (.int p0), .val (.int p1), .val (.int v1_11), .val (.ref pa), .val (.int (5 : Int32)), .val (.int (2 : Int32)), .val (.int (10 : Int32)), .val (.long w1_9), .second] [(.long (p1.toInt64)), (.long ((10 : Int32).toInt64))]))
      refine stp (fun t k => XS.lmul X112.here hx rfl (hb hby d1_31) rfl k) ?_
      show W (T112.setTop (mkF m 32 #[.val (.int p0), .val (.int p1), .val (.int v1_11), .val (.ref pa), .val (.int (5 : Int32)), .val (.int (2 : Int32)), .val (.int (10 : Int32)), .val (.long w1_9), .second] [(.long (((10 : Int32).toInt64) * (p1.toInt64)))]))
      refine stp (fun t k => X112.ldc2Long hx hown (mvT hZ (hw _ (List.mem_of_getElem? (i := 7) rfl))) (g := (mkF m 32 #[.val (.int p0), .val (.int p1), .val (.int v1_11), .val (.ref pa), .val (.int (5 : Int32)), .val (.int (2 : Int32)), .val (.int (10 : Int32)), .val (.long w1_9), .second] [(.long (((10 : Int32).toInt64) * (p1.toInt64)))])) rfl (hb hby d1_32) _ k) ?_
      show W (T112.setTop (mkF m 35 #[.val (.int p0), .val (.int p1), .val (.int v1_11), .val (.ref pa), .val (.int (5 : Int32)), .val (.int (2 : Int32)), .val (.int (10 : Int32)), .val (.long w1_9), .second] [(.long (100 : Int64)), (.long (((10 : Int32).toInt64) * (p1.toInt64)))]))
      refine stp (fun t k => XS.ladd X112.here hx rfl (hb hby d1_35) rfl k) ?_
      show W (T112.setTop (mkF m 36 #[.val (.int p0), .val (.int p1), .val (.int v1_11), .val (.ref pa), .val (.int (5 : Int32)), .val (.int (2 : Int32)), .val (.int (10 : Int32)), .val (.long w1_9), .second] [(.long ((((10 : Int32).toInt64) * (p1.toInt64)) + (100 : Int64)))]))
      refine stp (fun t k => XS.lconst X112.here hx rfl (hb hby d1_36) k) ?_
      show W (T112.setTop (mkF m 37 #[.val (.int p0), .val (.int p1), .val (.int v1_11), .val (.ref pa), .val (.int (5 : Int32)), .val (.int (2 : Int32)), .val (.int (10 : Int32)), .val (.long w1_9), .second] [(.long (1 : Int64)), (.long ((((10 : Int32).toInt64) * (p1.toInt64)) + (100 : Int64)))]))
      refine stp (fun t k => XS.lsub X112.here hx rfl (hb hby d1_37) rfl k) ?_
      show W (T112.setTop (mkF m 38 #[.val (.int p0), .val (.int p1), .val (.int v1_11), .val (.ref pa), .val (.int (5 : Int32)), .val (.int (2 : Int32)), .val (.int (10 : Int32)), .val (.long w1_9), .second] [(.long (((((10 : Int32).toInt64) * (p1.toInt64)) + (100 : Int64)) - (1 : Int64)))]))
      refine stp (fun t k => X112.ldc2Long hx hown (mvT hZ (hw _ (List.mem_of_getElem? (i := 7) rfl))) (g := (mkF m 38 #[.val (.int p0), .val (.int p1), .val (.int v1_11), .val (.ref pa), .val (.int (5 : Int32)), .val (.int (2 : Int32)), .val (.int (10 : Int32)), .val (.long w1_9), .second] [(.long (((((10 : Int32).toInt64) * (p1.toInt64)) + (100 : Int64)) - (1 : Int64)))])) rfl (hb hby d1_38) _ k) ?_
      show W (T112.setTop (mkF m 41 #[.val (.int p0), .val (.int p1), .val (.int v1_11), .val (.ref pa), .val (.int (5 : Int32)), .val (.int (2 : Int32)), .val (.int (10 : Int32)), .val (.long w1_9), .second] [(.long (100 : Int64)), (.long (((((10 : Int32).toInt64) * (p1.toInt64)) + (100 : Int64)) - (1 : Int64)))]))
      refine stp (fun t k => XS.ldiv X112.here hx rfl (hb hby d1_41) rfl (by decide) k) ?_
      show W (T112.setTop (mkF m 42 #[.val (.int p0), .val (.int p1), .val (.int v1_11), .val (.ref pa), .val (.int (5 : Int32)), .val (.int (2 : Int32)), .val (.int (10 : Int32)), .val (.long w1_9), .second] [(.long ((((((10 : Int32).toInt64) * (p1.toInt64)) + (100 : Int64)) - (1 : Int64)) / (100 : Int64)))]))
      refine stp (fun t k => XS.lstore X112.here hx rfl (hb hby d1_42) rfl (l' := #[.val (.int p0), .val (.int p1), .val (.int v1_11), .val (.ref pa), .val (.int (5 : Int32)), .val (.int (2 : Int32)), .val (.int (10 : Int32)), .val (.long ((((((10 : Int32).toInt64) * (p1.toInt64)) + (100 : Int64)) - (1 : Int64)) / (100 : Int64))), .second]) rfl k) ?_
      show W (T112.setTop (mkF m 44 #[.val (.int p0), .val (.int p1), .val (.int v1_11), .val (.ref pa), .val (.int (5 : Int32)), .val (.int (2 : Int32)), .val (.int (10 : Int32)), .val (.long ((((((10 : Int32).toInt64) * (p1.toInt64)) + (100 : Int64)) - (1 : Int64)) / (100 : Int64))), .second] []))
      generalize hw1_14 : ((((((10 : Int32).toInt64) * (p1.toInt64)) + (100 : Int64)) - (1 : Int64)) / (100 : Int64)) = w1_14
      show W (T112.setTop (mkF m 44 #[.val (.int p0), .val (.int p1), .val (.int v1_11), .val (.ref pa), .val (.int (5 : Int32)), .val (.int (2 : Int32)), .val (.int (10 : Int32)), .val (.long w1_14), .second] []))
      refine stp (fun t k => XS.iloadN X112.here hx rfl (hb hby d1_44) rfl k) ?_
      show W (T112.setTop (mkF m 45 #[.val (.int p0), .val (.int p1), .val (.int v1_11), .val (.ref pa), .val (.int (5 : Int32)), .val (.int (2 : Int32)), .val (.int (10 : Int32)), .val (.long w1_14), .second] [(.int p0)]))
      refine stp (fun t k => XS.i2l X112.here hx rfl (hb hby d1_45) rfl k) ?_
      show W (T112.setTop (mkF m 46 #[.val (.int p0), .val (.int p1), .val (.int v1_11), .val (.ref pa), .val (.int (5 : Int32)), .val (.int (2 : Int32)), .val (.int (10 : Int32)), .val (.long w1_14), .second] [(.long (p0.toInt64))]))
      refine stp (fun t k => XS.lload X112.here hx rfl (hb hby d1_46) rfl k) ?_
      show W (T112.setTop (mkF m 48 #[.val (.int p0), .val (.int p1), .val (.int v1_11), .val (.ref pa), .val (.int (5 : Int32)), .val (.int (2 : Int32)), .val (.int (10 : Int32)), .val (.long w1_14), .second] [(.long w1_14), (.long (p0.toInt64))]))
      refine stp (fun t k => XS.lcmp X112.here hx rfl (hb hby d1_48) rfl k) ?_
      show W (T112.setTop (mkF m 49 #[.val (.int p0), .val (.int p1), .val (.int v1_11), .val (.ref pa), .val (.int (5 : Int32)), .val (.int (2 : Int32)), .val (.int (10 : Int32)), .val (.long w1_14), .second] [(.int (lcmpW (p0.toInt64) w1_14))]))
      have J1_55_17 : ∀ (T117 : State) (lc117 : List Loc) (v1_16 : Int32) (hv1_16 : v1_16 = (if (p0.toInt64) < w1_14 then (v1_11 + (1 : Int32)) else v1_11)) (X117 : Stand p l e ({ frames := 0, cells := 0, slots := 0, locals := 0 } : Room) s m #[(.int p0), (.int p1)] below meth c T117 lc117 0 0) (e117 : T117.heap = h0) (N117 : Fr n0 lc117), W (T117.setTop (mkF m 55 #[.val (.int p0), .val (.int p1), .val (.int v1_16), .val (.ref pa), .val (.int (5 : Int32)), .val (.int (2 : Int32)), .val (.int (10 : Int32)), .val (.long w1_14), .second] [])) := by
        intro T117 lc117 v1_16 hv1_16  X117 e117 N117
        show W (T117.setTop (mkF m 55 #[.val (.int p0), .val (.int p1), .val (.int v1_16), .val (.ref pa), .val (.int (5 : Int32)), .val (.int (2 : Int32)), .val (.int (10 : Int32)), .val (.long w1_14), .second] []))
        refine stp (fun t k => XS.iinc X117.here hx rfl (hb hby d1_55) rfl (l' := #[.val (.int p0), .val (.int p1), .val (.int v1_16), .val (.ref pa), .val (.int (5 : Int32)), .val (.int ((2 : Int32) + (1 : Int32))), .val (.int (10 : Int32)), .val (.long w1_14), .second]) rfl k) ?_
        show W (T117.setTop (mkF m 58 #[.val (.int p0), .val (.int p1), .val (.int v1_16), .val (.ref pa), .val (.int (5 : Int32)), .val (.int ((2 : Int32) + (1 : Int32))), .val (.int (10 : Int32)), .val (.long w1_14), .second] []))
        rw [show ((2 : Int32) + (1 : Int32)) = (3 : Int32) from by decide]
        show W (T117.setTop (mkF m 58 #[.val (.int p0), .val (.int p1), .val (.int v1_16), .val (.ref pa), .val (.int (5 : Int32)), .val (.int (3 : Int32)), .val (.int (10 : Int32)), .val (.long w1_14), .second] []))
        refine stp (fun t k => XS.goto X117.here hx rfl (pc0 := 58) (pc' := 13) rfl (hb hby d1_58) (by decide) (by decide) k) ?_
        show W (T117.setTop (mkF m 13 #[.val (.int p0), .val (.int p1), .val (.int v1_16), .val (.ref pa), .val (.int (5 : Int32)), .val (.int (3 : Int32)), .val (.int (10 : Int32)), .val (.long w1_14), .second] []))
        refine stp (fun t k => XS.iload X117.here hx rfl (hb hby d1_13) rfl k) ?_
        show W (T117.setTop (mkF m 15 #[.val (.int p0), .val (.int p1), .val (.int v1_16), .val (.ref pa), .val (.int (5 : Int32)), .val (.int (3 : Int32)), .val (.int (10 : Int32)), .val (.long w1_14), .second] [(.int (3 : Int32))]))
        refine stp (fun t k => XS.iload X117.here hx rfl (hb hby d1_15) rfl k) ?_
        show W (T117.setTop (mkF m 17 #[.val (.int p0), .val (.int p1), .val (.int v1_16), .val (.ref pa), .val (.int (5 : Int32)), .val (.int (3 : Int32)), .val (.int (10 : Int32)), .val (.long w1_14), .second] [(.int (5 : Int32)), (.int (3 : Int32))]))
        refine stp (fun t k => XS.icmpNo X117.here hx rfl (hb hby d1_17) rfl ((tlt (by decide)).2.1) k) ?_
        show W (T117.setTop (mkF m 20 #[.val (.int p0), .val (.int p1), .val (.int v1_16), .val (.ref pa), .val (.int (5 : Int32)), .val (.int (3 : Int32)), .val (.int (10 : Int32)), .val (.long w1_14), .second] []))
        refine stp (fun t k => XS.aloadN X117.here hx rfl (hb hby d1_20) rfl rfl k) ?_
        show W (T117.setTop (mkF m 21 #[.val (.int p0), .val (.int p1), .val (.int v1_16), .val (.ref pa), .val (.int (5 : Int32)), .val (.int (3 : Int32)), .val (.int (10 : Int32)), .val (.long w1_14), .second] [(.ref pa)]))
        refine stp (fun t k => XS.iload X117.here hx rfl (hb hby d1_21) rfl k) ?_
        show W (T117.setTop (mkF m 23 #[.val (.int p0), .val (.int p1), .val (.int v1_16), .val (.ref pa), .val (.int (5 : Int32)), .val (.int (3 : Int32)), .val (.int (10 : Int32)), .val (.long w1_14), .second] [(.int (3 : Int32)), (.ref pa)]))
        obtain ⟨cl118, Ar118, qk118, qs118, qn118, qh118, qg118⟩ := id V_pa
        have hin118 : ¬ ((3 : Int32) < 0 ∨ cl118.slots.size ≤ ((3 : Int32)).toNatClampNeg) := inb_of qs118 ⟨by decide, by decide⟩
        have hat118 : cl118.slots[((3 : Int32)).toNatClampNeg]? = some (.int (5 : Int32)) := qh118.at hin118 rfl
        refine stp (fun t k => X117.iaload hx (j := (3 : Int32)) (v := (.int (5 : Int32))) (by rw [e117]; exact Ar118.1) (State.isArrayOf_alike hZ.alike Ar118.2.1) Ar118.2.2 hin118 hat118 (g := (mkF m 23 #[.val (.int p0), .val (.int p1), .val (.int v1_16), .val (.ref pa), .val (.int (5 : Int32)), .val (.int (3 : Int32)), .val (.int (10 : Int32)), .val (.long w1_14), .second] [(.int (3 : Int32)), (.ref pa)])) rfl rfl (hb hby d1_23) _ k) ?_
        show W (T117.setTop (mkF m 24 #[.val (.int p0), .val (.int p1), .val (.int v1_16), .val (.ref pa), .val (.int (5 : Int32)), .val (.int (3 : Int32)), .val (.int (10 : Int32)), .val (.long w1_14), .second] [(.int (5 : Int32))]))
        refine stp (fun t k => XS.istore X117.here hx rfl (hb hby d1_24) rfl (l' := #[.val (.int p0), .val (.int p1), .val (.int v1_16), .val (.ref pa), .val (.int (5 : Int32)), .val (.int (3 : Int32)), .val (.int (5 : Int32)), .val (.long w1_14), .second]) rfl k) ?_
        show W (T117.setTop (mkF m 26 #[.val (.int p0), .val (.int p1), .val (.int v1_16), .val (.ref pa), .val (.int (5 : Int32)), .val (.int (3 : Int32)), .val (.int (5 : Int32)), .val (.long w1_14), .second] []))
        refine stp (fun t k => XS.iload X117.here hx rfl (hb hby d1_26) rfl k) ?_
        show W (T117.setTop (mkF m 28 #[.val (.int p0), .val (.int p1), .val (.int v1_16), .val (.ref pa), .val (.int (5 : Int32)), .val (.int (3 : Int32)), .val (.int (5 : Int32)), .val (.long w1_14), .second] [(.int (5 : Int32))]))
        refine stp (fun t k => XS.i2l X117.here hx rfl (hb hby d1_28) rfl k) ?_
        show W (T117.setTop (mkF m 29 #[.val (.int p0), .val (.int p1), .val (.int v1_16), .val (.ref pa), .val (.int (5 : Int32)), .val (.int (3 : Int32)), .val (.int (5 : Int32)), .val (.long w1_14), .second] [(.long ((5 : Int32).toInt64))]))
        refine stp (fun t k => XS.iloadN X117.here hx rfl (hb hby d1_29) rfl k) ?_
        show W (T117.setTop (mkF m 30 #[.val (.int p0), .val (.int p1), .val (.int v1_16), .val (.ref pa), .val (.int (5 : Int32)), .val (.int (3 : Int32)), .val (.int (5 : Int32)), .val (.long w1_14), .second] [(.int p1), (.long ((5 : Int32).toInt64))]))
        refine stp (fun t k => XS.i2l X117.here hx rfl (hb hby d1_30) rfl k) ?_
        show W (T117.setTop (mkF m 31 #[.val (.int p0), .val (.int p1), .val (.int v1_16), .val (.ref pa), .val (.int (5 : Int32)), .val (.int (3 : Int32)), .val (.int (5 : Int32)), .val (.long w1_14), .second] [(.long (p1.toInt64)), (.long ((5 : Int32).toInt64))]))
        refine stp (fun t k => XS.lmul X117.here hx rfl (hb hby d1_31) rfl k) ?_
        show W (T117.setTop (mkF m 32 #[.val (.int p0), .val (.int p1), .val (.int v1_16), .val (.ref pa), .val (.int (5 : Int32)), .val (.int (3 : Int32)), .val (.int (5 : Int32)), .val (.long w1_14), .second] [(.long (((5 : Int32).toInt64) * (p1.toInt64)))]))
        refine stp (fun t k => X117.ldc2Long hx hown (mvT hZ (hw _ (List.mem_of_getElem? (i := 7) rfl))) (g := (mkF m 32 #[.val (.int p0), .val (.int p1), .val (.int v1_16), .val (.ref pa), .val (.int (5 : Int32)), .val (.int (3 : Int32)), .val (.int (5 : Int32)), .val (.long w1_14), .second] [(.long (((5 : Int32).toInt64) * (p1.toInt64)))])) rfl (hb hby d1_32) _ k) ?_
        show W (T117.setTop (mkF m 35 #[.val (.int p0), .val (.int p1), .val (.int v1_16), .val (.ref pa), .val (.int (5 : Int32)), .val (.int (3 : Int32)), .val (.int (5 : Int32)), .val (.long w1_14), .second] [(.long (100 : Int64)), (.long (((5 : Int32).toInt64) * (p1.toInt64)))]))
        refine stp (fun t k => XS.ladd X117.here hx rfl (hb hby d1_35) rfl k) ?_
        show W (T117.setTop (mkF m 36 #[.val (.int p0), .val (.int p1), .val (.int v1_16), .val (.ref pa), .val (.int (5 : Int32)), .val (.int (3 : Int32)), .val (.int (5 : Int32)), .val (.long w1_14), .second] [(.long ((((5 : Int32).toInt64) * (p1.toInt64)) + (100 : Int64)))]))
        refine stp (fun t k => XS.lconst X117.here hx rfl (hb hby d1_36) k) ?_
        show W (T117.setTop (mkF m 37 #[.val (.int p0), .val (.int p1), .val (.int v1_16), .val (.ref pa), .val (.int (5 : Int32)), .val (.int (3 : Int32)), .val (.int (5 : Int32)), .val (.long w1_14), .second] [(.long (1 : Int64)), (.long ((((5 : Int32).toInt64) * (p1.toInt64)) + (100 : Int64)))]))
        refine stp (fun t k => XS.lsub X117.here hx rfl (hb hby d1_37) rfl k) ?_
        show W (T117.setTop (mkF m 38 #[.val (.int p0), .val (.int p1), .val (.int v1_16), .val (.ref pa), .val (.int (5 : Int32)), .val (.int (3 : Int32)), .val (.int (5 : Int32)), .val (.long w1_14), .second] [(.long (((((5 : Int32).toInt64) * (p1.toInt64)) + (100 : Int64)) - (1 : Int64)))]))
        refine stp (fun t k => X117.ldc2Long hx hown (mvT hZ (hw _ (List.mem_of_getElem? (i := 7) rfl))) (g := (mkF m 38 #[.val (.int p0), .val (.int p1), .val (.int v1_16), .val (.ref pa), .val (.int (5 : Int32)), .val (.int (3 : Int32)), .val (.int (5 : Int32)), .val (.long w1_14), .second] [(.long (((((5 : Int32).toInt64) * (p1.toInt64)) + (100 : Int64)) - (1 : Int64)))])) rfl (hb hby d1_38) _ k) ?_
        show W (T117.setTop (mkF m 41 #[.val (.int p0), .val (.int p1), .val (.int v1_16), .val (.ref pa), .val (.int (5 : Int32)), .val (.int (3 : Int32)), .val (.int (5 : Int32)), .val (.long w1_14), .second] [(.long (100 : Int64)), (.long (((((5 : Int32).toInt64) * (p1.toInt64)) + (100 : Int64)) - (1 : Int64)))]))
        refine stp (fun t k => XS.ldiv X117.here hx rfl (hb hby d1_41) rfl (by decide) k) ?_
        show W (T117.setTop (mkF m 42 #[.val (.int p0), .val (.int p1), .val (.int v1_16), .val (.ref pa), .val (.int (5 : Int32)), .val (.int (3 : Int32)), .val (.int (5 : Int32)), .val (.long w1_14), .second] [(.long ((((((5 : Int32).toInt64) * (p1.toInt64)) + (100 : Int64)) - (1 : Int64)) / (100 : Int64)))]))
        refine stp (fun t k => XS.lstore X117.here hx rfl (hb hby d1_42) rfl (l' := #[.val (.int p0), .val (.int p1), .val (.int v1_16), .val (.ref pa), .val (.int (5 : Int32)), .val (.int (3 : Int32)), .val (.int (5 : Int32)), .val (.long ((((((5 : Int32).toInt64) * (p1.toInt64)) + (100 : Int64)) - (1 : Int64)) / (100 : Int64))), .second]) rfl k) ?_
        show W (T117.setTop (mkF m 44 #[.val (.int p0), .val (.int p1), .val (.int v1_16), .val (.ref pa), .val (.int (5 : Int32)), .val (.int (3 : Int32)), .val (.int (5 : Int32)), .val (.long ((((((5 : Int32).toInt64) * (p1.toInt64)) + (100 : Int64)) - (1 : Int64)) / (100 : Int64))), .second] []))
        generalize hw1_19 : ((((((5 : Int32).toInt64) * (p1.toInt64)) + (100 : Int64)) - (1 : Int64)) / (100 : Int64)) = w1_19
        show W (T117.setTop (mkF m 44 #[.val (.int p0), .val (.int p1), .val (.int v1_16), .val (.ref pa), .val (.int (5 : Int32)), .val (.int (3 : Int32)), .val (.int (5 : Int32)), .val (.long w1_19), .second] []))
        refine stp (fun t k => XS.iloadN X117.here hx rfl (hb hby d1_44) rfl k) ?_
        show W (T117.setTop (mkF m 45 #[.val (.int p0), .val (.int p1), .val (.int v1_16), .val (.ref pa), .val (.int (5 : Int32)), .val (.int (3 : Int32)), .val (.int (5 : Int32)), .val (.long w1_19), .second] [(.int p0)]))
        refine stp (fun t k => XS.i2l X117.here hx rfl (hb hby d1_45) rfl k) ?_
        show W (T117.setTop (mkF m 46 #[.val (.int p0), .val (.int p1), .val (.int v1_16), .val (.ref pa), .val (.int (5 : Int32)), .val (.int (3 : Int32)), .val (.int (5 : Int32)), .val (.long w1_19), .second] [(.long (p0.toInt64))]))
        refine stp (fun t k => XS.lload X117.here hx rfl (hb hby d1_46) rfl k) ?_
        show W (T117.setTop (mkF m 48 #[.val (.int p0), .val (.int p1), .val (.int v1_16), .val (.ref pa), .val (.int (5 : Int32)), .val (.int (3 : Int32)), .val (.int (5 : Int32)), .val (.long w1_19), .second] [(.long w1_19), (.long (p0.toInt64))]))
        refine stp (fun t k => XS.lcmp X117.here hx rfl (hb hby d1_48) rfl k) ?_
        show W (T117.setTop (mkF m 49 #[.val (.int p0), .val (.int p1), .val (.int v1_16), .val (.ref pa), .val (.int (5 : Int32)), .val (.int (3 : Int32)), .val (.int (5 : Int32)), .val (.long w1_19), .second] [(.int (lcmpW (p0.toInt64) w1_19))]))
        have J1_55_22 : ∀ (T122 : State) (lc122 : List Loc) (v1_21 : Int32) (hv1_21 : v1_21 = (if (p0.toInt64) < w1_19 then (v1_16 + (1 : Int32)) else v1_16)) (X122 : Stand p l e ({ frames := 0, cells := 0, slots := 0, locals := 0 } : Room) s m #[(.int p0), (.int p1)] below meth c T122 lc122 0 0) (e122 : T122.heap = h0) (N122 : Fr n0 lc122), W (T122.setTop (mkF m 55 #[.val (.int p0), .val (.int p1), .val (.int v1_21), .val (.ref pa), .val (.int (5 : Int32)), .val (.int (3 : Int32)), .val (.int (5 : Int32)), .val (.long w1_19), .second] [])) := by
          intro T122 lc122 v1_21 hv1_21  X122 e122 N122
          show W (T122.setTop (mkF m 55 #[.val (.int p0), .val (.int p1), .val (.int v1_21), .val (.ref pa), .val (.int (5 : Int32)), .val (.int (3 : Int32)), .val (.int (5 : Int32)), .val (.long w1_19), .second] []))
          refine stp (fun t k => XS.iinc X122.here hx rfl (hb hby d1_55) rfl (l' := #[.val (.int p0), .val (.int p1), .val (.int v1_21), .val (.ref pa), .val (.int (5 : Int32)), .val (.int ((3 : Int32) + (1 : Int32))), .val (.int (5 : Int32)), .val (.long w1_19), .second]) rfl k) ?_
          show W (T122.setTop (mkF m 58 #[.val (.int p0), .val (.int p1), .val (.int v1_21), .val (.ref pa), .val (.int (5 : Int32)), .val (.int ((3 : Int32) + (1 : Int32))), .val (.int (5 : Int32)), .val (.long w1_19), .second] []))
          rw [show ((3 : Int32) + (1 : Int32)) = (4 : Int32) from by decide]
          show W (T122.setTop (mkF m 58 #[.val (.int p0), .val (.int p1), .val (.int v1_21), .val (.ref pa), .val (.int (5 : Int32)), .val (.int (4 : Int32)), .val (.int (5 : Int32)), .val (.long w1_19), .second] []))
          refine stp (fun t k => XS.goto X122.here hx rfl (pc0 := 58) (pc' := 13) rfl (hb hby d1_58) (by decide) (by decide) k) ?_
          show W (T122.setTop (mkF m 13 #[.val (.int p0), .val (.int p1), .val (.int v1_21), .val (.ref pa), .val (.int (5 : Int32)), .val (.int (4 : Int32)), .val (.int (5 : Int32)), .val (.long w1_19), .second] []))
          refine stp (fun t k => XS.iload X122.here hx rfl (hb hby d1_13) rfl k) ?_
          show W (T122.setTop (mkF m 15 #[.val (.int p0), .val (.int p1), .val (.int v1_21), .val (.ref pa), .val (.int (5 : Int32)), .val (.int (4 : Int32)), .val (.int (5 : Int32)), .val (.long w1_19), .second] [(.int (4 : Int32))]))
          refine stp (fun t k => XS.iload X122.here hx rfl (hb hby d1_15) rfl k) ?_
          show W (T122.setTop (mkF m 17 #[.val (.int p0), .val (.int p1), .val (.int v1_21), .val (.ref pa), .val (.int (5 : Int32)), .val (.int (4 : Int32)), .val (.int (5 : Int32)), .val (.long w1_19), .second] [(.int (5 : Int32)), (.int (4 : Int32))]))
          refine stp (fun t k => XS.icmpNo X122.here hx rfl (hb hby d1_17) rfl ((tlt (by decide)).2.1) k) ?_
          show W (T122.setTop (mkF m 20 #[.val (.int p0), .val (.int p1), .val (.int v1_21), .val (.ref pa), .val (.int (5 : Int32)), .val (.int (4 : Int32)), .val (.int (5 : Int32)), .val (.long w1_19), .second] []))
          refine stp (fun t k => XS.aloadN X122.here hx rfl (hb hby d1_20) rfl rfl k) ?_
          show W (T122.setTop (mkF m 21 #[.val (.int p0), .val (.int p1), .val (.int v1_21), .val (.ref pa), .val (.int (5 : Int32)), .val (.int (4 : Int32)), .val (.int (5 : Int32)), .val (.long w1_19), .second] [(.ref pa)]))
          refine stp (fun t k => XS.iload X122.here hx rfl (hb hby d1_21) rfl k) ?_
          show W (T122.setTop (mkF m 23 #[.val (.int p0), .val (.int p1), .val (.int v1_21), .val (.ref pa), .val (.int (5 : Int32)), .val (.int (4 : Int32)), .val (.int (5 : Int32)), .val (.long w1_19), .second] [(.int (4 : Int32)), (.ref pa)]))
          obtain ⟨cl123, Ar123, qk123, qs123, qn123, qh123, qg123⟩ := id V_pa
          have hin123 : ¬ ((4 : Int32) < 0 ∨ cl123.slots.size ≤ ((4 : Int32)).toNatClampNeg) := inb_of qs123 ⟨by decide, by decide⟩
          have hat123 : cl123.slots[((4 : Int32)).toNatClampNeg]? = some (.int (1 : Int32)) := qh123.at hin123 rfl
          refine stp (fun t k => X122.iaload hx (j := (4 : Int32)) (v := (.int (1 : Int32))) (by rw [e122]; exact Ar123.1) (State.isArrayOf_alike hZ.alike Ar123.2.1) Ar123.2.2 hin123 hat123 (g := (mkF m 23 #[.val (.int p0), .val (.int p1), .val (.int v1_21), .val (.ref pa), .val (.int (5 : Int32)), .val (.int (4 : Int32)), .val (.int (5 : Int32)), .val (.long w1_19), .second] [(.int (4 : Int32)), (.ref pa)])) rfl rfl (hb hby d1_23) _ k) ?_
          show W (T122.setTop (mkF m 24 #[.val (.int p0), .val (.int p1), .val (.int v1_21), .val (.ref pa), .val (.int (5 : Int32)), .val (.int (4 : Int32)), .val (.int (5 : Int32)), .val (.long w1_19), .second] [(.int (1 : Int32))]))
          refine stp (fun t k => XS.istore X122.here hx rfl (hb hby d1_24) rfl (l' := #[.val (.int p0), .val (.int p1), .val (.int v1_21), .val (.ref pa), .val (.int (5 : Int32)), .val (.int (4 : Int32)), .val (.int (1 : Int32)), .val (.long w1_19), .second]) rfl k) ?_
          show W (T122.setTop (mkF m 26 #[.val (.int p0), .val (.int p1), .val (.int v1_21), .val (.ref pa), .val (.int (5 : Int32)), .val (.int (4 : Int32)), .val (.int (1 : Int32)), .val (.long w1_19), .second] []))
          refine stp (fun t k => XS.iload X122.here hx rfl (hb hby d1_26) rfl k) ?_
          show W (T122.setTop (mkF m 28 #[.val (.int p0), .val (.int p1), .val (.int v1_21), .val (.ref pa), .val (.int (5 : Int32)), .val (.int (4 : Int32)), .val (.int (1 : Int32)), .val (.long w1_19), .second] [(.int (1 : Int32))]))
          refine stp (fun t k => XS.i2l X122.here hx rfl (hb hby d1_28) rfl k) ?_
          show W (T122.setTop (mkF m 29 #[.val (.int p0), .val (.int p1), .val (.int v1_21), .val (.ref pa), .val (.int (5 : Int32)), .val (.int (4 : Int32)), .val (.int (1 : Int32)), .val (.long w1_19), .second] [(.long ((1 : Int32).toInt64))]))
          refine stp (fun t k => XS.iloadN X122.here hx rfl (hb hby d1_29) rfl k) ?_
          show W (T122.setTop (mkF m 30 #[.val (.int p0), .val (.int p1), .val (.int v1_21), .val (.ref pa), .val (.int (5 : Int32)), .val (.int (4 : Int32)), .val (.int (1 : Int32)), .val (.long w1_19), .second] [(.int p1), (.long ((1 : Int32).toInt64))]))
          refine stp (fun t k => XS.i2l X122.here hx rfl (hb hby d1_30) rfl k) ?_
          show W (T122.setTop (mkF m 31 #[.val (.int p0), .val (.int p1), .val (.int v1_21), .val (.ref pa), .val (.int (5 : Int32)), .val (.int (4 : Int32)), .val (.int (1 : Int32)), .val (.long w1_19), .second] [(.long (p1.toInt64)), (.long ((1 : Int32).toInt64))]))
          refine stp (fun t k => XS.lmul X122.here hx rfl (hb hby d1_31) rfl k) ?_
          show W (T122.setTop (mkF m 32 #[.val (.int p0), .val (.int p1), .val (.int v1_21), .val (.ref pa), .val (.int (5 : Int32)), .val (.int (4 : Int32)), .val (.int (1 : Int32)), .val (.long w1_19), .second] [(.long (((1 : Int32).toInt64) * (p1.toInt64)))]))
          refine stp (fun t k => X122.ldc2Long hx hown (mvT hZ (hw _ (List.mem_of_getElem? (i := 7) rfl))) (g := (mkF m 32 #[.val (.int p0), .val (.int p1), .val (.int v1_21), .val (.ref pa), .val (.int (5 : Int32)), .val (.int (4 : Int32)), .val (.int (1 : Int32)), .val (.long w1_19), .second] [(.long (((1 : Int32).toInt64) * (p1.toInt64)))])) rfl (hb hby d1_32) _ k) ?_
          show W (T122.setTop (mkF m 35 #[.val (.int p0), .val (.int p1), .val (.int v1_21), .val (.ref pa), .val (.int (5 : Int32)), .val (.int (4 : Int32)), .val (.int (1 : Int32)), .val (.long w1_19), .second] [(.long (100 : Int64)), (.long (((1 : Int32).toInt64) * (p1.toInt64)))]))
          refine stp (fun t k => XS.ladd X122.here hx rfl (hb hby d1_35) rfl k) ?_
          show W (T122.setTop (mkF m 36 #[.val (.int p0), .val (.int p1), .val (.int v1_21), .val (.ref pa), .val (.int (5 : Int32)), .val (.int (4 : Int32)), .val (.int (1 : Int32)), .val (.long w1_19), .second] [(.long ((((1 : Int32).toInt64) * (p1.toInt64)) + (100 : Int64)))]))
          refine stp (fun t k => XS.lconst X122.here hx rfl (hb hby d1_36) k) ?_
          show W (T122.setTop (mkF m 37 #[.val (.int p0), .val (.int p1), .val (.int v1_21), .val (.ref pa), .val (.int (5 : Int32)), .val (.int (4 : Int32)), .val (.int (1 : Int32)), .val (.long w1_19), .second] [(.long (1 : Int64)), (.long ((((1 : Int32).toInt64) * (p1.toInt64)) + (100 : Int64)))]))
          refine stp (fun t k => XS.lsub X122.here hx rfl (hb hby d1_37) rfl k) ?_
          show W (T122.setTop (mkF m 38 #[.val (.int p0), .val (.int p1), .val (.int v1_21), .val (.ref pa), .val (.int (5 : Int32)), .val (.int (4 : Int32)), .val (.int (1 : Int32)), .val (.long w1_19), .second] [(.long (((((1 : Int32).toInt64) * (p1.toInt64)) + (100 : Int64)) - (1 : Int64)))]))
          refine stp (fun t k => X122.ldc2Long hx hown (mvT hZ (hw _ (List.mem_of_getElem? (i := 7) rfl))) (g := (mkF m 38 #[.val (.int p0), .val (.int p1), .val (.int v1_21), .val (.ref pa), .val (.int (5 : Int32)), .val (.int (4 : Int32)), .val (.int (1 : Int32)), .val (.long w1_19), .second] [(.long (((((1 : Int32).toInt64) * (p1.toInt64)) + (100 : Int64)) - (1 : Int64)))])) rfl (hb hby d1_38) _ k) ?_
          show W (T122.setTop (mkF m 41 #[.val (.int p0), .val (.int p1), .val (.int v1_21), .val (.ref pa), .val (.int (5 : Int32)), .val (.int (4 : Int32)), .val (.int (1 : Int32)), .val (.long w1_19), .second] [(.long (100 : Int64)), (.long (((((1 : Int32).toInt64) * (p1.toInt64)) + (100 : Int64)) - (1 : Int64)))]))
          refine stp (fun t k => XS.ldiv X122.here hx rfl (hb hby d1_41) rfl (by decide) k) ?_
          show W (T122.setTop (mkF m 42 #[.val (.int p0), .val (.int p1), .val (.int v1_21), .val (.ref pa), .val (.int (5 : Int32)), .val (.int (4 : Int32)), .val (.int (1 : Int32)), .val (.long w1_19), .second] [(.long ((((((1 : Int32).toInt64) * (p1.toInt64)) + (100 : Int64)) - (1 : Int64)) / (100 : Int64)))]))
          refine stp (fun t k => XS.lstore X122.here hx rfl (hb hby d1_42) rfl (l' := #[.val (.int p0), .val (.int p1), .val (.int v1_21), .val (.ref pa), .val (.int (5 : Int32)), .val (.int (4 : Int32)), .val (.int (1 : Int32)), .val (.long ((((((1 : Int32).toInt64) * (p1.toInt64)) + (100 : Int64)) - (1 : Int64)) / (100 : Int64))), .second]) rfl k) ?_
          show W (T122.setTop (mkF m 44 #[.val (.int p0), .val (.int p1), .val (.int v1_21), .val (.ref pa), .val (.int (5 : Int32)), .val (.int (4 : Int32)), .val (.int (1 : Int32)), .val (.long ((((((1 : Int32).toInt64) * (p1.toInt64)) + (100 : Int64)) - (1 : Int64)) / (100 : Int64))), .second] []))
          generalize hw1_24 : ((((((1 : Int32).toInt64) * (p1.toInt64)) + (100 : Int64)) - (1 : Int64)) / (100 : Int64)) = w1_24
          show W (T122.setTop (mkF m 44 #[.val (.int p0), .val (.int p1), .val (.int v1_21), .val (.ref pa), .val (.int (5 : Int32)), .val (.int (4 : Int32)), .val (.int (1 : Int32)), .val (.long w1_24), .second] []))
          refine stp (fun t k => XS.iloadN X122.here hx rfl (hb hby d1_44) rfl k) ?_
          show W (T122.setTop (mkF m 45 #[.val (.int p0), .val (.int p1), .val (.int v1_21), .val (.ref pa), .val (.int (5 : Int32)), .val (.int (4 : Int32)), .val (.int (1 : Int32)), .val (.long w1_24), .second] [(.int p0)]))
          refine stp (fun t k => XS.i2l X122.here hx rfl (hb hby d1_45) rfl k) ?_
          show W (T122.setTop (mkF m 46 #[.val (.int p0), .val (.int p1), .val (.int v1_21), .val (.ref pa), .val (.int (5 : Int32)), .val (.int (4 : Int32)), .val (.int (1 : Int32)), .val (.long w1_24), .second] [(.long (p0.toInt64))]))
          refine stp (fun t k => XS.lload X122.here hx rfl (hb hby d1_46) rfl k) ?_
          show W (T122.setTop (mkF m 48 #[.val (.int p0), .val (.int p1), .val (.int v1_21), .val (.ref pa), .val (.int (5 : Int32)), .val (.int (4 : Int32)), .val (.int (1 : Int32)), .val (.long w1_24), .second] [(.long w1_24), (.long (p0.toInt64))]))
          refine stp (fun t k => XS.lcmp X122.here hx rfl (hb hby d1_48) rfl k) ?_
          show W (T122.setTop (mkF m 49 #[.val (.int p0), .val (.int p1), .val (.int v1_21), .val (.ref pa), .val (.int (5 : Int32)), .val (.int (4 : Int32)), .val (.int (1 : Int32)), .val (.long w1_24), .second] [(.int (lcmpW (p0.toInt64) w1_24))]))
          have J1_55_27 : ∀ (T127 : State) (lc127 : List Loc) (v1_26 : Int32) (hv1_26 : v1_26 = (if (p0.toInt64) < w1_24 then (v1_21 + (1 : Int32)) else v1_21)) (X127 : Stand p l e ({ frames := 0, cells := 0, slots := 0, locals := 0 } : Room) s m #[(.int p0), (.int p1)] below meth c T127 lc127 0 0) (e127 : T127.heap = h0) (N127 : Fr n0 lc127), W (T127.setTop (mkF m 55 #[.val (.int p0), .val (.int p1), .val (.int v1_26), .val (.ref pa), .val (.int (5 : Int32)), .val (.int (4 : Int32)), .val (.int (1 : Int32)), .val (.long w1_24), .second] [])) := by
            intro T127 lc127 v1_26 hv1_26  X127 e127 N127
            show W (T127.setTop (mkF m 55 #[.val (.int p0), .val (.int p1), .val (.int v1_26), .val (.ref pa), .val (.int (5 : Int32)), .val (.int (4 : Int32)), .val (.int (1 : Int32)), .val (.long w1_24), .second] []))
            refine stp (fun t k => XS.iinc X127.here hx rfl (hb hby d1_55) rfl (l' := #[.val (.int p0), .val (.int p1), .val (.int v1_26), .val (.ref pa), .val (.int (5 : Int32)), .val (.int ((4 : Int32) + (1 : Int32))), .val (.int (1 : Int32)), .val (.long w1_24), .second]) rfl k) ?_
            show W (T127.setTop (mkF m 58 #[.val (.int p0), .val (.int p1), .val (.int v1_26), .val (.ref pa), .val (.int (5 : Int32)), .val (.int ((4 : Int32) + (1 : Int32))), .val (.int (1 : Int32)), .val (.long w1_24), .second] []))
            rw [show ((4 : Int32) + (1 : Int32)) = (5 : Int32) from by decide]
            show W (T127.setTop (mkF m 58 #[.val (.int p0), .val (.int p1), .val (.int v1_26), .val (.ref pa), .val (.int (5 : Int32)), .val (.int (5 : Int32)), .val (.int (1 : Int32)), .val (.long w1_24), .second] []))
            refine stp (fun t k => XS.goto X127.here hx rfl (pc0 := 58) (pc' := 13) rfl (hb hby d1_58) (by decide) (by decide) k) ?_
            show W (T127.setTop (mkF m 13 #[.val (.int p0), .val (.int p1), .val (.int v1_26), .val (.ref pa), .val (.int (5 : Int32)), .val (.int (5 : Int32)), .val (.int (1 : Int32)), .val (.long w1_24), .second] []))
            refine stp (fun t k => XS.iload X127.here hx rfl (hb hby d1_13) rfl k) ?_
            show W (T127.setTop (mkF m 15 #[.val (.int p0), .val (.int p1), .val (.int v1_26), .val (.ref pa), .val (.int (5 : Int32)), .val (.int (5 : Int32)), .val (.int (1 : Int32)), .val (.long w1_24), .second] [(.int (5 : Int32))]))
            refine stp (fun t k => XS.iload X127.here hx rfl (hb hby d1_15) rfl k) ?_
            show W (T127.setTop (mkF m 17 #[.val (.int p0), .val (.int p1), .val (.int v1_26), .val (.ref pa), .val (.int (5 : Int32)), .val (.int (5 : Int32)), .val (.int (1 : Int32)), .val (.long w1_24), .second] [(.int (5 : Int32)), (.int (5 : Int32))]))
            refine stp (fun t k => XS.icmpYes X127.here hx rfl (pc0 := 17) (pc' := 61) rfl (hb hby d1_17) rfl ((flt (by decide)).2.1) (by decide) (by decide) k) ?_
            show W (T127.setTop (mkF m 61 #[.val (.int p0), .val (.int p1), .val (.int v1_26), .val (.ref pa), .val (.int (5 : Int32)), .val (.int (5 : Int32)), .val (.int (1 : Int32)), .val (.long w1_24), .second] []))
            refine stp (fun t k => XS.iloadN X127.here hx rfl (hb hby d1_61) rfl k) ?_
            show W (T127.setTop (mkF m 62 #[.val (.int p0), .val (.int p1), .val (.int v1_26), .val (.ref pa), .val (.int (5 : Int32)), .val (.int (5 : Int32)), .val (.int (1 : Int32)), .val (.long w1_24), .second] [(.int v1_26)]))
            show W (T127.setTop (mkF m 62 #[.val (.int p0), .val (.int p1), .val (.int v1_26), .val (.ref pa), .val (.int (5 : Int32)), .val (.int (5 : Int32)), .val (.int (1 : Int32)), .val (.long w1_24), .second] [(.int v1_26)]))
            rw [← hW]
            exact own_retI X127 hx Bd.notSynchronized Bd.returns (hb hby d1_62) (by show Q1 Z p0 p1 pa kp h0 n0 _ T127.heap _; rw [e127]; exact ⟨(by subst hw1_4; subst hv1_6; subst hw1_9; subst hv1_11; subst hw1_14; subst hv1_16; subst hw1_19; subst hv1_21; subst hw1_24; subst hv1_26; rw [f1]), N127, rfl⟩) (by decide) (by decide)
          by_cases hc1_25 : (p0.toInt64) < w1_24
          · refine stp (fun t k => XS.ifNo X122.here hx rfl (hb hby d1_49) rfl ((if0 _ _).trans (tlt ((lw_lt (p0.toInt64) w1_24).mpr hc1_25)).2.1) k) ?_
            show W (T122.setTop (mkF m 52 #[.val (.int p0), .val (.int p1), .val (.int v1_21), .val (.ref pa), .val (.int (5 : Int32)), .val (.int (4 : Int32)), .val (.int (1 : Int32)), .val (.long w1_24), .second] []))
            refine stp (fun t k => XS.iinc X122.here hx rfl (hb hby d1_52) rfl (l' := #[.val (.int p0), .val (.int p1), .val (.int (v1_21 + (1 : Int32))), .val (.ref pa), .val (.int (5 : Int32)), .val (.int (4 : Int32)), .val (.int (1 : Int32)), .val (.long w1_24), .second]) rfl k) ?_
            show W (T122.setTop (mkF m 55 #[.val (.int p0), .val (.int p1), .val (.int (v1_21 + (1 : Int32))), .val (.ref pa), .val (.int (5 : Int32)), .val (.int (4 : Int32)), .val (.int (1 : Int32)), .val (.long w1_24), .second] []))
            exact J1_55_27 _ _ (v1_21 + (1 : Int32)) (by first | rfl | simp only [if_pos hc1_25]) X122 e122 N122
          · refine stp (fun t k => XS.ifYes X122.here hx rfl (pc0 := 49) (pc' := 55) rfl (hb hby d1_49) rfl ((if0 _ _).trans (flt (fun q => hc1_25 ((lw_lt (p0.toInt64) w1_24).mp q))).2.1) (by decide) (by decide) k) ?_
            show W (T122.setTop (mkF m 55 #[.val (.int p0), .val (.int p1), .val (.int v1_21), .val (.ref pa), .val (.int (5 : Int32)), .val (.int (4 : Int32)), .val (.int (1 : Int32)), .val (.long w1_24), .second] []))
            exact J1_55_27 _ _ v1_21 (by first | rfl | simp only [if_neg hc1_25]) X122 e122 N122
        by_cases hc1_20 : (p0.toInt64) < w1_19
        · refine stp (fun t k => XS.ifNo X117.here hx rfl (hb hby d1_49) rfl ((if0 _ _).trans (tlt ((lw_lt (p0.toInt64) w1_19).mpr hc1_20)).2.1) k) ?_
          show W (T117.setTop (mkF m 52 #[.val (.int p0), .val (.int p1), .val (.int v1_16), .val (.ref pa), .val (.int (5 : Int32)), .val (.int (3 : Int32)), .val (.int (5 : Int32)), .val (.long w1_19), .second] []))
          refine stp (fun t k => XS.iinc X117.here hx rfl (hb hby d1_52) rfl (l' := #[.val (.int p0), .val (.int p1), .val (.int (v1_16 + (1 : Int32))), .val (.ref pa), .val (.int (5 : Int32)), .val (.int (3 : Int32)), .val (.int (5 : Int32)), .val (.long w1_19), .second]) rfl k) ?_
          show W (T117.setTop (mkF m 55 #[.val (.int p0), .val (.int p1), .val (.int (v1_16 + (1 : Int32))), .val (.ref pa), .val (.int (5 : Int32)), .val (.int (3 : Int32)), .val (.int (5 : Int32)), .val (.long w1_19), .second] []))
          exact J1_55_22 _ _ (v1_16 + (1 : Int32)) (by first | rfl | simp only [if_pos hc1_20]) X117 e117 N117
        · refine stp (fun t k => XS.ifYes X117.here hx rfl (pc0 := 49) (pc' := 55) rfl (hb hby d1_49) rfl ((if0 _ _).trans (flt (fun q => hc1_20 ((lw_lt (p0.toInt64) w1_19).mp q))).2.1) (by decide) (by decide) k) ?_
          show W (T117.setTop (mkF m 55 #[.val (.int p0), .val (.int p1), .val (.int v1_16), .val (.ref pa), .val (.int (5 : Int32)), .val (.int (3 : Int32)), .val (.int (5 : Int32)), .val (.long w1_19), .second] []))
          exact J1_55_22 _ _ v1_16 (by first | rfl | simp only [if_neg hc1_20]) X117 e117 N117
      by_cases hc1_15 : (p0.toInt64) < w1_14
      · refine stp (fun t k => XS.ifNo X112.here hx rfl (hb hby d1_49) rfl ((if0 _ _).trans (tlt ((lw_lt (p0.toInt64) w1_14).mpr hc1_15)).2.1) k) ?_
        show W (T112.setTop (mkF m 52 #[.val (.int p0), .val (.int p1), .val (.int v1_11), .val (.ref pa), .val (.int (5 : Int32)), .val (.int (2 : Int32)), .val (.int (10 : Int32)), .val (.long w1_14), .second] []))
        refine stp (fun t k => XS.iinc X112.here hx rfl (hb hby d1_52) rfl (l' := #[.val (.int p0), .val (.int p1), .val (.int (v1_11 + (1 : Int32))), .val (.ref pa), .val (.int (5 : Int32)), .val (.int (2 : Int32)), .val (.int (10 : Int32)), .val (.long w1_14), .second]) rfl k) ?_
        show W (T112.setTop (mkF m 55 #[.val (.int p0), .val (.int p1), .val (.int (v1_11 + (1 : Int32))), .val (.ref pa), .val (.int (5 : Int32)), .val (.int (2 : Int32)), .val (.int (10 : Int32)), .val (.long w1_14), .second] []))
        exact J1_55_17 _ _ (v1_11 + (1 : Int32)) (by first | rfl | simp only [if_pos hc1_15]) X112 e112 N112
      · refine stp (fun t k => XS.ifYes X112.here hx rfl (pc0 := 49) (pc' := 55) rfl (hb hby d1_49) rfl ((if0 _ _).trans (flt (fun q => hc1_15 ((lw_lt (p0.toInt64) w1_14).mp q))).2.1) (by decide) (by decide) k) ?_
        show W (T112.setTop (mkF m 55 #[.val (.int p0), .val (.int p1), .val (.int v1_11), .val (.ref pa), .val (.int (5 : Int32)), .val (.int (2 : Int32)), .val (.int (10 : Int32)), .val (.long w1_14), .second] []))
        exact J1_55_17 _ _ v1_11 (by first | rfl | simp only [if_neg hc1_15]) X112 e112 N112
    by_cases hc1_10 : (p0.toInt64) < w1_9
    · refine stp (fun t k => XS.ifNo X17.here hx rfl (hb hby d1_49) rfl ((if0 _ _).trans (tlt ((lw_lt (p0.toInt64) w1_9).mpr hc1_10)).2.1) k) ?_
      show W (T17.setTop (mkF m 52 #[.val (.int p0), .val (.int p1), .val (.int v1_6), .val (.ref pa), .val (.int (5 : Int32)), .val (.int (1 : Int32)), .val (.int (25 : Int32)), .val (.long w1_9), .second] []))
      refine stp (fun t k => XS.iinc X17.here hx rfl (hb hby d1_52) rfl (l' := #[.val (.int p0), .val (.int p1), .val (.int (v1_6 + (1 : Int32))), .val (.ref pa), .val (.int (5 : Int32)), .val (.int (1 : Int32)), .val (.int (25 : Int32)), .val (.long w1_9), .second]) rfl k) ?_
      show W (T17.setTop (mkF m 55 #[.val (.int p0), .val (.int p1), .val (.int (v1_6 + (1 : Int32))), .val (.ref pa), .val (.int (5 : Int32)), .val (.int (1 : Int32)), .val (.int (25 : Int32)), .val (.long w1_9), .second] []))
      exact J1_55_12 _ _ (v1_6 + (1 : Int32)) (by first | rfl | simp only [if_pos hc1_10]) X17 e17 N17
    · refine stp (fun t k => XS.ifYes X17.here hx rfl (pc0 := 49) (pc' := 55) rfl (hb hby d1_49) rfl ((if0 _ _).trans (flt (fun q => hc1_10 ((lw_lt (p0.toInt64) w1_9).mp q))).2.1) (by decide) (by decide) k) ?_
      show W (T17.setTop (mkF m 55 #[.val (.int p0), .val (.int p1), .val (.int v1_6), .val (.ref pa), .val (.int (5 : Int32)), .val (.int (1 : Int32)), .val (.int (25 : Int32)), .val (.long w1_9), .second] []))
      exact J1_55_12 _ _ v1_6 (by first | rfl | simp only [if_neg hc1_10]) X17 e17 N17
  by_cases hc1_5 : (p0.toInt64) < w1_4
  · refine stp (fun t k => XS.ifNo X11.here hx rfl (hb hby d1_49) rfl ((if0 _ _).trans (tlt ((lw_lt (p0.toInt64) w1_4).mpr hc1_5)).2.1) k) ?_
    show W (T11.setTop (mkF m 52 #[.val (.int p0), .val (.int p1), .val (.int (0 : Int32)), .val (.ref pa), .val (.int (5 : Int32)), .val (.int (0 : Int32)), .val (.int (50 : Int32)), .val (.long w1_4), .second] []))
    refine stp (fun t k => XS.iinc X11.here hx rfl (hb hby d1_52) rfl (l' := #[.val (.int p0), .val (.int p1), .val (.int ((0 : Int32) + (1 : Int32))), .val (.ref pa), .val (.int (5 : Int32)), .val (.int (0 : Int32)), .val (.int (50 : Int32)), .val (.long w1_4), .second]) rfl k) ?_
    show W (T11.setTop (mkF m 55 #[.val (.int p0), .val (.int p1), .val (.int ((0 : Int32) + (1 : Int32))), .val (.ref pa), .val (.int (5 : Int32)), .val (.int (0 : Int32)), .val (.int (50 : Int32)), .val (.long w1_4), .second] []))
    rw [show ((0 : Int32) + (1 : Int32)) = (1 : Int32) from by decide]
    show W (T11.setTop (mkF m 55 #[.val (.int p0), .val (.int p1), .val (.int (1 : Int32)), .val (.ref pa), .val (.int (5 : Int32)), .val (.int (0 : Int32)), .val (.int (50 : Int32)), .val (.long w1_4), .second] []))
    exact J1_55_7 _ _ (1 : Int32) (by first | rfl | simp only [if_pos hc1_5]) X11 e11 N0
  · refine stp (fun t k => XS.ifYes X11.here hx rfl (pc0 := 49) (pc' := 55) rfl (hb hby d1_49) rfl ((if0 _ _).trans (flt (fun q => hc1_5 ((lw_lt (p0.toInt64) w1_4).mp q))).2.1) (by decide) (by decide) k) ?_
    show W (T11.setTop (mkF m 55 #[.val (.int p0), .val (.int p1), .val (.int (0 : Int32)), .val (.ref pa), .val (.int (5 : Int32)), .val (.int (0 : Int32)), .val (.int (50 : Int32)), .val (.long w1_4), .second] []))
    exact J1_55_7 _ _ (0 : Int32) (by first | rfl | simp only [if_neg hc1_5]) X11 e11 N0
theorem d2_0 : decode method_2_code 0 = .ok (.ldc2_w 7, 3) := by decide +kernel
theorem d2_3 : decode method_2_code 3 = .ok (.iload_n 0, 1) := by decide +kernel
theorem d2_4 : decode method_2_code 4 = .ok (.i2l, 1) := by decide +kernel
theorem d2_5 : decode method_2_code 5 = .ok (.lmul, 1) := by decide +kernel
theorem d2_6 : decode method_2_code 6 = .ok (.lstore_n 2, 1) := by decide +kernel
theorem d2_7 : decode method_2_code 7 = .ok (.iload_n 1, 1) := by decide +kernel
theorem d2_8 : decode method_2_code 8 = .ok (.i2l, 1) := by decide +kernel
theorem d2_9 : decode method_2_code 9 = .ok (.lstore 4, 2) := by decide +kernel
theorem d2_11 : decode method_2_code 11 = .ok (.lload_n 2, 1) := by decide +kernel
theorem d2_12 : decode method_2_code 12 = .ok (.lconst 1, 1) := by decide +kernel
theorem d2_13 : decode method_2_code 13 = .ok (.lload 4, 2) := by decide +kernel
theorem d2_15 : decode method_2_code 15 = .ok (.lmul, 1) := by decide +kernel
theorem d2_16 : decode method_2_code 16 = .ok (.lcmp, 1) := by decide +kernel
theorem d2_17 : decode method_2_code 17 = .ok (.ifCond .ge 5, 3) := by decide +kernel
theorem d2_20 : decode method_2_code 20 = .ok (.iconst 5, 1) := by decide +kernel
theorem d2_21 : decode method_2_code 21 = .ok (.ireturn, 1) := by decide +kernel
theorem d2_22 : decode method_2_code 22 = .ok (.lload_n 2, 1) := by decide +kernel
theorem d2_23 : decode method_2_code 23 = .ok (.ldc2_w 9, 3) := by decide +kernel
theorem d2_26 : decode method_2_code 26 = .ok (.lload 4, 2) := by decide +kernel
theorem d2_28 : decode method_2_code 28 = .ok (.lmul, 1) := by decide +kernel
theorem d2_29 : decode method_2_code 29 = .ok (.lcmp, 1) := by decide +kernel
theorem d2_30 : decode method_2_code 30 = .ok (.ifCond .ge 5, 3) := by decide +kernel
theorem d2_33 : decode method_2_code 33 = .ok (.iconst 4, 1) := by decide +kernel
theorem d2_34 : decode method_2_code 34 = .ok (.ireturn, 1) := by decide +kernel
theorem d2_35 : decode method_2_code 35 = .ok (.lload_n 2, 1) := by decide +kernel
theorem d2_36 : decode method_2_code 36 = .ok (.ldc2_w 11, 3) := by decide +kernel
theorem d2_39 : decode method_2_code 39 = .ok (.lload 4, 2) := by decide +kernel
theorem d2_41 : decode method_2_code 41 = .ok (.lmul, 1) := by decide +kernel
theorem d2_42 : decode method_2_code 42 = .ok (.lcmp, 1) := by decide +kernel
theorem d2_43 : decode method_2_code 43 = .ok (.ifCond .ge 5, 3) := by decide +kernel
theorem d2_46 : decode method_2_code 46 = .ok (.iconst 3, 1) := by decide +kernel
theorem d2_47 : decode method_2_code 47 = .ok (.ireturn, 1) := by decide +kernel
theorem d2_48 : decode method_2_code 48 = .ok (.lload_n 2, 1) := by decide +kernel
theorem d2_49 : decode method_2_code 49 = .ok (.ldc2_w 13, 3) := by decide +kernel
theorem d2_52 : decode method_2_code 52 = .ok (.lload 4, 2) := by decide +kernel
theorem d2_54 : decode method_2_code 54 = .ok (.lmul, 1) := by decide +kernel
theorem d2_55 : decode method_2_code 55 = .ok (.lcmp, 1) := by decide +kernel
theorem d2_56 : decode method_2_code 56 = .ok (.ifCond .ge 5, 3) := by decide +kernel
theorem d2_59 : decode method_2_code 59 = .ok (.iconst 2, 1) := by decide +kernel
theorem d2_60 : decode method_2_code 60 = .ok (.ireturn, 1) := by decide +kernel
theorem d2_61 : decode method_2_code 61 = .ok (.lload_n 2, 1) := by decide +kernel
theorem d2_62 : decode method_2_code 62 = .ok (.ldc2_w 15, 3) := by decide +kernel
theorem d2_65 : decode method_2_code 65 = .ok (.lload 4, 2) := by decide +kernel
theorem d2_67 : decode method_2_code 67 = .ok (.lmul, 1) := by decide +kernel
theorem d2_68 : decode method_2_code 68 = .ok (.lcmp, 1) := by decide +kernel
theorem d2_69 : decode method_2_code 69 = .ok (.ifCond .ge 5, 3) := by decide +kernel
theorem d2_72 : decode method_2_code 72 = .ok (.iconst 1, 1) := by decide +kernel
theorem d2_73 : decode method_2_code 73 = .ok (.ireturn, 1) := by decide +kernel
theorem d2_74 : decode method_2_code 74 = .ok (.iconst 0, 1) := by decide +kernel
theorem d2_75 : decode method_2_code 75 = .ok (.ireturn, 1) := by decide +kernel
theorem pn2 : plainName "com/example/usher/usher/study/PreferenceGradePinLaw" = true := by first | (simp [plainName, overriddenIn]; done) | decide +kernel
theorem ef2 (m : MethodId) (p0 : Int32) (p1 : Int32) : entryFrame m #[(.int p0), (.int p1)] 6 = mkF m 0 #[.val (.int p0), .val (.int p1), .unset, .unset, .unset, .unset] [] := by first | (simp [entryFrame, mkF, argsToLocals, Value.category]; done) | rfl
def f2 (p0 : Int32) (p1 : Int32) : Int32 := (if ((100 : Int64) * (p0.toInt64)) < ((1 : Int64) * (p1.toInt64)) then (5 : Int32) else (if ((100 : Int64) * (p0.toInt64)) < ((5 : Int64) * (p1.toInt64)) then (4 : Int32) else (if ((100 : Int64) * (p0.toInt64)) < ((10 : Int64) * (p1.toInt64)) then (3 : Int32) else (if ((100 : Int64) * (p0.toInt64)) < ((25 : Int64) * (p1.toInt64)) then (2 : Int32) else (if ((100 : Int64) * (p0.toInt64)) < ((50 : Int64) * (p1.toInt64)) then (1 : Int32) else (0 : Int32))))))
def Q2 (Z : State) (p0 : Int32) (p1 : Int32) (h0 : Heap) (n0 : Nat) (v : Option Value) (h : Heap) (L : List Loc) : Prop := v = some (.int (f2 p0 p1)) ∧ Fr n0 L ∧ h = h0
set_option maxRecDepth 65536 in
set_option maxHeartbeats 40000000 in
theorem rm2 (l : Launch) (Z : State) (aa : Array Value) (hw : ∀ d ∈ tables_1, d.before aa Z = true) (ws : List Jvm.Cond) (p0 : Int32) (p1 : Int32) (h0 : Heap) (n0 : Nat) (Z0 : n0 ≤ h0.size) :
    MetFree l (⟨"com/example/usher/usher/study/PreferenceGradePinLaw", "expected", "(II)I"⟩ : MethodName) (head1 (Jvm.Cond.code (⟨"com/example/usher/usher/study/PreferenceGradePinLaw", "expected", "(II)I"⟩ : MethodName) method_2_code 6 (some .int) :: ws) ({ frames := 0, cells := 0, slots := 0, locals := 0 } : Room)) (fun a U => a = #[(.int p0), (.int p1)] ∧ Z.Warmed39 U.vm ∧ U.heap = h0) (fun _ _ _ _ _ => True) (fun _ U o U' => ∃ v L, o = .returned v ∧ Q2 Z p0 p1 h0 n0 v U'.heap L ∧ FrameEnd U o U' L ({ frames := 0, cells := 0, slots := 0, locals := 0 } : Room).cells ({ frames := 0, cells := 0, slots := 0, locals := 0 } : Room).slots) := by
  refine MetFree.of_bodySF (plainFor_of_name pn2) hisR ?_
  intro p e s m args below meth c s₁ Bd hml0 hP hK
  obtain ⟨rfl, hZ, hh⟩ := hP
  have hx := Bd.exec
  have hby := Bd.bytes
  have hml : c.maxLocals = 6 := hml0
  have hown : s.vm.findClass "com/example/usher/usher/study/PreferenceGradePinLaw" = some m.cls := findClass_of_methodNamed Bd.named
  have hnm := (name_of_methodNamed Bd.named Bd.method).1
  have X0 : Stand p l e ({ frames := 0, cells := 0, slots := 0, locals := 0 } : Room) s m #[(.int p0), (.int p1)] below meth c s₁ [] 0 0 := Stand.of_body Bd
  have e0 : s₁.heap = h0 := by rw [← hh, Bd.state]; rfl
  have N0 := Fr.nil n0
  show OwnEnd p e below s (fun v h L => Q2 Z p0 p1 h0 n0 v h L) ({ frames := 0, cells := 0, slots := 0, locals := 0 } : Room).cells ({ frames := 0, cells := 0, slots := 0, locals := 0 } : Room).slots (s₁.setTop (entryFrame m #[(.int p0), (.int p1)] 6))
  rw [ef2 m p0 p1]
  generalize hW : OwnEnd p e below s (fun v h L => Q2 Z p0 p1 h0 n0 v h L) ({ frames := 0, cells := 0, slots := 0, locals := 0 } : Room).cells ({ frames := 0, cells := 0, slots := 0, locals := 0 } : Room).slots = W
  have stp : ∀ {A B : State}, (∀ t, Steps p.tables e below B t → Steps p.tables e below A t) → W B → W A := by subst hW; exact own_step
  show W (s₁.setTop (mkF m 0 #[.val (.int p0), .val (.int p1), .unset, .unset, .unset, .unset] []))
  refine stp (fun t k => X0.ldc2Long hx hown (mvT hZ (hw _ (List.mem_of_getElem? (i := 12) rfl))) (g := (mkF m 0 #[.val (.int p0), .val (.int p1), .unset, .unset, .unset, .unset] [])) rfl (hb hby d2_0) _ k) ?_
  show W (s₁.setTop (mkF m 3 #[.val (.int p0), .val (.int p1), .unset, .unset, .unset, .unset] [(.long (100 : Int64))]))
  refine stp (fun t k => XS.iloadN X0.here hx rfl (hb hby d2_3) rfl k) ?_
  show W (s₁.setTop (mkF m 4 #[.val (.int p0), .val (.int p1), .unset, .unset, .unset, .unset] [(.int p0), (.long (100 : Int64))]))
  refine stp (fun t k => XS.i2l X0.here hx rfl (hb hby d2_4) rfl k) ?_
  show W (s₁.setTop (mkF m 5 #[.val (.int p0), .val (.int p1), .unset, .unset, .unset, .unset] [(.long (p0.toInt64)), (.long (100 : Int64))]))
  refine stp (fun t k => XS.lmul X0.here hx rfl (hb hby d2_5) rfl k) ?_
  show W (s₁.setTop (mkF m 6 #[.val (.int p0), .val (.int p1), .unset, .unset, .unset, .unset] [(.long ((100 : Int64) * (p0.toInt64)))]))
  refine stp (fun t k => XS.lstoreN X0.here hx rfl (hb hby d2_6) rfl (l' := #[.val (.int p0), .val (.int p1), .val (.long ((100 : Int64) * (p0.toInt64))), .second, .unset, .unset]) rfl k) ?_
  show W (s₁.setTop (mkF m 7 #[.val (.int p0), .val (.int p1), .val (.long ((100 : Int64) * (p0.toInt64))), .second, .unset, .unset] []))
  refine stp (fun t k => XS.iloadN X0.here hx rfl (hb hby d2_7) rfl k) ?_
  show W (s₁.setTop (mkF m 8 #[.val (.int p0), .val (.int p1), .val (.long ((100 : Int64) * (p0.toInt64))), .second, .unset, .unset] [(.int p1)]))
  refine stp (fun t k => XS.i2l X0.here hx rfl (hb hby d2_8) rfl k) ?_
  show W (s₁.setTop (mkF m 9 #[.val (.int p0), .val (.int p1), .val (.long ((100 : Int64) * (p0.toInt64))), .second, .unset, .unset] [(.long (p1.toInt64))]))
  refine stp (fun t k => XS.lstore X0.here hx rfl (hb hby d2_9) rfl (l' := #[.val (.int p0), .val (.int p1), .val (.long ((100 : Int64) * (p0.toInt64))), .second, .val (.long (p1.toInt64)), .second]) rfl k) ?_
  show W (s₁.setTop (mkF m 11 #[.val (.int p0), .val (.int p1), .val (.long ((100 : Int64) * (p0.toInt64))), .second, .val (.long (p1.toInt64)), .second] []))
  refine stp (fun t k => XS.lloadN X0.here hx rfl (hb hby d2_11) rfl k) ?_
  show W (s₁.setTop (mkF m 12 #[.val (.int p0), .val (.int p1), .val (.long ((100 : Int64) * (p0.toInt64))), .second, .val (.long (p1.toInt64)), .second] [(.long ((100 : Int64) * (p0.toInt64)))]))
  refine stp (fun t k => XS.lconst X0.here hx rfl (hb hby d2_12) k) ?_
  show W (s₁.setTop (mkF m 13 #[.val (.int p0), .val (.int p1), .val (.long ((100 : Int64) * (p0.toInt64))), .second, .val (.long (p1.toInt64)), .second] [(.long (1 : Int64)), (.long ((100 : Int64) * (p0.toInt64)))]))
  refine stp (fun t k => XS.lload X0.here hx rfl (hb hby d2_13) rfl k) ?_
  show W (s₁.setTop (mkF m 15 #[.val (.int p0), .val (.int p1), .val (.long ((100 : Int64) * (p0.toInt64))), .second, .val (.long (p1.toInt64)), .second] [(.long (p1.toInt64)), (.long (1 : Int64)), (.long ((100 : Int64) * (p0.toInt64)))]))
  refine stp (fun t k => XS.lmul X0.here hx rfl (hb hby d2_15) rfl k) ?_
  show W (s₁.setTop (mkF m 16 #[.val (.int p0), .val (.int p1), .val (.long ((100 : Int64) * (p0.toInt64))), .second, .val (.long (p1.toInt64)), .second] [(.long ((1 : Int64) * (p1.toInt64))), (.long ((100 : Int64) * (p0.toInt64)))]))
  refine stp (fun t k => XS.lcmp X0.here hx rfl (hb hby d2_16) rfl k) ?_
  show W (s₁.setTop (mkF m 17 #[.val (.int p0), .val (.int p1), .val (.long ((100 : Int64) * (p0.toInt64))), .second, .val (.long (p1.toInt64)), .second] [(.int (lcmpW ((100 : Int64) * (p0.toInt64)) ((1 : Int64) * (p1.toInt64))))]))
  by_cases hc2_1 : ((100 : Int64) * (p0.toInt64)) < ((1 : Int64) * (p1.toInt64))
  · refine stp (fun t k => XS.ifNo X0.here hx rfl (hb hby d2_17) rfl ((if0 _ _).trans (tlt ((lw_lt ((100 : Int64) * (p0.toInt64)) ((1 : Int64) * (p1.toInt64))).mpr hc2_1)).2.1) k) ?_
    show W (s₁.setTop (mkF m 20 #[.val (.int p0), .val (.int p1), .val (.long ((100 : Int64) * (p0.toInt64))), .second, .val (.long (p1.toInt64)), .second] []))
    refine stp (fun t k => XS.iconst X0.here hx rfl (hb hby d2_20) k) ?_
    show W (s₁.setTop (mkF m 21 #[.val (.int p0), .val (.int p1), .val (.long ((100 : Int64) * (p0.toInt64))), .second, .val (.long (p1.toInt64)), .second] [(.int (5 : Int32))]))
    show W (s₁.setTop (mkF m 21 #[.val (.int p0), .val (.int p1), .val (.long ((100 : Int64) * (p0.toInt64))), .second, .val (.long (p1.toInt64)), .second] [(.int (5 : Int32))]))
    rw [← hW]
    exact own_retI X0 hx Bd.notSynchronized Bd.returns (hb hby d2_21) (by show Q2 Z p0 p1 h0 n0 _ s₁.heap _; rw [e0]; exact ⟨(by rw [f2, if_pos hc2_1]), N0, rfl⟩) (by decide) (by decide)
  · refine stp (fun t k => XS.ifYes X0.here hx rfl (pc0 := 17) (pc' := 22) rfl (hb hby d2_17) rfl ((if0 _ _).trans (flt (fun q => hc2_1 ((lw_lt ((100 : Int64) * (p0.toInt64)) ((1 : Int64) * (p1.toInt64))).mp q))).2.1) (by decide) (by decide) k) ?_
    show W (s₁.setTop (mkF m 22 #[.val (.int p0), .val (.int p1), .val (.long ((100 : Int64) * (p0.toInt64))), .second, .val (.long (p1.toInt64)), .second] []))
    refine stp (fun t k => XS.lloadN X0.here hx rfl (hb hby d2_22) rfl k) ?_
    show W (s₁.setTop (mkF m 23 #[.val (.int p0), .val (.int p1), .val (.long ((100 : Int64) * (p0.toInt64))), .second, .val (.long (p1.toInt64)), .second] [(.long ((100 : Int64) * (p0.toInt64)))]))
    refine stp (fun t k => X0.ldc2Long hx hown (mvT hZ (hw _ (List.mem_of_getElem? (i := 13) rfl))) (g := (mkF m 23 #[.val (.int p0), .val (.int p1), .val (.long ((100 : Int64) * (p0.toInt64))), .second, .val (.long (p1.toInt64)), .second] [(.long ((100 : Int64) * (p0.toInt64)))])) rfl (hb hby d2_23) _ k) ?_
    show W (s₁.setTop (mkF m 26 #[.val (.int p0), .val (.int p1), .val (.long ((100 : Int64) * (p0.toInt64))), .second, .val (.long (p1.toInt64)), .second] [(.long (5 : Int64)), (.long ((100 : Int64) * (p0.toInt64)))]))
    refine stp (fun t k => XS.lload X0.here hx rfl (hb hby d2_26) rfl k) ?_
    show W (s₁.setTop (mkF m 28 #[.val (.int p0), .val (.int p1), .val (.long ((100 : Int64) * (p0.toInt64))), .second, .val (.long (p1.toInt64)), .second] [(.long (p1.toInt64)), (.long (5 : Int64)), (.long ((100 : Int64) * (p0.toInt64)))]))
    refine stp (fun t k => XS.lmul X0.here hx rfl (hb hby d2_28) rfl k) ?_
    show W (s₁.setTop (mkF m 29 #[.val (.int p0), .val (.int p1), .val (.long ((100 : Int64) * (p0.toInt64))), .second, .val (.long (p1.toInt64)), .second] [(.long ((5 : Int64) * (p1.toInt64))), (.long ((100 : Int64) * (p0.toInt64)))]))
    refine stp (fun t k => XS.lcmp X0.here hx rfl (hb hby d2_29) rfl k) ?_
    show W (s₁.setTop (mkF m 30 #[.val (.int p0), .val (.int p1), .val (.long ((100 : Int64) * (p0.toInt64))), .second, .val (.long (p1.toInt64)), .second] [(.int (lcmpW ((100 : Int64) * (p0.toInt64)) ((5 : Int64) * (p1.toInt64))))]))
    by_cases hc2_2 : ((100 : Int64) * (p0.toInt64)) < ((5 : Int64) * (p1.toInt64))
    · refine stp (fun t k => XS.ifNo X0.here hx rfl (hb hby d2_30) rfl ((if0 _ _).trans (tlt ((lw_lt ((100 : Int64) * (p0.toInt64)) ((5 : Int64) * (p1.toInt64))).mpr hc2_2)).2.1) k) ?_
      show W (s₁.setTop (mkF m 33 #[.val (.int p0), .val (.int p1), .val (.long ((100 : Int64) * (p0.toInt64))), .second, .val (.long (p1.toInt64)), .second] []))
      refine stp (fun t k => XS.iconst X0.here hx rfl (hb hby d2_33) k) ?_
      show W (s₁.setTop (mkF m 34 #[.val (.int p0), .val (.int p1), .val (.long ((100 : Int64) * (p0.toInt64))), .second, .val (.long (p1.toInt64)), .second] [(.int (4 : Int32))]))
      show W (s₁.setTop (mkF m 34 #[.val (.int p0), .val (.int p1), .val (.long ((100 : Int64) * (p0.toInt64))), .second, .val (.long (p1.toInt64)), .second] [(.int (4 : Int32))]))
      rw [← hW]
      exact own_retI X0 hx Bd.notSynchronized Bd.returns (hb hby d2_34) (by show Q2 Z p0 p1 h0 n0 _ s₁.heap _; rw [e0]; exact ⟨(by rw [f2, if_neg hc2_1, if_pos hc2_2]), N0, rfl⟩) (by decide) (by decide)
    · refine stp (fun t k => XS.ifYes X0.here hx rfl (pc0 := 30) (pc' := 35) rfl (hb hby d2_30) rfl ((if0 _ _).trans (flt (fun q => hc2_2 ((lw_lt ((100 : Int64) * (p0.toInt64)) ((5 : Int64) * (p1.toInt64))).mp q))).2.1) (by decide) (by decide) k) ?_
      show W (s₁.setTop (mkF m 35 #[.val (.int p0), .val (.int p1), .val (.long ((100 : Int64) * (p0.toInt64))), .second, .val (.long (p1.toInt64)), .second] []))
      refine stp (fun t k => XS.lloadN X0.here hx rfl (hb hby d2_35) rfl k) ?_
      show W (s₁.setTop (mkF m 36 #[.val (.int p0), .val (.int p1), .val (.long ((100 : Int64) * (p0.toInt64))), .second, .val (.long (p1.toInt64)), .second] [(.long ((100 : Int64) * (p0.toInt64)))]))
      refine stp (fun t k => X0.ldc2Long hx hown (mvT hZ (hw _ (List.mem_of_getElem? (i := 14) rfl))) (g := (mkF m 36 #[.val (.int p0), .val (.int p1), .val (.long ((100 : Int64) * (p0.toInt64))), .second, .val (.long (p1.toInt64)), .second] [(.long ((100 : Int64) * (p0.toInt64)))])) rfl (hb hby d2_36) _ k) ?_
      show W (s₁.setTop (mkF m 39 #[.val (.int p0), .val (.int p1), .val (.long ((100 : Int64) * (p0.toInt64))), .second, .val (.long (p1.toInt64)), .second] [(.long (10 : Int64)), (.long ((100 : Int64) * (p0.toInt64)))]))
      refine stp (fun t k => XS.lload X0.here hx rfl (hb hby d2_39) rfl k) ?_
      show W (s₁.setTop (mkF m 41 #[.val (.int p0), .val (.int p1), .val (.long ((100 : Int64) * (p0.toInt64))), .second, .val (.long (p1.toInt64)), .second] [(.long (p1.toInt64)), (.long (10 : Int64)), (.long ((100 : Int64) * (p0.toInt64)))]))
      refine stp (fun t k => XS.lmul X0.here hx rfl (hb hby d2_41) rfl k) ?_
      show W (s₁.setTop (mkF m 42 #[.val (.int p0), .val (.int p1), .val (.long ((100 : Int64) * (p0.toInt64))), .second, .val (.long (p1.toInt64)), .second] [(.long ((10 : Int64) * (p1.toInt64))), (.long ((100 : Int64) * (p0.toInt64)))]))
      refine stp (fun t k => XS.lcmp X0.here hx rfl (hb hby d2_42) rfl k) ?_
      show W (s₁.setTop (mkF m 43 #[.val (.int p0), .val (.int p1), .val (.long ((100 : Int64) * (p0.toInt64))), .second, .val (.long (p1.toInt64)), .second] [(.int (lcmpW ((100 : Int64) * (p0.toInt64)) ((10 : Int64) * (p1.toInt64))))]))
      by_cases hc2_3 : ((100 : Int64) * (p0.toInt64)) < ((10 : Int64) * (p1.toInt64))
      · refine stp (fun t k => XS.ifNo X0.here hx rfl (hb hby d2_43) rfl ((if0 _ _).trans (tlt ((lw_lt ((100 : Int64) * (p0.toInt64)) ((10 : Int64) * (p1.toInt64))).mpr hc2_3)).2.1) k) ?_
        show W (s₁.setTop (mkF m 46 #[.val (.int p0), .val (.int p1), .val (.long ((100 : Int64) * (p0.toInt64))), .second, .val (.long (p1.toInt64)), .second] []))
        refine stp (fun t k => XS.iconst X0.here hx rfl (hb hby d2_46) k) ?_
        show W (s₁.setTop (mkF m 47 #[.val (.int p0), .val (.int p1), .val (.long ((100 : Int64) * (p0.toInt64))), .second, .val (.long (p1.toInt64)), .second] [(.int (3 : Int32))]))
        show W (s₁.setTop (mkF m 47 #[.val (.int p0), .val (.int p1), .val (.long ((100 : Int64) * (p0.toInt64))), .second, .val (.long (p1.toInt64)), .second] [(.int (3 : Int32))]))
        rw [← hW]
        exact own_retI X0 hx Bd.notSynchronized Bd.returns (hb hby d2_47) (by show Q2 Z p0 p1 h0 n0 _ s₁.heap _; rw [e0]; exact ⟨(by rw [f2, if_neg hc2_1, if_neg hc2_2, if_pos hc2_3]), N0, rfl⟩) (by decide) (by decide)
      · refine stp (fun t k => XS.ifYes X0.here hx rfl (pc0 := 43) (pc' := 48) rfl (hb hby d2_43) rfl ((if0 _ _).trans (flt (fun q => hc2_3 ((lw_lt ((100 : Int64) * (p0.toInt64)) ((10 : Int64) * (p1.toInt64))).mp q))).2.1) (by decide) (by decide) k) ?_
        show W (s₁.setTop (mkF m 48 #[.val (.int p0), .val (.int p1), .val (.long ((100 : Int64) * (p0.toInt64))), .second, .val (.long (p1.toInt64)), .second] []))
        refine stp (fun t k => XS.lloadN X0.here hx rfl (hb hby d2_48) rfl k) ?_
        show W (s₁.setTop (mkF m 49 #[.val (.int p0), .val (.int p1), .val (.long ((100 : Int64) * (p0.toInt64))), .second, .val (.long (p1.toInt64)), .second] [(.long ((100 : Int64) * (p0.toInt64)))]))
        refine stp (fun t k => X0.ldc2Long hx hown (mvT hZ (hw _ (List.mem_of_getElem? (i := 15) rfl))) (g := (mkF m 49 #[.val (.int p0), .val (.int p1), .val (.long ((100 : Int64) * (p0.toInt64))), .second, .val (.long (p1.toInt64)), .second] [(.long ((100 : Int64) * (p0.toInt64)))])) rfl (hb hby d2_49) _ k) ?_
        show W (s₁.setTop (mkF m 52 #[.val (.int p0), .val (.int p1), .val (.long ((100 : Int64) * (p0.toInt64))), .second, .val (.long (p1.toInt64)), .second] [(.long (25 : Int64)), (.long ((100 : Int64) * (p0.toInt64)))]))
        refine stp (fun t k => XS.lload X0.here hx rfl (hb hby d2_52) rfl k) ?_
        show W (s₁.setTop (mkF m 54 #[.val (.int p0), .val (.int p1), .val (.long ((100 : Int64) * (p0.toInt64))), .second, .val (.long (p1.toInt64)), .second] [(.long (p1.toInt64)), (.long (25 : Int64)), (.long ((100 : Int64) * (p0.toInt64)))]))
        refine stp (fun t k => XS.lmul X0.here hx rfl (hb hby d2_54) rfl k) ?_
        show W (s₁.setTop (mkF m 55 #[.val (.int p0), .val (.int p1), .val (.long ((100 : Int64) * (p0.toInt64))), .second, .val (.long (p1.toInt64)), .second] [(.long ((25 : Int64) * (p1.toInt64))), (.long ((100 : Int64) * (p0.toInt64)))]))
        refine stp (fun t k => XS.lcmp X0.here hx rfl (hb hby d2_55) rfl k) ?_
        show W (s₁.setTop (mkF m 56 #[.val (.int p0), .val (.int p1), .val (.long ((100 : Int64) * (p0.toInt64))), .second, .val (.long (p1.toInt64)), .second] [(.int (lcmpW ((100 : Int64) * (p0.toInt64)) ((25 : Int64) * (p1.toInt64))))]))
        by_cases hc2_4 : ((100 : Int64) * (p0.toInt64)) < ((25 : Int64) * (p1.toInt64))
        · refine stp (fun t k => XS.ifNo X0.here hx rfl (hb hby d2_56) rfl ((if0 _ _).trans (tlt ((lw_lt ((100 : Int64) * (p0.toInt64)) ((25 : Int64) * (p1.toInt64))).mpr hc2_4)).2.1) k) ?_
          show W (s₁.setTop (mkF m 59 #[.val (.int p0), .val (.int p1), .val (.long ((100 : Int64) * (p0.toInt64))), .second, .val (.long (p1.toInt64)), .second] []))
          refine stp (fun t k => XS.iconst X0.here hx rfl (hb hby d2_59) k) ?_
          show W (s₁.setTop (mkF m 60 #[.val (.int p0), .val (.int p1), .val (.long ((100 : Int64) * (p0.toInt64))), .second, .val (.long (p1.toInt64)), .second] [(.int (2 : Int32))]))
          show W (s₁.setTop (mkF m 60 #[.val (.int p0), .val (.int p1), .val (.long ((100 : Int64) * (p0.toInt64))), .second, .val (.long (p1.toInt64)), .second] [(.int (2 : Int32))]))
          rw [← hW]
          exact own_retI X0 hx Bd.notSynchronized Bd.returns (hb hby d2_60) (by show Q2 Z p0 p1 h0 n0 _ s₁.heap _; rw [e0]; exact ⟨(by rw [f2, if_neg hc2_1, if_neg hc2_2, if_neg hc2_3, if_pos hc2_4]), N0, rfl⟩) (by decide) (by decide)
        · refine stp (fun t k => XS.ifYes X0.here hx rfl (pc0 := 56) (pc' := 61) rfl (hb hby d2_56) rfl ((if0 _ _).trans (flt (fun q => hc2_4 ((lw_lt ((100 : Int64) * (p0.toInt64)) ((25 : Int64) * (p1.toInt64))).mp q))).2.1) (by decide) (by decide) k) ?_
          show W (s₁.setTop (mkF m 61 #[.val (.int p0), .val (.int p1), .val (.long ((100 : Int64) * (p0.toInt64))), .second, .val (.long (p1.toInt64)), .second] []))
          refine stp (fun t k => XS.lloadN X0.here hx rfl (hb hby d2_61) rfl k) ?_
          show W (s₁.setTop (mkF m 62 #[.val (.int p0), .val (.int p1), .val (.long ((100 : Int64) * (p0.toInt64))), .second, .val (.long (p1.toInt64)), .second] [(.long ((100 : Int64) * (p0.toInt64)))]))
          refine stp (fun t k => X0.ldc2Long hx hown (mvT hZ (hw _ (List.mem_of_getElem? (i := 16) rfl))) (g := (mkF m 62 #[.val (.int p0), .val (.int p1), .val (.long ((100 : Int64) * (p0.toInt64))), .second, .val (.long (p1.toInt64)), .second] [(.long ((100 : Int64) * (p0.toInt64)))])) rfl (hb hby d2_62) _ k) ?_
          show W (s₁.setTop (mkF m 65 #[.val (.int p0), .val (.int p1), .val (.long ((100 : Int64) * (p0.toInt64))), .second, .val (.long (p1.toInt64)), .second] [(.long (50 : Int64)), (.long ((100 : Int64) * (p0.toInt64)))]))
          refine stp (fun t k => XS.lload X0.here hx rfl (hb hby d2_65) rfl k) ?_
          show W (s₁.setTop (mkF m 67 #[.val (.int p0), .val (.int p1), .val (.long ((100 : Int64) * (p0.toInt64))), .second, .val (.long (p1.toInt64)), .second] [(.long (p1.toInt64)), (.long (50 : Int64)), (.long ((100 : Int64) * (p0.toInt64)))]))
          refine stp (fun t k => XS.lmul X0.here hx rfl (hb hby d2_67) rfl k) ?_
          show W (s₁.setTop (mkF m 68 #[.val (.int p0), .val (.int p1), .val (.long ((100 : Int64) * (p0.toInt64))), .second, .val (.long (p1.toInt64)), .second] [(.long ((50 : Int64) * (p1.toInt64))), (.long ((100 : Int64) * (p0.toInt64)))]))
          refine stp (fun t k => XS.lcmp X0.here hx rfl (hb hby d2_68) rfl k) ?_
          show W (s₁.setTop (mkF m 69 #[.val (.int p0), .val (.int p1), .val (.long ((100 : Int64) * (p0.toInt64))), .second, .val (.long (p1.toInt64)), .second] [(.int (lcmpW ((100 : Int64) * (p0.toInt64)) ((50 : Int64) * (p1.toInt64))))]))
          by_cases hc2_5 : ((100 : Int64) * (p0.toInt64)) < ((50 : Int64) * (p1.toInt64))
          · refine stp (fun t k => XS.ifNo X0.here hx rfl (hb hby d2_69) rfl ((if0 _ _).trans (tlt ((lw_lt ((100 : Int64) * (p0.toInt64)) ((50 : Int64) * (p1.toInt64))).mpr hc2_5)).2.1) k) ?_
            show W (s₁.setTop (mkF m 72 #[.val (.int p0), .val (.int p1), .val (.long ((100 : Int64) * (p0.toInt64))), .second, .val (.long (p1.toInt64)), .second] []))
            refine stp (fun t k => XS.iconst X0.here hx rfl (hb hby d2_72) k) ?_
            show W (s₁.setTop (mkF m 73 #[.val (.int p0), .val (.int p1), .val (.long ((100 : Int64) * (p0.toInt64))), .second, .val (.long (p1.toInt64)), .second] [(.int (1 : Int32))]))
            show W (s₁.setTop (mkF m 73 #[.val (.int p0), .val (.int p1), .val (.long ((100 : Int64) * (p0.toInt64))), .second, .val (.long (p1.toInt64)), .second] [(.int (1 : Int32))]))
            rw [← hW]
            exact own_retI X0 hx Bd.notSynchronized Bd.returns (hb hby d2_73) (by show Q2 Z p0 p1 h0 n0 _ s₁.heap _; rw [e0]; exact ⟨(by rw [f2, if_neg hc2_1, if_neg hc2_2, if_neg hc2_3, if_neg hc2_4, if_pos hc2_5]), N0, rfl⟩) (by decide) (by decide)
          · refine stp (fun t k => XS.ifYes X0.here hx rfl (pc0 := 69) (pc' := 74) rfl (hb hby d2_69) rfl ((if0 _ _).trans (flt (fun q => hc2_5 ((lw_lt ((100 : Int64) * (p0.toInt64)) ((50 : Int64) * (p1.toInt64))).mp q))).2.1) (by decide) (by decide) k) ?_
            show W (s₁.setTop (mkF m 74 #[.val (.int p0), .val (.int p1), .val (.long ((100 : Int64) * (p0.toInt64))), .second, .val (.long (p1.toInt64)), .second] []))
            refine stp (fun t k => XS.iconst X0.here hx rfl (hb hby d2_74) k) ?_
            show W (s₁.setTop (mkF m 75 #[.val (.int p0), .val (.int p1), .val (.long ((100 : Int64) * (p0.toInt64))), .second, .val (.long (p1.toInt64)), .second] [(.int (0 : Int32))]))
            show W (s₁.setTop (mkF m 75 #[.val (.int p0), .val (.int p1), .val (.long ((100 : Int64) * (p0.toInt64))), .second, .val (.long (p1.toInt64)), .second] [(.int (0 : Int32))]))
            rw [← hW]
            exact own_retI X0 hx Bd.notSynchronized Bd.returns (hb hby d2_75) (by show Q2 Z p0 p1 h0 n0 _ s₁.heap _; rw [e0]; exact ⟨(by rw [f2, if_neg hc2_1, if_neg hc2_2, if_neg hc2_3, if_neg hc2_4, if_neg hc2_5]), N0, rfl⟩) (by decide) (by decide)
theorem own_cut (p n : Int32) (g : Int32) (G : Int) (hg : g.toInt = G) (h0 : 0 ≤ p.toInt) (h1 : 0 ≤ n.toInt) (hG : 0 ≤ G ∧ G ≤ 50) :
    (p.toInt64 < ((((g.toInt64 * n.toInt64) + (100 : Int64)) - (1 : Int64)) / (100 : Int64))) ↔ 100 * p.toInt < G * n.toInt := by
  have r1 := rng32 p
  have r2 := rng32 n
  have a1 := c_lmul g.toInt64 n.toInt64
  have a2 := c_ladd (g.toInt64 * n.toInt64) 100
  have a3 := c_lsub (g.toInt64 * n.toInt64 + 100) 1
  have a4 := (c_ldiv (g.toInt64 * n.toInt64 + 100 - 1) 100 100 (by decide) (by decide)).1
  rw [c_i2l, c_i2l, hg] at a1
  have k1 : (100 : Int64).toInt = 100 := by decide
  have k2 : (1 : Int64).toInt = 1 := by decide
  rw [k1] at a2
  rw [k2] at a3
  rw [Int64.lt_iff_toInt_lt, c_i2l]
  have b0 := rng64 (g.toInt64 * n.toInt64)
  have b1 := rng64 (g.toInt64 * n.toInt64 + 100)
  have b2 := rng64 (g.toInt64 * n.toInt64 + 100 - 1)
  have m1 : 0 ≤ G * n.toInt := Int.mul_nonneg hG.1 h1
  have m2 : G * n.toInt ≤ 50 * n.toInt := Int.mul_le_mul_of_nonneg_right hG.2 h1
  generalize G * n.toInt = w at *
  have e1 : (g.toInt64 * n.toInt64).toInt = w := by omega
  have e2 : (g.toInt64 * n.toInt64 + 100).toInt = w + 100 := by omega
  have e3 : (g.toInt64 * n.toInt64 + 100 - 1).toInt = w + 99 := by omega
  rw [a4 (by omega), e3]
  omega
theorem own_cut2 (p n : Int32) (g : Int64) (G : Int) (hg : g.toInt = G) (h0 : 0 ≤ p.toInt) (h1 : 0 ≤ n.toInt) (hG : 0 ≤ G ∧ G ≤ 50) :
    ((100 : Int64) * p.toInt64 < g * n.toInt64) ↔ 100 * p.toInt < G * n.toInt := by
  have r1 := rng32 p
  have r2 := rng32 n
  have a1 := c_lmul g n.toInt64
  have a2 := c_lmul 100 p.toInt64
  rw [c_i2l, hg] at a1
  rw [c_i2l, show (100 : Int64).toInt = 100 from by decide] at a2
  rw [Int64.lt_iff_toInt_lt]
  have b0 := rng64 (g * n.toInt64)
  have b1 := rng64 (100 * p.toInt64)
  have m1 : 0 ≤ G * n.toInt := Int.mul_nonneg hG.1 h1
  have m2 : G * n.toInt ≤ 50 * n.toInt := Int.mul_le_mul_of_nonneg_right hG.2 h1
  generalize G * n.toInt = w at *
  omega
theorem own_same (p n : Int32) (h0 : 0 ≤ p.toInt) (h1 : 0 ≤ n.toInt) : f1 p n = f2 p n := by
  have A := fun g G hg hG => own_cut p n g G hg h0 h1 hG
  have B := fun g G hg hG => own_cut2 p n g G hg h0 h1 hG
  unfold f1 f2
  simp only [A 50 50 (by decide) (by decide), A 25 25 (by decide) (by decide), A 10 10 (by decide) (by decide), A 5 5 (by decide) (by decide), A 1 1 (by decide) (by decide), B 50 50 (by decide) (by decide), B 25 25 (by decide) (by decide), B 10 10 (by decide) (by decide), B 5 5 (by decide) (by decide), B 1 1 (by decide) (by decide)]
  by_cases c1 : 100 * p.toInt < 1 * n.toInt
  · have c2 : 100 * p.toInt < 5 * n.toInt := by omega
    have c3 : 100 * p.toInt < 10 * n.toInt := by omega
    have c4 : 100 * p.toInt < 25 * n.toInt := by omega
    have c5 : 100 * p.toInt < 50 * n.toInt := by omega
    simp only [if_pos c1, if_pos c2, if_pos c3, if_pos c4, if_pos c5]; decide
  · by_cases c2 : 100 * p.toInt < 5 * n.toInt
    · have c3 : 100 * p.toInt < 10 * n.toInt := by omega
      have c4 : 100 * p.toInt < 25 * n.toInt := by omega
      have c5 : 100 * p.toInt < 50 * n.toInt := by omega
      simp only [if_neg c1, if_pos c2, if_pos c3, if_pos c4, if_pos c5]; decide
    · by_cases c3 : 100 * p.toInt < 10 * n.toInt
      · have c4 : 100 * p.toInt < 25 * n.toInt := by omega
        have c5 : 100 * p.toInt < 50 * n.toInt := by omega
        simp only [if_neg c1, if_neg c2, if_pos c3, if_pos c4, if_pos c5]; decide
      · by_cases c4 : 100 * p.toInt < 25 * n.toInt
        · have c5 : 100 * p.toInt < 50 * n.toInt := by omega
          simp only [if_neg c1, if_neg c2, if_neg c3, if_pos c4, if_pos c5]; decide
        · by_cases c5 : 100 * p.toInt < 50 * n.toInt
          · simp only [if_neg c1, if_neg c2, if_neg c3, if_neg c4, if_pos c5]
          · simp only [if_neg c1, if_neg c2, if_neg c3, if_neg c4, if_neg c5]
theorem own_grade (p0 p1 : Int32) (h : ¬ ((p0 &&& (2147483647 : Int32)) = (0 : Int32))) : (f1 ((p1 &&& (2147483647 : Int32)) % (p0 &&& (2147483647 : Int32))) (p0 &&& (2147483647 : Int32))) = (f2 ((p1 &&& (2147483647 : Int32)) % (p0 &&& (2147483647 : Int32))) (p0 &&& (2147483647 : Int32))) := by
  have h1 := c_mask p0 2147483647 31 (by decide) (by decide)
  have h2 := c_mask p1 2147483647 31 (by decide) (by decide)
  have h3 := (c_iremV (p1 &&& 2147483647) (p0 &&& 2147483647)).1 (by omega)
  have h4 : (p0 &&& 2147483647).toInt ≠ 0 := fun q => h (Int32.toInt_inj.mp q)
  exact own_same _ _ (h3 (by omega)).1 (by omega)
theorem pn0 : plainName "com/example/usher/usher/study/PreferenceGradePinLaw" = true := by first | (simp [plainName, overriddenIn]; done) | decide +kernel
theorem pd0_0 : parseMethodDescriptor "(II)I" = some ⟨[.int, .int], some .int⟩ := by decide +kernel
theorem ef0 (m : MethodId) (p0 : Int32) (p1 : Int32) : entryFrame m #[(.int p0), (.int p1)] maxLocals = mkF m 0 #[.val (.int p0), .val (.int p1), .unset, .unset, .unset] [] := by first | (simp [entryFrame, mkF, argsToLocals, Value.category, maxLocals]; done) | rfl
theorem own_0_16_2 (p0 : Int32) (p1 : Int32) (pa : Addr) (kp : ClassId) (hc0_1 : ¬ ((p0 &&& (2147483647 : Int32)) = (0 : Int32))) : ¬ ((p0 &&& (2147483647 : Int32)) = (0 : Int32)) := by assumption
theorem own_0_32_7 (p0 : Int32) (p1 : Int32) (pa : Addr) (kp : ClassId) (hc0_1 : ¬ ((p0 &&& (2147483647 : Int32)) = (0 : Int32))) : (f1 ((p1 &&& (2147483647 : Int32)) % (p0 &&& (2147483647 : Int32))) (p0 &&& (2147483647 : Int32))) = (f2 ((p1 &&& (2147483647 : Int32)) % (p0 &&& (2147483647 : Int32))) (p0 &&& (2147483647 : Int32))) := own_grade p0 p1 (by assumption)
def Q0 (Z : State) (p0 : Int32) (p1 : Int32) (pa : Addr) (kp : ClassId) (h0 : Heap) (n0 : Nat) (v : Option Value) (h : Heap) (L : List Loc) : Prop := v = some (.int (1 : Int32)) ∧ Fr n0 L
set_option maxRecDepth 65536 in
set_option maxHeartbeats 40000000 in
theorem rm0 (l : Launch) (Z : State) (aa : Array Value) (hw : ∀ d ∈ tables_1, d.before aa Z = true) (ws : List Jvm.Cond) (p0 : Int32) (p1 : Int32) (pa : Addr) (kp : ClassId) (h0 : Heap) (n0 : Nat) (Z0 : n0 ≤ h0.size) (S_pct : Sta Z h0 "com/example/usher/usher/study/Preference" "PERCENT_OF_GRADE" "[I" (.ref pa)) (V_pa : Arv Z h0 pa kp .int (5 : Int32) [(.int (50 : Int32)), (.int (25 : Int32)), (.int (10 : Int32)), (.int (5 : Int32)), (.int (1 : Int32))] (.int (0 : Int32))) :
    MetFree l x (head1 (Jvm.Cond.code x code maxLocals ret :: ws) room_1) (fun a U => a = #[(.int p0), (.int p1)] ∧ Z.Warmed39 U.vm ∧ U.heap = h0) (fun _ _ _ _ _ => True) (fun _ U o U' => ∃ v L, o = .returned v ∧ Q0 Z p0 p1 pa kp h0 n0 v U'.heap L ∧ FrameEnd U o U' L room_1.cells room_1.slots) := by
  refine MetFree.of_bodySF (plainFor_of_name pn0) hisR ?_
  intro p e s m args below meth c s₁ Bd hml0 hP hK
  obtain ⟨rfl, hZ, hh⟩ := hP
  have hx := Bd.exec
  have hby := Bd.bytes
  have hml : c.maxLocals = 5 := hml0
  have hown : s.vm.findClass "com/example/usher/usher/study/PreferenceGradePinLaw" = some m.cls := findClass_of_methodNamed Bd.named
  have hnm := (name_of_methodNamed Bd.named Bd.method).1
  have X0 : Stand p l e room_1 s m #[(.int p0), (.int p1)] below meth c s₁ [] 0 0 := Stand.of_body Bd
  have e0 : s₁.heap = h0 := by rw [← hh, Bd.state]; rfl
  have N0 := Fr.nil n0
  show OwnEnd p e below s (fun v h L => Q0 Z p0 p1 pa kp h0 n0 v h L) room_1.cells room_1.slots (s₁.setTop (entryFrame m #[(.int p0), (.int p1)] maxLocals))
  rw [ef0 m p0 p1]
  generalize hW : OwnEnd p e below s (fun v h L => Q0 Z p0 p1 pa kp h0 n0 v h L) room_1.cells room_1.slots = W
  have stp : ∀ {A B : State}, (∀ t, Steps p.tables e below B t → Steps p.tables e below A t) → W B → W A := by subst hW; exact own_step
  show W (s₁.setTop (mkF m 0 #[.val (.int p0), .val (.int p1), .unset, .unset, .unset] []))
  refine stp (fun t k => XS.iloadN X0.here hx rfl (hb hby at_0) rfl k) ?_
  show W (s₁.setTop (mkF m 1 #[.val (.int p0), .val (.int p1), .unset, .unset, .unset] [(.int p0)]))
  refine stp (fun t k => X0.ldcInt hx hown (mvT hZ (hw _ (List.mem_of_getElem? (i := 0) rfl))) (g := (mkF m 1 #[.val (.int p0), .val (.int p1), .unset, .unset, .unset] [(.int p0)])) rfl (hb hby at_1) _ k) ?_
  show W (s₁.setTop (mkF m 3 #[.val (.int p0), .val (.int p1), .unset, .unset, .unset] [(.int (2147483647 : Int32)), (.int p0)]))
  refine stp (fun t k => XS.iand X0.here hx rfl (hb hby at_3) rfl k) ?_
  show W (s₁.setTop (mkF m 4 #[.val (.int p0), .val (.int p1), .unset, .unset, .unset] [(.int (p0 &&& (2147483647 : Int32)))]))
  refine stp (fun t k => XS.istoreN X0.here hx rfl (hb hby at_4) rfl (l' := #[.val (.int p0), .val (.int p1), .val (.int (p0 &&& (2147483647 : Int32))), .unset, .unset]) rfl k) ?_
  show W (s₁.setTop (mkF m 5 #[.val (.int p0), .val (.int p1), .val (.int (p0 &&& (2147483647 : Int32))), .unset, .unset] []))
  refine stp (fun t k => XS.iloadN X0.here hx rfl (hb hby at_5) rfl k) ?_
  show W (s₁.setTop (mkF m 6 #[.val (.int p0), .val (.int p1), .val (.int (p0 &&& (2147483647 : Int32))), .unset, .unset] [(.int (p0 &&& (2147483647 : Int32)))]))
  by_cases hc0_1 : (p0 &&& (2147483647 : Int32)) = (0 : Int32)
  · refine stp (fun t k => XS.ifNo X0.here hx rfl (hb hby at_6) rfl ((if0 _ _).trans (teq hc0_1).2) k) ?_
    show W (s₁.setTop (mkF m 9 #[.val (.int p0), .val (.int p1), .val (.int (p0 &&& (2147483647 : Int32))), .unset, .unset] []))
    refine stp (fun t k => XS.iconst X0.here hx rfl (hb hby at_9) k) ?_
    show W (s₁.setTop (mkF m 10 #[.val (.int p0), .val (.int p1), .val (.int (p0 &&& (2147483647 : Int32))), .unset, .unset] [(.int (1 : Int32))]))
    show W (s₁.setTop (mkF m 10 #[.val (.int p0), .val (.int p1), .val (.int (p0 &&& (2147483647 : Int32))), .unset, .unset] [(.int (1 : Int32))]))
    rw [← hW]
    exact own_retN X0 hx Bd.notSynchronized Bd.returns (w := (1 : Int32)) (by simp) (hb hby at_10) rfl (by show Q0 Z p0 p1 pa kp h0 n0 _ s₁.heap _; rw [e0]; exact ⟨rfl, N0⟩) (by decide) (by decide)
  · refine stp (fun t k => XS.ifYes X0.here hx rfl (pc0 := 6) (pc' := 11) rfl (hb hby at_6) rfl ((if0 _ _).trans (feq hc0_1).2) (by decide) (by decide) k) ?_
    show W (s₁.setTop (mkF m 11 #[.val (.int p0), .val (.int p1), .val (.int (p0 &&& (2147483647 : Int32))), .unset, .unset] []))
    refine stp (fun t k => XS.iloadN X0.here hx rfl (hb hby at_11) rfl k) ?_
    show W (s₁.setTop (mkF m 12 #[.val (.int p0), .val (.int p1), .val (.int (p0 &&& (2147483647 : Int32))), .unset, .unset] [(.int p1)]))
    refine stp (fun t k => X0.ldcInt hx hown (mvT hZ (hw _ (List.mem_of_getElem? (i := 0) rfl))) (g := (mkF m 12 #[.val (.int p0), .val (.int p1), .val (.int (p0 &&& (2147483647 : Int32))), .unset, .unset] [(.int p1)])) rfl (hb hby at_12) _ k) ?_
    show W (s₁.setTop (mkF m 14 #[.val (.int p0), .val (.int p1), .val (.int (p0 &&& (2147483647 : Int32))), .unset, .unset] [(.int (2147483647 : Int32)), (.int p1)]))
    refine stp (fun t k => XS.iand X0.here hx rfl (hb hby at_14) rfl k) ?_
    show W (s₁.setTop (mkF m 15 #[.val (.int p0), .val (.int p1), .val (.int (p0 &&& (2147483647 : Int32))), .unset, .unset] [(.int (p1 &&& (2147483647 : Int32)))]))
    refine stp (fun t k => XS.iloadN X0.here hx rfl (hb hby at_15) rfl k) ?_
    show W (s₁.setTop (mkF m 16 #[.val (.int p0), .val (.int p1), .val (.int (p0 &&& (2147483647 : Int32))), .unset, .unset] [(.int (p0 &&& (2147483647 : Int32))), (.int (p1 &&& (2147483647 : Int32)))]))
    refine stp (fun t k => iremM X0 hx rfl (hb hby at_16) rfl ((by exact own_0_16_2 p0 p1 pa kp hc0_1)) k) ?_
    show W (s₁.setTop (mkF m 17 #[.val (.int p0), .val (.int p1), .val (.int (p0 &&& (2147483647 : Int32))), .unset, .unset] [(.int ((p1 &&& (2147483647 : Int32)) % (p0 &&& (2147483647 : Int32))))]))
    refine stp (fun t k => XS.istoreN X0.here hx rfl (hb hby at_17) rfl (l' := #[.val (.int p0), .val (.int p1), .val (.int (p0 &&& (2147483647 : Int32))), .val (.int ((p1 &&& (2147483647 : Int32)) % (p0 &&& (2147483647 : Int32)))), .unset]) rfl k) ?_
    show W (s₁.setTop (mkF m 18 #[.val (.int p0), .val (.int p1), .val (.int (p0 &&& (2147483647 : Int32))), .val (.int ((p1 &&& (2147483647 : Int32)) % (p0 &&& (2147483647 : Int32)))), .unset] []))
    refine stp (fun t k => XS.iloadN X0.here hx rfl (hb hby at_18) rfl k) ?_
    show W (s₁.setTop (mkF m 19 #[.val (.int p0), .val (.int p1), .val (.int (p0 &&& (2147483647 : Int32))), .val (.int ((p1 &&& (2147483647 : Int32)) % (p0 &&& (2147483647 : Int32)))), .unset] [(.int ((p1 &&& (2147483647 : Int32)) % (p0 &&& (2147483647 : Int32))))]))
    refine stp (fun t k => XS.iloadN X0.here hx rfl (hb hby at_19) rfl k) ?_
    show W (s₁.setTop (mkF m 20 #[.val (.int p0), .val (.int p1), .val (.int (p0 &&& (2147483647 : Int32))), .val (.int ((p1 &&& (2147483647 : Int32)) % (p0 &&& (2147483647 : Int32)))), .unset] [(.int (p0 &&& (2147483647 : Int32))), (.int ((p1 &&& (2147483647 : Int32)) % (p0 &&& (2147483647 : Int32))))]))
    obtain ⟨_, _, ⟨T0c3, L0c3, k0c3, n0c3⟩, -, X0c3, ⟨Lc0c3, hQ0c3, l0c3, y0c3, z0c3⟩, st0c3⟩ := Jvm.LawKit.callS X0 hx (y := (⟨"com/example/usher/usher/study/Preference", "grade", "(II)I"⟩ : MethodName)) hown (mvT hZ (hw _ (List.mem_of_getElem? (i := 1) rfl))) (mvT hZ (hw _ (List.mem_of_getElem? (i := 2) rfl))) (mvT hZ (hw _ (List.mem_of_getElem? (i := 3) rfl))) (mvT hZ (hw _ (List.mem_of_getElem? (i := 4) rfl))) (by decide) (backOf (W := 0) (rm1 l Z aa hw [] ((p1 &&& (2147483647 : Int32)) % (p0 &&& (2147483647 : Int32))) (p0 &&& (2147483647 : Int32)) pa kp h0 n0 Z0 S_pct V_pa) hZ (hw _ (List.mem_of_getElem? (i := 4) rfl)) (hw _ (List.mem_of_getElem? (i := 3) rfl)) (by decide) (by decide)) (g := (mkF m 20 #[.val (.int p0), .val (.int p1), .val (.int (p0 &&& (2147483647 : Int32))), .val (.int ((p1 &&& (2147483647 : Int32)) % (p0 &&& (2147483647 : Int32)))), .unset] [(.int (p0 &&& (2147483647 : Int32))), (.int ((p1 &&& (2147483647 : Int32)) % (p0 &&& (2147483647 : Int32))))])) rfl (by rw [hml]; rfl) (argsL := [(.int ((p1 &&& (2147483647 : Int32)) % (p0 &&& (2147483647 : Int32)))), (.int (p0 &&& (2147483647 : Int32)))]) (rest := []) (lenOf pd0_0 rfl) rfl (by show 2 * 0 + _ ≤ _; exact Nat.le_of_eq rfl) (hb hby at_20) (fun _ _ => ⟨rfl, e0, (by decide : 0 + 0 ≤ _), (by decide : 0 + 0 ≤ _)⟩)
    dsimp only [Pt.U, Pt.locs, Pt.cells, Pt.slots] at X0c3 l0c3 y0c3 z0c3 st0c3 hQ0c3
    subst l0c3 y0c3 z0c3
    obtain ⟨rfl, N0c3q, e0c3⟩ := hQ0c3
    have N0c3 := Fr.app N0 N0c3q
    refine stp (fun t k => st0c3 t k) ?_
    show W (T0c3.setTop (mkF m 23 #[.val (.int p0), .val (.int p1), .val (.int (p0 &&& (2147483647 : Int32))), .val (.int ((p1 &&& (2147483647 : Int32)) % (p0 &&& (2147483647 : Int32)))), .unset] [(.int (f1 ((p1 &&& (2147483647 : Int32)) % (p0 &&& (2147483647 : Int32))) (p0 &&& (2147483647 : Int32))))]))
    generalize hu0_4 : (f1 ((p1 &&& (2147483647 : Int32)) % (p0 &&& (2147483647 : Int32))) (p0 &&& (2147483647 : Int32))) = u0_4
    show W (T0c3.setTop (mkF m 23 #[.val (.int p0), .val (.int p1), .val (.int (p0 &&& (2147483647 : Int32))), .val (.int ((p1 &&& (2147483647 : Int32)) % (p0 &&& (2147483647 : Int32)))), .unset] [(.int u0_4)]))
    refine stp (fun t k => XS.istore X0c3.here hx rfl (hb hby at_23) rfl (l' := #[.val (.int p0), .val (.int p1), .val (.int (p0 &&& (2147483647 : Int32))), .val (.int ((p1 &&& (2147483647 : Int32)) % (p0 &&& (2147483647 : Int32)))), .val (.int u0_4)]) rfl k) ?_
    show W (T0c3.setTop (mkF m 25 #[.val (.int p0), .val (.int p1), .val (.int (p0 &&& (2147483647 : Int32))), .val (.int ((p1 &&& (2147483647 : Int32)) % (p0 &&& (2147483647 : Int32)))), .val (.int u0_4)] []))
    refine stp (fun t k => XS.iload X0c3.here hx rfl (hb hby at_25) rfl k) ?_
    show W (T0c3.setTop (mkF m 27 #[.val (.int p0), .val (.int p1), .val (.int (p0 &&& (2147483647 : Int32))), .val (.int ((p1 &&& (2147483647 : Int32)) % (p0 &&& (2147483647 : Int32)))), .val (.int u0_4)] [(.int u0_4)]))
    refine stp (fun t k => XS.iloadN X0c3.here hx rfl (hb hby at_27) rfl k) ?_
    show W (T0c3.setTop (mkF m 28 #[.val (.int p0), .val (.int p1), .val (.int (p0 &&& (2147483647 : Int32))), .val (.int ((p1 &&& (2147483647 : Int32)) % (p0 &&& (2147483647 : Int32)))), .val (.int u0_4)] [(.int ((p1 &&& (2147483647 : Int32)) % (p0 &&& (2147483647 : Int32)))), (.int u0_4)]))
    refine stp (fun t k => XS.iloadN X0c3.here hx rfl (hb hby at_28) rfl k) ?_
    show W (T0c3.setTop (mkF m 29 #[.val (.int p0), .val (.int p1), .val (.int (p0 &&& (2147483647 : Int32))), .val (.int ((p1 &&& (2147483647 : Int32)) % (p0 &&& (2147483647 : Int32)))), .val (.int u0_4)] [(.int (p0 &&& (2147483647 : Int32))), (.int ((p1 &&& (2147483647 : Int32)) % (p0 &&& (2147483647 : Int32)))), (.int u0_4)]))
    obtain ⟨_, _, ⟨T0c5, L0c5, k0c5, n0c5⟩, -, X0c5, ⟨Lc0c5, hQ0c5, l0c5, y0c5, z0c5⟩, st0c5⟩ := Jvm.LawKit.callS X0c3 hx (y := (⟨"com/example/usher/usher/study/PreferenceGradePinLaw", "expected", "(II)I"⟩ : MethodName)) hown (mvT hZ (hw _ (List.mem_of_getElem? (i := 8) rfl))) (mvT hZ (hw _ (List.mem_of_getElem? (i := 9) rfl))) (mvT hZ (hw _ (List.mem_of_getElem? (i := 10) rfl))) (mvT hZ (hw _ (List.mem_of_getElem? (i := 11) rfl))) (by decide) (backOf (W := 1) (rm2 l Z aa hw [] ((p1 &&& (2147483647 : Int32)) % (p0 &&& (2147483647 : Int32))) (p0 &&& (2147483647 : Int32))  h0 n0 Z0 ) hZ (hw _ (List.mem_of_getElem? (i := 11) rfl)) (hw _ (List.mem_of_getElem? (i := 10) rfl)) (by decide) (by decide)) (g := (mkF m 29 #[.val (.int p0), .val (.int p1), .val (.int (p0 &&& (2147483647 : Int32))), .val (.int ((p1 &&& (2147483647 : Int32)) % (p0 &&& (2147483647 : Int32)))), .val (.int u0_4)] [(.int (p0 &&& (2147483647 : Int32))), (.int ((p1 &&& (2147483647 : Int32)) % (p0 &&& (2147483647 : Int32)))), (.int u0_4)])) rfl (by rw [hml]; rfl) (argsL := [(.int ((p1 &&& (2147483647 : Int32)) % (p0 &&& (2147483647 : Int32)))), (.int (p0 &&& (2147483647 : Int32)))]) (rest := [(.int u0_4)]) (lenOf pd0_0 rfl) rfl (by show 2 * 0 + _ ≤ _; exact Nat.le_of_eq rfl) (hb hby at_29) (fun _ _ => ⟨rfl, e0c3, (by decide : 0 + 0 ≤ _), (by decide : 0 + 0 ≤ _)⟩)
    dsimp only [Pt.U, Pt.locs, Pt.cells, Pt.slots] at X0c5 l0c5 y0c5 z0c5 st0c5 hQ0c5
    subst l0c5 y0c5 z0c5
    obtain ⟨rfl, N0c5q, e0c5⟩ := hQ0c5
    have N0c5 := Fr.app N0c3 N0c5q
    refine stp (fun t k => st0c5 t k) ?_
    show W (T0c5.setTop (mkF m 32 #[.val (.int p0), .val (.int p1), .val (.int (p0 &&& (2147483647 : Int32))), .val (.int ((p1 &&& (2147483647 : Int32)) % (p0 &&& (2147483647 : Int32)))), .val (.int u0_4)] [(.int (f2 ((p1 &&& (2147483647 : Int32)) % (p0 &&& (2147483647 : Int32))) (p0 &&& (2147483647 : Int32)))), (.int u0_4)]))
    generalize hu0_6 : (f2 ((p1 &&& (2147483647 : Int32)) % (p0 &&& (2147483647 : Int32))) (p0 &&& (2147483647 : Int32))) = u0_6
    show W (T0c5.setTop (mkF m 32 #[.val (.int p0), .val (.int p1), .val (.int (p0 &&& (2147483647 : Int32))), .val (.int ((p1 &&& (2147483647 : Int32)) % (p0 &&& (2147483647 : Int32)))), .val (.int u0_4)] [(.int u0_6), (.int u0_4)]))
    refine stp (fun t k => XS.icmpNo X0c5.here hx rfl (hb hby at_32) rfl ((teq (by subst hu0_4; subst hu0_6; exact own_0_32_7 p0 p1 pa kp hc0_1)).2) k) ?_
    show W (T0c5.setTop (mkF m 35 #[.val (.int p0), .val (.int p1), .val (.int (p0 &&& (2147483647 : Int32))), .val (.int ((p1 &&& (2147483647 : Int32)) % (p0 &&& (2147483647 : Int32)))), .val (.int u0_4)] []))
    refine stp (fun t k => XS.iconst X0c5.here hx rfl (hb hby at_35) k) ?_
    show W (T0c5.setTop (mkF m 36 #[.val (.int p0), .val (.int p1), .val (.int (p0 &&& (2147483647 : Int32))), .val (.int ((p1 &&& (2147483647 : Int32)) % (p0 &&& (2147483647 : Int32)))), .val (.int u0_4)] [(.int (1 : Int32))]))
    refine stp (fun t k => XS.goto X0c5.here hx rfl (pc0 := 36) (pc' := 40) rfl (hb hby at_36) (by decide) (by decide) k) ?_
    show W (T0c5.setTop (mkF m 40 #[.val (.int p0), .val (.int p1), .val (.int (p0 &&& (2147483647 : Int32))), .val (.int ((p1 &&& (2147483647 : Int32)) % (p0 &&& (2147483647 : Int32)))), .val (.int u0_4)] [(.int (1 : Int32))]))
    show W (T0c5.setTop (mkF m 40 #[.val (.int p0), .val (.int p1), .val (.int (p0 &&& (2147483647 : Int32))), .val (.int ((p1 &&& (2147483647 : Int32)) % (p0 &&& (2147483647 : Int32)))), .val (.int u0_4)] [(.int (1 : Int32))]))
    rw [← hW]
    exact own_retN X0c5 hx Bd.notSynchronized Bd.returns (w := (1 : Int32)) (by simp) (hb hby at_40) rfl (by show Q0 Z p0 p1 pa kp h0 n0 _ T0c5.heap _; rw [e0c5]; exact ⟨rfl, N0c5⟩) (by decide) (by decide)
theorem own_eqI {args : Array Value} {first s : State} {o : Option Outcome} {idx : List Nat} {a b : Term} {k : Int32} (h : (Cond.eq a b).value args first o s idx = some true) (hb : b.eval args first o idx s = some (.int k)) : a.eval args first o idx s = some (.int k) := by
  obtain ⟨x, y, e1, e2, k1, k2⟩ := cmp_v (Or.inl h)
  cases hb.symm.trans e2
  obtain ⟨z, rfl⟩ := k2
  simp only [Cond.value, e1, hb] at h
  simp at h
  rw [e1, h]
set_option maxRecDepth 65536 in
set_option maxHeartbeats 40000000 in
theorem comes_1 {Post : Tables → Env → Array Value → State → Outcome → State → Prop} (hpost : ∀ tb e args s v u, (limb_1_1.after args s (.returned v) u = true ∧ limb_1_2.after args s (.returned v) u = true ∧ True) → FrameEnd s (.returned v) u (Jvm.fieldLocs frame_1_writes args s ++ Jvm.arrayLocs frame_1_arrays args s ++ Jvm.staticLocs frame_1_statics s) 0 0 → Post tb e args s (.returned v) u) :
    ArmFor flags0 classFile x code maxLocals ret World_1 tables_1 room_1 Calls_1 rest_1 Pre_1 Post := by
  intro l hfl _ _ p e ha hc hk s m args below hf hA hF happ hP
  obtain ⟨hcalls, hrest, hpre⟩ := hP
  obtain ⟨-, -, -, hnamed, -, -, -, hat⟩ := (Spec.applies_iff hf).mp happ
  obtain ⟨hg, hn⟩ := and_e (Cond.before_iff.mp (show (Jvm.Cond.and given_1 narrow_1).before args s = true from hpre))
  obtain ⟨gc, hg⟩ := and_e hg
  obtain ⟨g0, hg⟩ := and_e hg
  have g1 := hg
  obtain ⟨w0, w1, rfl⟩ : ∃ w0 w1 : Value, args = #[w0, w1] := by
    have hs : args.size = 2 := by simpa [Cond.value, given_1] using gc
    obtain ⟨L⟩ := args
    match L, hs with
    | [w0, w1], _ => exact ⟨w0, w1, rfl⟩
  have hw := fun d (hd : d ∈ tables_1) => atoms_spec (ws := Jvm.Cond.code x code maxLocals ret :: tables_1) hat d (List.mem_cons_of_mem _ hd)
  have hfit : Fit s := fun {y c} hc i hi => by
    obtain ⟨ha, rfl⟩ := Array.getElem?_eq_some_iff.mp hc
    have q := List.all_eq_true.mp ((Array.all_eq_true_iff_forall_mem.mp hF) _ (Array.getElem_mem ha)) i (List.mem_range.mpr hi)
    simpa [Array.getElem?_eq_getElem hi] using q
  obtain ⟨i0, ei0⟩ := is_v g0
  obtain rfl : w0 = (.int i0) := Option.some.inj ei0
  obtain ⟨i1, ei1⟩ := is_v g1
  obtain rfl : w1 = (.int i1) := Option.some.inj ei1
  obtain ⟨na, hn⟩ := and_e hn
  obtain ⟨nl, hn⟩ := and_e hn
  obtain ⟨n0, hn⟩ := and_e hn
  obtain ⟨n1, hn⟩ := and_e hn
  obtain ⟨n2, hn⟩ := and_e hn
  obtain ⟨n3, hn⟩ := and_e hn
  have n4 := hn
  obtain ⟨pa, ea⟩ := arr_v na
  obtain ⟨cl, Ar⟩ := Arr.start ea na
  have S_pct := Sta.start ea (Or.inr ⟨(hw _ (List.mem_of_getElem? (i := 3) rfl)), (hw _ (List.mem_of_getElem? (i := 6) rfl))⟩)
  obtain ⟨b', cl', eb', ec', ev'⟩ := Term.length_spec (own_eqI (k := 5) nl rfl)
  have eq' := SBG.length_lt eb' ec' (own_eqI (k := 5) nl rfl)
  cases Option.some.inj (ea.symm.trans eb')
  cases (Arr.fin (Vm.Alike.refl _) Ar).symm.trans ec'
  have m0 := (elem_in (own_eqI (k := (50 : Int32)) n0 rfl) ea (j := 0) rfl Ar.1).2
  have m1 := (elem_in (own_eqI (k := (25 : Int32)) n1 rfl) ea (j := 1) rfl Ar.1).2
  have m2 := (elem_in (own_eqI (k := (10 : Int32)) n2 rfl) ea (j := 2) rfl Ar.1).2
  have m3 := (elem_in (own_eqI (k := (5 : Int32)) n3 rfl) ea (j := 3) rfl Ar.1).2
  have m4 := (elem_in (own_eqI (k := (1 : Int32)) n4 rfl) ea (j := 4) rfl Ar.1).2
  have V_pa : Arv s s.heap pa cl.cls .int (5 : Int32) [(.int (50 : Int32)), (.int (25 : Int32)), (.int (10 : Int32)), (.int (5 : Int32)), (.int (1 : Int32))] (.int (0 : Int32)) := Arv.start hfit Ar eq' (Value.int.inj ev').symm (by decide) rfl ⟨m0, m1, m2, m3, m4, trivial⟩
  obtain ⟨n, o, h1, h2, h3, _, L, rfl, ⟨rfl, N⟩, hq⟩ := rm0 l s _ hw tables_1 i0 i1 pa cl.cls s.heap s.heap.size (Nat.le_refl _) S_pct V_pa p e ha hc hk s m _ below hf ((Spec.applies_iff_loose hf).mp happ).1 ⟨rfl, State.Warmed39.refl s, rfl⟩ trivial
  refine ⟨n, _, h1, h2, h3, hpost _ _ _ _ _ _ ⟨Cond.after_iff.mpr rfl, Cond.after_iff.mpr (eq_i res_at (Term.int_eval (1)) rfl), trivial⟩ ⟨hq.1, hq.2.1, (hq.2.2.sift fun y hy => Or.inr (N y hy)).mono (by decide) (by decide)⟩⟩
theorem main_1_1 : Claimed_1_1 := comes_1 fun _ _ _ _ _ _ h hF => ⟨h.1, hF⟩
theorem main_1_2 : Claimed_1_2 := comes_1 fun _ _ _ _ _ _ h hF => ⟨h.2.1, hF⟩
end Jvm.Pilot.@@N@@
namespace Jvm.Pilot.@@N@@
open Jvm Jvm.ClassFile Sem Op Lib Jvm.Free Jvm.Stand Jvm.Pilot.@@N@@.Jvm.D
/-! MADE BY PROGRAM (witnessworld.py) out of the Statement's table words and the real class files: 9 classes; the members and pool entries that the words name. The judged class is class 1, her method 2. -/
namespace start1
open Jvm.ClassFile
def u (s : String) : CpInfo := .utf8 (stringToUtf16 s)
/-- a pool by its gaps: so many unusable entries, then the entry; so many at the end -/
def gap : Nat → List CpInfo → List CpInfo
  | 0, r => r
  | n + 1, r => .unusable :: gap n r
def poolList (es : List (Nat × CpInfo)) (last : Nat) : List CpInfo := es.foldr (fun e r => gap e.1 (e.2 :: r)) (gap last [])
def pool (es : List (Nat × CpInfo)) (last : Nat) : Array CpInfo := ⟨poolList es last⟩
def fileOf (pool : Array CpInfo) (this : Nat) (attrs : Array Attribute := #[]) (ms : Array MethodInfo := #[]) (fl : Nat := 33) (sup : Nat := 0) (ifs : Array Nat := #[]) (fds : Array FieldInfo := #[]) : ClassFile where
  minorVersion := 0
  majorVersion := 65
  constantPool := pool
  accessFlags := fl
  thisClass := this
  superClass := sup
  interfaces := ifs
  fields := fds
  methods := ms
  attributes := attrs
def plain (name : String) (sup : Option ClassId) : Class where
  name := name
  kind := .ordinary
  loader := none
  accessFlags := 33
  super := sup
  interfaces := #[]
  cf := none
  fields := #[]
  methods := #[]
  instanceTypes := #[]
  staticTypes := #[]
  resolved := #[]
  callSites := []
  init := .initialized
  statics := none
  mirror := none

def pool0 : Array CpInfo := pool [(5, u "<init>"), (0, u "()V"), (1, .class_ 10), (1, u "java/lang/Object")] 113

def k0m0 : Method := { name := "<init>", desc := "()V", sig := { parameters := [], returnType := none }, accessFlags := 1, code := none }
/-- java/lang/Object -/
def k0 : Class := { plain "java/lang/Object" none with
  accessFlags := 33
  interfaces := #[]
  cf := some (fileOf pool0 8 #[] #[{ accessFlags := 1, nameIndex := 5, descriptorIndex := 6, attributes := #[] }] 33 0 #[] #[])
  fields := #[]
  methods := #[k0m0]
  instanceTypes := #[]
  staticTypes := #[]
  resolved := Array.replicate 124 none
  statics := none }

def pool1 : Array CpInfo := pool [(2, .class_ 4), (1, u "java/lang/Object"), (0, u "<init>"), (0, u "()V"), (0, .long 100), (1, .long 5), (1, .long 10), (1, .long 25), (1, .long 50), (1, .integer 2147483647), (0, .methodref 19 20), (0, .class_ 21), (0, .nameAndType 22 23), (0, u "com/example/usher/usher/study/Preference"), (0, u "grade"), (0, u "(II)I"), (0, .methodref 25 26), (0, .class_ 27), (0, .nameAndType 28 23), (0, u "com/example/usher/usher/study/PreferenceGradePinLaw"), (0, u "expected"), (3, u "law"), (0, u "(II)Z")] 2

def k1m0 : Method := { name := "<init>", desc := "()V", sig := { parameters := [], returnType := none }, accessFlags := 1, code := none }
def k1c1 : Code := { maxStack := 6, maxLocals := 6, code := method_2_code, exceptionTable := #[], attributes := #[] }
def k1m1 : Method := { name := "expected", desc := "(II)I", sig := { parameters := [.int, .int], returnType := some .int }, accessFlags := 10, code := some k1c1 }
def k1c2 : Code := { maxStack := 3, maxLocals := 5, code := code, exceptionTable := #[], attributes := #[] }
def k1m2 : Method := { name := "law", desc := "(II)Z", sig := { parameters := [.int, .int], returnType := some .boolean }, accessFlags := 9, code := some k1c2 }
/-- com/example/usher/usher/study/PreferenceGradePinLaw -/
def k1 : Class := { plain "com/example/usher/usher/study/PreferenceGradePinLaw" (some 0) with
  accessFlags := 49
  interfaces := #[]
  cf := some (fileOf pool1 25 #[] #[{ accessFlags := 1, nameIndex := 5, descriptorIndex := 6, attributes := #[] }, { accessFlags := 10, nameIndex := 28, descriptorIndex := 23, attributes := #[] }, { accessFlags := 9, nameIndex := 32, descriptorIndex := 33, attributes := #[] }] 49 2 #[] #[])
  fields := #[]
  methods := #[k1m0, k1m1, k1m2]
  instanceTypes := #[]
  staticTypes := #[]
  resolved := Array.replicate 36 none
  statics := none }

def pool2 : Array CpInfo := pool [(2, .class_ 4), (1, u "java/lang/Object"), (3, .class_ 10), (1, u "com/example/usher/usher/study/Preference"), (0, u "order"), (0, u "Ljava/util/List;"), (2, u "grades"), (0, u "Ljava/util/Map;"), (17, u "grade"), (0, u "(II)I"), (22, .fieldref 8 59), (0, .nameAndType 60 61), (0, u "PERCENT_OF_GRADE"), (0, u "[I"), (0, .long 100), (1, u "HUNDRED"), (0, u "I")] 20

def k2c0 : Code := { maxStack := 4, maxLocals := 9, code := prog_43_method_3_code, exceptionTable := #[], attributes := #[] }
def k2m0 : Method := { name := "grade", desc := "(II)I", sig := { parameters := [.int, .int], returnType := some .int }, accessFlags := 9, code := some k2c0 }
/-- com/example/usher/usher/study/Preference -/
def k2 : Class := { plain "com/example/usher/usher/study/Preference" (some 0) with
  accessFlags := 33
  interfaces := #[]
  cf := some (fileOf pool2 8 #[] #[{ accessFlags := 9, nameIndex := 34, descriptorIndex := 35, attributes := #[] }] 33 2 #[] #[{ accessFlags := 26, nameIndex := 60, descriptorIndex := 61, attributes := #[] }, { accessFlags := 26, nameIndex := 64, descriptorIndex := 65, attributes := #[] }, { accessFlags := 18, nameIndex := 11, descriptorIndex := 12, attributes := #[] }, { accessFlags := 18, nameIndex := 15, descriptorIndex := 16, attributes := #[] }])
  fields := #[{ name := "PERCENT_OF_GRADE", type := (.array .int), accessFlags := 26, slot := 0, constantValue := 0 }, { name := "HUNDRED", type := .int, accessFlags := 26, slot := 1, constantValue := 0 }, { name := "order", type := (.object "java/util/List"), accessFlags := 18, slot := 0, constantValue := 0 }, { name := "grades", type := (.object "java/util/Map"), accessFlags := 18, slot := 1, constantValue := 0 }]
  methods := #[k2m0]
  instanceTypes := #[(.object "java/util/List"), (.object "java/util/Map")]
  staticTypes := #[(.array .int), .int]
  resolved := Array.replicate 86 none
  statics := some 0 }

def pool3 : Array CpInfo := pool [(1, u "java/lang/Cloneable"), (0, .class_ 1), (0, u "java/lang/Object"), (0, .class_ 3)] 3

/-- java/lang/Cloneable -/
def k3 : Class := { plain "java/lang/Cloneable" (some 0) with
  accessFlags := 1537
  interfaces := #[]
  cf := some (fileOf pool3 2 #[] #[] 1537 4 #[] #[])
  fields := #[]
  methods := #[]
  instanceTypes := #[]
  staticTypes := #[]
  resolved := Array.replicate 8 none
  statics := none }

def pool4 : Array CpInfo := pool [(1, u "java/io/Serializable"), (0, .class_ 1), (0, u "java/lang/Object"), (0, .class_ 3)] 3

/-- java/io/Serializable -/
def k4 : Class := { plain "java/io/Serializable" (some 0) with
  accessFlags := 1537
  interfaces := #[]
  cf := some (fileOf pool4 2 #[] #[] 1537 4 #[] #[])
  fields := #[]
  methods := #[]
  instanceTypes := #[]
  staticTypes := #[]
  resolved := Array.replicate 8 none
  statics := none }

/-- the primitive byte -/
def k5 : Class := { plain "byte" none with kind := .primitive 'B', accessFlags := 0x411 }
/-- [B -/
def k6 : Class := { plain "[B" (some 0) with kind := .array 5 .byte, interfaces := #[3, 4], accessFlags := 1041 }

/-- the primitive int -/
def k7 : Class := { plain "int" none with kind := .primitive 'I', accessFlags := 0x411 }
/-- [I -/
def k8 : Class := { plain "[I" (some 0) with kind := .array 7 .int, interfaces := #[3, 4], accessFlags := 1041 }

def heap : Heap := #[{ cls := 2, slots := #[.ref 1, .int 0], vm := .statics 2 },
  { cls := 8, slots := #[.int 50, .int 25, .int 10, .int 5, .int 1], vm := .none }]
def classes : Array Class := #[k0, k1, k2, k3, k4, k5, k6, k7, k8]
def interned : List (Array UInt16 × Addr) := []
def slotsUsed : Nat := 7
def theMethod : MethodId := ⟨1, 2⟩
def args0 : Array Value := #[.int 50, .int 7]
def aboutOver (below : List Frame) : State where
  vm := { classes := classes, interned := interned.toArray }
  heap := heap
  slotsUsed := slotsUsed
  threads := #[{ frames := .invoking theMethod args0 :: below }]
def below0 : List Frame := [.native { method := ⟨0, 0⟩, args := #[] }]
def about1 : State := aboutOver below0
def p0 : Program := .bare "" "" ""
def e0 : Env := launch0.env 0 0 0
theorem w_frames : about1.frames = Frame.invoking theMethod args0 :: below0 := rfl
set_option maxRecDepth 65536 in
theorem w_args : argsFit about1.vm theMethod args0 = true := by decide +kernel
set_option maxRecDepth 65536 in
theorem w_heap : heapFits about1 = true := by decide +kernel
set_option maxRecDepth 65536 in
theorem w_runnable : about1.curStatus? = some .runnable := by decide +kernel
set_option maxRecDepth 65536 in
theorem w_alone : about1.alone = true := by decide +kernel
set_option maxRecDepth 65536 in
theorem w_named : about1.methodNamed? x = some theMethod := by decide +kernel
set_option maxRecDepth 65536 in
theorem w_hears : about1.hears theMethod below0 = true := by decide +kernel
set_option maxRecDepth 65536 in
theorem w_ripe : about1.ripe theMethod args0 below0 = true := by decide +kernel
theorem w_running : about1.status = .running := rfl
set_option maxRecDepth 65536 in
theorem w_room : about1.hasRoom e0.platform room_1 = true :=
  launch0.hasRoom_least _ room_1 (by decide +kernel) (by decide +kernel) (by decide +kernel) (by decide +kernel) (by decide +kernel) (by decide +kernel)
theorem allAtoms_all (ts : List Jvm.Cond) (a : Array Jvm.Value) (st : Jvm.State) : (allAtoms ts).before a st = ts.all (fun c => c.before a st) := by
  induction ts with
  | nil => rfl
  | cons c t ih =>
    show (Jvm.Cond.and c (allAtoms t)).before a st = _
    rw [Jvm.Cond.before_and, ih, List.all_cons]
def words1 : List Jvm.Cond := Jvm.Cond.code x code maxLocals ret :: tables_1
/-- a 'code' word, met by the world's own term for the bytes: nothing is compared byte by byte -/
theorem code_word {y : MethodName} {bytes : ByteArray} {mx : Nat} {rt : Option FieldType} {a : Array Value} {s : State} {m : MethodId} {meth : Method} {c : Code} (h1 : s.methodNamed? y = some m) (h2 : s.vm.method? m = some meth) (h3 : meth.code = some c) (h4 : c.code = bytes)
    (h5 : (c.maxLocals == mx && c.exceptionTable.isEmpty && decide (c.maxStack ≤ mostOperands) && decide (meth.sig.returnType = rt) && !meth.locks && decide (parseMethodDescriptor y.desc = some meth.sig)) = true) : (Jvm.Cond.code y bytes mx rt).before a s = true := by
  simp only [Bool.and_eq_true, beq_iff_eq, Bool.not_eq_true', decide_eq_true_eq] at h5
  obtain ⟨⟨⟨⟨⟨g1, g2⟩, g3⟩, g4⟩, g5⟩, g6⟩ := h5
  simp [Cond.before, Cond.holds, Cond.value, h1, h2, h3, h4, g1, g2, g3, g4, g5, g6]
def isCode : Jvm.Cond → Bool
  | .code _ _ _ _ => true
  | _ => false
theorem all_split {L : List Jvm.Cond} {P : Jvm.Cond → Bool} (h1 : L.all (fun c => isCode c || P c) = true) (h2 : ∀ c ∈ L.filter isCode, P c = true) : L.all P = true := by
  refine List.all_eq_true.mpr fun c hc => ?_
  have h := List.all_eq_true.mp h1 c hc
  rcases Bool.eq_false_or_eq_true (isCode c) with hi | hi
  · exact h2 c (List.mem_filter.mpr ⟨hc, hi⟩)
  · simpa [hi] using h
set_option maxRecDepth 65536 in
theorem w_c0 : (Jvm.Cond.code x code maxLocals ret).before args0 about1 = true := code_word (m := ⟨1, 2⟩) (meth := k1m2) (c := k1c2) (by decide +kernel) rfl rfl rfl (by decide +kernel)
set_option maxRecDepth 65536 in
theorem w_c1 : (Jvm.Cond.code ({ cls := "com/example/usher/usher/study/Preference", name := "grade", desc := "(II)I" } : Jvm.MethodName) prog_43_method_3_code (9 : Nat) (Option.some Jvm.ClassFile.FieldType.int)).before args0 about1 = true := code_word (m := ⟨2, 0⟩) (meth := k2m0) (c := k2c0) (by decide +kernel) rfl rfl rfl (by decide +kernel)
set_option maxRecDepth 65536 in
theorem w_c2 : (Jvm.Cond.code ({ cls := "com/example/usher/usher/study/PreferenceGradePinLaw", name := "expected", desc := "(II)I" } : Jvm.MethodName) method_2_code (6 : Nat) (Option.some Jvm.ClassFile.FieldType.int)).before args0 about1 = true := code_word (m := ⟨1, 1⟩) (meth := k1m1) (c := k1c1) (by decide +kernel) rfl rfl rfl (by decide +kernel)
def codes1 : List Jvm.Cond := [Jvm.Cond.code x code maxLocals ret, Jvm.Cond.code ({ cls := "com/example/usher/usher/study/Preference", name := "grade", desc := "(II)I" } : Jvm.MethodName) prog_43_method_3_code (9 : Nat) (Option.some Jvm.ClassFile.FieldType.int), Jvm.Cond.code ({ cls := "com/example/usher/usher/study/PreferenceGradePinLaw", name := "expected", desc := "(II)I" } : Jvm.MethodName) method_2_code (6 : Nat) (Option.some Jvm.ClassFile.FieldType.int)]
set_option maxRecDepth 65536 in
theorem codes_eq : words1.filter isCode = codes1 := rfl
theorem w_codes : ∀ c ∈ words1.filter isCode, c.before args0 about1 = true := by
  rw [codes_eq]
  intro c hc
  simp only [codes1, List.mem_cons, List.not_mem_nil, or_false] at hc
  rcases hc with rfl | rfl | rfl
  · exact w_c0
  · exact w_c1
  · exact w_c2
set_option maxRecDepth 65536 in
theorem w_t1 : words1.all (fun c => isCode c || c.before args0 about1) = true := by decide +kernel
theorem w_tables : (allAtoms (Jvm.Cond.code x code maxLocals ret :: tables_1)).before args0 about1 = true := by
  rw [allAtoms_all]
  show words1.all (fun c => c.before args0 about1) = true
  refine all_split ?_ w_codes
  rw [w_t1]
set_option maxRecDepth 65536 in
theorem w_case : (Jvm.Cond.and given_1 narrow_1).before args0 about1 = true := by decide +kernel
theorem w_applies : (headSpec (Jvm.Cond.code x code maxLocals ret :: tables_1) room_1).applies x e0.platform about1 = true :=
  (Spec.applies_iff w_frames).mpr ⟨w_running, w_runnable, w_alone, w_named, w_hears, w_ripe, w_room, w_tables⟩
theorem atStart : AtStart classFile x code maxLocals ret World_1 tables_1 room_1 Calls_1 rest_1 Pre_1 launch0 p0 e0 about1 theMethod args0 below0 :=
  ⟨lists_1, trivial, launch0.admits_env _ _ _, launch0.least_env, fairChoices_fair.cas, fairChoices_fair.clock, w_frames, w_args, w_heap, w_applies, trivial, trivial, w_case⟩
end start1
theorem witness_1 : WitnessClaimed_1 := ⟨start1.p0, start1.e0, start1.about1, start1.theMethod, start1.args0, start1.below0, start1.atStart⟩
end Jvm.Pilot.@@N@@
