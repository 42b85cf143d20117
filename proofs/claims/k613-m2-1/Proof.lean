import JvmDerived
import JvmDerived.Pilot.@@N@@Statement
import JvmDerived.Pilot.@@N@@Code
set_option linter.unusedVariables false
set_option linter.unusedSimpArgs false
namespace Jvm.Pilot.@@N@@
open Jvm Jvm.ClassFile Sem Op Lib Jvm.Free Jvm.Stand Jvm.LawKit Jvm.RoadKit Bundle Jvm.Pilot.@@N@@.Jvm.D
/-! the walk's goal: from the state A the run ends, returning what Qv says -/
def OwnEnd (p : Program) (e : Env) (below : List Frame) (s : State) (Qv : Option Value → Heap → List Loc → Prop) (k n : Nat) (A : State) : Prop :=
  ∃ s₂ o, Steps p.tables e below A s₂ ∧ s₂.status = .running ∧ Ended s₂ below o ∧ ∃ v L, o = .returned v ∧ Qv v s₂.heap L ∧ FrameEnd s o s₂ L k n
theorem own_step {p : Program} {e : Env} {below : List Frame} {s : State} {Qv : Option Value → Heap → List Loc → Prop} {k n : Nat} {A B : State} (h : ∀ t, Steps p.tables e below B t → Steps p.tables e below A t) (q : OwnEnd p e below s Qv k n B) : OwnEnd p e below s Qv k n A := by
  obtain ⟨s₂, o, h1, h2⟩ := q
  exact ⟨s₂, o, h _ h1, h2⟩
theorem own_arvEq {Z : State} {h : Heap} {a : Addr} {k : ClassId} {ty : FieldType} {z : Int32} {vs vs' : List Value} {d : Value} (e : vs = vs') (F : Arv Z h a k ty z vs d) : Arv Z h a k ty z vs' d := by subst e; exact F
theorem own_fldEq {Z : State} {h : Heap} {a : Addr} {C n d : String} {x y : Int32} (e : x = y) (F : Fld Z h a C n d (.int x)) : Fld Z h a C n d (.int y) := by subst e; exact F
section OwnRet
variable {p : Program} {l : Launch} {e : Env} {R : Room} {s : State} {m : MethodId} {args : Array Value} {below : List Frame} {meth : Method} {c : Code} {T : State} {locs : List Loc} {cells slots k n : Nat} {Qv : Option Value → Heap → List Loc → Prop}
theorem own_retN (X : Stand p l e R s m args below meth c T locs cells slots) (hx : p.tables.exec = Jvm.exec) (hlocks : meth.locks = false) {pc : Nat} {Ls : Array Slot} {z w : Int32} {t : FieldType} {rest : List Value} (hret : meth.sig.returnType = some t) (ht : t = .boolean ∨ t = .byte ∨ t = .char ∨ t = .short) (hd : decode c.code pc = .ok (.ireturn, 1)) (hz : nar t z = w) (hq : Qv (some (.int w)) T.heap locs) (hk : cells ≤ k) (hn : slots ≤ n) :
    OwnEnd p e below s Qv k n (T.setTop (mkF m pc Ls (.int z :: rest))) := by
  obtain ⟨fs, hr, hrun, hended, hW, hsame⟩ := X.leave (v := some (.int w)) (fun h => by rw [hret] at h; cases h) hlocks
  exact ⟨_, _, retN X hx hret ht hd (fs := fs) (by rw [hz]; exact hr), hrun, hended, _, _, rfl, hq, ⟨_, rfl⟩, hW, hsame.mono hk hn⟩
theorem own_retI (X : Stand p l e R s m args below meth c T locs cells slots) (hx : p.tables.exec = Jvm.exec) (hlocks : meth.locks = false) {pc : Nat} {Ls : Array Slot} {z : Int32} {rest : List Value} (hret : meth.sig.returnType = some .int) (hd : decode c.code pc = .ok (.ireturn, 1)) (hq : Qv (some (.int z)) T.heap locs) (hk : cells ≤ k) (hn : slots ≤ n) :
    OwnEnd p e below s Qv k n (T.setTop (mkF m pc Ls (.int z :: rest))) := by
  obtain ⟨fs, hr, hrun, hended, hW, hsame⟩ := X.leave (v := some (.int z)) (fun h => by rw [hret] at h; cases h) hlocks
  refine ⟨T.setFrames fs, _, ?_, hrun, hended, _, _, rfl, hq, ⟨_, rfl⟩, hW, hsame.mono hk hn⟩
  have hm' : T.vm.method? m = some meth := X.method'
  have hn' : narrow .int (.int z) = .int z := rfl
  show Steps p.tables e below (T.setTop { method := m, pc := pc, locals := Ls, stack := _ :: rest, locked := none }) _
  jvm_step X.here [X.here.top, hx, hd, hm', hret, hn']
  first | (intro acts; rw [hr _ acts rfl rfl rfl]) | rw [hr _ _ rfl rfl rfl]
  exact Steps.refl _
theorem own_retJ (X : Stand p l e R s m args below meth c T locs cells slots) (hx : p.tables.exec = Jvm.exec) (hlocks : meth.locks = false) {pc : Nat} {Ls : Array Slot} {z : Int64} {rest : List Value} (hret : meth.sig.returnType = some .long) (hd : decode c.code pc = .ok (.lreturn, 1)) (hq : Qv (some (.long z)) T.heap locs) (hk : cells ≤ k) (hn : slots ≤ n) :
    OwnEnd p e below s Qv k n (T.setTop (mkF m pc Ls (.long z :: rest))) := by
  obtain ⟨fs, hr, hrun, hended, hW, hsame⟩ := X.leave (v := some (.long z)) (fun h => by rw [hret] at h; cases h) hlocks
  refine ⟨T.setFrames fs, _, ?_, hrun, hended, _, _, rfl, hq, ⟨_, rfl⟩, hW, hsame.mono hk hn⟩
  have hm' : T.vm.method? m = some meth := X.method'
  have hn' : narrow .long (.long z) = .long z := rfl
  show Steps p.tables e below (T.setTop { method := m, pc := pc, locals := Ls, stack := _ :: rest, locked := none }) _
  jvm_step X.here [X.here.top, hx, hd, hm', hret, hn']
  first | (intro acts; rw [hr _ acts rfl rfl rfl]) | rw [hr _ _ rfl rfl rfl]
  exact Steps.refl _
theorem own_retD (X : Stand p l e R s m args below meth c T locs cells slots) (hx : p.tables.exec = Jvm.exec) (hlocks : meth.locks = false) {pc : Nat} {Ls : Array Slot} {z : UInt64} {rest : List Value} (hret : meth.sig.returnType = some .double) (hd : decode c.code pc = .ok (.dreturn, 1)) (hq : Qv (some (.double z)) T.heap locs) (hk : cells ≤ k) (hn : slots ≤ n) :
    OwnEnd p e below s Qv k n (T.setTop (mkF m pc Ls (.double z :: rest))) := by
  obtain ⟨fs, hr, hrun, hended, hW, hsame⟩ := X.leave (v := some (.double z)) (fun h => by rw [hret] at h; cases h) hlocks
  refine ⟨T.setFrames fs, _, ?_, hrun, hended, _, _, rfl, hq, ⟨_, rfl⟩, hW, hsame.mono hk hn⟩
  have hm' : T.vm.method? m = some meth := X.method'
  have hn' : narrow .double (.double z) = .double z := rfl
  show Steps p.tables e below (T.setTop { method := m, pc := pc, locals := Ls, stack := _ :: rest, locked := none }) _
  jvm_step X.here [X.here.top, hx, hd, hm', hret, hn']
  first | (intro acts; rw [hr _ acts rfl rfl rfl]) | rw [hr _ _ rfl rfl rfl]
  exact Steps.refl _
theorem own_retR (X : Stand p l e R s m args below meth c T locs cells slots) (hx : p.tables.exec = Jvm.exec) (hlocks : meth.locks = false) {pc : Nat} {Ls : Array Slot} {z : Addr} {t : FieldType} {rest : List Value} (hret : meth.sig.returnType = some t) (ht : t.isReference = true) (hd : decode c.code pc = .ok (.areturn, 1)) (hq : Qv (some (.ref z)) T.heap locs) (hk : cells ≤ k) (hn : slots ≤ n) :
    OwnEnd p e below s Qv k n (T.setTop (mkF m pc Ls (.ref z :: rest))) := by
  obtain ⟨fs, hr, hrun, hended, hW, hsame⟩ := X.leave (v := some (.ref z)) (fun h => by rw [hret] at h; cases h) hlocks
  refine ⟨T.setFrames fs, _, ?_, hrun, hended, _, _, rfl, hq, ⟨_, rfl⟩, hW, hsame.mono hk hn⟩
  have hm' : T.vm.method? m = some meth := X.method'
  show Steps p.tables e below (T.setTop { method := m, pc := pc, locals := Ls, stack := _ :: rest, locked := none }) _
  jvm_step X.here [X.here.top, hx, hd, hm', hret, ht, Value.isRef]
  first | (intro acts; rw [hr _ acts rfl rfl rfl]) | rw [hr _ _ rfl rfl rfl]
  exact Steps.refl _
theorem own_ret0 (X : Stand p l e R s m args below meth c T locs cells slots) (hx : p.tables.exec = Jvm.exec) (hlocks : meth.locks = false) {pc : Nat} {Ls : Array Slot} (hret : meth.sig.returnType = none) (hd : decode c.code pc = .ok (.return_, 1)) (hq : Qv none T.heap locs) (hk : cells ≤ k) (hn : slots ≤ n) :
    OwnEnd p e below s Qv k n (T.setTop (mkF m pc Ls [])) := by
  obtain ⟨fs, hr, hrun, hended, hW, hsame⟩ := X.leave (v := none) (fun _ => rfl) hlocks
  exact ⟨_, _, X.returnOut hx hret hd hr, hrun, hended, _, _, rfl, hq, ⟨_, rfl⟩, hW, hsame.mono hk hn⟩
end OwnRet
theorem d1_0 : decode prog_66_method_2_code 0 = .ok (.dload_n 0, 1) := by decide +kernel
theorem d1_1 : decode prog_66_method_2_code 1 = .ok (.dconst 0, 1) := by decide +kernel
theorem d1_2 : decode prog_66_method_2_code 2 = .ok (.dcmp .l, 1) := by decide +kernel
theorem d1_3 : decode prog_66_method_2_code 3 = .ok (.ifCond .lt 13, 3) := by decide +kernel
theorem d1_6 : decode prog_66_method_2_code 6 = .ok (.dload_n 0, 1) := by decide +kernel
theorem d1_7 : decode prog_66_method_2_code 7 = .ok (.dconst 1, 1) := by decide +kernel
theorem d1_8 : decode prog_66_method_2_code 8 = .ok (.dcmp .g, 1) := by decide +kernel
theorem d1_9 : decode prog_66_method_2_code 9 = .ok (.ifCond .gt 7, 3) := by decide +kernel
theorem d1_12 : decode prog_66_method_2_code 12 = .ok (.iconst 1, 1) := by decide +kernel
theorem d1_13 : decode prog_66_method_2_code 13 = .ok (.goto 4, 3) := by decide +kernel
theorem d1_16 : decode prog_66_method_2_code 16 = .ok (.iconst 0, 1) := by decide +kernel
theorem d1_17 : decode prog_66_method_2_code 17 = .ok (.ireturn, 1) := by decide +kernel
theorem pn1 : plainName "com/example/astute_scheduler/astutescheduler/model/Outcome" = true := by first | (simp [plainName, overriddenIn]; done) | decide +kernel
theorem ef1 (m : MethodId) (d0 : UInt64) : entryFrame m #[(.double d0)] 2 = mkF m 0 #[.val (.double d0), .second] [] := by first | (simp [entryFrame, mkF, argsToLocals, Value.category]; done) | rfl
def f1 (d0 : UInt64) : Int32 := (if (cmpValue (FP.dcmp d0 (0 : UInt64)) .l) < (0 : Int32) then (0 : Int32) else (if (0 : Int32) < (cmpValue (FP.dcmp d0 (4607182418800017408 : UInt64)) .g) then (0 : Int32) else (1 : Int32)))
def Q1 (Z : State) (d0 : UInt64) (h0 : Heap) (n0 : Nat) (v : Option Value) (h : Heap) (L : List Loc) : Prop := v = some (.int (f1 d0)) ∧ Fr n0 L ∧ h = h0
set_option maxRecDepth 65536 in
set_option maxHeartbeats 40000000 in
theorem rm1 (l : Launch) (Z : State) (aa : Array Value) (hw : ∀ d ∈ tables_1, d.before aa Z = true) (ws : List Jvm.Cond) (d0 : UInt64) (h0 : Heap) (n0 : Nat) (Z0 : n0 ≤ h0.size) :
    MetFree l (⟨"com/example/astute_scheduler/astutescheduler/model/Outcome", "isProbability", "(D)Z"⟩ : MethodName) (head1 (Jvm.Cond.code (⟨"com/example/astute_scheduler/astutescheduler/model/Outcome", "isProbability", "(D)Z"⟩ : MethodName) prog_66_method_2_code 2 (some .boolean) :: ws) ({ frames := 0, cells := 0, slots := 0, locals := 0 } : Room)) (fun a U => a = #[(.double d0)] ∧ Z.Warmed39 U.vm ∧ U.heap = h0) (fun _ _ _ _ _ => True) (fun _ U o U' => ∃ v L, o = .returned v ∧ Q1 Z d0 h0 n0 v U'.heap L ∧ FrameEnd U o U' L ({ frames := 0, cells := 0, slots := 0, locals := 0 } : Room).cells ({ frames := 0, cells := 0, slots := 0, locals := 0 } : Room).slots) := by
  refine MetFree.of_bodySF (plainFor_of_name pn1) hisR ?_
  intro p e s m args below meth c s₁ Bd hml0 hP hK
  obtain ⟨rfl, hZ, hh⟩ := hP
  have hx := Bd.exec
  have hby := Bd.bytes
  have hml : c.maxLocals = 2 := hml0
  have hown : s.vm.findClass "com/example/astute_scheduler/astutescheduler/model/Outcome" = some m.cls := findClass_of_methodNamed Bd.named
  have hnm := (name_of_methodNamed Bd.named Bd.method).1
  have X0 : Stand p l e ({ frames := 0, cells := 0, slots := 0, locals := 0 } : Room) s m #[(.double d0)] below meth c s₁ [] 0 0 := Stand.of_body Bd
  have e0 : s₁.heap = h0 := by rw [← hh, Bd.state]; rfl
  have N0 := Fr.nil n0
  show OwnEnd p e below s (fun v h L => Q1 Z d0 h0 n0 v h L) ({ frames := 0, cells := 0, slots := 0, locals := 0 } : Room).cells ({ frames := 0, cells := 0, slots := 0, locals := 0 } : Room).slots (s₁.setTop (entryFrame m #[(.double d0)] 2))
  rw [ef1 m d0]
  generalize hW : OwnEnd p e below s (fun v h L => Q1 Z d0 h0 n0 v h L) ({ frames := 0, cells := 0, slots := 0, locals := 0 } : Room).cells ({ frames := 0, cells := 0, slots := 0, locals := 0 } : Room).slots = W
  have stp : ∀ {A B : State}, (∀ t, Steps p.tables e below B t → Steps p.tables e below A t) → W B → W A := by subst hW; exact own_step
  show W (s₁.setTop (mkF m 0 #[.val (.double d0), .second] []))
  refine stp (fun t k => XS.dloadN X0.here hx rfl (hb hby d1_0) rfl k) ?_
  show W (s₁.setTop (mkF m 1 #[.val (.double d0), .second] [(.double d0)]))
  refine stp (fun t k => XS.dconst0 X0.here hx rfl (hb hby d1_1) (v := (0 : UInt64)) rfl k) ?_
  show W (s₁.setTop (mkF m 2 #[.val (.double d0), .second] [(.double (0 : UInt64)), (.double d0)]))
  refine stp (fun t k => XS.dcmpS X0.here hx rfl (hb hby d1_2) rfl rfl k) ?_
  show W (s₁.setTop (mkF m 3 #[.val (.double d0), .second] [(.int (cmpValue (FP.dcmp d0 (0 : UInt64)) .l))]))
  by_cases hc1_1 : (cmpValue (FP.dcmp d0 (0 : UInt64)) .l) < (0 : Int32)
  · refine stp (fun t k => XS.ifYes X0.here hx rfl (pc0 := 3) (pc' := 16) rfl (hb hby d1_3) rfl ((if0 _ _).trans (tlt hc1_1).1) (by decide) (by decide) k) ?_
    show W (s₁.setTop (mkF m 16 #[.val (.double d0), .second] []))
    refine stp (fun t k => XS.iconst X0.here hx rfl (hb hby d1_16) k) ?_
    show W (s₁.setTop (mkF m 17 #[.val (.double d0), .second] [(.int (0 : Int32))]))
    show W (s₁.setTop (mkF m 17 #[.val (.double d0), .second] [(.int (0 : Int32))]))
    rw [← hW]
    exact own_retN X0 hx Bd.notSynchronized Bd.returns (w := (0 : Int32)) (by simp) (hb hby d1_17) rfl (by show Q1 Z d0 h0 n0 _ s₁.heap _; rw [e0]; exact ⟨(by rw [f1, if_pos hc1_1]), N0, rfl⟩) (by decide) (by decide)
  · refine stp (fun t k => XS.ifNo X0.here hx rfl (hb hby d1_3) rfl ((if0 _ _).trans (flt hc1_1).1) k) ?_
    show W (s₁.setTop (mkF m 6 #[.val (.double d0), .second] []))
    refine stp (fun t k => XS.dloadN X0.here hx rfl (hb hby d1_6) rfl k) ?_
    show W (s₁.setTop (mkF m 7 #[.val (.double d0), .second] [(.double d0)]))
    refine stp (fun t k => XS.dconst1 X0.here hx rfl (hb hby d1_7) (v := (4607182418800017408 : UInt64)) rfl k) ?_
    show W (s₁.setTop (mkF m 8 #[.val (.double d0), .second] [(.double (4607182418800017408 : UInt64)), (.double d0)]))
    refine stp (fun t k => XS.dcmpS X0.here hx rfl (hb hby d1_8) rfl rfl k) ?_
    show W (s₁.setTop (mkF m 9 #[.val (.double d0), .second] [(.int (cmpValue (FP.dcmp d0 (4607182418800017408 : UInt64)) .g))]))
    by_cases hc1_2 : (0 : Int32) < (cmpValue (FP.dcmp d0 (4607182418800017408 : UInt64)) .g)
    · refine stp (fun t k => XS.ifYes X0.here hx rfl (pc0 := 9) (pc' := 16) rfl (hb hby d1_9) rfl ((if0 _ _).trans (tlt hc1_2).2.2.1) (by decide) (by decide) k) ?_
      show W (s₁.setTop (mkF m 16 #[.val (.double d0), .second] []))
      refine stp (fun t k => XS.iconst X0.here hx rfl (hb hby d1_16) k) ?_
      show W (s₁.setTop (mkF m 17 #[.val (.double d0), .second] [(.int (0 : Int32))]))
      show W (s₁.setTop (mkF m 17 #[.val (.double d0), .second] [(.int (0 : Int32))]))
      rw [← hW]
      exact own_retN X0 hx Bd.notSynchronized Bd.returns (w := (0 : Int32)) (by simp) (hb hby d1_17) rfl (by show Q1 Z d0 h0 n0 _ s₁.heap _; rw [e0]; exact ⟨(by rw [f1, if_neg hc1_1, if_pos hc1_2]), N0, rfl⟩) (by decide) (by decide)
    · refine stp (fun t k => XS.ifNo X0.here hx rfl (hb hby d1_9) rfl ((if0 _ _).trans (flt hc1_2).2.2.1) k) ?_
      show W (s₁.setTop (mkF m 12 #[.val (.double d0), .second] []))
      refine stp (fun t k => XS.iconst X0.here hx rfl (hb hby d1_12) k) ?_
      show W (s₁.setTop (mkF m 13 #[.val (.double d0), .second] [(.int (1 : Int32))]))
      refine stp (fun t k => XS.goto X0.here hx rfl (pc0 := 13) (pc' := 17) rfl (hb hby d1_13) (by decide) (by decide) k) ?_
      show W (s₁.setTop (mkF m 17 #[.val (.double d0), .second] [(.int (1 : Int32))]))
      show W (s₁.setTop (mkF m 17 #[.val (.double d0), .second] [(.int (1 : Int32))]))
      rw [← hW]
      exact own_retN X0 hx Bd.notSynchronized Bd.returns (w := (1 : Int32)) (by simp) (hb hby d1_17) rfl (by show Q1 Z d0 h0 n0 _ s₁.heap _; rw [e0]; exact ⟨(by rw [f1, if_neg hc1_1, if_neg hc1_2]), N0, rfl⟩) (by decide) (by decide)
/-! the quotient of two whole doubles, held against any number of the format -/
theorem own_p2 (a b k : Nat) (h : k = a + b) : (2 : Nat) ^ k = 2 ^ a * 2 ^ b := by rw [h, Nat.pow_add]
open Jvm.FP.Core in
theorem own_sgnAbs (s : Bool) (n : Nat) : (signed s n).natAbs = n := by cases s <;> simp [signed]
open Jvm.FP.Core in
theorem own_quot {x y : UInt64} {i j : Int} (hx : DInt i x) (hy : DInt j y) (hj : 0 < j) :
    ∃ s : Bool, (i < 0 → s = true) ∧ (0 < i → s = false) ∧ val64 (ddiv x y) ≠ .nan ∧ sgn (val64 (ddiv x y)) = s ∧
      (∀ V : Datum, Jvm.FP.Core.fits b64 V → V ≠ .nan → i.natAbs * one64 ≤ zmag b64 V * j.natAbs → zmag b64 (val64 (ddiv x y)) ≤ zmag b64 V) ∧
      (∀ V : Datum, Jvm.FP.Core.fits b64 V → zmag b64 V * j.natAbs ≤ i.natAbs * one64 → zmag b64 V ≤ zmag b64 (val64 (ddiv x y))) := by
  have fx := val64_fits x
  have fy := val64_fits y
  have zx := DInt_zval hx
  have zy := DInt_zval hy
  rw [val64_ddiv]
  unfold DInt at hx hy
  cases ex : val64 x with
  | nan => rw [ex] at hx; exact hx.elim
  | inf s => rw [ex] at hx; exact hx.elim
  | fin s c q =>
  cases ey : val64 y with
  | nan => rw [ey] at hy; exact hy.elim
  | inf t => rw [ey] at hy; exact hy.elim
  | fin t d r =>
  rw [ex] at fx zx hx
  rw [ey] at fy zy hy
  have o64 := one64_pos
  have qm : b64.qmin = -1074 := by decide +kernel
  have qM : b64.qmax = 971 := by decide +kernel
  obtain ⟨-, q1, q2, -⟩ := fx
  obtain ⟨-, r1, r2, -⟩ := fy
  rw [qm] at q1 r1
  rw [qM] at q2 r2
  have mx : c * 2 ^ (q + 1074).toNat = i.natAbs * one64 := by
    have : signed s (c * 2 ^ (q - b64.qmin).toNat) = i * (one64 : Int) := zx
    rw [qm, show q - -1074 = q + 1074 by omega] at this
    have h2 : (signed s (c * 2 ^ (q + 1074).toNat)).natAbs = (i * (one64 : Int)).natAbs := by rw [this]
    rw [Int.natAbs_mul, Int.natAbs_natCast] at h2
    rw [← h2, own_sgnAbs]
  have my : d * 2 ^ (r + 1074).toNat = j.natAbs * one64 := by
    have : signed t (d * 2 ^ (r - b64.qmin).toNat) = j * (one64 : Int) := zy
    rw [qm, show r - -1074 = r + 1074 by omega] at this
    have h2 : (signed t (d * 2 ^ (r + 1074).toNat)).natAbs = (j * (one64 : Int)).natAbs := by rw [this]
    rw [Int.natAbs_mul, Int.natAbs_natCast] at h2
    rw [← h2, own_sgnAbs]
  have tf : t = false := by rw [whole_sign hy (by omega)]; simp; omega
  have dpos : 0 < d := by
    refine Nat.pos_of_ne_zero fun h0 => ?_
    rw [h0, Nat.zero_mul] at my
    have : 0 < j.natAbs * one64 := Nat.mul_pos (by omega) o64
    omega
  have hq : quotient b64 (.fin s c q) (.fin t d r) = roundRatio b64 (s != t) c d (q - r) := by
    simp only [quotient]
    rw [if_neg (by omega)]
  rw [hq]
  have st : (s != t) = s := by rw [tf]; cases s <;> rfl
  rw [st]
  have P : ∀ z : Nat, z * 2 ^ (b64.qmin - -4000).toNat * d * 2 ^ (r + 1074).toNat = z * j.natAbs * 2 ^ 4000 := fun z => by
    rw [Nat.mul_assoc (z * _), my, qm, show (-1074 - -4000 : Int).toNat = 2926 from rfl, own_p2 2926 1074 4000 rfl]
    unfold one64
    generalize 2 ^ 2926 = A
    generalize 2 ^ 1074 = B
    ac_rfl
  have U : inUnits c (q - r) (-4000) * 2 ^ (r + 1074).toNat = i.natAbs * one64 * 2 ^ 4000 := by
    unfold inUnits
    rw [← mx, Nat.mul_assoc, Nat.mul_assoc, ← Nat.pow_add, ← Nat.pow_add]
    congr 2
    omega
  have pp : 0 < 2 ^ (r + 1074).toNat := Nat.two_pow_pos _
  refine ⟨s, fun h => ?_, fun h => ?_, roundRatio_ne_nan _ _ _ _ _, sgn_roundRatio _ _ _ _ _, fun V hV hn h => ?_, fun V hV h => ?_⟩
  · rw [whole_sign hx (by omega)]; simp [h]
  · rw [whole_sign hx (by omega)]; simp; omega
  · refine zmag_roundRatio_le good_b64 dpos hV hn (e0 := -4000) (by rw [qm]; omega) (by omega) ?_
    refine Nat.le_of_mul_le_mul_right ?_ pp
    rw [U, P]
    exact Nat.mul_le_mul_right _ h
  · refine zmag_roundRatio_ge good_b64 dpos hV (e0 := -4000) (by rw [qm]; omega) (by omega) ?_
    refine Nat.le_of_mul_le_mul_right ?_ pp
    rw [U, P]
    exact Nat.mul_le_mul_right _ h
open Jvm.FP.Core in
theorem own_z1 : zval b64 (val64 4607182418800017408) = (one64 : Int) := by decide +kernel
open Jvm.FP.Core in
theorem own_zm1 : zmag b64 (val64 4607182418800017408) = one64 := by decide +kernel
open Jvm.FP.Core in
theorem own_zm0 : zmag b64 (val64 0) = 0 := by decide +kernel
open Jvm.FP.Core in
theorem own_n1 : val64 4607182418800017408 ≠ .nan := by decide +kernel
open Jvm.FP.Core in
theorem own_n0 : val64 0 ≠ .nan := by decide +kernel
open Jvm.FP.Core in
/-- 0 <= i, i <= j: the quotient lies between 0.0 and 1.0 -/
theorem own_in {x y : UInt64} {i j : Int} (hx : DInt i x) (hy : DInt j y) (hj : 0 < j) (h0 : 0 ≤ i) (h1 : i ≤ j) :
    val64 (ddiv x y) ≠ .nan ∧ (dcmp (ddiv x y) 0 = some .gt ∨ dcmp (ddiv x y) 0 = some .eq) ∧ (dcmp (ddiv x y) 4607182418800017408 = some .lt ∨ dcmp (ddiv x y) 4607182418800017408 = some .eq) := by
  obtain ⟨s, h2, h3, h4, h5, h6, h7⟩ := own_quot hx hy hj
  have hpos : 0 ≤ zval b64 (val64 (ddiv x y)) := by
    unfold zval
    rw [h5]
    rcases Int.lt_or_eq_of_le h0 with hp | hp
    · rw [h3 hp]; simp [signed]
    · have := h6 _ (val64_fits 0) own_n0 (by rw [own_zm0, ← hp]; simp)
      rw [own_zm0] at this
      rw [Nat.le_zero.mp this]; cases s <;> simp [signed]
  have hle : zval b64 (val64 (ddiv x y)) ≤ (one64 : Int) := by
    have := h6 _ (val64_fits 4607182418800017408) own_n1 (by rw [own_zm1, Nat.mul_comm]; exact Nat.mul_le_mul_left _ (by omega))
    rw [own_zm1] at this
    unfold zval
    cases sgn (val64 (ddiv x y)) <;> simp only [signed, if_true, Bool.false_eq_true, if_false] <;> omega
  exact ⟨h4, dcmp_ge.mpr ⟨h4, own_n0, by rw [zval64_zero]; exact hpos⟩, dcmp_le.mpr ⟨h4, own_n1, by rw [own_z1]; exact hle⟩⟩
open Jvm.FP.Core in
theorem own_zmU : zmag b64 (val64 4607182418800017409) = one64 + 2 ^ 1022 := by decide +kernel
open Jvm.FP.Core in
theorem own_zmS : zmag b64 (val64 1) = 1 := by decide +kernel
open Jvm.FP.Core in
/-- i > j: the quotient lies above 1.0 -/
theorem own_above {x y : UInt64} {i j : Int} (hx : DInt i x) (hy : DInt j y) (hj : 0 < j) (hj2 : j ≤ 1048576) (h1 : j < i) :
    dcmp (ddiv x y) 4607182418800017408 = some .gt := by
  obtain ⟨s, h2, h3, h4, h5, h6, h7⟩ := own_quot hx hy hj
  refine dcmp_gt.mpr ⟨h4, own_n1, ?_⟩
  have h8 := h7 _ (val64_fits 4607182418800017409) (by
    rw [own_zmU, Nat.add_mul]
    have e1 : one64 = 2 ^ 52 * 2 ^ 1022 := own_p2 52 1022 1074 rfl
    have e2 : 2 ^ 1022 * j.natAbs ≤ one64 := by
      rw [e1, Nat.mul_comm]
      exact Nat.mul_le_mul_right _ (by omega)
    have e3 : (j.natAbs + 1) * one64 ≤ i.natAbs * one64 := Nat.mul_le_mul_right _ (by omega)
    rw [Nat.add_mul, Nat.one_mul, Nat.mul_comm] at e3
    omega)
  rw [own_zmU] at h8
  have h9 : 0 < 2 ^ 1022 := Nat.two_pow_pos _
  rw [own_z1]
  unfold zval
  rw [h5, h3 (by omega)]
  show (one64 : Int) < ((zmag b64 (val64 (ddiv x y)) : Nat) : Int)
  generalize (2 : Nat) ^ 1022 = A at *
  omega
open Jvm.FP.Core in
/-- i < 0: the quotient lies below 0.0 -/
theorem own_below {x y : UInt64} {i j : Int} (hx : DInt i x) (hy : DInt j y) (hj : 0 < j) (hj2 : j ≤ 1048576) (h1 : i < 0) :
    dcmp (ddiv x y) 0 = some .lt := by
  obtain ⟨s, h2, h3, h4, h5, h6, h7⟩ := own_quot hx hy hj
  refine dcmp_lt.mpr ⟨h4, own_n0, ?_⟩
  have h8 := h7 _ (val64_fits 1) (by
    rw [own_zmS, Nat.one_mul]
    have e1 : one64 = 2 ^ 20 * 2 ^ 1054 := own_p2 20 1054 1074 rfl
    have e2 : 0 < 2 ^ 1054 := Nat.two_pow_pos _
    have e3 : 2 ^ 20 ≤ one64 := by rw [e1]; exact Nat.le_mul_of_pos_right _ e2
    have e4 : one64 ≤ i.natAbs * one64 := Nat.le_mul_of_pos_left _ (by omega)
    omega)
  rw [own_zmS] at h8
  rw [zval64_zero]
  unfold zval
  rw [h5, h2 h1]
  show -((zmag b64 (val64 (ddiv x y)) : Nat) : Int) < 0
  omega
open Jvm.FP.Core in
theorem own_z2 : zval b64 (val64 4611686018427387904) = 2 * (one64 : Int) := by decide +kernel
open Jvm.FP.Core in
theorem own_zn1 : zval b64 (val64 13830554455654793216) = -(one64 : Int) := by decide +kernel
open Jvm.FP.Core in
theorem own_l2dN (c : Int64) : val64 (l2d c) ≠ .nan := by
  obtain ⟨a, b, h⟩ := l2d_shape c
  rw [h]; exact Datum.noConfusion
open Jvm.FP.Core in
theorem own_l2dBig {c : Int64} (h : 2 ≤ c.toInt) : dcmp (l2d c) 4607182418800017408 = some .gt := by
  refine dcmp_gt.mpr ⟨own_l2dN c, own_n1, ?_⟩
  have p := one64_pos
  have := l2d_zval_ge (n := c) (V := 4611686018427387904) (by decide +kernel) (by rw [own_z2]; exact Int.mul_le_mul_of_nonneg_right h (by omega))
  rw [own_z2] at this
  rw [own_z1]
  omega
open Jvm.FP.Core in
theorem own_l2dNeg {c : Int64} (h : c.toInt < 0) : dcmp (l2d c) 0 = some .lt := by
  refine dcmp_lt.mpr ⟨own_l2dN c, own_n0, ?_⟩
  have p := one64_pos
  have := l2d_zval_le (n := c) (V := 13830554455654793216) (by decide +kernel) (by
    rw [own_zn1]
    have : c.toInt * (one64 : Int) ≤ (-1) * (one64 : Int) := Int.mul_le_mul_of_nonneg_right (by omega) (by omega)
    omega)
  rw [own_zn1] at this
  rw [zval64_zero]
  omega
open Jvm.FP.Core in
theorem own_vS : val64 4368491638549381120 = .fin false (2 ^ 52) (-105) := by decide +kernel
open Jvm.FP.Core in
theorem own_vB : val64 4845873199050653696 = .fin false (2 ^ 52) 1 := by decide +kernel
open Jvm.FP.Core in
/-- t * 2^-53 of a whole t below 2^53: exact, at least 0, below 1, and times 2^53 it is t again -/
theorem own_unit {t : Int64} (h0 : 0 ≤ t.toInt) (h1 : t.toInt < 9007199254740992) :
    val64 (dmul (l2d t) 4368491638549381120) ≠ .nan ∧ (dcmp 0 (dmul (l2d t) 4368491638549381120) = some .lt ∨ dcmp 0 (dmul (l2d t) 4368491638549381120) = some .eq) ∧
      dcmp (dmul (l2d t) 4368491638549381120) 4607182418800017408 = some .lt ∧ DInt t.toInt (dmul (dmul (l2d t) 4368491638549381120) 4845873199050653696) ∧ val64 (dmul (dmul (l2d t) 4368491638549381120) 4845873199050653696) ≠ .nan := by
  by_cases hz : t = 0
  · subst hz
    have e1 : dmul (l2d 0) 4368491638549381120 = 0 := by decide +kernel
    have e2 : dmul 0 4845873199050653696 = 0 := by decide +kernel
    rw [e1, e2]
    refine ⟨own_n0, Or.inr (by decide +kernel), by decide +kernel, ?_, own_n0⟩
    have := l2d_int (a := 0) (by decide)
    rwa [Jvm.FP.Core.l2d_zero] at this
  · have hp : 0 < t.toInt := by
      have : t.toInt ≠ 0 := fun q => hz (Int64.toInt_inj.mp q)
      omega
    have hw := l2d_int (a := t) (by omega)
    have zx := DInt_zval hw
    have fx := val64_fits (l2d t)
    obtain ⟨c, q, ex⟩ := l2d_shape t
    rw [show decide (t.toInt < 0) = false from by simp; omega] at ex
    have hw' := hw
    unfold DInt at hw'
    rw [ex] at zx fx hw'
    have qm : b64.qmin = -1074 := by decide +kernel
    have qM : b64.qmax = 971 := by decide +kernel
    have pp : b64.p = 53 := rfl
    obtain ⟨c1, q1, q2, c2⟩ := fx
    rw [qm] at q1 c2
    rw [qM] at q2
    rw [pp] at c1
    have mx : c * 2 ^ (q + 1074).toNat = t.toInt.natAbs * one64 := by
      have : signed false (c * 2 ^ (q - b64.qmin).toNat) = t.toInt * (one64 : Int) := zx
      rw [qm, show q - -1074 = q + 1074 by omega] at this
      have h2 : (signed false (c * 2 ^ (q + 1074).toNat)).natAbs = (t.toInt * (one64 : Int)).natAbs := by rw [this]
      rw [Int.natAbs_mul, Int.natAbs_natCast, own_sgnAbs] at h2
      exact h2
    have hq : -52 ≤ q := by
      refine Int.le_of_not_gt fun hlt => ?_
      have k1 : 2 ^ (q + 1074).toNat ≤ 2 ^ 1021 := Nat.pow_le_pow_right (by decide) (by omega)
      have k2 : c * 2 ^ (q + 1074).toNat ≤ c * 2 ^ 1021 := Nat.mul_le_mul_left _ k1
      have k3 : one64 = 2 ^ 53 * 2 ^ 1021 := own_p2 53 1021 1074 rfl
      have k4 : c * 2 ^ 1021 < 2 ^ 53 * 2 ^ 1021 := Nat.mul_lt_mul_of_pos_right c1 (Nat.two_pow_pos _)
      have k5 : one64 ≤ t.toInt.natAbs * one64 := Nat.le_mul_of_pos_left _ (by omega)
      rw [mx] at k2
      rw [← k3] at k4
      omega
    have hD : val64 (dmul (l2d t) 4368491638549381120) = .fin false c (q - 53) := by
      rw [val64_dmul, ex, own_vS]
      show roundRatio b64 false (c * 2 ^ 52) 1 (q + -105) = _
      refine roundRatio_exact good_b64 (by decide) ⟨c1, by rw [qm]; omega, by rw [qM]; omega, Or.inr (c2.resolve_left (by omega))⟩ ?_
      rw [show (q + -105 - (q - 53)).toNat = 0 by omega, show (q - 53 - (q + -105)).toNat = 52 by omega, Nat.pow_zero, Nat.mul_one, Nat.mul_one]
    have nD : val64 (dmul (l2d t) 4368491638549381120) ≠ .nan := by rw [hD]; exact Datum.noConfusion
    have zD : zval b64 (val64 (dmul (l2d t) 4368491638549381120)) = ((c * 2 ^ (q + 1021).toNat : Nat) : Int) := by
      rw [hD]
      show ((c * 2 ^ (q - 53 - b64.qmin).toNat : Nat) : Int) = _
      rw [qm, show q - 53 - -1074 = q + 1021 by omega]
    have mD : c * 2 ^ (q + 1021).toNat * 2 ^ 53 = t.toInt.natAbs * one64 := by
      rw [← mx, Nat.mul_assoc, ← Nat.pow_add, show (q + 1021).toNat + 53 = (q + 1074).toNat by omega]
    have hS : DInt t.toInt (dmul (dmul (l2d t) 4368491638549381120) 4845873199050653696) := by
      unfold DInt
      rw [val64_dmul, hD, own_vB]
      refine whole_round good_b64 wide_b64 (show _ ≤ 2 ^ 53 by omega) ?_
      show signed false (c * 2 ^ 52 * 2 ^ (q - 53 + 1).toNat) = t.toInt * ((2 ^ (-(q - 53 + 1)).toNat : Nat) : Int)
      have w : signed false (c * 2 ^ q.toNat) = t.toInt * ((2 ^ (-q).toNat : Nat) : Int) := hw'
      have w1 : ((c * 2 ^ q.toNat : Nat) : Int) = t.toInt * ((2 ^ (-q).toNat : Nat) : Int) := w
      show ((c * 2 ^ 52 * 2 ^ (q - 53 + 1).toNat : Nat) : Int) = _
      by_cases hq0 : 52 ≤ q
      · have a1 : (-q).toNat = 0 := by omega
        have a2 : (-(q - 53 + 1)).toNat = 0 := by omega
        rw [a1] at w1
        rw [a2, ← w1, Nat.mul_assoc, ← Nat.pow_add, show 52 + (q - 53 + 1).toNat = q.toNat by omega]
      · have a1 : (q - 53 + 1).toNat = 0 := by omega
        rw [a1, Nat.pow_zero, Nat.mul_one]
        by_cases hq1 : 0 ≤ q
        · have a3 : (-q).toNat = 0 := by omega
          rw [a3, Nat.pow_zero] at w1
          have w2 : t.toInt = ((c * 2 ^ q.toNat : Nat) : Int) := by omega
          rw [w2, ← Int.natCast_mul, Nat.mul_assoc, ← Nat.pow_add, show q.toNat + (-(q - 53 + 1)).toNat = 52 by omega]
        · have a3 : q.toNat = 0 := by omega
          rw [a3, Nat.pow_zero, Nat.mul_one] at w1
          rw [Int.natCast_mul, w1, Int.mul_assoc, ← Int.natCast_mul, ← Nat.pow_add, show (-q).toNat + 52 = (-(q - 53 + 1)).toNat by omega]
    refine ⟨nD, dcmp_le.mpr ⟨own_n0, nD, by rw [zval64_zero, zD]; omega⟩, dcmp_lt.mpr ⟨nD, own_n1, ?_⟩, hS, DInt_ne_nan hS⟩
    rw [zD, own_z1]
    have k1 : t.toInt.natAbs * one64 < 2 ^ 53 * one64 := Nat.mul_lt_mul_of_pos_right (by omega) one64_pos
    rw [← mD, Nat.mul_comm (2 ^ 53)] at k1
    have k2 := Nat.lt_of_mul_lt_mul_right k1
    omega
theorem own_noNaN {x : UInt64} (h : Jvm.FP.Core.val64 x ≠ .nan) : Jvm.Free.Fl.NoNaN64 x := by
  have h1 : Jvm.FP.Core.dcmp x x = some .eq := Jvm.FP.Core.dcmp_self h
  exact Jvm.Free.Fl.noNaN64_of_dcmp (by show FP.cmpInt (-1) (FP.dcmp x x) = 0; rw [show FP.dcmp x x = some .eq from h1]; rfl)
theorem own_d (p1 : Int32) : ((p1 &&& (1048575 : Int32)) + (1 : Int32)).toInt = p1.toInt % 1048576 + 1 := by
  have h1 := c_mask p1 1048575 20 (by decide) (by decide)
  have h2 := c_iadd (p1 &&& 1048575) 1
  have h3 := rng32 ((p1 &&& 1048575) + 1)
  have h4 : (1 : Int32).toInt = 1 := by decide
  omega
theorem own_nn (p0 p1 : Int32) : Jvm.Free.Fl.NoNaN64 (FP.ddiv (FP.i2d p0) (FP.i2d ((p1 &&& (1048575 : Int32)) + (1 : Int32)))) := by
  obtain ⟨s, -, -, h, -⟩ := own_quot (Jvm.FP.Core.i2d_int p0) (Jvm.FP.Core.i2d_int ((p1 &&& (1048575 : Int32)) + (1 : Int32))) (by have := own_d p1; omega)
  exact own_noNaN h
theorem own_f1lt {x : UInt64} (h : FP.dcmp x (0 : UInt64) = some .lt) : f1 x = (0 : Int32) := by
  unfold f1; rw [h, if_pos (by decide)]
theorem own_f1gt {x : UInt64} (h : FP.dcmp x (4607182418800017408 : UInt64) = some .gt) : f1 x = (0 : Int32) := by
  unfold f1
  rw [h]
  split
  · rfl
  · rw [if_pos (by decide)]
theorem own_f1in {x : UInt64} (h1 : FP.dcmp x (0 : UInt64) = some .gt ∨ FP.dcmp x (0 : UInt64) = some .eq) (h2 : FP.dcmp x (4607182418800017408 : UInt64) = some .lt ∨ FP.dcmp x (4607182418800017408 : UInt64) = some .eq) : f1 x = (1 : Int32) := by
  unfold f1
  rcases h1 with h1 | h1 <;> rcases h2 with h2 | h2 <;> rw [h1, h2] <;> decide
theorem own_m1 (q2 : Int64) : (f1 (FP.l2d q2)) = (if q2 = (0 : Int64) then (1 : Int32) else (if q2 = (1 : Int64) then (1 : Int32) else (0 : Int32))) := by
  by_cases h0 : q2 = 0
  · subst h0; rw [if_pos rfl]; decide +kernel
  · by_cases h1 : q2 = 1
    · subst h1; rw [if_neg h0, if_pos rfl]; decide +kernel
    · rw [if_neg h0, if_neg h1]
      have a0 : q2.toInt ≠ 0 := fun q => h0 (Int64.toInt_inj.mp q)
      have a1 : q2.toInt ≠ 1 := fun q => h1 (Int64.toInt_inj.mp q)
      by_cases hn : q2.toInt < 0
      · exact own_f1lt (own_l2dNeg hn)
      · exact own_f1gt (own_l2dBig (by omega))
theorem own_m2 : (f1 (9223372036854775808 : UInt64)) = (1 : Int32) := by decide +kernel
theorem own_m3 (p0 p1 : Int32) : (f1 (FP.ddiv (FP.i2d p0) (FP.i2d ((p1 &&& (1048575 : Int32)) + (1 : Int32))))) = (if p0 < (0 : Int32) then (0 : Int32) else (if ((p1 &&& (1048575 : Int32)) + (1 : Int32)) < p0 then (0 : Int32) else (1 : Int32))) := by
  have hd := own_d p1
  have k0 : (0 : Int32).toInt = 0 := by decide
  have hx := Jvm.FP.Core.i2d_int p0
  have hy := Jvm.FP.Core.i2d_int ((p1 &&& (1048575 : Int32)) + (1 : Int32))
  by_cases h0 : p0 < (0 : Int32)
  · rw [if_pos h0]
    rw [Int32.lt_iff_toInt_lt, k0] at h0
    exact own_f1lt (own_below hx hy (by omega) (by omega) h0)
  · rw [if_neg h0]
    rw [Int32.lt_iff_toInt_lt, k0] at h0
    by_cases h1 : ((p1 &&& (1048575 : Int32)) + (1 : Int32)) < p0
    · rw [if_pos h1]
      rw [Int32.lt_iff_toInt_lt] at h1
      exact own_f1gt (own_above hx hy (by omega) (by omega) h1)
    · rw [if_neg h1]
      rw [Int32.lt_iff_toInt_lt] at h1
      obtain ⟨-, a, b⟩ := own_in hx hy (by omega) (by omega) (by omega)
      exact own_f1in a b
theorem pn0 : plainName "com/example/astute_scheduler/astutescheduler/model/OutcomeIsProbabilityPinLaw" = true := by first | (simp [plainName, overriddenIn]; done) | decide +kernel
theorem pd0_0 : parseMethodDescriptor "(D)Z" = some ⟨[.double], some .boolean⟩ := by decide +kernel
theorem ef0 (m : MethodId) (p0 : Int32) (p1 : Int32) (q2 : Int64) (p3 : Int32) : entryFrame m #[(.int p0), (.int p1), (.long q2), (.int p3)] maxLocals = mkF m 0 #[.val (.int p0), .val (.int p1), .val (.long q2), .second, .val (.int p3), .unset, .unset, .unset, .unset, .unset] [] := by first | (simp [entryFrame, mkF, argsToLocals, Value.category, maxLocals]; done) | rfl
theorem own_0_95_7 (p0 : Int32) (p1 : Int32) (q2 : Int64) (p3 : Int32)  (hc0_1 : (p3 &&& (3 : Int32)) = (1 : Int32)) : (f1 (FP.l2d q2)) = (if q2 = (0 : Int64) then (1 : Int32) else (if q2 = (1 : Int64) then (1 : Int32) else (0 : Int32))) := own_m1 q2
theorem own_0_95_10 (p0 : Int32) (p1 : Int32) (q2 : Int64) (p3 : Int32)  (hc0_1 : ¬ ((p3 &&& (3 : Int32)) = (1 : Int32))) (hc0_8 : (p3 &&& (3 : Int32)) = (2 : Int32)) : (f1 (9223372036854775808 : UInt64)) = (1 : Int32) := own_m2
theorem own_0_68_11 (p0 : Int32) (p1 : Int32) (q2 : Int64) (p3 : Int32)  (hc0_1 : ¬ ((p3 &&& (3 : Int32)) = (1 : Int32))) (hc0_8 : ¬ ((p3 &&& (3 : Int32)) = (2 : Int32))) : Jvm.Free.Fl.NoNaN64 (FP.ddiv (FP.i2d p0) (FP.i2d ((p1 &&& (1048575 : Int32)) + (1 : Int32)))) := own_nn p0 p1
theorem own_0_95_17 (p0 : Int32) (p1 : Int32) (q2 : Int64) (p3 : Int32)  (hc0_1 : ¬ ((p3 &&& (3 : Int32)) = (1 : Int32))) (hc0_8 : ¬ ((p3 &&& (3 : Int32)) = (2 : Int32))) : (f1 (FP.ddiv (FP.i2d p0) (FP.i2d ((p1 &&& (1048575 : Int32)) + (1 : Int32))))) = (if p0 < (0 : Int32) then (0 : Int32) else (if ((p1 &&& (1048575 : Int32)) + (1 : Int32)) < p0 then (0 : Int32) else (1 : Int32))) := own_m3 p0 p1
def Q0 (Z : State) (p0 : Int32) (p1 : Int32) (q2 : Int64) (p3 : Int32) (h0 : Heap) (n0 : Nat) (v : Option Value) (h : Heap) (L : List Loc) : Prop := v = some (.int (1 : Int32)) ∧ Fr n0 L
set_option maxRecDepth 65536 in
set_option maxHeartbeats 40000000 in
theorem rm0 (l : Launch) (Z : State) (aa : Array Value) (hw : ∀ d ∈ tables_1, d.before aa Z = true) (ws : List Jvm.Cond) (p0 : Int32) (p1 : Int32) (q2 : Int64) (p3 : Int32) (h0 : Heap) (n0 : Nat) (Z0 : n0 ≤ h0.size) :
    MetFree l x (head1 (Jvm.Cond.code x code maxLocals ret :: ws) room_1) (fun a U => a = #[(.int p0), (.int p1), (.long q2), (.int p3)] ∧ Z.Warmed39 U.vm ∧ U.heap = h0) (fun _ _ _ _ _ => True) (fun _ U o U' => ∃ v L, o = .returned v ∧ Q0 Z p0 p1 q2 p3 h0 n0 v U'.heap L ∧ FrameEnd U o U' L room_1.cells room_1.slots) := by
  refine MetFree.of_bodySF (plainFor_of_name pn0) hisR ?_
  intro p e s m args below meth c s₁ Bd hml0 hP hK
  obtain ⟨rfl, hZ, hh⟩ := hP
  have hx := Bd.exec
  have hby := Bd.bytes
  have hml : c.maxLocals = 10 := hml0
  have hown : s.vm.findClass "com/example/astute_scheduler/astutescheduler/model/OutcomeIsProbabilityPinLaw" = some m.cls := findClass_of_methodNamed Bd.named
  have hnm := (name_of_methodNamed Bd.named Bd.method).1
  have X0 : Stand p l e room_1 s m #[(.int p0), (.int p1), (.long q2), (.int p3)] below meth c s₁ [] 0 0 := Stand.of_body Bd
  have e0 : s₁.heap = h0 := by rw [← hh, Bd.state]; rfl
  have N0 := Fr.nil n0
  show OwnEnd p e below s (fun v h L => Q0 Z p0 p1 q2 p3 h0 n0 v h L) room_1.cells room_1.slots (s₁.setTop (entryFrame m #[(.int p0), (.int p1), (.long q2), (.int p3)] maxLocals))
  rw [ef0 m p0 p1 q2 p3]
  generalize hW : OwnEnd p e below s (fun v h L => Q0 Z p0 p1 q2 p3 h0 n0 v h L) room_1.cells room_1.slots = W
  have stp : ∀ {A B : State}, (∀ t, Steps p.tables e below B t → Steps p.tables e below A t) → W B → W A := by subst hW; exact own_step
  show W (s₁.setTop (mkF m 0 #[.val (.int p0), .val (.int p1), .val (.long q2), .second, .val (.int p3), .unset, .unset, .unset, .unset, .unset] []))
  refine stp (fun t k => XS.iloadN X0.here hx rfl (hb hby at_0) rfl k) ?_
  show W (s₁.setTop (mkF m 1 #[.val (.int p0), .val (.int p1), .val (.long q2), .second, .val (.int p3), .unset, .unset, .unset, .unset, .unset] [(.int p1)]))
  refine stp (fun t k => X0.ldcInt hx hown (mvT hZ (hw _ (List.mem_of_getElem? (i := 0) rfl))) (g := (mkF m 1 #[.val (.int p0), .val (.int p1), .val (.long q2), .second, .val (.int p3), .unset, .unset, .unset, .unset, .unset] [(.int p1)])) rfl (hb hby at_1) _ k) ?_
  show W (s₁.setTop (mkF m 3 #[.val (.int p0), .val (.int p1), .val (.long q2), .second, .val (.int p3), .unset, .unset, .unset, .unset, .unset] [(.int (1048575 : Int32)), (.int p1)]))
  refine stp (fun t k => XS.iand X0.here hx rfl (hb hby at_3) rfl k) ?_
  show W (s₁.setTop (mkF m 4 #[.val (.int p0), .val (.int p1), .val (.long q2), .second, .val (.int p3), .unset, .unset, .unset, .unset, .unset] [(.int (p1 &&& (1048575 : Int32)))]))
  refine stp (fun t k => XS.iconst X0.here hx rfl (hb hby at_4) k) ?_
  show W (s₁.setTop (mkF m 5 #[.val (.int p0), .val (.int p1), .val (.long q2), .second, .val (.int p3), .unset, .unset, .unset, .unset, .unset] [(.int (1 : Int32)), (.int (p1 &&& (1048575 : Int32)))]))
  refine stp (fun t k => XS.iadd X0.here hx rfl (hb hby at_5) rfl k) ?_
  show W (s₁.setTop (mkF m 6 #[.val (.int p0), .val (.int p1), .val (.long q2), .second, .val (.int p3), .unset, .unset, .unset, .unset, .unset] [(.int ((p1 &&& (1048575 : Int32)) + (1 : Int32)))]))
  refine stp (fun t k => XS.istore X0.here hx rfl (hb hby at_6) rfl (l' := #[.val (.int p0), .val (.int p1), .val (.long q2), .second, .val (.int p3), .val (.int ((p1 &&& (1048575 : Int32)) + (1 : Int32))), .unset, .unset, .unset, .unset]) rfl k) ?_
  show W (s₁.setTop (mkF m 8 #[.val (.int p0), .val (.int p1), .val (.long q2), .second, .val (.int p3), .val (.int ((p1 &&& (1048575 : Int32)) + (1 : Int32))), .unset, .unset, .unset, .unset] []))
  refine stp (fun t k => XS.iload X0.here hx rfl (hb hby at_8) rfl k) ?_
  show W (s₁.setTop (mkF m 10 #[.val (.int p0), .val (.int p1), .val (.long q2), .second, .val (.int p3), .val (.int ((p1 &&& (1048575 : Int32)) + (1 : Int32))), .unset, .unset, .unset, .unset] [(.int p3)]))
  refine stp (fun t k => XS.iconst X0.here hx rfl (hb hby at_10) k) ?_
  show W (s₁.setTop (mkF m 11 #[.val (.int p0), .val (.int p1), .val (.long q2), .second, .val (.int p3), .val (.int ((p1 &&& (1048575 : Int32)) + (1 : Int32))), .unset, .unset, .unset, .unset] [(.int (3 : Int32)), (.int p3)]))
  refine stp (fun t k => XS.iand X0.here hx rfl (hb hby at_11) rfl k) ?_
  show W (s₁.setTop (mkF m 12 #[.val (.int p0), .val (.int p1), .val (.long q2), .second, .val (.int p3), .val (.int ((p1 &&& (1048575 : Int32)) + (1 : Int32))), .unset, .unset, .unset, .unset] [(.int (p3 &&& (3 : Int32)))]))
  refine stp (fun t k => XS.istore X0.here hx rfl (hb hby at_12) rfl (l' := #[.val (.int p0), .val (.int p1), .val (.long q2), .second, .val (.int p3), .val (.int ((p1 &&& (1048575 : Int32)) + (1 : Int32))), .val (.int (p3 &&& (3 : Int32))), .unset, .unset, .unset]) rfl k) ?_
  show W (s₁.setTop (mkF m 14 #[.val (.int p0), .val (.int p1), .val (.long q2), .second, .val (.int p3), .val (.int ((p1 &&& (1048575 : Int32)) + (1 : Int32))), .val (.int (p3 &&& (3 : Int32))), .unset, .unset, .unset] []))
  refine stp (fun t k => XS.iload X0.here hx rfl (hb hby at_14) rfl k) ?_
  show W (s₁.setTop (mkF m 16 #[.val (.int p0), .val (.int p1), .val (.long q2), .second, .val (.int p3), .val (.int ((p1 &&& (1048575 : Int32)) + (1 : Int32))), .val (.int (p3 &&& (3 : Int32))), .unset, .unset, .unset] [(.int (p3 &&& (3 : Int32)))]))
  refine stp (fun t k => XS.iconst X0.here hx rfl (hb hby at_16) k) ?_
  show W (s₁.setTop (mkF m 17 #[.val (.int p0), .val (.int p1), .val (.long q2), .second, .val (.int p3), .val (.int ((p1 &&& (1048575 : Int32)) + (1 : Int32))), .val (.int (p3 &&& (3 : Int32))), .unset, .unset, .unset] [(.int (1 : Int32)), (.int (p3 &&& (3 : Int32)))]))
  by_cases hc0_1 : (p3 &&& (3 : Int32)) = (1 : Int32)
  · refine stp (fun t k => XS.icmpNo X0.here hx rfl (hb hby at_17) rfl ((teq hc0_1).2) k) ?_
    show W (s₁.setTop (mkF m 20 #[.val (.int p0), .val (.int p1), .val (.long q2), .second, .val (.int p3), .val (.int ((p1 &&& (1048575 : Int32)) + (1 : Int32))), .val (.int (p3 &&& (3 : Int32))), .unset, .unset, .unset] []))
    refine stp (fun t k => XS.lloadN X0.here hx rfl (hb hby at_20) rfl k) ?_
    show W (s₁.setTop (mkF m 21 #[.val (.int p0), .val (.int p1), .val (.long q2), .second, .val (.int p3), .val (.int ((p1 &&& (1048575 : Int32)) + (1 : Int32))), .val (.int (p3 &&& (3 : Int32))), .unset, .unset, .unset] [(.long q2)]))
    refine stp (fun t k => XS.l2dS X0.here hx rfl (hb hby at_21) rfl rfl k) ?_
    show W (s₁.setTop (mkF m 22 #[.val (.int p0), .val (.int p1), .val (.long q2), .second, .val (.int p3), .val (.int ((p1 &&& (1048575 : Int32)) + (1 : Int32))), .val (.int (p3 &&& (3 : Int32))), .unset, .unset, .unset] [(.double (FP.l2d q2))]))
    refine stp (fun t k => XS.dstore X0.here hx rfl (hb hby at_22) rfl (l' := #[.val (.int p0), .val (.int p1), .val (.long q2), .second, .val (.int p3), .val (.int ((p1 &&& (1048575 : Int32)) + (1 : Int32))), .val (.int (p3 &&& (3 : Int32))), .val (.double (FP.l2d q2)), .second, .unset]) rfl k) ?_
    show W (s₁.setTop (mkF m 24 #[.val (.int p0), .val (.int p1), .val (.long q2), .second, .val (.int p3), .val (.int ((p1 &&& (1048575 : Int32)) + (1 : Int32))), .val (.int (p3 &&& (3 : Int32))), .val (.double (FP.l2d q2)), .second, .unset] []))
    refine stp (fun t k => XS.lloadN X0.here hx rfl (hb hby at_24) rfl k) ?_
    show W (s₁.setTop (mkF m 25 #[.val (.int p0), .val (.int p1), .val (.long q2), .second, .val (.int p3), .val (.int ((p1 &&& (1048575 : Int32)) + (1 : Int32))), .val (.int (p3 &&& (3 : Int32))), .val (.double (FP.l2d q2)), .second, .unset] [(.long q2)]))
    refine stp (fun t k => XS.lconst X0.here hx rfl (hb hby at_25) k) ?_
    show W (s₁.setTop (mkF m 26 #[.val (.int p0), .val (.int p1), .val (.long q2), .second, .val (.int p3), .val (.int ((p1 &&& (1048575 : Int32)) + (1 : Int32))), .val (.int (p3 &&& (3 : Int32))), .val (.double (FP.l2d q2)), .second, .unset] [(.long (0 : Int64)), (.long q2)]))
    refine stp (fun t k => XS.lcmp X0.here hx rfl (hb hby at_26) rfl k) ?_
    show W (s₁.setTop (mkF m 27 #[.val (.int p0), .val (.int p1), .val (.long q2), .second, .val (.int p3), .val (.int ((p1 &&& (1048575 : Int32)) + (1 : Int32))), .val (.int (p3 &&& (3 : Int32))), .val (.double (FP.l2d q2)), .second, .unset] [(.int (lcmpW q2 (0 : Int64)))]))
    have J0_41_5 : ∀ (T05 : State) (lc05 : List Loc) (v0_4 : Int32) (hv0_4 : v0_4 = (if q2 = (0 : Int64) then (1 : Int32) else (if q2 = (1 : Int64) then (1 : Int32) else (0 : Int32)))) (X05 : Stand p l e room_1 s m #[(.int p0), (.int p1), (.long q2), (.int p3)] below meth c T05 lc05 0 0) (e05 : T05.heap = h0) (N05 : Fr n0 lc05), W (T05.setTop (mkF m 41 #[.val (.int p0), .val (.int p1), .val (.long q2), .second, .val (.int p3), .val (.int ((p1 &&& (1048575 : Int32)) + (1 : Int32))), .val (.int (p3 &&& (3 : Int32))), .val (.double (FP.l2d q2)), .second, .unset] [(.int v0_4)])) := by
      intro T05 lc05 v0_4 hv0_4  X05 e05 N05
      show W (T05.setTop (mkF m 41 #[.val (.int p0), .val (.int p1), .val (.long q2), .second, .val (.int p3), .val (.int ((p1 &&& (1048575 : Int32)) + (1 : Int32))), .val (.int (p3 &&& (3 : Int32))), .val (.double (FP.l2d q2)), .second, .unset] [(.int v0_4)]))
      refine stp (fun t k => XS.istore X05.here hx rfl (hb hby at_41) rfl (l' := #[.val (.int p0), .val (.int p1), .val (.long q2), .second, .val (.int p3), .val (.int ((p1 &&& (1048575 : Int32)) + (1 : Int32))), .val (.int (p3 &&& (3 : Int32))), .val (.double (FP.l2d q2)), .second, .val (.int v0_4)]) rfl k) ?_
      show W (T05.setTop (mkF m 43 #[.val (.int p0), .val (.int p1), .val (.long q2), .second, .val (.int p3), .val (.int ((p1 &&& (1048575 : Int32)) + (1 : Int32))), .val (.int (p3 &&& (3 : Int32))), .val (.double (FP.l2d q2)), .second, .val (.int v0_4)] []))
      refine stp (fun t k => XS.goto X05.here hx rfl (pc0 := 43) (pc' := 88) rfl (hb hby at_43) (by decide) (by decide) k) ?_
      show W (T05.setTop (mkF m 88 #[.val (.int p0), .val (.int p1), .val (.long q2), .second, .val (.int p3), .val (.int ((p1 &&& (1048575 : Int32)) + (1 : Int32))), .val (.int (p3 &&& (3 : Int32))), .val (.double (FP.l2d q2)), .second, .val (.int v0_4)] []))
      refine stp (fun t k => XS.dload X05.here hx rfl (hb hby at_88) rfl k) ?_
      show W (T05.setTop (mkF m 90 #[.val (.int p0), .val (.int p1), .val (.long q2), .second, .val (.int p3), .val (.int ((p1 &&& (1048575 : Int32)) + (1 : Int32))), .val (.int (p3 &&& (3 : Int32))), .val (.double (FP.l2d q2)), .second, .val (.int v0_4)] [(.double (FP.l2d q2))]))
      obtain ⟨_, _, ⟨T0c6, L0c6, k0c6, n0c6⟩, -, X0c6, ⟨Lc0c6, hQ0c6, l0c6, y0c6, z0c6⟩, st0c6⟩ := Jvm.LawKit.callS X05 hx (y := (⟨"com/example/astute_scheduler/astutescheduler/model/Outcome", "isProbability", "(D)Z"⟩ : MethodName)) hown (mvT hZ (hw _ (List.mem_of_getElem? (i := 1) rfl))) (mvT hZ (hw _ (List.mem_of_getElem? (i := 2) rfl))) (mvT hZ (hw _ (List.mem_of_getElem? (i := 3) rfl))) (mvT hZ (hw _ (List.mem_of_getElem? (i := 4) rfl))) (by decide) (backOf (W := 0) (rm1 l Z aa hw [] (FP.l2d q2)  h0 n0 Z0 ) hZ (hw _ (List.mem_of_getElem? (i := 4) rfl)) (hw _ (List.mem_of_getElem? (i := 3) rfl)) (by decide) (by decide)) (g := (mkF m 90 #[.val (.int p0), .val (.int p1), .val (.long q2), .second, .val (.int p3), .val (.int ((p1 &&& (1048575 : Int32)) + (1 : Int32))), .val (.int (p3 &&& (3 : Int32))), .val (.double (FP.l2d q2)), .second, .val (.int v0_4)] [(.double (FP.l2d q2))])) rfl (by rw [hml]; rfl) (argsL := [(.double (FP.l2d q2))]) (rest := []) (lenOf pd0_0 rfl) rfl (by show 2 * 0 + _ ≤ _; exact Nat.le_of_eq rfl) (hb hby at_90) (fun _ _ => ⟨rfl, e05, (by decide : 0 + 0 ≤ _), (by decide : 0 + 0 ≤ _)⟩)
      dsimp only [Pt.U, Pt.locs, Pt.cells, Pt.slots] at X0c6 l0c6 y0c6 z0c6 st0c6 hQ0c6
      subst l0c6 y0c6 z0c6
      obtain ⟨rfl, N0c6q, e0c6⟩ := hQ0c6
      have N0c6 := Fr.app N05 N0c6q
      refine stp (fun t k => st0c6 t k) ?_
      show W (T0c6.setTop (mkF m 93 #[.val (.int p0), .val (.int p1), .val (.long q2), .second, .val (.int p3), .val (.int ((p1 &&& (1048575 : Int32)) + (1 : Int32))), .val (.int (p3 &&& (3 : Int32))), .val (.double (FP.l2d q2)), .second, .val (.int v0_4)] [(.int (f1 (FP.l2d q2)))]))
      refine stp (fun t k => XS.iload X0c6.here hx rfl (hb hby at_93) rfl k) ?_
      show W (T0c6.setTop (mkF m 95 #[.val (.int p0), .val (.int p1), .val (.long q2), .second, .val (.int p3), .val (.int ((p1 &&& (1048575 : Int32)) + (1 : Int32))), .val (.int (p3 &&& (3 : Int32))), .val (.double (FP.l2d q2)), .second, .val (.int v0_4)] [(.int v0_4), (.int (f1 (FP.l2d q2)))]))
      refine stp (fun t k => XS.icmpNo X0c6.here hx rfl (hb hby at_95) rfl ((teq (by subst hv0_4; exact own_0_95_7 p0 p1 q2 p3  hc0_1)).2) k) ?_
      show W (T0c6.setTop (mkF m 98 #[.val (.int p0), .val (.int p1), .val (.long q2), .second, .val (.int p3), .val (.int ((p1 &&& (1048575 : Int32)) + (1 : Int32))), .val (.int (p3 &&& (3 : Int32))), .val (.double (FP.l2d q2)), .second, .val (.int v0_4)] []))
      refine stp (fun t k => XS.iconst X0c6.here hx rfl (hb hby at_98) k) ?_
      show W (T0c6.setTop (mkF m 99 #[.val (.int p0), .val (.int p1), .val (.long q2), .second, .val (.int p3), .val (.int ((p1 &&& (1048575 : Int32)) + (1 : Int32))), .val (.int (p3 &&& (3 : Int32))), .val (.double (FP.l2d q2)), .second, .val (.int v0_4)] [(.int (1 : Int32))]))
      refine stp (fun t k => XS.goto X0c6.here hx rfl (pc0 := 99) (pc' := 103) rfl (hb hby at_99) (by decide) (by decide) k) ?_
      show W (T0c6.setTop (mkF m 103 #[.val (.int p0), .val (.int p1), .val (.long q2), .second, .val (.int p3), .val (.int ((p1 &&& (1048575 : Int32)) + (1 : Int32))), .val (.int (p3 &&& (3 : Int32))), .val (.double (FP.l2d q2)), .second, .val (.int v0_4)] [(.int (1 : Int32))]))
      show W (T0c6.setTop (mkF m 103 #[.val (.int p0), .val (.int p1), .val (.long q2), .second, .val (.int p3), .val (.int ((p1 &&& (1048575 : Int32)) + (1 : Int32))), .val (.int (p3 &&& (3 : Int32))), .val (.double (FP.l2d q2)), .second, .val (.int v0_4)] [(.int (1 : Int32))]))
      rw [← hW]
      exact own_retN X0c6 hx Bd.notSynchronized Bd.returns (w := (1 : Int32)) (by simp) (hb hby at_103) rfl (by show Q0 Z p0 p1 q2 p3 h0 n0 _ T0c6.heap _; rw [e0c6]; exact ⟨rfl, N0c6⟩) (by decide) (by decide)
    by_cases hc0_2 : q2 = (0 : Int64)
    · refine stp (fun t k => XS.ifYes X0.here hx rfl (pc0 := 27) (pc' := 36) rfl (hb hby at_27) rfl ((if0 _ _).trans (teq ((lw_eq q2 (0 : Int64)).mpr hc0_2)).1) (by decide) (by decide) k) ?_
      show W (s₁.setTop (mkF m 36 #[.val (.int p0), .val (.int p1), .val (.long q2), .second, .val (.int p3), .val (.int ((p1 &&& (1048575 : Int32)) + (1 : Int32))), .val (.int (p3 &&& (3 : Int32))), .val (.double (FP.l2d q2)), .second, .unset] []))
      refine stp (fun t k => XS.iconst X0.here hx rfl (hb hby at_36) k) ?_
      show W (s₁.setTop (mkF m 37 #[.val (.int p0), .val (.int p1), .val (.long q2), .second, .val (.int p3), .val (.int ((p1 &&& (1048575 : Int32)) + (1 : Int32))), .val (.int (p3 &&& (3 : Int32))), .val (.double (FP.l2d q2)), .second, .unset] [(.int (1 : Int32))]))
      refine stp (fun t k => XS.goto X0.here hx rfl (pc0 := 37) (pc' := 41) rfl (hb hby at_37) (by decide) (by decide) k) ?_
      show W (s₁.setTop (mkF m 41 #[.val (.int p0), .val (.int p1), .val (.long q2), .second, .val (.int p3), .val (.int ((p1 &&& (1048575 : Int32)) + (1 : Int32))), .val (.int (p3 &&& (3 : Int32))), .val (.double (FP.l2d q2)), .second, .unset] [(.int (1 : Int32))]))
      exact J0_41_5 _ _ (1 : Int32) (by first | rfl | simp only [if_pos hc0_2]) X0 e0 N0
    · refine stp (fun t k => XS.ifNo X0.here hx rfl (hb hby at_27) rfl ((if0 _ _).trans (feq (fun q => hc0_2 ((lw_eq q2 (0 : Int64)).mp q))).1) k) ?_
      show W (s₁.setTop (mkF m 30 #[.val (.int p0), .val (.int p1), .val (.long q2), .second, .val (.int p3), .val (.int ((p1 &&& (1048575 : Int32)) + (1 : Int32))), .val (.int (p3 &&& (3 : Int32))), .val (.double (FP.l2d q2)), .second, .unset] []))
      refine stp (fun t k => XS.lloadN X0.here hx rfl (hb hby at_30) rfl k) ?_
      show W (s₁.setTop (mkF m 31 #[.val (.int p0), .val (.int p1), .val (.long q2), .second, .val (.int p3), .val (.int ((p1 &&& (1048575 : Int32)) + (1 : Int32))), .val (.int (p3 &&& (3 : Int32))), .val (.double (FP.l2d q2)), .second, .unset] [(.long q2)]))
      refine stp (fun t k => XS.lconst X0.here hx rfl (hb hby at_31) k) ?_
      show W (s₁.setTop (mkF m 32 #[.val (.int p0), .val (.int p1), .val (.long q2), .second, .val (.int p3), .val (.int ((p1 &&& (1048575 : Int32)) + (1 : Int32))), .val (.int (p3 &&& (3 : Int32))), .val (.double (FP.l2d q2)), .second, .unset] [(.long (1 : Int64)), (.long q2)]))
      refine stp (fun t k => XS.lcmp X0.here hx rfl (hb hby at_32) rfl k) ?_
      show W (s₁.setTop (mkF m 33 #[.val (.int p0), .val (.int p1), .val (.long q2), .second, .val (.int p3), .val (.int ((p1 &&& (1048575 : Int32)) + (1 : Int32))), .val (.int (p3 &&& (3 : Int32))), .val (.double (FP.l2d q2)), .second, .unset] [(.int (lcmpW q2 (1 : Int64)))]))
      by_cases hc0_3 : q2 = (1 : Int64)
      · refine stp (fun t k => XS.ifNo X0.here hx rfl (hb hby at_33) rfl ((if0 _ _).trans (teq ((lw_eq q2 (1 : Int64)).mpr hc0_3)).2) k) ?_
        show W (s₁.setTop (mkF m 36 #[.val (.int p0), .val (.int p1), .val (.long q2), .second, .val (.int p3), .val (.int ((p1 &&& (1048575 : Int32)) + (1 : Int32))), .val (.int (p3 &&& (3 : Int32))), .val (.double (FP.l2d q2)), .second, .unset] []))
        refine stp (fun t k => XS.iconst X0.here hx rfl (hb hby at_36) k) ?_
        show W (s₁.setTop (mkF m 37 #[.val (.int p0), .val (.int p1), .val (.long q2), .second, .val (.int p3), .val (.int ((p1 &&& (1048575 : Int32)) + (1 : Int32))), .val (.int (p3 &&& (3 : Int32))), .val (.double (FP.l2d q2)), .second, .unset] [(.int (1 : Int32))]))
        refine stp (fun t k => XS.goto X0.here hx rfl (pc0 := 37) (pc' := 41) rfl (hb hby at_37) (by decide) (by decide) k) ?_
        show W (s₁.setTop (mkF m 41 #[.val (.int p0), .val (.int p1), .val (.long q2), .second, .val (.int p3), .val (.int ((p1 &&& (1048575 : Int32)) + (1 : Int32))), .val (.int (p3 &&& (3 : Int32))), .val (.double (FP.l2d q2)), .second, .unset] [(.int (1 : Int32))]))
        exact J0_41_5 _ _ (1 : Int32) (by first | rfl | simp only [if_neg hc0_2, if_pos hc0_3]) X0 e0 N0
      · refine stp (fun t k => XS.ifYes X0.here hx rfl (pc0 := 33) (pc' := 40) rfl (hb hby at_33) rfl ((if0 _ _).trans (feq (fun q => hc0_3 ((lw_eq q2 (1 : Int64)).mp q))).2) (by decide) (by decide) k) ?_
        show W (s₁.setTop (mkF m 40 #[.val (.int p0), .val (.int p1), .val (.long q2), .second, .val (.int p3), .val (.int ((p1 &&& (1048575 : Int32)) + (1 : Int32))), .val (.int (p3 &&& (3 : Int32))), .val (.double (FP.l2d q2)), .second, .unset] []))
        refine stp (fun t k => XS.iconst X0.here hx rfl (hb hby at_40) k) ?_
        show W (s₁.setTop (mkF m 41 #[.val (.int p0), .val (.int p1), .val (.long q2), .second, .val (.int p3), .val (.int ((p1 &&& (1048575 : Int32)) + (1 : Int32))), .val (.int (p3 &&& (3 : Int32))), .val (.double (FP.l2d q2)), .second, .unset] [(.int (0 : Int32))]))
        exact J0_41_5 _ _ (0 : Int32) (by first | rfl | simp only [if_neg hc0_2, if_neg hc0_3]) X0 e0 N0
  · refine stp (fun t k => XS.icmpYes X0.here hx rfl (pc0 := 17) (pc' := 46) rfl (hb hby at_17) rfl ((feq hc0_1).2) (by decide) (by decide) k) ?_
    show W (s₁.setTop (mkF m 46 #[.val (.int p0), .val (.int p1), .val (.long q2), .second, .val (.int p3), .val (.int ((p1 &&& (1048575 : Int32)) + (1 : Int32))), .val (.int (p3 &&& (3 : Int32))), .unset, .unset, .unset] []))
    refine stp (fun t k => XS.iload X0.here hx rfl (hb hby at_46) rfl k) ?_
    show W (s₁.setTop (mkF m 48 #[.val (.int p0), .val (.int p1), .val (.long q2), .second, .val (.int p3), .val (.int ((p1 &&& (1048575 : Int32)) + (1 : Int32))), .val (.int (p3 &&& (3 : Int32))), .unset, .unset, .unset] [(.int (p3 &&& (3 : Int32)))]))
    refine stp (fun t k => XS.iconst X0.here hx rfl (hb hby at_48) k) ?_
    show W (s₁.setTop (mkF m 49 #[.val (.int p0), .val (.int p1), .val (.long q2), .second, .val (.int p3), .val (.int ((p1 &&& (1048575 : Int32)) + (1 : Int32))), .val (.int (p3 &&& (3 : Int32))), .unset, .unset, .unset] [(.int (2 : Int32)), (.int (p3 &&& (3 : Int32)))]))
    by_cases hc0_8 : (p3 &&& (3 : Int32)) = (2 : Int32)
    · refine stp (fun t k => XS.icmpNo X0.here hx rfl (hb hby at_49) rfl ((teq hc0_8).2) k) ?_
      show W (s₁.setTop (mkF m 52 #[.val (.int p0), .val (.int p1), .val (.long q2), .second, .val (.int p3), .val (.int ((p1 &&& (1048575 : Int32)) + (1 : Int32))), .val (.int (p3 &&& (3 : Int32))), .unset, .unset, .unset] []))
      refine stp (fun t k => X0.ldc2DoubleC hx hown (mvT hZ (hw _ (List.mem_of_getElem? (i := 5) rfl))) (g := (mkF m 52 #[.val (.int p0), .val (.int p1), .val (.long q2), .second, .val (.int p3), .val (.int ((p1 &&& (1048575 : Int32)) + (1 : Int32))), .val (.int (p3 &&& (3 : Int32))), .unset, .unset, .unset] [])) rfl (hb hby at_52) _ k) ?_
      show W (s₁.setTop (mkF m 55 #[.val (.int p0), .val (.int p1), .val (.long q2), .second, .val (.int p3), .val (.int ((p1 &&& (1048575 : Int32)) + (1 : Int32))), .val (.int (p3 &&& (3 : Int32))), .unset, .unset, .unset] [(.double (9223372036854775808 : UInt64))]))
      refine stp (fun t k => XS.dstore X0.here hx rfl (hb hby at_55) rfl (l' := #[.val (.int p0), .val (.int p1), .val (.long q2), .second, .val (.int p3), .val (.int ((p1 &&& (1048575 : Int32)) + (1 : Int32))), .val (.int (p3 &&& (3 : Int32))), .val (.double (9223372036854775808 : UInt64)), .second, .unset]) rfl k) ?_
      show W (s₁.setTop (mkF m 57 #[.val (.int p0), .val (.int p1), .val (.long q2), .second, .val (.int p3), .val (.int ((p1 &&& (1048575 : Int32)) + (1 : Int32))), .val (.int (p3 &&& (3 : Int32))), .val (.double (9223372036854775808 : UInt64)), .second, .unset] []))
      refine stp (fun t k => XS.iconst X0.here hx rfl (hb hby at_57) k) ?_
      show W (s₁.setTop (mkF m 58 #[.val (.int p0), .val (.int p1), .val (.long q2), .second, .val (.int p3), .val (.int ((p1 &&& (1048575 : Int32)) + (1 : Int32))), .val (.int (p3 &&& (3 : Int32))), .val (.double (9223372036854775808 : UInt64)), .second, .unset] [(.int (1 : Int32))]))
      refine stp (fun t k => XS.istore X0.here hx rfl (hb hby at_58) rfl (l' := #[.val (.int p0), .val (.int p1), .val (.long q2), .second, .val (.int p3), .val (.int ((p1 &&& (1048575 : Int32)) + (1 : Int32))), .val (.int (p3 &&& (3 : Int32))), .val (.double (9223372036854775808 : UInt64)), .second, .val (.int (1 : Int32))]) rfl k) ?_
      show W (s₁.setTop (mkF m 60 #[.val (.int p0), .val (.int p1), .val (.long q2), .second, .val (.int p3), .val (.int ((p1 &&& (1048575 : Int32)) + (1 : Int32))), .val (.int (p3 &&& (3 : Int32))), .val (.double (9223372036854775808 : UInt64)), .second, .val (.int (1 : Int32))] []))
      refine stp (fun t k => XS.goto X0.here hx rfl (pc0 := 60) (pc' := 88) rfl (hb hby at_60) (by decide) (by decide) k) ?_
      show W (s₁.setTop (mkF m 88 #[.val (.int p0), .val (.int p1), .val (.long q2), .second, .val (.int p3), .val (.int ((p1 &&& (1048575 : Int32)) + (1 : Int32))), .val (.int (p3 &&& (3 : Int32))), .val (.double (9223372036854775808 : UInt64)), .second, .val (.int (1 : Int32))] []))
      refine stp (fun t k => XS.dload X0.here hx rfl (hb hby at_88) rfl k) ?_
      show W (s₁.setTop (mkF m 90 #[.val (.int p0), .val (.int p1), .val (.long q2), .second, .val (.int p3), .val (.int ((p1 &&& (1048575 : Int32)) + (1 : Int32))), .val (.int (p3 &&& (3 : Int32))), .val (.double (9223372036854775808 : UInt64)), .second, .val (.int (1 : Int32))] [(.double (9223372036854775808 : UInt64))]))
      obtain ⟨_, _, ⟨T0c9, L0c9, k0c9, n0c9⟩, -, X0c9, ⟨Lc0c9, hQ0c9, l0c9, y0c9, z0c9⟩, st0c9⟩ := Jvm.LawKit.callS X0 hx (y := (⟨"com/example/astute_scheduler/astutescheduler/model/Outcome", "isProbability", "(D)Z"⟩ : MethodName)) hown (mvT hZ (hw _ (List.mem_of_getElem? (i := 1) rfl))) (mvT hZ (hw _ (List.mem_of_getElem? (i := 2) rfl))) (mvT hZ (hw _ (List.mem_of_getElem? (i := 3) rfl))) (mvT hZ (hw _ (List.mem_of_getElem? (i := 4) rfl))) (by decide) (backOf (W := 0) (rm1 l Z aa hw [] (9223372036854775808 : UInt64)  h0 n0 Z0 ) hZ (hw _ (List.mem_of_getElem? (i := 4) rfl)) (hw _ (List.mem_of_getElem? (i := 3) rfl)) (by decide) (by decide)) (g := (mkF m 90 #[.val (.int p0), .val (.int p1), .val (.long q2), .second, .val (.int p3), .val (.int ((p1 &&& (1048575 : Int32)) + (1 : Int32))), .val (.int (p3 &&& (3 : Int32))), .val (.double (9223372036854775808 : UInt64)), .second, .val (.int (1 : Int32))] [(.double (9223372036854775808 : UInt64))])) rfl (by rw [hml]; rfl) (argsL := [(.double (9223372036854775808 : UInt64))]) (rest := []) (lenOf pd0_0 rfl) rfl (by show 2 * 0 + _ ≤ _; exact Nat.le_of_eq rfl) (hb hby at_90) (fun _ _ => ⟨rfl, e0, (by decide : 0 + 0 ≤ _), (by decide : 0 + 0 ≤ _)⟩)
      dsimp only [Pt.U, Pt.locs, Pt.cells, Pt.slots] at X0c9 l0c9 y0c9 z0c9 st0c9 hQ0c9
      subst l0c9 y0c9 z0c9
      obtain ⟨rfl, N0c9q, e0c9⟩ := hQ0c9
      have N0c9 := Fr.app N0 N0c9q
      refine stp (fun t k => st0c9 t k) ?_
      show W (T0c9.setTop (mkF m 93 #[.val (.int p0), .val (.int p1), .val (.long q2), .second, .val (.int p3), .val (.int ((p1 &&& (1048575 : Int32)) + (1 : Int32))), .val (.int (p3 &&& (3 : Int32))), .val (.double (9223372036854775808 : UInt64)), .second, .val (.int (1 : Int32))] [(.int (f1 (9223372036854775808 : UInt64)))]))
      refine stp (fun t k => XS.iload X0c9.here hx rfl (hb hby at_93) rfl k) ?_
      show W (T0c9.setTop (mkF m 95 #[.val (.int p0), .val (.int p1), .val (.long q2), .second, .val (.int p3), .val (.int ((p1 &&& (1048575 : Int32)) + (1 : Int32))), .val (.int (p3 &&& (3 : Int32))), .val (.double (9223372036854775808 : UInt64)), .second, .val (.int (1 : Int32))] [(.int (1 : Int32)), (.int (f1 (9223372036854775808 : UInt64)))]))
      refine stp (fun t k => XS.icmpNo X0c9.here hx rfl (hb hby at_95) rfl ((teq (by exact own_0_95_10 p0 p1 q2 p3  hc0_1 hc0_8)).2) k) ?_
      show W (T0c9.setTop (mkF m 98 #[.val (.int p0), .val (.int p1), .val (.long q2), .second, .val (.int p3), .val (.int ((p1 &&& (1048575 : Int32)) + (1 : Int32))), .val (.int (p3 &&& (3 : Int32))), .val (.double (9223372036854775808 : UInt64)), .second, .val (.int (1 : Int32))] []))
      refine stp (fun t k => XS.iconst X0c9.here hx rfl (hb hby at_98) k) ?_
      show W (T0c9.setTop (mkF m 99 #[.val (.int p0), .val (.int p1), .val (.long q2), .second, .val (.int p3), .val (.int ((p1 &&& (1048575 : Int32)) + (1 : Int32))), .val (.int (p3 &&& (3 : Int32))), .val (.double (9223372036854775808 : UInt64)), .second, .val (.int (1 : Int32))] [(.int (1 : Int32))]))
      refine stp (fun t k => XS.goto X0c9.here hx rfl (pc0 := 99) (pc' := 103) rfl (hb hby at_99) (by decide) (by decide) k) ?_
      show W (T0c9.setTop (mkF m 103 #[.val (.int p0), .val (.int p1), .val (.long q2), .second, .val (.int p3), .val (.int ((p1 &&& (1048575 : Int32)) + (1 : Int32))), .val (.int (p3 &&& (3 : Int32))), .val (.double (9223372036854775808 : UInt64)), .second, .val (.int (1 : Int32))] [(.int (1 : Int32))]))
      show W (T0c9.setTop (mkF m 103 #[.val (.int p0), .val (.int p1), .val (.long q2), .second, .val (.int p3), .val (.int ((p1 &&& (1048575 : Int32)) + (1 : Int32))), .val (.int (p3 &&& (3 : Int32))), .val (.double (9223372036854775808 : UInt64)), .second, .val (.int (1 : Int32))] [(.int (1 : Int32))]))
      rw [← hW]
      exact own_retN X0c9 hx Bd.notSynchronized Bd.returns (w := (1 : Int32)) (by simp) (hb hby at_103) rfl (by show Q0 Z p0 p1 q2 p3 h0 n0 _ T0c9.heap _; rw [e0c9]; exact ⟨rfl, N0c9⟩) (by decide) (by decide)
    · refine stp (fun t k => XS.icmpYes X0.here hx rfl (pc0 := 49) (pc' := 63) rfl (hb hby at_49) rfl ((feq hc0_8).2) (by decide) (by decide) k) ?_
      show W (s₁.setTop (mkF m 63 #[.val (.int p0), .val (.int p1), .val (.long q2), .second, .val (.int p3), .val (.int ((p1 &&& (1048575 : Int32)) + (1 : Int32))), .val (.int (p3 &&& (3 : Int32))), .unset, .unset, .unset] []))
      refine stp (fun t k => XS.iloadN X0.here hx rfl (hb hby at_63) rfl k) ?_
      show W (s₁.setTop (mkF m 64 #[.val (.int p0), .val (.int p1), .val (.long q2), .second, .val (.int p3), .val (.int ((p1 &&& (1048575 : Int32)) + (1 : Int32))), .val (.int (p3 &&& (3 : Int32))), .unset, .unset, .unset] [(.int p0)]))
      refine stp (fun t k => XS.i2dS X0.here hx rfl (hb hby at_64) rfl rfl k) ?_
      show W (s₁.setTop (mkF m 65 #[.val (.int p0), .val (.int p1), .val (.long q2), .second, .val (.int p3), .val (.int ((p1 &&& (1048575 : Int32)) + (1 : Int32))), .val (.int (p3 &&& (3 : Int32))), .unset, .unset, .unset] [(.double (FP.i2d p0))]))
      refine stp (fun t k => XS.iload X0.here hx rfl (hb hby at_65) rfl k) ?_
      show W (s₁.setTop (mkF m 67 #[.val (.int p0), .val (.int p1), .val (.long q2), .second, .val (.int p3), .val (.int ((p1 &&& (1048575 : Int32)) + (1 : Int32))), .val (.int (p3 &&& (3 : Int32))), .unset, .unset, .unset] [(.int ((p1 &&& (1048575 : Int32)) + (1 : Int32))), (.double (FP.i2d p0))]))
      refine stp (fun t k => XS.i2dS X0.here hx rfl (hb hby at_67) rfl rfl k) ?_
      show W (s₁.setTop (mkF m 68 #[.val (.int p0), .val (.int p1), .val (.long q2), .second, .val (.int p3), .val (.int ((p1 &&& (1048575 : Int32)) + (1 : Int32))), .val (.int (p3 &&& (3 : Int32))), .unset, .unset, .unset] [(.double (FP.i2d ((p1 &&& (1048575 : Int32)) + (1 : Int32)))), (.double (FP.i2d p0))]))
      refine stp (fun t k => XS.ddivS X0.here hx rfl (hb hby at_68) rfl (by exact own_0_68_11 p0 p1 q2 p3  hc0_1 hc0_8) rfl k) ?_
      show W (s₁.setTop (mkF m 69 #[.val (.int p0), .val (.int p1), .val (.long q2), .second, .val (.int p3), .val (.int ((p1 &&& (1048575 : Int32)) + (1 : Int32))), .val (.int (p3 &&& (3 : Int32))), .unset, .unset, .unset] [(.double (FP.ddiv (FP.i2d p0) (FP.i2d ((p1 &&& (1048575 : Int32)) + (1 : Int32)))))]))
      refine stp (fun t k => XS.dstore X0.here hx rfl (hb hby at_69) rfl (l' := #[.val (.int p0), .val (.int p1), .val (.long q2), .second, .val (.int p3), .val (.int ((p1 &&& (1048575 : Int32)) + (1 : Int32))), .val (.int (p3 &&& (3 : Int32))), .val (.double (FP.ddiv (FP.i2d p0) (FP.i2d ((p1 &&& (1048575 : Int32)) + (1 : Int32))))), .second, .unset]) rfl k) ?_
      show W (s₁.setTop (mkF m 71 #[.val (.int p0), .val (.int p1), .val (.long q2), .second, .val (.int p3), .val (.int ((p1 &&& (1048575 : Int32)) + (1 : Int32))), .val (.int (p3 &&& (3 : Int32))), .val (.double (FP.ddiv (FP.i2d p0) (FP.i2d ((p1 &&& (1048575 : Int32)) + (1 : Int32))))), .second, .unset] []))
      refine stp (fun t k => XS.iloadN X0.here hx rfl (hb hby at_71) rfl k) ?_
      show W (s₁.setTop (mkF m 72 #[.val (.int p0), .val (.int p1), .val (.long q2), .second, .val (.int p3), .val (.int ((p1 &&& (1048575 : Int32)) + (1 : Int32))), .val (.int (p3 &&& (3 : Int32))), .val (.double (FP.ddiv (FP.i2d p0) (FP.i2d ((p1 &&& (1048575 : Int32)) + (1 : Int32))))), .second, .unset] [(.int p0)]))
      have J0_86_15 : ∀ (T015 : State) (lc015 : List Loc) (v0_14 : Int32) (hv0_14 : v0_14 = (if p0 < (0 : Int32) then (0 : Int32) else (if ((p1 &&& (1048575 : Int32)) + (1 : Int32)) < p0 then (0 : Int32) else (1 : Int32)))) (X015 : Stand p l e room_1 s m #[(.int p0), (.int p1), (.long q2), (.int p3)] below meth c T015 lc015 0 0) (e015 : T015.heap = h0) (N015 : Fr n0 lc015), W (T015.setTop (mkF m 86 #[.val (.int p0), .val (.int p1), .val (.long q2), .second, .val (.int p3), .val (.int ((p1 &&& (1048575 : Int32)) + (1 : Int32))), .val (.int (p3 &&& (3 : Int32))), .val (.double (FP.ddiv (FP.i2d p0) (FP.i2d ((p1 &&& (1048575 : Int32)) + (1 : Int32))))), .second, .unset] [(.int v0_14)])) := by
        intro T015 lc015 v0_14 hv0_14  X015 e015 N015
        show W (T015.setTop (mkF m 86 #[.val (.int p0), .val (.int p1), .val (.long q2), .second, .val (.int p3), .val (.int ((p1 &&& (1048575 : Int32)) + (1 : Int32))), .val (.int (p3 &&& (3 : Int32))), .val (.double (FP.ddiv (FP.i2d p0) (FP.i2d ((p1 &&& (1048575 : Int32)) + (1 : Int32))))), .second, .unset] [(.int v0_14)]))
        refine stp (fun t k => XS.istore X015.here hx rfl (hb hby at_86) rfl (l' := #[.val (.int p0), .val (.int p1), .val (.long q2), .second, .val (.int p3), .val (.int ((p1 &&& (1048575 : Int32)) + (1 : Int32))), .val (.int (p3 &&& (3 : Int32))), .val (.double (FP.ddiv (FP.i2d p0) (FP.i2d ((p1 &&& (1048575 : Int32)) + (1 : Int32))))), .second, .val (.int v0_14)]) rfl k) ?_
        show W (T015.setTop (mkF m 88 #[.val (.int p0), .val (.int p1), .val (.long q2), .second, .val (.int p3), .val (.int ((p1 &&& (1048575 : Int32)) + (1 : Int32))), .val (.int (p3 &&& (3 : Int32))), .val (.double (FP.ddiv (FP.i2d p0) (FP.i2d ((p1 &&& (1048575 : Int32)) + (1 : Int32))))), .second, .val (.int v0_14)] []))
        refine stp (fun t k => XS.dload X015.here hx rfl (hb hby at_88) rfl k) ?_
        show W (T015.setTop (mkF m 90 #[.val (.int p0), .val (.int p1), .val (.long q2), .second, .val (.int p3), .val (.int ((p1 &&& (1048575 : Int32)) + (1 : Int32))), .val (.int (p3 &&& (3 : Int32))), .val (.double (FP.ddiv (FP.i2d p0) (FP.i2d ((p1 &&& (1048575 : Int32)) + (1 : Int32))))), .second, .val (.int v0_14)] [(.double (FP.ddiv (FP.i2d p0) (FP.i2d ((p1 &&& (1048575 : Int32)) + (1 : Int32)))))]))
        obtain ⟨_, _, ⟨T0c16, L0c16, k0c16, n0c16⟩, -, X0c16, ⟨Lc0c16, hQ0c16, l0c16, y0c16, z0c16⟩, st0c16⟩ := Jvm.LawKit.callS X015 hx (y := (⟨"com/example/astute_scheduler/astutescheduler/model/Outcome", "isProbability", "(D)Z"⟩ : MethodName)) hown (mvT hZ (hw _ (List.mem_of_getElem? (i := 1) rfl))) (mvT hZ (hw _ (List.mem_of_getElem? (i := 2) rfl))) (mvT hZ (hw _ (List.mem_of_getElem? (i := 3) rfl))) (mvT hZ (hw _ (List.mem_of_getElem? (i := 4) rfl))) (by decide) (backOf (W := 0) (rm1 l Z aa hw [] (FP.ddiv (FP.i2d p0) (FP.i2d ((p1 &&& (1048575 : Int32)) + (1 : Int32))))  h0 n0 Z0 ) hZ (hw _ (List.mem_of_getElem? (i := 4) rfl)) (hw _ (List.mem_of_getElem? (i := 3) rfl)) (by decide) (by decide)) (g := (mkF m 90 #[.val (.int p0), .val (.int p1), .val (.long q2), .second, .val (.int p3), .val (.int ((p1 &&& (1048575 : Int32)) + (1 : Int32))), .val (.int (p3 &&& (3 : Int32))), .val (.double (FP.ddiv (FP.i2d p0) (FP.i2d ((p1 &&& (1048575 : Int32)) + (1 : Int32))))), .second, .val (.int v0_14)] [(.double (FP.ddiv (FP.i2d p0) (FP.i2d ((p1 &&& (1048575 : Int32)) + (1 : Int32)))))])) rfl (by rw [hml]; rfl) (argsL := [(.double (FP.ddiv (FP.i2d p0) (FP.i2d ((p1 &&& (1048575 : Int32)) + (1 : Int32)))))]) (rest := []) (lenOf pd0_0 rfl) rfl (by show 2 * 0 + _ ≤ _; exact Nat.le_of_eq rfl) (hb hby at_90) (fun _ _ => ⟨rfl, e015, (by decide : 0 + 0 ≤ _), (by decide : 0 + 0 ≤ _)⟩)
        dsimp only [Pt.U, Pt.locs, Pt.cells, Pt.slots] at X0c16 l0c16 y0c16 z0c16 st0c16 hQ0c16
        subst l0c16 y0c16 z0c16
        obtain ⟨rfl, N0c16q, e0c16⟩ := hQ0c16
        have N0c16 := Fr.app N015 N0c16q
        refine stp (fun t k => st0c16 t k) ?_
        show W (T0c16.setTop (mkF m 93 #[.val (.int p0), .val (.int p1), .val (.long q2), .second, .val (.int p3), .val (.int ((p1 &&& (1048575 : Int32)) + (1 : Int32))), .val (.int (p3 &&& (3 : Int32))), .val (.double (FP.ddiv (FP.i2d p0) (FP.i2d ((p1 &&& (1048575 : Int32)) + (1 : Int32))))), .second, .val (.int v0_14)] [(.int (f1 (FP.ddiv (FP.i2d p0) (FP.i2d ((p1 &&& (1048575 : Int32)) + (1 : Int32))))))]))
        refine stp (fun t k => XS.iload X0c16.here hx rfl (hb hby at_93) rfl k) ?_
        show W (T0c16.setTop (mkF m 95 #[.val (.int p0), .val (.int p1), .val (.long q2), .second, .val (.int p3), .val (.int ((p1 &&& (1048575 : Int32)) + (1 : Int32))), .val (.int (p3 &&& (3 : Int32))), .val (.double (FP.ddiv (FP.i2d p0) (FP.i2d ((p1 &&& (1048575 : Int32)) + (1 : Int32))))), .second, .val (.int v0_14)] [(.int v0_14), (.int (f1 (FP.ddiv (FP.i2d p0) (FP.i2d ((p1 &&& (1048575 : Int32)) + (1 : Int32))))))]))
        refine stp (fun t k => XS.icmpNo X0c16.here hx rfl (hb hby at_95) rfl ((teq (by subst hv0_14; exact own_0_95_17 p0 p1 q2 p3  hc0_1 hc0_8)).2) k) ?_
        show W (T0c16.setTop (mkF m 98 #[.val (.int p0), .val (.int p1), .val (.long q2), .second, .val (.int p3), .val (.int ((p1 &&& (1048575 : Int32)) + (1 : Int32))), .val (.int (p3 &&& (3 : Int32))), .val (.double (FP.ddiv (FP.i2d p0) (FP.i2d ((p1 &&& (1048575 : Int32)) + (1 : Int32))))), .second, .val (.int v0_14)] []))
        refine stp (fun t k => XS.iconst X0c16.here hx rfl (hb hby at_98) k) ?_
        show W (T0c16.setTop (mkF m 99 #[.val (.int p0), .val (.int p1), .val (.long q2), .second, .val (.int p3), .val (.int ((p1 &&& (1048575 : Int32)) + (1 : Int32))), .val (.int (p3 &&& (3 : Int32))), .val (.double (FP.ddiv (FP.i2d p0) (FP.i2d ((p1 &&& (1048575 : Int32)) + (1 : Int32))))), .second, .val (.int v0_14)] [(.int (1 : Int32))]))
        refine stp (fun t k => XS.goto X0c16.here hx rfl (pc0 := 99) (pc' := 103) rfl (hb hby at_99) (by decide) (by decide) k) ?_
        show W (T0c16.setTop (mkF m 103 #[.val (.int p0), .val (.int p1), .val (.long q2), .second, .val (.int p3), .val (.int ((p1 &&& (1048575 : Int32)) + (1 : Int32))), .val (.int (p3 &&& (3 : Int32))), .val (.double (FP.ddiv (FP.i2d p0) (FP.i2d ((p1 &&& (1048575 : Int32)) + (1 : Int32))))), .second, .val (.int v0_14)] [(.int (1 : Int32))]))
        show W (T0c16.setTop (mkF m 103 #[.val (.int p0), .val (.int p1), .val (.long q2), .second, .val (.int p3), .val (.int ((p1 &&& (1048575 : Int32)) + (1 : Int32))), .val (.int (p3 &&& (3 : Int32))), .val (.double (FP.ddiv (FP.i2d p0) (FP.i2d ((p1 &&& (1048575 : Int32)) + (1 : Int32))))), .second, .val (.int v0_14)] [(.int (1 : Int32))]))
        rw [← hW]
        exact own_retN X0c16 hx Bd.notSynchronized Bd.returns (w := (1 : Int32)) (by simp) (hb hby at_103) rfl (by show Q0 Z p0 p1 q2 p3 h0 n0 _ T0c16.heap _; rw [e0c16]; exact ⟨rfl, N0c16⟩) (by decide) (by decide)
      by_cases hc0_12 : p0 < (0 : Int32)
      · refine stp (fun t k => XS.ifYes X0.here hx rfl (pc0 := 72) (pc' := 85) rfl (hb hby at_72) rfl ((if0 _ _).trans (tlt hc0_12).1) (by decide) (by decide) k) ?_
        show W (s₁.setTop (mkF m 85 #[.val (.int p0), .val (.int p1), .val (.long q2), .second, .val (.int p3), .val (.int ((p1 &&& (1048575 : Int32)) + (1 : Int32))), .val (.int (p3 &&& (3 : Int32))), .val (.double (FP.ddiv (FP.i2d p0) (FP.i2d ((p1 &&& (1048575 : Int32)) + (1 : Int32))))), .second, .unset] []))
        refine stp (fun t k => XS.iconst X0.here hx rfl (hb hby at_85) k) ?_
        show W (s₁.setTop (mkF m 86 #[.val (.int p0), .val (.int p1), .val (.long q2), .second, .val (.int p3), .val (.int ((p1 &&& (1048575 : Int32)) + (1 : Int32))), .val (.int (p3 &&& (3 : Int32))), .val (.double (FP.ddiv (FP.i2d p0) (FP.i2d ((p1 &&& (1048575 : Int32)) + (1 : Int32))))), .second, .unset] [(.int (0 : Int32))]))
        exact J0_86_15 _ _ (0 : Int32) (by first | rfl | simp only [if_pos hc0_12]) X0 e0 N0
      · refine stp (fun t k => XS.ifNo X0.here hx rfl (hb hby at_72) rfl ((if0 _ _).trans (flt hc0_12).1) k) ?_
        show W (s₁.setTop (mkF m 75 #[.val (.int p0), .val (.int p1), .val (.long q2), .second, .val (.int p3), .val (.int ((p1 &&& (1048575 : Int32)) + (1 : Int32))), .val (.int (p3 &&& (3 : Int32))), .val (.double (FP.ddiv (FP.i2d p0) (FP.i2d ((p1 &&& (1048575 : Int32)) + (1 : Int32))))), .second, .unset] []))
        refine stp (fun t k => XS.iloadN X0.here hx rfl (hb hby at_75) rfl k) ?_
        show W (s₁.setTop (mkF m 76 #[.val (.int p0), .val (.int p1), .val (.long q2), .second, .val (.int p3), .val (.int ((p1 &&& (1048575 : Int32)) + (1 : Int32))), .val (.int (p3 &&& (3 : Int32))), .val (.double (FP.ddiv (FP.i2d p0) (FP.i2d ((p1 &&& (1048575 : Int32)) + (1 : Int32))))), .second, .unset] [(.int p0)]))
        refine stp (fun t k => XS.iload X0.here hx rfl (hb hby at_76) rfl k) ?_
        show W (s₁.setTop (mkF m 78 #[.val (.int p0), .val (.int p1), .val (.long q2), .second, .val (.int p3), .val (.int ((p1 &&& (1048575 : Int32)) + (1 : Int32))), .val (.int (p3 &&& (3 : Int32))), .val (.double (FP.ddiv (FP.i2d p0) (FP.i2d ((p1 &&& (1048575 : Int32)) + (1 : Int32))))), .second, .unset] [(.int ((p1 &&& (1048575 : Int32)) + (1 : Int32))), (.int p0)]))
        by_cases hc0_13 : ((p1 &&& (1048575 : Int32)) + (1 : Int32)) < p0
        · refine stp (fun t k => XS.icmpYes X0.here hx rfl (pc0 := 78) (pc' := 85) rfl (hb hby at_78) rfl ((tlt hc0_13).2.2.1) (by decide) (by decide) k) ?_
          show W (s₁.setTop (mkF m 85 #[.val (.int p0), .val (.int p1), .val (.long q2), .second, .val (.int p3), .val (.int ((p1 &&& (1048575 : Int32)) + (1 : Int32))), .val (.int (p3 &&& (3 : Int32))), .val (.double (FP.ddiv (FP.i2d p0) (FP.i2d ((p1 &&& (1048575 : Int32)) + (1 : Int32))))), .second, .unset] []))
          refine stp (fun t k => XS.iconst X0.here hx rfl (hb hby at_85) k) ?_
          show W (s₁.setTop (mkF m 86 #[.val (.int p0), .val (.int p1), .val (.long q2), .second, .val (.int p3), .val (.int ((p1 &&& (1048575 : Int32)) + (1 : Int32))), .val (.int (p3 &&& (3 : Int32))), .val (.double (FP.ddiv (FP.i2d p0) (FP.i2d ((p1 &&& (1048575 : Int32)) + (1 : Int32))))), .second, .unset] [(.int (0 : Int32))]))
          exact J0_86_15 _ _ (0 : Int32) (by first | rfl | simp only [if_neg hc0_12, if_pos hc0_13]) X0 e0 N0
        · refine stp (fun t k => XS.icmpNo X0.here hx rfl (hb hby at_78) rfl ((flt hc0_13).2.2.1) k) ?_
          show W (s₁.setTop (mkF m 81 #[.val (.int p0), .val (.int p1), .val (.long q2), .second, .val (.int p3), .val (.int ((p1 &&& (1048575 : Int32)) + (1 : Int32))), .val (.int (p3 &&& (3 : Int32))), .val (.double (FP.ddiv (FP.i2d p0) (FP.i2d ((p1 &&& (1048575 : Int32)) + (1 : Int32))))), .second, .unset] []))
          refine stp (fun t k => XS.iconst X0.here hx rfl (hb hby at_81) k) ?_
          show W (s₁.setTop (mkF m 82 #[.val (.int p0), .val (.int p1), .val (.long q2), .second, .val (.int p3), .val (.int ((p1 &&& (1048575 : Int32)) + (1 : Int32))), .val (.int (p3 &&& (3 : Int32))), .val (.double (FP.ddiv (FP.i2d p0) (FP.i2d ((p1 &&& (1048575 : Int32)) + (1 : Int32))))), .second, .unset] [(.int (1 : Int32))]))
          refine stp (fun t k => XS.goto X0.here hx rfl (pc0 := 82) (pc' := 86) rfl (hb hby at_82) (by decide) (by decide) k) ?_
          show W (s₁.setTop (mkF m 86 #[.val (.int p0), .val (.int p1), .val (.long q2), .second, .val (.int p3), .val (.int ((p1 &&& (1048575 : Int32)) + (1 : Int32))), .val (.int (p3 &&& (3 : Int32))), .val (.double (FP.ddiv (FP.i2d p0) (FP.i2d ((p1 &&& (1048575 : Int32)) + (1 : Int32))))), .second, .unset] [(.int (1 : Int32))]))
          exact J0_86_15 _ _ (1 : Int32) (by first | rfl | simp only [if_neg hc0_12, if_neg hc0_13]) X0 e0 N0
set_option maxRecDepth 65536 in
set_option maxHeartbeats 40000000 in
theorem comes_1 {Post : Tables → Env → Array Value → State → Outcome → State → Prop} (hpost : ∀ tb e args s v u, (limb_1_1.after args s (.returned v) u = true ∧ limb_1_2.after args s (.returned v) u = true ∧ True) → FrameEnd s (.returned v) u (Jvm.fieldLocs frame_1_writes args s ++ Jvm.arrayLocs frame_1_arrays args s ++ Jvm.staticLocs frame_1_statics s) 0 0 → Post tb e args s (.returned v) u) :
    ArmFor flags0 classFile x code maxLocals ret World_1 tables_1 room_1 Calls_1 rest_1 Pre_1 Post := by
  intro l hfl _ _ p e ha hc hk s m args below hf hA hF happ hP
  obtain ⟨hcalls, hrest, hpre⟩ := hP
  obtain ⟨-, -, -, hnamed, -, -, -, hat⟩ := (Spec.applies_iff hf).mp happ
  obtain ⟨hg, hn⟩ := and_e (Cond.before_iff.mp (show (Jvm.Cond.and given_1 narrow_1).before args s = true from hpre))
  obtain ⟨gc, hg⟩ := and_e hg
  obtain ⟨g0, hg⟩ := and_e hg
  obtain ⟨g1, hg⟩ := and_e hg
  obtain ⟨g2, hg⟩ := and_e hg
  have g3 := hg
  obtain ⟨w0, w1, w2, w3, rfl⟩ : ∃ w0 w1 w2 w3 : Value, args = #[w0, w1, w2, w3] := by
    have hs : args.size = 4 := by simpa [Cond.value, given_1] using gc
    obtain ⟨L⟩ := args
    match L, hs with
    | [w0, w1, w2, w3], _ => exact ⟨w0, w1, w2, w3, rfl⟩
  have hw := fun d (hd : d ∈ tables_1) => atoms_spec (ws := Jvm.Cond.code x code maxLocals ret :: tables_1) hat d (List.mem_cons_of_mem _ hd)
  have hfit : Fit s := fun {y c} hc i hi => by
    obtain ⟨ha, rfl⟩ := Array.getElem?_eq_some_iff.mp hc
    have q := List.all_eq_true.mp ((Array.all_eq_true_iff_forall_mem.mp hF) _ (Array.getElem_mem ha)) i (List.mem_range.mpr hi)
    simpa [Array.getElem?_eq_getElem hi] using q
  obtain ⟨i0, ei0⟩ := is_v g0
  obtain rfl : w0 = (.int i0) := Option.some.inj ei0
  obtain ⟨i1, ei1⟩ := is_v g1
  obtain rfl : w1 = (.int i1) := Option.some.inj ei1
  obtain ⟨i2, ei2⟩ := isL_v g2
  obtain rfl : w2 = (.long i2) := Option.some.inj ei2
  obtain ⟨i3, ei3⟩ := is_v g3
  obtain rfl : w3 = (.int i3) := Option.some.inj ei3
  obtain ⟨n, o, h1, h2, h3, _, L, rfl, ⟨rfl, N⟩, hq⟩ := rm0 l s _ hw tables_1 i0 i1 i2 i3 s.heap s.heap.size (Nat.le_refl _) p e ha hc hk s m _ below hf ((Spec.applies_iff_loose hf).mp happ).1 ⟨rfl, State.Warmed39.refl s, rfl⟩ trivial
  refine ⟨n, _, h1, h2, h3, hpost _ _ _ _ _ _ ⟨Cond.after_iff.mpr rfl, Cond.after_iff.mpr (eq_i res_at (Term.int_eval (1)) rfl), trivial⟩ ⟨hq.1, hq.2.1, (hq.2.2.sift fun y hy => Or.inr (N y hy)).mono (by decide) (by decide)⟩⟩
theorem main_1_1 : Claimed_1_1 := comes_1 fun _ _ _ _ _ _ h hF => ⟨h.1, hF⟩
theorem main_1_2 : Claimed_1_2 := comes_1 fun _ _ _ _ _ _ h hF => ⟨h.2.1, hF⟩
end Jvm.Pilot.@@N@@
namespace Jvm.Pilot.@@N@@
open Jvm Jvm.ClassFile Sem Op Lib Jvm.Free Jvm.Stand Jvm.Pilot.@@N@@.Jvm.D
/-! MADE BY PROGRAM (witnessworld.py) out of the Statement's table words and the real class files: 10 classes; the members and pool entries that the words name. The judged class is class 1, her method 1. -/
namespace start1
open Jvm.ClassFile
def u (s : String) : CpInfo := .utf8 (stringToUtf16 s)
/-- a pool by its gaps: so many unusable entries, then the entry; so many at the end -/
def gap : Nat → List CpInfo → List CpInfo
  | 0, r => r
  | n + 1, r => .unusable :: gap n r
def poolList (es : List (Nat × CpInfo)) (last : Nat) : List CpInfo := es.foldr (fun e r => gap e.1 (e.2 :: r)) (gap last [])
def pool (es : List (Nat × CpInfo)) (last : Nat) : Array CpInfo := ⟨poolList es last⟩
def fileOf (pool : Array CpInfo) (this : Nat) (attrs : Array Attribute := #[]) (ms : Array MethodInfo := #[]) (fl : Nat := 33) (sup : Nat := 0) (ifs : Array Nat := #[]) (fds : Array FieldInfo := #[]) : ClassFile where
  minorVersion := 0
  majorVersion := 65
  constantPool := pool
  accessFlags := fl
  thisClass := this
  superClass := sup
  interfaces := ifs
  fields := fds
  methods := ms
  attributes := attrs
def plain (name : String) (sup : Option ClassId) : Class where
  name := name
  kind := .ordinary
  loader := none
  accessFlags := 33
  super := sup
  interfaces := #[]
  cf := none
  fields := #[]
  methods := #[]
  instanceTypes := #[]
  staticTypes := #[]
  resolved := #[]
  callSites := []
  init := .initialized
  statics := none
  mirror := none

def pool0 : Array CpInfo := pool [(5, u "<init>"), (0, u "()V"), (1, .class_ 10), (1, u "java/lang/Object")] 113

def k0m0 : Method := { name := "<init>", desc := "()V", sig := { parameters := [], returnType := none }, accessFlags := 1, code := none }
/-- java/lang/Object -/
def k0 : Class := { plain "java/lang/Object" none with
  accessFlags := 33
  interfaces := #[]
  cf := some (fileOf pool0 8 #[] #[{ accessFlags := 1, nameIndex := 5, descriptorIndex := 6, attributes := #[] }] 33 0 #[] #[])
  fields := #[]
  methods := #[k0m0]
  instanceTypes := #[]
  staticTypes := #[]
  resolved := Array.replicate 124 none
  statics := none }

def pool1 : Array CpInfo := pool [(2, .class_ 4), (1, u "java/lang/Object"), (0, u "<init>"), (0, u "()V"), (0, .integer 1048575), (0, .double 9223372036854775808), (1, .methodref 11 12), (0, .class_ 13), (0, .nameAndType 14 15), (0, u "com/example/astute_scheduler/astutescheduler/model/Outcome"), (0, u "isProbability"), (0, u "(D)Z"), (0, .class_ 17), (0, u "com/example/astute_scheduler/astutescheduler/model/OutcomeIsProbabilityPinLaw"), (2, u "law"), (0, u "(IIJI)Z")] 3

def k1m0 : Method := { name := "<init>", desc := "()V", sig := { parameters := [], returnType := none }, accessFlags := 2, code := none }
def k1c1 : Code := { maxStack := 4, maxLocals := 10, code := code, exceptionTable := #[], attributes := #[] }
def k1m1 : Method := { name := "law", desc := "(IIJI)Z", sig := { parameters := [.int, .int, .long, .int], returnType := some .boolean }, accessFlags := 9, code := some k1c1 }
/-- com/example/astute_scheduler/astutescheduler/model/OutcomeIsProbabilityPinLaw -/
def k1 : Class := { plain "com/example/astute_scheduler/astutescheduler/model/OutcomeIsProbabilityPinLaw" (some 0) with
  accessFlags := 49
  interfaces := #[]
  cf := some (fileOf pool1 16 #[] #[{ accessFlags := 2, nameIndex := 5, descriptorIndex := 6, attributes := #[] }, { accessFlags := 9, nameIndex := 20, descriptorIndex := 21, attributes := #[] }] 49 2 #[] #[])
  fields := #[]
  methods := #[k1m0, k1m1]
  instanceTypes := #[]
  staticTypes := #[]
  resolved := Array.replicate 25 none
  statics := none }

def pool2 : Array CpInfo := pool [(2, .class_ 4), (1, u "java/lang/Object"), (0, u "<init>"), (0, u "()V"), (0, .class_ 8), (0, u "java/lang/Record")] 13

def k2m0 : Method := { name := "<init>", desc := "()V", sig := { parameters := [], returnType := none }, accessFlags := 4, code := none }
/-- java/lang/Record -/
def k2 : Class := { plain "java/lang/Record" (some 0) with
  accessFlags := 1057
  interfaces := #[]
  cf := some (fileOf pool2 7 #[] #[{ accessFlags := 4, nameIndex := 5, descriptorIndex := 6, attributes := #[] }] 1057 2 #[] #[])
  fields := #[]
  methods := #[k2m0]
  instanceTypes := #[]
  staticTypes := #[]
  resolved := Array.replicate 22 none
  statics := none }

def pool3 : Array CpInfo := pool [(2, .class_ 4), (1, u "java/lang/Record"), (3, u "postcondition"), (7, .class_ 18), (1, u "com/example/astute_scheduler/astutescheduler/model/Outcome"), (0, u "isProbability"), (0, u "(D)Z"), (11, u "Lcom/example/astute_scheduler/astutescheduler/model/Condition;"), (2, u "probability"), (0, u "D")] 53

def k3c0 : Code := { maxStack := 4, maxLocals := 2, code := prog_66_method_2_code, exceptionTable := #[], attributes := #[] }
def k3m0 : Method := { name := "isProbability", desc := "(D)Z", sig := { parameters := [.double], returnType := some .boolean }, accessFlags := 8, code := some k3c0 }
/-- com/example/astute_scheduler/astutescheduler/model/Outcome -/
def k3 : Class := { plain "com/example/astute_scheduler/astutescheduler/model/Outcome" (some 2) with
  accessFlags := 49
  interfaces := #[]
  cf := some (fileOf pool3 16 #[] #[{ accessFlags := 8, nameIndex := 19, descriptorIndex := 20, attributes := #[] }] 49 2 #[] #[{ accessFlags := 18, nameIndex := 8, descriptorIndex := 32, attributes := #[] }, { accessFlags := 18, nameIndex := 35, descriptorIndex := 36, attributes := #[] }])
  fields := #[{ name := "postcondition", type := (.object "com/example/astute_scheduler/astutescheduler/model/Condition"), accessFlags := 18, slot := 0, constantValue := 0 }, { name := "probability", type := .double, accessFlags := 18, slot := 1, constantValue := 0 }]
  methods := #[k3m0]
  instanceTypes := #[(.object "com/example/astute_scheduler/astutescheduler/model/Condition"), .double]
  staticTypes := #[]
  resolved := Array.replicate 90 none
  statics := none }

def pool4 : Array CpInfo := pool [(1, u "java/lang/Cloneable"), (0, .class_ 1), (0, u "java/lang/Object"), (0, .class_ 3)] 3

/-- java/lang/Cloneable -/
def k4 : Class := { plain "java/lang/Cloneable" (some 0) with
  accessFlags := 1537
  interfaces := #[]
  cf := some (fileOf pool4 2 #[] #[] 1537 4 #[] #[])
  fields := #[]
  methods := #[]
  instanceTypes := #[]
  staticTypes := #[]
  resolved := Array.replicate 8 none
  statics := none }

def pool5 : Array CpInfo := pool [(1, u "java/io/Serializable"), (0, .class_ 1), (0, u "java/lang/Object"), (0, .class_ 3)] 3

/-- java/io/Serializable -/
def k5 : Class := { plain "java/io/Serializable" (some 0) with
  accessFlags := 1537
  interfaces := #[]
  cf := some (fileOf pool5 2 #[] #[] 1537 4 #[] #[])
  fields := #[]
  methods := #[]
  instanceTypes := #[]
  staticTypes := #[]
  resolved := Array.replicate 8 none
  statics := none }

/-- the primitive byte -/
def k6 : Class := { plain "byte" none with kind := .primitive 'B', accessFlags := 0x411 }
/-- [B -/
def k7 : Class := { plain "[B" (some 0) with kind := .array 6 .byte, interfaces := #[4, 5], accessFlags := 1041 }

/-- the primitive int -/
def k8 : Class := { plain "int" none with kind := .primitive 'I', accessFlags := 0x411 }
/-- [I -/
def k9 : Class := { plain "[I" (some 0) with kind := .array 8 .int, interfaces := #[4, 5], accessFlags := 1041 }

def heap : Heap := #[]
def classes : Array Class := #[k0, k1, k2, k3, k4, k5, k6, k7, k8, k9]
def interned : List (Array UInt16 × Addr) := []
def slotsUsed : Nat := 0
def theMethod : MethodId := ⟨1, 1⟩
def args0 : Array Value := #[.int 5, .int 3, .long 1, .int 0]
def aboutOver (below : List Frame) : State where
  vm := { classes := classes, interned := interned.toArray }
  heap := heap
  slotsUsed := slotsUsed
  threads := #[{ frames := .invoking theMethod args0 :: below }]
def below0 : List Frame := [.native { method := ⟨0, 0⟩, args := #[] }]
def about1 : State := aboutOver below0
def p0 : Program := .bare "" "" ""
def e0 : Env := launch0.env 0 0 0
theorem w_frames : about1.frames = Frame.invoking theMethod args0 :: below0 := rfl
set_option maxRecDepth 65536 in
theorem w_args : argsFit about1.vm theMethod args0 = true := by decide +kernel
set_option maxRecDepth 65536 in
theorem w_heap : heapFits about1 = true := by decide +kernel
set_option maxRecDepth 65536 in
theorem w_runnable : about1.curStatus? = some .runnable := by decide +kernel
set_option maxRecDepth 65536 in
theorem w_alone : about1.alone = true := by decide +kernel
set_option maxRecDepth 65536 in
theorem w_named : about1.methodNamed? x = some theMethod := by decide +kernel
set_option maxRecDepth 65536 in
theorem w_hears : about1.hears theMethod below0 = true := by decide +kernel
set_option maxRecDepth 65536 in
theorem w_ripe : about1.ripe theMethod args0 below0 = true := by decide +kernel
theorem w_running : about1.status = .running := rfl
set_option maxRecDepth 65536 in
theorem w_room : about1.hasRoom e0.platform room_1 = true :=
  launch0.hasRoom_least _ room_1 (by decide +kernel) (by decide +kernel) (by decide +kernel) (by decide +kernel) (by decide +kernel) (by decide +kernel)
theorem allAtoms_all (ts : List Jvm.Cond) (a : Array Jvm.Value) (st : Jvm.State) : (allAtoms ts).before a st = ts.all (fun c => c.before a st) := by
  induction ts with
  | nil => rfl
  | cons c t ih =>
    show (Jvm.Cond.and c (allAtoms t)).before a st = _
    rw [Jvm.Cond.before_and, ih, List.all_cons]
def words1 : List Jvm.Cond := Jvm.Cond.code x code maxLocals ret :: tables_1
/-- a 'code' word, met by the world's own term for the bytes: nothing is compared byte by byte -/
theorem code_word {y : MethodName} {bytes : ByteArray} {mx : Nat} {rt : Option FieldType} {a : Array Value} {s : State} {m : MethodId} {meth : Method} {c : Code} (h1 : s.methodNamed? y = some m) (h2 : s.vm.method? m = some meth) (h3 : meth.code = some c) (h4 : c.code = bytes)
    (h5 : (c.maxLocals == mx && c.exceptionTable.isEmpty && decide (c.maxStack ≤ mostOperands) && decide (meth.sig.returnType = rt) && !meth.locks && decide (parseMethodDescriptor y.desc = some meth.sig)) = true) : (Jvm.Cond.code y bytes mx rt).before a s = true := by
  simp only [Bool.and_eq_true, beq_iff_eq, Bool.not_eq_true', decide_eq_true_eq] at h5
  obtain ⟨⟨⟨⟨⟨g1, g2⟩, g3⟩, g4⟩, g5⟩, g6⟩ := h5
  simp [Cond.before, Cond.holds, Cond.value, h1, h2, h3, h4, g1, g2, g3, g4, g5, g6]
def isCode : Jvm.Cond → Bool
  | .code _ _ _ _ => true
  | _ => false
theorem all_split {L : List Jvm.Cond} {P : Jvm.Cond → Bool} (h1 : L.all (fun c => isCode c || P c) = true) (h2 : ∀ c ∈ L.filter isCode, P c = true) : L.all P = true := by
  refine List.all_eq_true.mpr fun c hc => ?_
  have h := List.all_eq_true.mp h1 c hc
  rcases Bool.eq_false_or_eq_true (isCode c) with hi | hi
  · exact h2 c (List.mem_filter.mpr ⟨hc, hi⟩)
  · simpa [hi] using h
set_option maxRecDepth 65536 in
theorem w_c0 : (Jvm.Cond.code x code maxLocals ret).before args0 about1 = true := code_word (m := ⟨1, 1⟩) (meth := k1m1) (c := k1c1) (by decide +kernel) rfl rfl rfl (by decide +kernel)
set_option maxRecDepth 65536 in
theorem w_c1 : (Jvm.Cond.code ({ cls := "com/example/astute_scheduler/astutescheduler/model/Outcome", name := "isProbability", desc := "(D)Z" } : Jvm.MethodName) prog_66_method_2_code (2 : Nat) (Option.some Jvm.ClassFile.FieldType.boolean)).before args0 about1 = true := code_word (m := ⟨3, 0⟩) (meth := k3m0) (c := k3c0) (by decide +kernel) rfl rfl rfl (by decide +kernel)
def codes1 : List Jvm.Cond := [Jvm.Cond.code x code maxLocals ret, Jvm.Cond.code ({ cls := "com/example/astute_scheduler/astutescheduler/model/Outcome", name := "isProbability", desc := "(D)Z" } : Jvm.MethodName) prog_66_method_2_code (2 : Nat) (Option.some Jvm.ClassFile.FieldType.boolean)]
set_option maxRecDepth 65536 in
theorem codes_eq : words1.filter isCode = codes1 := rfl
theorem w_codes : ∀ c ∈ words1.filter isCode, c.before args0 about1 = true := by
  rw [codes_eq]
  intro c hc
  simp only [codes1, List.mem_cons, List.not_mem_nil, or_false] at hc
  rcases hc with rfl | rfl
  · exact w_c0
  · exact w_c1
set_option maxRecDepth 65536 in
theorem w_t1 : words1.all (fun c => isCode c || c.before args0 about1) = true := by decide +kernel
theorem w_tables : (allAtoms (Jvm.Cond.code x code maxLocals ret :: tables_1)).before args0 about1 = true := by
  rw [allAtoms_all]
  show words1.all (fun c => c.before args0 about1) = true
  refine all_split ?_ w_codes
  rw [w_t1]
set_option maxRecDepth 65536 in
theorem w_case : (Jvm.Cond.and given_1 narrow_1).before args0 about1 = true := by decide +kernel
theorem w_applies : (headSpec (Jvm.Cond.code x code maxLocals ret :: tables_1) room_1).applies x e0.platform about1 = true :=
  (Spec.applies_iff w_frames).mpr ⟨w_running, w_runnable, w_alone, w_named, w_hears, w_ripe, w_room, w_tables⟩
theorem atStart : AtStart classFile x code maxLocals ret World_1 tables_1 room_1 Calls_1 rest_1 Pre_1 launch0 p0 e0 about1 theMethod args0 below0 :=
  ⟨lists_1, trivial, launch0.admits_env _ _ _, launch0.least_env, fairChoices_fair.cas, fairChoices_fair.clock, w_frames, w_args, w_heap, w_applies, trivial, trivial, w_case⟩
end start1
theorem witness_1 : WitnessClaimed_1 := ⟨start1.p0, start1.e0, start1.about1, start1.theMethod, start1.args0, start1.below0, start1.atStart⟩
end Jvm.Pilot.@@N@@
