import JvmDerived
import JvmDerived.Pilot.@@N@@Statement
import JvmDerived.Pilot.@@N@@Code
set_option linter.unusedVariables false
set_option linter.unusedSimpArgs false
namespace Jvm.Pilot.@@N@@
open Jvm Jvm.ClassFile Sem Op Lib Jvm.Free Jvm.Stand Jvm.LawKit Jvm.RoadKit Bundle Jvm.Pilot.@@N@@.Jvm.D
/-! the walk's goal: from the state A the run ends, returning what Qv says -/
def OwnEnd (p : Program) (e : Env) (below : List Frame) (s : State) (Qv : Option Value → Heap → List Loc → Prop) (k n : Nat) (A : State) : Prop :=
  ∃ s₂ o, Steps p.tables e below A s₂ ∧ s₂.status = .running ∧ Ended s₂ below o ∧ ∃ v L, o = .returned v ∧ Qv v s₂.heap L ∧ FrameEnd s o s₂ L k n
theorem own_step {p : Program} {e : Env} {below : List Frame} {s : State} {Qv : Option Value → Heap → List Loc → Prop} {k n : Nat} {A B : State} (h : ∀ t, Steps p.tables e below B t → Steps p.tables e below A t) (q : OwnEnd p e below s Qv k n B) : OwnEnd p e below s Qv k n A := by
  obtain ⟨s₂, o, h1, h2⟩ := q
  exact ⟨s₂, o, h _ h1, h2⟩
theorem own_arvEq {Z : State} {h : Heap} {a : Addr} {k : ClassId} {ty : FieldType} {z : Int32} {vs vs' : List Value} {d : Value} (e : vs = vs') (F : Arv Z h a k ty z vs d) : Arv Z h a k ty z vs' d := by subst e; exact F
theorem own_fldEq {Z : State} {h : Heap} {a : Addr} {C n d : String} {x y : Int32} (e : x = y) (F : Fld Z h a C n d (.int x)) : Fld Z h a C n d (.int y) := by subst e; exact F
section OwnRet
variable {p : Program} {l : Launch} {e : Env} {R : Room} {s : State} {m : MethodId} {args : Array Value} {below : List Frame} {meth : Method} {c : Code} {T : State} {locs : List Loc} {cells slots k n : Nat} {Qv : Option Value → Heap → List Loc → Prop}
theorem own_retN (X : Stand p l e R s m args below meth c T locs cells slots) (hx : p.tables.exec = Jvm.exec) (hlocks : meth.locks = false) {pc : Nat} {Ls : Array Slot} {z w : Int32} {t : FieldType} {rest : List Value} (hret : meth.sig.returnType = some t) (ht : t = .boolean ∨ t = .byte ∨ t = .char ∨ t = .short) (hd : decode c.code pc = .ok (.ireturn, 1)) (hz : nar t z = w) (hq : Qv (some (.int w)) T.heap locs) (hk : cells ≤ k) (hn : slots ≤ n) :
    OwnEnd p e below s Qv k n (T.setTop (mkF m pc Ls (.int z :: rest))) := by
  obtain ⟨fs, hr, hrun, hended, hW, hsame⟩ := X.leave (v := some (.int w)) (fun h => by rw [hret] at h; cases h) hlocks
  exact ⟨_, _, retN X hx hret ht hd (fs := fs) (by rw [hz]; exact hr), hrun, hended, _, _, rfl, hq, ⟨_, rfl⟩, hW, hsame.mono hk hn⟩
theorem own_retI (X : Stand p l e R s m args below meth c T locs cells slots) (hx : p.tables.exec = Jvm.exec) (hlocks : meth.locks = false) {pc : Nat} {Ls : Array Slot} {z : Int32} {rest : List Value} (hret : meth.sig.returnType = some .int) (hd : decode c.code pc = .ok (.ireturn, 1)) (hq : Qv (some (.int z)) T.heap locs) (hk : cells ≤ k) (hn : slots ≤ n) :
    OwnEnd p e below s Qv k n (T.setTop (mkF m pc Ls (.int z :: rest))) := by
  obtain ⟨fs, hr, hrun, hended, hW, hsame⟩ := X.leave (v := some (.int z)) (fun h => by rw [hret] at h; cases h) hlocks
  refine ⟨T.setFrames fs, _, ?_, hrun, hended, _, _, rfl, hq, ⟨_, rfl⟩, hW, hsame.mono hk hn⟩
  have hm' : T.vm.method? m = some meth := X.method'
  have hn' : narrow .int (.int z) = .int z := rfl
  show Steps p.tables e below (T.setTop { method := m, pc := pc, locals := Ls, stack := _ :: rest, locked := none }) _
  jvm_step X.here [X.here.top, hx, hd, hm', hret, hn']
  first | (intro acts; rw [hr _ acts rfl rfl rfl]) | rw [hr _ _ rfl rfl rfl]
  exact Steps.refl _
theorem own_retJ (X : Stand p l e R s m args below meth c T locs cells slots) (hx : p.tables.exec = Jvm.exec) (hlocks : meth.locks = false) {pc : Nat} {Ls : Array Slot} {z : Int64} {rest : List Value} (hret : meth.sig.returnType = some .long) (hd : decode c.code pc = .ok (.lreturn, 1)) (hq : Qv (some (.long z)) T.heap locs) (hk : cells ≤ k) (hn : slots ≤ n) :
    OwnEnd p e below s Qv k n (T.setTop (mkF m pc Ls (.long z :: rest))) := by
  obtain ⟨fs, hr, hrun, hended, hW, hsame⟩ := X.leave (v := some (.long z)) (fun h => by rw [hret] at h; cases h) hlocks
  refine ⟨T.setFrames fs, _, ?_, hrun, hended, _, _, rfl, hq, ⟨_, rfl⟩, hW, hsame.mono hk hn⟩
  have hm' : T.vm.method? m = some meth := X.method'
  have hn' : narrow .long (.long z) = .long z := rfl
  show Steps p.tables e below (T.setTop { method := m, pc := pc, locals := Ls, stack := _ :: rest, locked := none }) _
  jvm_step X.here [X.here.top, hx, hd, hm', hret, hn']
  first | (intro acts; rw [hr _ acts rfl rfl rfl]) | rw [hr _ _ rfl rfl rfl]
  exact Steps.refl _
theorem own_retD (X : Stand p l e R s m args below meth c T locs cells slots) (hx : p.tables.exec = Jvm.exec) (hlocks : meth.locks = false) {pc : Nat} {Ls : Array Slot} {z : UInt64} {rest : List Value} (hret : meth.sig.returnType = some .double) (hd : decode c.code pc = .ok (.dreturn, 1)) (hq : Qv (some (.double z)) T.heap locs) (hk : cells ≤ k) (hn : slots ≤ n) :
    OwnEnd p e below s Qv k n (T.setTop (mkF m pc Ls (.double z :: rest))) := by
  obtain ⟨fs, hr, hrun, hended, hW, hsame⟩ := X.leave (v := some (.double z)) (fun h => by rw [hret] at h; cases h) hlocks
  refine ⟨T.setFrames fs, _, ?_, hrun, hended, _, _, rfl, hq, ⟨_, rfl⟩, hW, hsame.mono hk hn⟩
  have hm' : T.vm.method? m = some meth := X.method'
  have hn' : narrow .double (.double z) = .double z := rfl
  show Steps p.tables e below (T.setTop { method := m, pc := pc, locals := Ls, stack := _ :: rest, locked := none }) _
  jvm_step X.here [X.here.top, hx, hd, hm', hret, hn']
  first | (intro acts; rw [hr _ acts rfl rfl rfl]) | rw [hr _ _ rfl rfl rfl]
  exact Steps.refl _
theorem own_retR (X : Stand p l e R s m args below meth c T locs cells slots) (hx : p.tables.exec = Jvm.exec) (hlocks : meth.locks = false) {pc : Nat} {Ls : Array Slot} {z : Addr} {t : FieldType} {rest : List Value} (hret : meth.sig.returnType = some t) (ht : t.isReference = true) (hd : decode c.code pc = .ok (.areturn, 1)) (hq : Qv (some (.ref z)) T.heap locs) (hk : cells ≤ k) (hn : slots ≤ n) :
    OwnEnd p e below s Qv k n (T.setTop (mkF m pc Ls (.ref z :: rest))) := by
  obtain ⟨fs, hr, hrun, hended, hW, hsame⟩ := X.leave (v := some (.ref z)) (fun h => by rw [hret] at h; cases h) hlocks
  refine ⟨T.setFrames fs, _, ?_, hrun, hended, _, _, rfl, hq, ⟨_, rfl⟩, hW, hsame.mono hk hn⟩
  have hm' : T.vm.method? m = some meth := X.method'
  show Steps p.tables e below (T.setTop { method := m, pc := pc, locals := Ls, stack := _ :: rest, locked := none }) _
  jvm_step X.here [X.here.top, hx, hd, hm', hret, ht, Value.isRef]
  first | (intro acts; rw [hr _ acts rfl rfl rfl]) | rw [hr _ _ rfl rfl rfl]
  exact Steps.refl _
theorem own_ret0 (X : Stand p l e R s m args below meth c T locs cells slots) (hx : p.tables.exec = Jvm.exec) (hlocks : meth.locks = false) {pc : Nat} {Ls : Array Slot} (hret : meth.sig.returnType = none) (hd : decode c.code pc = .ok (.return_, 1)) (hq : Qv none T.heap locs) (hk : cells ≤ k) (hn : slots ≤ n) :
    OwnEnd p e below s Qv k n (T.setTop (mkF m pc Ls [])) := by
  obtain ⟨fs, hr, hrun, hended, hW, hsame⟩ := X.leave (v := none) (fun _ => rfl) hlocks
  exact ⟨_, _, X.returnOut hx hret hd hr, hrun, hended, _, _, rfl, hq, ⟨_, rfl⟩, hW, hsame.mono hk hn⟩
end OwnRet
/-! lists of ints by a function of the place -/
def own_vs (n : Nat) (F : Nat → Int32) : List Value := (List.range n).map fun j => Value.int (F j)
theorem own_vsLen (n : Nat) (F : Nat → Int32) : (own_vs n F).length = n := by simp [own_vs]
theorem own_vsGet {n : Nat} {F : Nat → Int32} {j : Nat} {d : Value} (h : j < n) : (own_vs n F).getD j d = .int (F j) := by
  simp [own_vs, List.getD_eq_getElem?_getD, h]
theorem own_vsCongr {n : Nat} {F G : Nat → Int32} (h : ∀ j, j < n → F j = G j) : own_vs n F = own_vs n G := by
  apply List.map_congr_left
  intro j hj
  rw [h j (List.mem_range.mp hj)]
theorem own_vsSet {n : Nat} {F : Nat → Int32} {i : Nat} {x : Int32} : (own_vs n F).set i (.int x) = own_vs n (fun j => if j = i then x else F j) := by
  apply List.ext_getElem?
  intro j
  rw [List.getElem?_set]
  by_cases hj : j < n
  · by_cases hi : i = j
    · subst hi; simp [own_vs, hj]
    · have hi' : ¬ j = i := fun q => hi q.symm
      simp [own_vs, hj, hi, hi']
  · by_cases hi : i = j
    · subst hi; simp [own_vs, hj]
    · simp [own_vs, hj, hi]
theorem own_vsPad (n : Nat) : ∀ i, (own_vs n fun _ => (0 : Int32)).getD i (.int (0 : Int32)) = ([] : List Value).getD i (.int (0 : Int32)) := by
  intro i
  by_cases h : i < n
  · rw [own_vsGet h]; rfl
  · simp [own_vs, List.getD_eq_getElem?_getD, h]
theorem own_clamp {p : Int32} {i : Nat} (h : p.toInt = i) : p.toNatClampNeg = i := by
  simp only [Int32.toNatClampNeg, h]; rfl
theorem own_inc {p : Int32} {i : Nat} (h : p.toInt = i) (hi : i < 2147483647) : (p + 1).toInt = ((i + 1 : Nat) : Int) := by
  have h1 := c_iadd p 1
  have h2 := rng32 (p + 1)
  have h3 : (1 : Int32).toInt = 1 := by decide
  omega
theorem own_lt32 {p q : Int32} {i j : Nat} (hp : p.toInt = i) (hq : q.toInt = j) : p < q ↔ i < j := by
  rw [Int32.lt_iff_toInt_lt, hp, hq]; omega
theorem own_nn {p : Int32} {i : Nat} (hp : p.toInt = i) : ¬ p < 0 := by
  rw [Int32.lt_iff_toInt_lt, hp, show (0 : Int32).toInt = 0 from by decide]; omega
theorem own_ofNat {n : Nat} (h : n < 2147483648) : (Int32.ofNat n).toInt = n := Int32.toInt_ofNat_of_lt h
/-! the bytes of a char -/
def own_b (c : Int32) : Int32 := (c.toInt8.toInt32).toInt8.toInt32
def own_lo (c : Int32) : Int32 := own_b (c >>> ((0 : Int32) &&& 31))
def own_hi (c : Int32) : Int32 := own_b (c >>> ((8 : Int32) &&& 31))
def own_u (g : Nat → Int32) (j : Nat) : Int32 := if j % 2 = 0 then own_lo (g (j / 2)) else own_hi (g (j / 2))
def own_cL (x : Int32) : Int32 := ((x &&& (255 : Int32)).toUInt32.toUInt16.toUInt32.toInt32)
def own_cU (x y : Int32) : Int32 := ((((x &&& (255 : Int32)) <<< ((0 : Int32) &&& 31)) ||| ((y &&& (255 : Int32)) <<< ((8 : Int32) &&& 31))).toUInt32.toUInt16.toUInt32.toInt32)
theorem own_bInt (c : Int32) : ((own_b c).toInt - c.toInt) % 256 = 0 := by
  have h1 := c_i2b (c.toInt8.toInt32)
  have h2 := c_i2b c
  unfold own_b
  omega
theorem own_i2c {x : Int32} (h0 : 0 ≤ x.toInt) (h1 : x.toInt < 65536) : x.toUInt32.toUInt16.toUInt32.toInt32 = x := by
  have h := c_i2c x
  apply Int32.toInt_inj.mp
  omega
theorem own_shr0 (c : Int32) : c >>> ((0 : Int32) &&& 31) = c := by
  have h := c_ishr c 0 0 (by decide)
  apply Int32.toInt_inj.mp
  rw [h]; simp
theorem own_shl0 (c : Int32) : c <<< ((0 : Int32) &&& 31) = c := by
  have h := c_ishl c 0 0 (by decide)
  have h2 := rng32 c
  have h3 := rng32 (c <<< ((0 : Int32) &&& 31))
  apply Int32.toInt_inj.mp
  simp only [Nat.pow_zero] at h
  omega
theorem own_decL {c : Int32} (h0 : 0 ≤ c.toInt) (h1 : c.toInt < 256) : own_cL (own_b c) = c := by
  have h2 := c_mask (own_b c) 255 8 (by decide) (by decide)
  have h3 := own_bInt c
  have e : own_b c &&& 255 = c := by apply Int32.toInt_inj.mp; rw [h2]; omega
  unfold own_cL
  rw [e]
  exact own_i2c h0 (by omega)
theorem own_decU {c : Int32} (h0 : 0 ≤ c.toInt) (h1 : c.toInt < 65536) : own_cU (own_lo c) (own_hi c) = c := by
  have a1 := c_mask (own_lo c) 255 8 (by decide) (by decide)
  have a2 := c_mask (own_hi c) 255 8 (by decide) (by decide)
  have a3 : ((own_lo c).toInt - c.toInt) % 256 = 0 := by
    have := own_bInt (c >>> ((0 : Int32) &&& 31)); rw [own_shr0] at this
    unfold own_lo; rw [own_shr0]; exact this
  have a4 : ((own_hi c).toInt - c.toInt / 256) % 256 = 0 := by
    have := own_bInt (c >>> ((8 : Int32) &&& 31)); rw [c_ishr c 8 8 (by decide)] at this
    exact this
  unfold own_cU
  rw [own_shl0]
  generalize own_lo c &&& 255 = x at *
  generalize own_hi c &&& 255 = y at *
  have b1 := c_ishl y 8 8 (by decide)
  have b2 := rng32 (y <<< ((8 : Int32) &&& 31))
  have b3 := c_or' x (y <<< ((8 : Int32) &&& 31)) 8 (by decide) 256 (by decide) (by omega) (by omega) (by omega)
  have b4 := rng32 (x ||| y <<< ((8 : Int32) &&& 31))
  have e : x ||| y <<< ((8 : Int32) &&& 31) = c := by apply Int32.toInt_inj.mp; omega
  rw [e]
  exact own_i2c h0 h1
/-! the statics on which the String bodies rest -/
def OwnW (Z : State) (wc : Int32) (sx : Value) : Prop := Sta Z Z.heap "java/lang/String" "COMPACT_STRINGS" "Z" (.int wc) ∧ ¬ (wc = (0 : Int32)) ∧ Sta Z Z.heap "jdk/internal/util/Preconditions" "SIOOBE_FORMATTER" "Ljava/util/function/BiFunction;" sx ∧ sx.isRef = true
theorem own_mono {l : Launch} {x : MethodName} {S : Spec} {P : Array Value → State → Prop} {K : Program → Env → List Frame → State → Array Value → Prop} {Q Q' : Array Value → State → Outcome → State → Prop} (h : MetFree l x S P K Q) (hq : ∀ a s o t, Q a s o t → Q' a s o t) : MetFree l x S P K Q' := by
  intro p e ha hc hk s m args below hf happ hP hK
  obtain ⟨n, o, h1, h2, h3, h4⟩ := h p e ha hc hk s m args below hf happ hP hK
  exact ⟨n, o, h1, h2, h3, hq _ _ _ _ h4⟩
/-! a String object and its chars -/
def OwnStr (Z : State) (h : Heap) (a b : Addr) (n : Nat) (g : Nat → Int32) : Prop :=
  Exa Z h a "java/lang/String" ∧ Fld Z h a "java/lang/String" "value" "[B" (.ref b) ∧
  ((Fld Z h a "java/lang/String" "coder" "B" (.int (0 : Int32)) ∧ (∀ j, j < n → (g j).toInt < 256) ∧ ∃ k, Arv Z h b k .byte (Int32.ofNat n) (own_vs n fun j => own_b (g j)) (.int (0 : Int32))) ∨
   False)
section OwnStrLaws
variable {Z : State} {h h' : Heap} {a b o : Addr} {n : Nat} {g : Nat → Int32} {sl : Nat} {v : Value} {ws : List Addr}
theorem OwnStr.ext (S : OwnStr Z h a b n g) (E : Ext h h') : OwnStr Z h' a b n g := by
  obtain ⟨A, F, C⟩ := S
  refine ⟨A.ext E, F.ext E, ?_⟩
  rcases C with ⟨C, q, k, V⟩ | C
  · exact Or.inl ⟨C.ext E, q, k, V.ext E⟩
  · exact C.elim
theorem OwnStr.other (S : OwnStr Z h a b n g) (W : Wr h h' o sl v) (ha : a ≠ o) (hb : b ≠ o) : OwnStr Z h' a b n g := by
  obtain ⟨A, F, C⟩ := S
  refine ⟨A.wr W, F.other W (Or.inl ha), ?_⟩
  rcases C with ⟨C, q, k, V⟩ | C
  · exact Or.inl ⟨C.other W (Or.inl ha), q, k, V.other W hb⟩
  · exact C.elim
theorem OwnStr.keep (S : OwnStr Z h a b n g) (K : Keep h h' ws) (ha : a ∉ ws) (hb : b ∉ ws) : OwnStr Z h' a b n g := by
  obtain ⟨A, F, C⟩ := S
  refine ⟨A.keep K, F.keep K ha, ?_⟩
  rcases C with ⟨C, q, k, V⟩ | C
  · exact Or.inl ⟨C.keep K ha, q, k, V.keep K hb⟩
  · exact C.elim
theorem OwnStr.lt0 (S : OwnStr Z h a b n g) : a < h.size := S.1.lt
theorem OwnStr.lt1 (S : OwnStr Z h a b n g) : b < h.size := by
  rcases S.2.2 with ⟨-, -, k, V⟩ | C
  · exact V.lt
  · exact C.elim
end OwnStrLaws
theorem own_len2 {p : Int32} {n : Nat} (hp : p.toInt = n) (hn : n ≤ 1000000) : p <<< ((1 : Int32) &&& 31) = Int32.ofNat (2 * n) := by
  apply Int32.toInt_inj.mp
  rw [own_ofNat (by omega)]
  have h := c_ishl p 1 1 (by decide)
  have h2 := rng32 (p <<< ((1 : Int32) &&& 31))
  omega
theorem own_shl1 {p : Int32} {i : Nat} (hp : p.toInt = i) (hn : i ≤ 1000000) : (p <<< ((1 : Int32) &&& 31)).toInt = ((2 * i : Nat) : Int) := by
  rw [own_len2 hp hn, own_ofNat (by omega)]
theorem own_shr1 {n : Nat} (hn : n ≤ 1000000) : (Int32.ofNat (2 * n) >>> ((1 : Int32) &&& 31)) = Int32.ofNat n := by
  apply Int32.toInt_inj.mp
  rw [c_ishr _ 1 1 (by decide), own_ofNat (by omega), own_ofNat (by omega)]
  omega
def ownEL : List (String × Nat) := [("java/lang/String", 7)]
theorem own_EW {Z : State} {aa : Array Value} (hw : ∀ d ∈ tables_1, d.before aa Z = true) : EW Z aa ownEL := EW.cons (text := "") (hw _ (List.mem_of_getElem? (i := 68) rfl)) (by decide) EW.nil
theorem own_wS {Z : State} {aa : Array Value} (hw : ∀ d ∈ tables_1, d.before aa Z = true) : ∀ a ∈ Bundle.stringAtoms, a.before aa Z = true := fun d hd => by
  simp only [Bundle.stringAtoms, List.mem_cons, List.not_mem_nil, or_false] at hd
  rcases hd with rfl | rfl | rfl | rfl | rfl | rfl | rfl
  · exact hw _ (List.mem_of_getElem? (i := 43) rfl)
  · exact hw _ (List.mem_of_getElem? (i := 42) rfl)
  · exact hw _ (List.mem_of_getElem? (i := 16) rfl)
  · exact hw _ (List.mem_of_getElem? (i := 69) rfl)
  · exact hw _ (List.mem_of_getElem? (i := 70) rfl)
  · exact hw _ (List.mem_of_getElem? (i := 71) rfl)
  · exact hw _ (List.mem_of_getElem? (i := 72) rfl)
/-! walks that may load String constants cold: the invariant of RW14 beside the Stand over the start with the tables at hand -/
def OwnC (Z : State) (EL : List (String × Nat)) (s : State) (vm : Vm) (h : Heap) : Prop := (∃ k0, s.Since vm k0 ∧ k0 ≤ h.size) ∧ CHr Z EL s.vm s.heap vm h
section OwnCold
variable {Z : State} {EL : List (String × Nat)} {s : State} {vm vm1 : Vm} {h h' : Heap} {aa : Array Value}
theorem OwnC.start (hh : s.heap = h) (H : CHv Z EL s.vm h) : OwnC Z EL s s.vm h := by
  subst hh
  exact ⟨⟨s.heap.size, ((State.WarmedH.refl s).since _), Nat.le_refl _⟩, CHr.refl H⟩
theorem OwnC.ext (C : OwnC Z EL s vm h) (E : Ext h h') : OwnC Z EL s vm h' := by
  obtain ⟨⟨k, a, b⟩, c⟩ := C
  exact ⟨⟨k, a, Nat.le_trans b E.1⟩, c.trans (CHr.ext E c.1)⟩
theorem OwnC.wr {a : Addr} {sl : Nat} {v : Value} (C : OwnC Z EL s vm h) (W : Wr h h' a sl v) (S : Safe Z EL vm h a) : OwnC Z EL s vm h' := by
  obtain ⟨⟨k, a, b⟩, c⟩ := C
  exact ⟨⟨k, a, Nat.le_trans b (Keep.of_wr W).1⟩, c.trans (CHr.wr W S c.1)⟩
theorem OwnC.keep {ws : List Addr} (C : OwnC Z EL s vm h) (K : Keep h h' ws) (S : ∀ x ∈ ws, Safe Z EL vm h x) : OwnC Z EL s vm h' := by
  obtain ⟨⟨k, a, b⟩, c⟩ := C
  exact ⟨⟨k, a, Nat.le_trans b K.1⟩, c.trans (CHr.keep K S c.1)⟩
theorem OwnC.reb (C : OwnC Z EL s vm h) (h2 : (s.setVm vm).Since vm1 h'.size) (g : h.size ≤ h'.size) (q : CHr Z EL vm h vm1 h') : OwnC Z EL s vm1 h' := by
  obtain ⟨⟨k, a, b⟩, c⟩ := C
  exact ⟨⟨h'.size, a.trans h2 (Nat.le_trans b g), Nat.le_refl _⟩, c.trans q⟩
theorem own_safeNull {x : Addr} (hal : Z.vm.Alike vm) (E : Exa Z h x "java/lang/String") (F : Fld Z h x "java/lang/String" "value" "[B" .null) : Safe Z EL vm h x := fun B => by
  obtain ⟨cell, k, e1, e2, e3, -, -⟩ := E
  obtain ⟨p, -, u, a, -, q, -, FB, rfl | rfl⟩ := B
  · obtain ⟨cS, ⟨⟨s1, s2, s3, ⟨cv, kv, iv, s4, s4'⟩, -, s6, s7, s8, -⟩, -⟩, -⟩ := FB
    obtain ⟨cell1, cf1, kf1, i1, fc, g1, g2, g3, g4, g5, g6, g7⟩ := F
    obtain ⟨kv', z4⟩ := ff_back (U := Wst Z vm h) hal s4
    cases (show h[q.sa]? = some q.sC from s1).symm.trans g1
    have e4 := z4.symm.trans g2
    simp only [Option.some.injEq, Prod.mk.injEq] at e4
    rw [← e4.2.2.2, s8] at g7
    cases g7
  · cases (show h[q.sd]? = some q.SA from FB.hd).symm.trans e1
    obtain ⟨cS, -, -, f, -⟩ := FB
    have f' : vm.findClass "[B" = some q.SA.cls := f
    rw [hal.findClass] at f'
    obtain ⟨k1, q1, q2⟩ := Vm.findClass_spec f'
    obtain ⟨k2, q3, q4⟩ := Vm.findClass_spec e2
    cases q1.symm.trans q3
    have := q2.symm.trans q4
    exact absurd this (by decide)
/-- the walk's goal: it ends, returning what Qv says; what is booked says its units -/
def OwnEndW (Z : State) (EL : List (String × Nat)) (p : Program) (e : Env) (below : List Frame) (s : State) (Qv : Option Value → Heap → List Loc → Prop) (k n : Nat) (A : State) : Prop :=
  ∃ s₂ o, Steps p.tables e below A s₂ ∧ s₂.status = .running ∧ Ended s₂ below o ∧ ∃ v L, o = .returned v ∧ Qv v s₂.heap L ∧ CHr Z EL s.vm s.heap s₂.vm s₂.heap ∧ ReturnedEndW s o s₂ L k n
theorem own_stepW {p : Program} {e : Env} {below : List Frame} {Qv : Option Value → Heap → List Loc → Prop} {k n : Nat} {A B : State} (h : ∀ t, Steps p.tables e below B t → Steps p.tables e below A t) (q : OwnEndW Z EL p e below s Qv k n B) : OwnEndW Z EL p e below s Qv k n A := by
  obtain ⟨s₂, o, h1, h2⟩ := q
  exact ⟨s₂, o, h _ h1, h2⟩
theorem own_W {p : Program} {e : Env} {below : List Frame} {Qv : Option Value → Heap → List Loc → Prop} {k n : Nat} {A : State} (hZ : Z.Warmed39 (s.setVm vm).vm) (w : EW Z aa EL) (C : OwnC Z EL s vm h) (q : OwnEnd p e below (s.setVm vm) (fun v g L => Qv v g L ∧ g = h) k n A) : OwnEndW Z EL p e below s Qv k n A := by
  obtain ⟨s₂, o, st, run, en, v, L, rfl, ⟨hq, hg⟩, hr, hW, hs⟩ := q
  obtain ⟨⟨k0, hS, hk⟩, hC⟩ := C
  obtain ⟨a, b, c⟩ := hS.ended (U := s₂) hW (by rw [hg]; exact hk) hs
  have z := CHv.later (h' := h) hZ (hW := (show (Wst Z vm h).Warmed39 s₂.vm from hW.wide)) w ⟨Nat.le_refl _, fun _ _ q => q⟩ (Or.inl hW.interned_eq) hC.1
  refine ⟨s₂, _, st, run, en, v, L, rfl, hq, ?_, ⟨v, rfl⟩, a, b, c⟩
  rw [hg]
  exact hC.trans ⟨z.1, Nat.le_refl _, z.2⟩
end OwnCold
/-! a constructor with an exception table whose walk throws nothing but may book a constant: its payer and its call -/
section OwnWith
variable {p : Program} {l : Launch} {e : Env} {R : Room} {s : State} {m : MethodId} {args : Array Value} {below : List Frame} {Z : State} {a0 : Array Value} {EL : List (String × Nat)} {h : Heap} {vm0 : Vm}
theorem own_backSW {y : MethodName} {bytes : ByteArray} {maxL : Nat} {ret : Option FieldType} {hs : List (Nat × Nat × Nat × Nat)} {rm : Room} {len W : Nat} {as' : Array Value} {Q : Option Value → Heap → List Loc → Prop}
    (hM : MetFree l y (head1 [Cond.codeWith y bytes maxL ret hs] rm) (fun a U => a = as' ∧ Z.Warmed39 U.vm ∧ U.heap = h ∧ CHv Z EL U.vm h) (fun _ _ _ _ _ => True) (fun _ U o U' => ∃ v L, o = .returned v ∧ Q v U'.heap L ∧ CHr Z EL U.vm U.heap U'.vm U'.heap ∧ ReturnedEndW U o U' L rm.cells rm.slots))
    (hZ : Z.Warmed39 vm0) (wc : (Cond.codeWith y bytes maxL ret hs).before a0 Z = true) (wz : (Cond.initialized y.cls).before a0 Z = true) (hf : rm.frames + 1 ≤ R.frames) (hl : W + (maxL + 11) + rm.locals ≤ R.locals) (hEL : EW Z a0 EL) (H : CHv Z EL vm0 h) :
    BackS l R p e below (s.setVm vm0) args y len W (fun A a => a = as' ∧ A.U.heap = h ∧ A.cells + rm.cells ≤ R.cells ∧ A.slots + rm.slots ≤ R.slots)
      (fun A _ v B => ∃ L, Q v B.U.heap L ∧ B.locs = A.locs ++ L ∧ B.cells = A.cells + rm.cells ∧ B.slots = A.slots + rm.slots ∧ CHr Z EL vm0 h B.U.vm B.U.heap) := by
  intro m meth c A g ig mk a X hg hsize hdg hW hn hp
  rcases A with ⟨U, Ls, c0, s0⟩
  obtain ⟨ha, hh, hc, hsl⟩ := hp
  dsimp only [Pt.U, Pt.locs, Pt.cells, Pt.slots] at X hn hh hc hsl ⊢
  subst hg
  have hU : Z.Warmed39 U.vm := wtrans (s := s.setVm vm0) hZ X.warmed
  have hcode : (Cond.codeWith y bytes maxL ret hs).before a U = true := mv hU wc
  obtain ⟨mk', mY, cY, n1, n2, n3, -, n5, -⟩ := Cond.codeWith_spec hcode
  obtain rfl : mk' = mk := Option.some.inj (n1.symm.trans hn)
  obtain ⟨kY, hkY, -⟩ := className_of_methodNamed hn
  have happ : (head1 [Cond.codeWith y bytes maxL ret hs] rm).appliesLoose y e.platform (U.calling g mk' a) = true :=
    Spec.appliesLoose_calling (g := g) X.here hdg hn hkY (Cond.initialized_spec (args := a) (findClass_of_methodNamed hn) hkY (mv hU wz)) (X.room_calling (g := g) (R' := rm) hsize n2 n3 hf (by rw [n5]; omega) hc hsl) (by show (Cond.and _ .tt).before a U = true; rw [Cond.before_and, hcode]; rfl)
  obtain ⟨mid, hmid⟩ := X.here.above
  obtain ⟨o, t, go, -, hend, v, L, rfl, hq, hr, hw⟩ := Steps.callFree hM p X.admits X.cas X.clock (acts := []) (by rw [State.frames_setTop' g X.here.top, hmid]; rfl : (U.setTop g).frames = (.java g :: mid) ++ below) happ ⟨ha, hU, hh, (CHv.at X hZ hEL H).1⟩ trivial
  rw [State.frames_setTop' g X.here.top] at hend
  obtain ⟨c2, i2, k2, z1, z2, z3⟩ := hend
  obtain ⟨-, w1, w2, w3⟩ := (show ReturnedEndW (U.calling g mk' a) (.returned v) t L rm.cells rm.slots from hw)
  have hUt : U.Warmed39 t.vm := w1
  obtain rfl : c2 = c := Option.some.inj (z1.symm.trans ((by rw [State.code?_eq, State.code?_eq, hUt.alike.method?] : t.code? g.method = U.code? g.method).trans X.here.code))
  obtain rfl : k2 = len := by rw [hdg] at z2; cases z2; rfl
  obtain ⟨f0, hf0⟩ := Option.isSome_iff_exists.mp X.here.top
  obtain ⟨r, hr0⟩ := State.topJava?_eq_some.mp hf0
  have hsame : U.sameButNew ({ U with heap := t.heap, slotsUsed := t.slotsUsed } : State) L rm.cells rm.slots := by
    refine ⟨?_, w3.2⟩
    obtain ⟨f1, hf1, -⟩ := State.frames_cons hr0
    show ({ U with heap := t.heap, slotsUsed := t.slotsUsed } : State) = { U.setFrames U.frames with heap := t.heap, slotsUsed := t.slotsUsed }
    rw [State.setFrames_self hf1]
  have ht : t = (({ U with heap := t.heap, slotsUsed := t.slotsUsed } : State).setVm t.vm).setTop { g with pc := g.pc + k2, stack := v.toList ++ g.stack } := by
    have q2 : t = ({ (U.calling g mk' a).setFrames t.frames with heap := t.heap, slotsUsed := t.slotsUsed } : State).setVm t.vm := by
      have q1 : t = ({ t with vm := (U.calling g mk' a).vm } : State).setVm t.vm := rfl
      rw [w3.1] at q1
      exact q1
    refine q2.trans ?_
    rw [z3, State.calling_eq X.here.top, State.setTop_of_frames _ (show (({ U with heap := t.heap, slotsUsed := t.slotsUsed } : State).setVm t.vm).frames = .java f0 :: r from hr0), hr0, State.setFrames_setFrames]
    rfl
  obtain ⟨X', hS⟩ := X.movedW (T₂ := (({ U with heap := t.heap, slotsUsed := t.slotsUsed } : State).setVm t.vm)) ((X.here.setHeapUsed t.heap t.slotsUsed).setVm hUt.alike) X.tail rfl rfl hUt w2 hsame
  refine ⟨v, ⟨(({ U with heap := t.heap, slotsUsed := t.slotsUsed } : State).setVm t.vm), Ls ++ L, c0 + rm.cells, s0 + rm.slots⟩, X', hS, hsame.2.1, ⟨L, hq, rfl, rfl, rfl, (CHv.at X hZ hEL H).trans (by have z : CHr Z EL U.vm U.heap t.vm t.heap := hr; rw [hh] at z; exact z)⟩, ?_⟩
  show Steps p.tables e below _ ((({ U with heap := t.heap, slotsUsed := t.slotsUsed } : State).setVm t.vm).setTop { g with pc := g.pc + k2, stack := v.toList ++ g.stack })
  rw [← ht]
  exact go
variable {meth : Method} {c : Code} {T : State} {locs : List Loc} {cells slots : Nat}
theorem own_specialBackHS (X : Stand p l e R s m args below meth c T locs cells slots) (hx : p.tables.exec = Jvm.exec) {own : String} {index : Nat} {y : MethodName} (hy1 : y.name = "<init>")
    (hown : s.vm.findClass own = some m.cls) (hlink : (Cond.methodLink own index y).before args s = true) (hinst : (Cond.instanceMethod y).before args s = true)
    {bytes : ByteArray} {maxL : Nat} {hs : List (Nat × Nat × Nat × Nat)} (hcode : (Cond.codeWith y bytes maxL none hs).before args s = true)
    (hy : y.cls ≠ "java/lang/invoke/MethodHandle" ∧ y.cls ≠ "java/lang/invoke/VarHandle")
    {W : Nat} {Pre : Pt → Array Value → Prop} {Post : Pt → Array Value → Option Value → Pt → Prop} (hK : BackS l R p e below s args y 3 W Pre Post)
    {g : JFrame} (hg : g.method = m) (hsize : g.locals.size = c.maxLocals) {s₀ : State} (come : Steps p.tables e below s₀ (T.setTop g)) {a : Addr} {argsL rest : List Value}
    (hlen : ∀ sig, parseMethodDescriptor y.desc = some sig → argsL.length = sig.parameters.length) (hst : g.stack = argsL.reverse ++ .ref a :: rest) (hW : 2 * g.monitorRoom + (rest.map fun v => v.category).sum ≤ W)
    (hd : decode c.code g.pc = .ok (.invokespecial index, 3)) (hpre : ∀ vm₁, s.WarmedH vm₁ → Pre ⟨T.setVm vm₁, locs, cells, slots⟩ (.ref a :: argsL).toArray) :
    ∃ (v : Option Value) (vm₁ : Vm) (B : Pt), s.WarmedH vm₁ ∧ Stand p l e R (s.setVm B.U.vm) m args below meth c B.U B.locs B.cells B.slots ∧ s.Since B.U.vm B.U.heap.size ∧ T.heap.size ≤ B.U.heap.size ∧ Post ⟨T.setVm vm₁, locs, cells, slots⟩ (.ref a :: argsL).toArray v B ∧
      Steps p.tables e below s₀ (B.U.setTop { g with pc := g.pc + 3, stack := v.toList ++ rest }) := by
  obtain ⟨mk, _, _, _, vm1, hn, -, -, -, -, -, -, -, w1, enter⟩ := Steps.initColdArgsH (e := e) X.here hx X.warmed (by rw [X.admits.platform]) hown hy1 hy hlink hinst hcode (f := g) hg hlen hst hd
  have Y := X.noted w1
  obtain ⟨v, B, q1, q2, q3, q4, q5⟩ := hK m meth c ⟨T.setVm vm1, locs, cells, slots⟩ { g with stack := rest } (.invokespecial index) mk (.ref a :: argsL).toArray Y hg hsize hd hW (Y.named hn) (hpre vm1 w1)
  refine ⟨v, vm1, B, w1, q1, q2, q3, q4, (come.trans (enter _ fun acts => ?_)).trans q5⟩
  rw [doInvoke_state]
  exact Steps.refl _
end OwnWith
theorem dci_0 : decode jdk_41_method_11_code 0 = .ok (.iload_n 0, 1) := by decide +kernel
theorem dci_1 : decode jdk_41_method_11_code 1 = .ok (.ifCond .lt 8, 3) := by decide +kernel
theorem dci_4 : decode jdk_41_method_11_code 4 = .ok (.iload_n 0, 1) := by decide +kernel
theorem dci_5 : decode jdk_41_method_11_code 5 = .ok (.iload_n 1, 1) := by decide +kernel
theorem dci_6 : decode jdk_41_method_11_code 6 = .ok (.if_icmp .lt 10, 3) := by decide +kernel
theorem dci_16 : decode jdk_41_method_11_code 16 = .ok (.iload_n 0, 1) := by decide +kernel
theorem dci_17 : decode jdk_41_method_11_code 17 = .ok (.ireturn, 1) := by decide +kernel
theorem pnci : plainName "jdk/internal/util/Preconditions" = true := by first | (simp [plainName, overriddenIn]; done) | decide +kernel
theorem efci (m : MethodId) (p0 : Int32) (p1 : Int32) (x2 : Value) (hr_x2 : x2.isRef = true) : entryFrame m #[(.int p0), (.int p1), x2] 3 = mkF m 0 #[.val (.int p0), .val (.int p1), .val x2] [] := by
  rcases ref_cases hr_x2 with rfl | ⟨_, rfl⟩
  · rfl
  rfl
def fci (p0 : Int32) : Int32 := p0
def Qci (Z : State) (p0 : Int32) (p1 : Int32) (x2 : Value) (h0 : Heap) (n0 : Nat) (v : Option Value) (h : Heap) (L : List Loc) : Prop := v = some (.int (fci p0)) ∧ Fr n0 L ∧ h = h0
set_option maxRecDepth 65536 in
set_option maxHeartbeats 40000000 in
theorem rmci (l : Launch) (Z : State) (aa : Array Value) (hw : ∀ d ∈ tables_1, d.before aa Z = true) (ws : List Jvm.Cond) (p0 : Int32) (p1 : Int32) (x2 : Value) (h0 : Heap) (n0 : Nat) (Z0 : n0 ≤ h0.size) (hr_x2 : x2.isRef = true) (hlo : ¬ p0 < (0 : Int32)) (hhi : p0 < p1) :
    MetFree l (⟨"jdk/internal/util/Preconditions", "checkIndex", "(IILjava/util/function/BiFunction;)I"⟩ : MethodName) (head1 (Jvm.Cond.code (⟨"jdk/internal/util/Preconditions", "checkIndex", "(IILjava/util/function/BiFunction;)I"⟩ : MethodName) jdk_41_method_11_code 3 (some .int) :: ws) ({ frames := 0, cells := 0, slots := 0, locals := 0 } : Room)) (fun a U => a = #[(.int p0), (.int p1), x2] ∧ Z.Warmed39 U.vm ∧ U.heap = h0) (fun _ _ _ _ _ => True) (fun _ U o U' => ∃ v L, o = .returned v ∧ Qci Z p0 p1 x2 h0 n0 v U'.heap L ∧ FrameEnd U o U' L ({ frames := 0, cells := 0, slots := 0, locals := 0 } : Room).cells ({ frames := 0, cells := 0, slots := 0, locals := 0 } : Room).slots) := by
  refine MetFree.of_bodySF (plainFor_of_name pnci) hisR ?_
  intro p e s m args below meth c s₁ Bd hml0 hP hK
  obtain ⟨rfl, hZ, hh⟩ := hP
  have hx := Bd.exec
  have hby := Bd.bytes
  have hml : c.maxLocals = 3 := hml0
  have hown : s.vm.findClass "jdk/internal/util/Preconditions" = some m.cls := findClass_of_methodNamed Bd.named
  have hnm := (name_of_methodNamed Bd.named Bd.method).1
  have X0 : Stand p l e ({ frames := 0, cells := 0, slots := 0, locals := 0 } : Room) s m #[(.int p0), (.int p1), x2] below meth c s₁ [] 0 0 := Stand.of_body Bd
  have e0 : s₁.heap = h0 := by rw [← hh, Bd.state]; rfl
  have N0 := Fr.nil n0
  show OwnEnd p e below s (fun v h L => Qci Z p0 p1 x2 h0 n0 v h L) ({ frames := 0, cells := 0, slots := 0, locals := 0 } : Room).cells ({ frames := 0, cells := 0, slots := 0, locals := 0 } : Room).slots (s₁.setTop (entryFrame m #[(.int p0), (.int p1), x2] 3))
  rw [efci m p0 p1 x2 hr_x2]
  generalize hW : OwnEnd p e below s (fun v h L => Qci Z p0 p1 x2 h0 n0 v h L) ({ frames := 0, cells := 0, slots := 0, locals := 0 } : Room).cells ({ frames := 0, cells := 0, slots := 0, locals := 0 } : Room).slots = W
  have stp : ∀ {A B : State}, (∀ t, Steps p.tables e below B t → Steps p.tables e below A t) → W B → W A := by subst hW; exact own_step
  show W (s₁.setTop (mkF m 0 #[.val (.int p0), .val (.int p1), .val x2] []))
  refine stp (fun t k => XS.iloadN X0.here hx rfl (hb hby dci_0) rfl k) ?_
  show W (s₁.setTop (mkF m 1 #[.val (.int p0), .val (.int p1), .val x2] [(.int p0)]))
  refine stp (fun t k => XS.ifNo X0.here hx rfl (hb hby dci_1) rfl ((if0 _ _).trans (flt (hlo)).1) k) ?_
  show W (s₁.setTop (mkF m 4 #[.val (.int p0), .val (.int p1), .val x2] []))
  refine stp (fun t k => XS.iloadN X0.here hx rfl (hb hby dci_4) rfl k) ?_
  show W (s₁.setTop (mkF m 5 #[.val (.int p0), .val (.int p1), .val x2] [(.int p0)]))
  refine stp (fun t k => XS.iloadN X0.here hx rfl (hb hby dci_5) rfl k) ?_
  show W (s₁.setTop (mkF m 6 #[.val (.int p0), .val (.int p1), .val x2] [(.int p1), (.int p0)]))
  refine stp (fun t k => XS.icmpYes X0.here hx rfl (pc0 := 6) (pc' := 16) rfl (hb hby dci_6) rfl ((tlt (hhi)).1) (by decide) (by decide) k) ?_
  show W (s₁.setTop (mkF m 16 #[.val (.int p0), .val (.int p1), .val x2] []))
  refine stp (fun t k => XS.iloadN X0.here hx rfl (hb hby dci_16) rfl k) ?_
  show W (s₁.setTop (mkF m 17 #[.val (.int p0), .val (.int p1), .val x2] [(.int p0)]))
  show W (s₁.setTop (mkF m 17 #[.val (.int p0), .val (.int p1), .val x2] [(.int p0)]))
  rw [← hW]
  exact own_retI X0 hx Bd.notSynchronized Bd.returns (hb hby dci_17) (by show Qci Z p0 p1 x2 h0 n0 _ s₁.heap _; rw [e0]; exact ⟨rfl, N0, rfl⟩) (by decide) (by decide)
theorem dsc_0 : decode jdk_42_method_155_code 0 = .ok (.iload_n 0, 1) := by decide +kernel
theorem dsc_1 : decode jdk_42_method_155_code 1 = .ok (.iload_n 1, 1) := by decide +kernel
theorem dsc_2 : decode jdk_42_method_155_code 2 = .ok (.getstatic 1053, 3) := by decide +kernel
theorem dsc_5 : decode jdk_42_method_155_code 5 = .ok (.invokestatic 1059, 3) := by decide +kernel
theorem dsc_8 : decode jdk_42_method_155_code 8 = .ok (.pop, 1) := by decide +kernel
theorem dsc_9 : decode jdk_42_method_155_code 9 = .ok (.return_, 1) := by decide +kernel
theorem pnsc : plainName "java/lang/String" = true := by first | (simp [plainName, overriddenIn]; done) | decide +kernel
theorem pdsc_0 : parseMethodDescriptor "(IILjava/util/function/BiFunction;)I" = some ⟨[.int, .int, (.object "java/util/function/BiFunction")], some .int⟩ := by decide +kernel
theorem efsc (m : MethodId) (p0 : Int32) (p1 : Int32) : entryFrame m #[(.int p0), (.int p1)] 2 = mkF m 0 #[.val (.int p0), .val (.int p1)] [] := by first | (simp [entryFrame, mkF, argsToLocals, Value.category]; done) | rfl
def Qsc (Z : State) (p0 : Int32) (p1 : Int32) (wc : Int32) (sx : Value) (h0 : Heap) (n0 : Nat) (v : Option Value) (h : Heap) (L : List Loc) : Prop := v = none ∧ Fr n0 L ∧ h = h0
set_option maxRecDepth 65536 in
set_option maxHeartbeats 40000000 in
theorem rmsc (l : Launch) (Z : State) (aa : Array Value) (hw : ∀ d ∈ tables_1, d.before aa Z = true) (ws : List Jvm.Cond) (p0 : Int32) (p1 : Int32) (wc : Int32) (sx : Value) (h0 : Heap) (n0 : Nat) (Z0 : n0 ≤ h0.size) (BW : OwnW Z wc sx) (O0 : Old Z n0 h0) (hlo : ¬ p0 < (0 : Int32)) (hhi : p0 < p1) :
    MetFree l (⟨"java/lang/String", "checkIndex", "(II)V"⟩ : MethodName) (head1 (Jvm.Cond.code (⟨"java/lang/String", "checkIndex", "(II)V"⟩ : MethodName) jdk_42_method_155_code 2 none :: ws) ({ frames := 1, cells := 0, slots := 0, locals := 14 } : Room)) (fun a U => a = #[(.int p0), (.int p1)] ∧ Z.Warmed39 U.vm ∧ U.heap = h0) (fun _ _ _ _ _ => True) (fun _ U o U' => ∃ v L, o = .returned v ∧ Qsc Z p0 p1 wc sx h0 n0 v U'.heap L ∧ FrameEnd U o U' L ({ frames := 1, cells := 0, slots := 0, locals := 14 } : Room).cells ({ frames := 1, cells := 0, slots := 0, locals := 14 } : Room).slots) := by
  refine MetFree.of_bodySF (plainFor_of_name pnsc) hisR ?_
  intro p e s m args below meth c s₁ Bd hml0 hP hK
  obtain ⟨rfl, hZ, hh⟩ := hP
  have hx := Bd.exec
  have hby := Bd.bytes
  have hml : c.maxLocals = 2 := hml0
  have hown : s.vm.findClass "java/lang/String" = some m.cls := findClass_of_methodNamed Bd.named
  have hnm := (name_of_methodNamed Bd.named Bd.method).1
  have X0 : Stand p l e ({ frames := 1, cells := 0, slots := 0, locals := 14 } : Room) s m #[(.int p0), (.int p1)] below meth c s₁ [] 0 0 := Stand.of_body Bd
  have e0 : s₁.heap = h0 := by rw [← hh, Bd.state]; rfl
  have N0 := Fr.nil n0
  show OwnEnd p e below s (fun v h L => Qsc Z p0 p1 wc sx h0 n0 v h L) ({ frames := 1, cells := 0, slots := 0, locals := 14 } : Room).cells ({ frames := 1, cells := 0, slots := 0, locals := 14 } : Room).slots (s₁.setTop (entryFrame m #[(.int p0), (.int p1)] 2))
  rw [efsc m p0 p1]
  generalize hW : OwnEnd p e below s (fun v h L => Qsc Z p0 p1 wc sx h0 n0 v h L) ({ frames := 1, cells := 0, slots := 0, locals := 14 } : Room).cells ({ frames := 1, cells := 0, slots := 0, locals := 14 } : Room).slots = W
  have stp : ∀ {A B : State}, (∀ t, Steps p.tables e below B t → Steps p.tables e below A t) → W B → W A := by subst hW; exact own_step
  obtain ⟨S_cs, hcs, S_si, hr_sx⟩ := id BW
  show W (s₁.setTop (mkF m 0 #[.val (.int p0), .val (.int p1)] []))
  refine stp (fun t k => XS.iloadN X0.here hx rfl (hb hby dsc_0) rfl k) ?_
  show W (s₁.setTop (mkF m 1 #[.val (.int p0), .val (.int p1)] [(.int p0)]))
  refine stp (fun t k => XS.iloadN X0.here hx rfl (hb hby dsc_1) rfl k) ?_
  show W (s₁.setTop (mkF m 2 #[.val (.int p0), .val (.int p1)] [(.int p1), (.int p0)]))
  obtain ⟨Tsc1, Xsc1, esc1, stsc1⟩ := getS2 X0 hx hZ hown (host := "") (Or.inl (hw _ (List.mem_of_getElem? (i := 58) rfl))) Via.refl e0 (S_si.ext O0.2) (g := (mkF m 2 #[.val (.int p0), .val (.int p1)] [(.int p1), (.int p0)])) rfl (hb hby dsc_2)
  refine stp (fun t k => stsc1 t k) ?_
  show W (Tsc1.setTop (mkF m 5 #[.val (.int p0), .val (.int p1)] [sx, (.int p1), (.int p0)]))
  obtain ⟨_, _, ⟨Tscc2, Lscc2, kscc2, nscc2⟩, -, Xscc2, ⟨Lcscc2, hQscc2, lscc2, yscc2, zscc2⟩, stscc2⟩ := Jvm.LawKit.callS Xsc1 hx (y := (⟨"jdk/internal/util/Preconditions", "checkIndex", "(IILjava/util/function/BiFunction;)I"⟩ : MethodName)) hown (mvT hZ (hw _ (List.mem_of_getElem? (i := 143) rfl))) (mvT hZ (hw _ (List.mem_of_getElem? (i := 144) rfl))) (mvT hZ (hw _ (List.mem_of_getElem? (i := 59) rfl))) (mvT hZ (hw _ (List.mem_of_getElem? (i := 145) rfl))) (by decide) (backOf (W := 0) (rmci l Z aa hw [] p0 p1 sx  h0 n0 Z0 hr_sx hlo hhi) hZ (hw _ (List.mem_of_getElem? (i := 145) rfl)) (hw _ (List.mem_of_getElem? (i := 59) rfl)) (by decide) (by decide)) (g := (mkF m 5 #[.val (.int p0), .val (.int p1)] [sx, (.int p1), (.int p0)])) rfl (by rw [hml]; rfl) (argsL := [(.int p0), (.int p1), sx]) (rest := []) (lenOf pdsc_0 rfl) rfl (by show 2 * 0 + _ ≤ _; exact Nat.le_of_eq rfl) (hb hby dsc_5) (fun _ _ => ⟨rfl, esc1, (by decide : 0 + 0 ≤ _), (by decide : 0 + 0 ≤ _)⟩)
  dsimp only [Pt.U, Pt.locs, Pt.cells, Pt.slots] at Xscc2 lscc2 yscc2 zscc2 stscc2 hQscc2
  subst lscc2 yscc2 zscc2
  obtain ⟨rfl, Nscc2q, escc2⟩ := hQscc2
  have Nscc2 := Fr.app N0 Nscc2q
  obtain ⟨lcsct3, Xscc2, Nscc2⟩ : ∃ lc, Stand p l e ({ frames := 1, cells := 0, slots := 0, locals := 14 } : Room) s m #[(.int p0), (.int p1)] below meth c Tscc2 lc 0 0 ∧ Fr n0 lc := ⟨_, Xscc2, Nscc2⟩
  refine stp (fun t k => stscc2 t k) ?_
  show W (Tscc2.setTop (mkF m 8 #[.val (.int p0), .val (.int p1)] [(.int (fci p0))]))
  refine stp (fun t k => XS.pop Xscc2.here hx rfl (hb hby dsc_8) rfl rfl k) ?_
  show W (Tscc2.setTop (mkF m 9 #[.val (.int p0), .val (.int p1)] []))
  show W (Tscc2.setTop (mkF m 9 #[.val (.int p0), .val (.int p1)] []))
  rw [← hW]
  exact own_ret0 Xscc2 hx Bd.notSynchronized Bd.returns (hb hby dsc_9) (by show Qsc Z p0 p1 wc sx h0 n0 _ Tscc2.heap _; rw [escc2]; exact ⟨rfl, Nscc2, rfl⟩) (by decide) (by decide)
theorem dlc_0 : decode jdk_43_method_2_code 0 = .ok (.iload_n 1, 1) := by decide +kernel
theorem dlc_1 : decode jdk_43_method_2_code 1 = .ok (.aload_n 0, 1) := by decide +kernel
theorem dlc_2 : decode jdk_43_method_2_code 2 = .ok (.arraylength, 1) := by decide +kernel
theorem dlc_3 : decode jdk_43_method_2_code 3 = .ok (.invokestatic 9, 3) := by decide +kernel
theorem dlc_6 : decode jdk_43_method_2_code 6 = .ok (.aload_n 0, 1) := by decide +kernel
theorem dlc_7 : decode jdk_43_method_2_code 7 = .ok (.iload_n 1, 1) := by decide +kernel
theorem dlc_8 : decode jdk_43_method_2_code 8 = .ok (.baload, 1) := by decide +kernel
theorem dlc_9 : decode jdk_43_method_2_code 9 = .ok (.sipush 255, 3) := by decide +kernel
theorem dlc_12 : decode jdk_43_method_2_code 12 = .ok (.iand, 1) := by decide +kernel
theorem dlc_13 : decode jdk_43_method_2_code 13 = .ok (.i2c, 1) := by decide +kernel
theorem dlc_14 : decode jdk_43_method_2_code 14 = .ok (.ireturn, 1) := by decide +kernel
theorem pnlc : plainName "java/lang/StringLatin1" = true := by first | (simp [plainName, overriddenIn]; done) | decide +kernel
theorem pdlc_0 : parseMethodDescriptor "(II)V" = some ⟨[.int, .int], none⟩ := by decide +kernel
theorem eflc (m : MethodId) (a0 : Addr) (p1 : Int32) : entryFrame m #[(.ref a0), (.int p1)] 2 = mkF m 0 #[.val (.ref a0), .val (.int p1)] [] := by first | (simp [entryFrame, mkF, argsToLocals, Value.category]; done) | rfl
def flc (x : Int32) : Int32 := (nar .char ((x &&& (255 : Int32)).toUInt32.toUInt16.toUInt32.toInt32))
def Qlc (Z : State) (a0 : Addr) (p1 : Int32) (wc : Int32) (sx : Value) (kb : ClassId) (z : Int32) (vs : List Value) (x : Int32) (h0 : Heap) (n0 : Nat) (v : Option Value) (h : Heap) (L : List Loc) : Prop := v = some (.int (flc x)) ∧ Fr n0 L ∧ h = h0
set_option maxRecDepth 65536 in
set_option maxHeartbeats 40000000 in
theorem rmlc (l : Launch) (Z : State) (aa : Array Value) (hw : ∀ d ∈ tables_1, d.before aa Z = true) (ws : List Jvm.Cond) (a0 : Addr) (p1 : Int32) (wc : Int32) (sx : Value) (kb : ClassId) (z : Int32) (vs : List Value) (x : Int32) (h0 : Heap) (n0 : Nat) (Z0 : n0 ≤ h0.size) (BW : OwnW Z wc sx) (O0 : Old Z n0 h0) (V_a0 : Arv Z h0 a0 kb .byte z vs (.int (0 : Int32))) (hlo : ¬ p1 < (0 : Int32)) (hhi : p1 < z) (hgx : vs.getD p1.toNatClampNeg (.int (0 : Int32)) = .int x) :
    MetFree l (⟨"java/lang/StringLatin1", "charAt", "([BI)C"⟩ : MethodName) (head1 (Jvm.Cond.code (⟨"java/lang/StringLatin1", "charAt", "([BI)C"⟩ : MethodName) jdk_43_method_2_code 2 (some .char) :: ws) ({ frames := 2, cells := 0, slots := 0, locals := 27 } : Room)) (fun a U => a = #[(.ref a0), (.int p1)] ∧ Z.Warmed39 U.vm ∧ U.heap = h0) (fun _ _ _ _ _ => True) (fun _ U o U' => ∃ v L, o = .returned v ∧ Qlc Z a0 p1 wc sx kb z vs x h0 n0 v U'.heap L ∧ FrameEnd U o U' L ({ frames := 2, cells := 0, slots := 0, locals := 27 } : Room).cells ({ frames := 2, cells := 0, slots := 0, locals := 27 } : Room).slots) := by
  refine MetFree.of_bodySF (plainFor_of_name pnlc) hisR ?_
  intro p e s m args below meth c s₁ Bd hml0 hP hK
  obtain ⟨rfl, hZ, hh⟩ := hP
  have hx := Bd.exec
  have hby := Bd.bytes
  have hml : c.maxLocals = 2 := hml0
  have hown : s.vm.findClass "java/lang/StringLatin1" = some m.cls := findClass_of_methodNamed Bd.named
  have hnm := (name_of_methodNamed Bd.named Bd.method).1
  have X0 : Stand p l e ({ frames := 2, cells := 0, slots := 0, locals := 27 } : Room) s m #[(.ref a0), (.int p1)] below meth c s₁ [] 0 0 := Stand.of_body Bd
  have e0 : s₁.heap = h0 := by rw [← hh, Bd.state]; rfl
  have N0 := Fr.nil n0
  show OwnEnd p e below s (fun v h L => Qlc Z a0 p1 wc sx kb z vs x h0 n0 v h L) ({ frames := 2, cells := 0, slots := 0, locals := 27 } : Room).cells ({ frames := 2, cells := 0, slots := 0, locals := 27 } : Room).slots (s₁.setTop (entryFrame m #[(.ref a0), (.int p1)] 2))
  rw [eflc m a0 p1]
  generalize hW : OwnEnd p e below s (fun v h L => Qlc Z a0 p1 wc sx kb z vs x h0 n0 v h L) ({ frames := 2, cells := 0, slots := 0, locals := 27 } : Room).cells ({ frames := 2, cells := 0, slots := 0, locals := 27 } : Room).slots = W
  have stp : ∀ {A B : State}, (∀ t, Steps p.tables e below B t → Steps p.tables e below A t) → W B → W A := by subst hW; exact own_step
  obtain ⟨S_cs, hcs, S_si, hr_sx⟩ := id BW
  show W (s₁.setTop (mkF m 0 #[.val (.ref a0), .val (.int p1)] []))
  refine stp (fun t k => XS.iloadN X0.here hx rfl (hb hby dlc_0) rfl k) ?_
  show W (s₁.setTop (mkF m 1 #[.val (.ref a0), .val (.int p1)] [(.int p1)]))
  refine stp (fun t k => XS.aloadN X0.here hx rfl (hb hby dlc_1) rfl rfl k) ?_
  show W (s₁.setTop (mkF m 2 #[.val (.ref a0), .val (.int p1)] [(.ref a0), (.int p1)]))
  obtain ⟨cllc1, Arlc1, qklc1, qslc1, qnlc1, qhlc1, qglc1⟩ := id V_a0
  refine stp (fun t k => X0.arraylength hx (by rw [e0]; exact Arlc1.1) (State.isArrayOf_alike hZ.alike Arlc1.2.1) (g := (mkF m 2 #[.val (.ref a0), .val (.int p1)] [(.ref a0), (.int p1)])) rfl rfl (hb hby dlc_2) _ k) ?_
  rw [len_of qslc1 qnlc1]
  show W (s₁.setTop (mkF m 3 #[.val (.ref a0), .val (.int p1)] [(.int z), (.int p1)]))
  obtain ⟨_, _, ⟨Tlcc2, Llcc2, klcc2, nlcc2⟩, -, Xlcc2, ⟨Lclcc2, hQlcc2, llcc2, ylcc2, zlcc2⟩, stlcc2⟩ := Jvm.LawKit.callS X0 hx (y := (⟨"java/lang/String", "checkIndex", "(II)V"⟩ : MethodName)) hown (mvT hZ (hw _ (List.mem_of_getElem? (i := 140) rfl))) (mvT hZ (hw _ (List.mem_of_getElem? (i := 141) rfl))) (mvT hZ (hw _ (List.mem_of_getElem? (i := 43) rfl))) (mvT hZ (hw _ (List.mem_of_getElem? (i := 142) rfl))) (by decide) (backOf (W := 0) (rmsc l Z aa hw [] p1 z wc sx h0 n0 Z0 BW O0 hlo hhi) hZ (hw _ (List.mem_of_getElem? (i := 142) rfl)) (hw _ (List.mem_of_getElem? (i := 43) rfl)) (by decide) (by decide)) (g := (mkF m 3 #[.val (.ref a0), .val (.int p1)] [(.int z), (.int p1)])) rfl (by rw [hml]; rfl) (argsL := [(.int p1), (.int z)]) (rest := []) (lenOf pdlc_0 rfl) rfl (by show 2 * 0 + _ ≤ _; exact Nat.le_of_eq rfl) (hb hby dlc_3) (fun _ _ => ⟨rfl, e0, (by decide : 0 + 0 ≤ _), (by decide : 0 + 0 ≤ _)⟩)
  dsimp only [Pt.U, Pt.locs, Pt.cells, Pt.slots] at Xlcc2 llcc2 ylcc2 zlcc2 stlcc2 hQlcc2
  subst llcc2 ylcc2 zlcc2
  obtain ⟨rfl, Nlcc2q, elcc2⟩ := hQlcc2
  have Nlcc2 := Fr.app N0 Nlcc2q
  obtain ⟨lclct3, Xlcc2, Nlcc2⟩ : ∃ lc, Stand p l e ({ frames := 2, cells := 0, slots := 0, locals := 27 } : Room) s m #[(.ref a0), (.int p1)] below meth c Tlcc2 lc 0 0 ∧ Fr n0 lc := ⟨_, Xlcc2, Nlcc2⟩
  refine stp (fun t k => stlcc2 t k) ?_
  show W (Tlcc2.setTop (mkF m 6 #[.val (.ref a0), .val (.int p1)] []))
  refine stp (fun t k => XS.aloadN Xlcc2.here hx rfl (hb hby dlc_6) rfl rfl k) ?_
  show W (Tlcc2.setTop (mkF m 7 #[.val (.ref a0), .val (.int p1)] [(.ref a0)]))
  refine stp (fun t k => XS.iloadN Xlcc2.here hx rfl (hb hby dlc_7) rfl k) ?_
  show W (Tlcc2.setTop (mkF m 8 #[.val (.ref a0), .val (.int p1)] [(.int p1), (.ref a0)]))
  obtain ⟨cllc4, Arlc4, qklc4, qslc4, qnlc4, qhlc4, qglc4⟩ := id V_a0
  have hinlc4 : ¬ (p1 < 0 ∨ cllc4.slots.size ≤ (p1).toNatClampNeg) := inb_of qslc4 ⟨hlo, hhi⟩
  have hatlc4 : cllc4.slots[(p1).toNatClampNeg]? = some (.int x) := qhlc4.at hinlc4 hgx
  refine stp (fun t k => Xlcc2.baloadBytes hx (j := p1) (v := (.int x)) (by rw [elcc2]; exact Arlc4.1) (State.isArrayOf_alike hZ.alike Arlc4.2.1) Arlc4.2.2 hinlc4 hatlc4 (g := (mkF m 8 #[.val (.ref a0), .val (.int p1)] [(.int p1), (.ref a0)])) rfl rfl (hb hby dlc_8) _ k) ?_
  show W (Tlcc2.setTop (mkF m 9 #[.val (.ref a0), .val (.int p1)] [(.int x)]))
  refine stp (fun t k => XS.sipush Xlcc2.here hx rfl (hb hby dlc_9) k) ?_
  show W (Tlcc2.setTop (mkF m 12 #[.val (.ref a0), .val (.int p1)] [(.int (255 : Int32)), (.int x)]))
  refine stp (fun t k => XS.iand Xlcc2.here hx rfl (hb hby dlc_12) rfl k) ?_
  show W (Tlcc2.setTop (mkF m 13 #[.val (.ref a0), .val (.int p1)] [(.int (x &&& (255 : Int32)))]))
  refine stp (fun t k => XS.i2c Xlcc2.here hx rfl (hb hby dlc_13) rfl k) ?_
  show W (Tlcc2.setTop (mkF m 14 #[.val (.ref a0), .val (.int p1)] [(.int ((x &&& (255 : Int32)).toUInt32.toUInt16.toUInt32.toInt32))]))
  show W (Tlcc2.setTop (mkF m 14 #[.val (.ref a0), .val (.int p1)] [(.int ((x &&& (255 : Int32)).toUInt32.toUInt16.toUInt32.toInt32))]))
  rw [← hW]
  exact own_retN Xlcc2 hx Bd.notSynchronized Bd.returns (w := (nar .char ((x &&& (255 : Int32)).toUInt32.toUInt16.toUInt32.toInt32))) (by simp) (hb hby dlc_14) rfl (by show Qlc Z a0 p1 wc sx kb z vs x h0 n0 _ Tlcc2.heap _; rw [elcc2]; exact ⟨rfl, Nlcc2, rfl⟩) (by decide) (by decide)
theorem dil_0 : decode jdk_42_method_154_code 0 = .ok (.getstatic 38, 3) := by decide +kernel
theorem dil_3 : decode jdk_42_method_154_code 3 = .ok (.ifCond .eq 14, 3) := by decide +kernel
theorem dil_6 : decode jdk_42_method_154_code 6 = .ok (.aload_n 0, 1) := by decide +kernel
theorem dil_7 : decode jdk_42_method_154_code 7 = .ok (.getfield 15, 3) := by decide +kernel
theorem dil_10 : decode jdk_42_method_154_code 10 = .ok (.ifCond .ne 7, 3) := by decide +kernel
theorem dil_13 : decode jdk_42_method_154_code 13 = .ok (.iconst 1, 1) := by decide +kernel
theorem dil_14 : decode jdk_42_method_154_code 14 = .ok (.goto 4, 3) := by decide +kernel
theorem dil_17 : decode jdk_42_method_154_code 17 = .ok (.iconst 0, 1) := by decide +kernel
theorem dil_18 : decode jdk_42_method_154_code 18 = .ok (.ireturn, 1) := by decide +kernel
theorem pnil : plainName "java/lang/String" = true := by first | (simp [plainName, overriddenIn]; done) | decide +kernel
theorem efil (m : MethodId) (a0 : Addr) : entryFrame m #[(.ref a0)] 1 = mkF m 0 #[.val (.ref a0)] [] := by first | (simp [entryFrame, mkF, argsToLocals, Value.category]; done) | rfl
def fil (cd : Int32) : Int32 := (if cd = (0 : Int32) then (1 : Int32) else (0 : Int32))
def Qil (Z : State) (a0 : Addr) (wc : Int32) (sx : Value) (cd : Int32) (h0 : Heap) (n0 : Nat) (v : Option Value) (h : Heap) (L : List Loc) : Prop := v = some (.int (fil cd)) ∧ Fr n0 L ∧ h = h0
set_option maxRecDepth 65536 in
set_option maxHeartbeats 40000000 in
theorem rmil (l : Launch) (Z : State) (aa : Array Value) (hw : ∀ d ∈ tables_1, d.before aa Z = true) (ws : List Jvm.Cond) (a0 : Addr) (wc : Int32) (sx : Value) (cd : Int32) (h0 : Heap) (n0 : Nat) (Z0 : n0 ≤ h0.size) (BW : OwnW Z wc sx) (O0 : Old Z n0 h0) (F_coder_a0 : Fld Z h0 a0 "java/lang/String" "coder" "B" (.int cd)) :
    MetFree l (⟨"java/lang/String", "isLatin1", "()Z"⟩ : MethodName) (head1 (Jvm.Cond.code (⟨"java/lang/String", "isLatin1", "()Z"⟩ : MethodName) jdk_42_method_154_code 1 (some .boolean) :: ws) ({ frames := 0, cells := 0, slots := 0, locals := 0 } : Room)) (fun a U => a = #[(.ref a0)] ∧ Z.Warmed39 U.vm ∧ U.heap = h0) (fun _ _ _ _ _ => True) (fun _ U o U' => ∃ v L, o = .returned v ∧ Qil Z a0 wc sx cd h0 n0 v U'.heap L ∧ FrameEnd U o U' L ({ frames := 0, cells := 0, slots := 0, locals := 0 } : Room).cells ({ frames := 0, cells := 0, slots := 0, locals := 0 } : Room).slots) := by
  refine MetFree.of_bodySF (plainFor_of_name pnil) hisR ?_
  intro p e s m args below meth c s₁ Bd hml0 hP hK
  obtain ⟨rfl, hZ, hh⟩ := hP
  have hx := Bd.exec
  have hby := Bd.bytes
  have hml : c.maxLocals = 1 := hml0
  have hown : s.vm.findClass "java/lang/String" = some m.cls := findClass_of_methodNamed Bd.named
  have hnm := (name_of_methodNamed Bd.named Bd.method).1
  have X0 : Stand p l e ({ frames := 0, cells := 0, slots := 0, locals := 0 } : Room) s m #[(.ref a0)] below meth c s₁ [] 0 0 := Stand.of_body Bd
  have e0 : s₁.heap = h0 := by rw [← hh, Bd.state]; rfl
  have N0 := Fr.nil n0
  show OwnEnd p e below s (fun v h L => Qil Z a0 wc sx cd h0 n0 v h L) ({ frames := 0, cells := 0, slots := 0, locals := 0 } : Room).cells ({ frames := 0, cells := 0, slots := 0, locals := 0 } : Room).slots (s₁.setTop (entryFrame m #[(.ref a0)] 1))
  rw [efil m a0]
  generalize hW : OwnEnd p e below s (fun v h L => Qil Z a0 wc sx cd h0 n0 v h L) ({ frames := 0, cells := 0, slots := 0, locals := 0 } : Room).cells ({ frames := 0, cells := 0, slots := 0, locals := 0 } : Room).slots = W
  have stp : ∀ {A B : State}, (∀ t, Steps p.tables e below B t → Steps p.tables e below A t) → W B → W A := by subst hW; exact own_step
  obtain ⟨S_cs, hcs, S_si, hr_sx⟩ := id BW
  show W (s₁.setTop (mkF m 0 #[.val (.ref a0)] []))
  obtain ⟨Til1, Xil1, eil1, stil1⟩ := getS2 X0 hx hZ hown (host := "") (Or.inl (hw _ (List.mem_of_getElem? (i := 90) rfl))) Via.refl e0 (S_cs.ext O0.2) (g := (mkF m 0 #[.val (.ref a0)] [])) rfl (hb hby dil_0)
  refine stp (fun t k => stil1 t k) ?_
  show W (Til1.setTop (mkF m 3 #[.val (.ref a0)] [(.int wc)]))
  refine stp (fun t k => XS.ifNo Xil1.here hx rfl (hb hby dil_3) rfl ((if0 _ _).trans (feq (hcs)).1) k) ?_
  show W (Til1.setTop (mkF m 6 #[.val (.ref a0)] []))
  refine stp (fun t k => XS.aloadN Xil1.here hx rfl (hb hby dil_6) rfl rfl k) ?_
  show W (Til1.setTop (mkF m 7 #[.val (.ref a0)] [(.ref a0)]))
  obtain ⟨Til2, Xil2, eil2, stil2⟩ := getF Xil1 hx hZ hown (host := "") (Or.inl (hw _ (List.mem_of_getElem? (i := 74) rfl))) Via.refl eil1 F_coder_a0 (g := (mkF m 7 #[.val (.ref a0)] [(.ref a0)])) rfl rfl (hb hby dil_7)
  refine stp (fun t k => stil2 t k) ?_
  show W (Til2.setTop (mkF m 10 #[.val (.ref a0)] [(.int cd)]))
  by_cases hcil_3 : cd = (0 : Int32)
  · refine stp (fun t k => XS.ifNo Xil2.here hx rfl (hb hby dil_10) rfl ((if0 _ _).trans (teq hcil_3).2) k) ?_
    show W (Til2.setTop (mkF m 13 #[.val (.ref a0)] []))
    refine stp (fun t k => XS.iconst Xil2.here hx rfl (hb hby dil_13) k) ?_
    show W (Til2.setTop (mkF m 14 #[.val (.ref a0)] [(.int (1 : Int32))]))
    refine stp (fun t k => XS.goto Xil2.here hx rfl (pc0 := 14) (pc' := 18) rfl (hb hby dil_14) (by decide) (by decide) k) ?_
    show W (Til2.setTop (mkF m 18 #[.val (.ref a0)] [(.int (1 : Int32))]))
    show W (Til2.setTop (mkF m 18 #[.val (.ref a0)] [(.int (1 : Int32))]))
    rw [← hW]
    exact own_retN Xil2 hx Bd.notSynchronized Bd.returns (w := (1 : Int32)) (by simp) (hb hby dil_18) rfl (by show Qil Z a0 wc sx cd h0 n0 _ Til2.heap _; rw [eil2]; exact ⟨(by rw [fil, if_pos hcil_3]), N0, rfl⟩) (by decide) (by decide)
  · refine stp (fun t k => XS.ifYes Xil2.here hx rfl (pc0 := 10) (pc' := 17) rfl (hb hby dil_10) rfl ((if0 _ _).trans (feq hcil_3).2) (by decide) (by decide) k) ?_
    show W (Til2.setTop (mkF m 17 #[.val (.ref a0)] []))
    refine stp (fun t k => XS.iconst Xil2.here hx rfl (hb hby dil_17) k) ?_
    show W (Til2.setTop (mkF m 18 #[.val (.ref a0)] [(.int (0 : Int32))]))
    show W (Til2.setTop (mkF m 18 #[.val (.ref a0)] [(.int (0 : Int32))]))
    rw [← hW]
    exact own_retN Xil2 hx Bd.notSynchronized Bd.returns (w := (0 : Int32)) (by simp) (hb hby dil_18) rfl (by show Qil Z a0 wc sx cd h0 n0 _ Til2.heap _; rw [eil2]; exact ⟨(by rw [fil, if_neg hcil_3]), N0, rfl⟩) (by decide) (by decide)
theorem dco_0 : decode jdk_42_method_152_code 0 = .ok (.getstatic 38, 3) := by decide +kernel
theorem dco_3 : decode jdk_42_method_152_code 3 = .ok (.ifCond .eq 10, 3) := by decide +kernel
theorem dco_6 : decode jdk_42_method_152_code 6 = .ok (.aload_n 0, 1) := by decide +kernel
theorem dco_7 : decode jdk_42_method_152_code 7 = .ok (.getfield 15, 3) := by decide +kernel
theorem dco_10 : decode jdk_42_method_152_code 10 = .ok (.goto 4, 3) := by decide +kernel
theorem dco_14 : decode jdk_42_method_152_code 14 = .ok (.ireturn, 1) := by decide +kernel
theorem pnco : plainName "java/lang/String" = true := by first | (simp [plainName, overriddenIn]; done) | decide +kernel
theorem efco (m : MethodId) (a0 : Addr) : entryFrame m #[(.ref a0)] 1 = mkF m 0 #[.val (.ref a0)] [] := by first | (simp [entryFrame, mkF, argsToLocals, Value.category]; done) | rfl
def fco (cd : Int32) : Int32 := (nar .byte cd)
def Qco (Z : State) (a0 : Addr) (wc : Int32) (sx : Value) (cd : Int32) (h0 : Heap) (n0 : Nat) (v : Option Value) (h : Heap) (L : List Loc) : Prop := v = some (.int (fco cd)) ∧ Fr n0 L ∧ h = h0
set_option maxRecDepth 65536 in
set_option maxHeartbeats 40000000 in
theorem rmco (l : Launch) (Z : State) (aa : Array Value) (hw : ∀ d ∈ tables_1, d.before aa Z = true) (ws : List Jvm.Cond) (a0 : Addr) (wc : Int32) (sx : Value) (cd : Int32) (h0 : Heap) (n0 : Nat) (Z0 : n0 ≤ h0.size) (BW : OwnW Z wc sx) (O0 : Old Z n0 h0) (F_coder_a0 : Fld Z h0 a0 "java/lang/String" "coder" "B" (.int cd)) :
    MetFree l (⟨"java/lang/String", "coder", "()B"⟩ : MethodName) (head1 (Jvm.Cond.code (⟨"java/lang/String", "coder", "()B"⟩ : MethodName) jdk_42_method_152_code 1 (some .byte) :: ws) ({ frames := 0, cells := 0, slots := 0, locals := 0 } : Room)) (fun a U => a = #[(.ref a0)] ∧ Z.Warmed39 U.vm ∧ U.heap = h0) (fun _ _ _ _ _ => True) (fun _ U o U' => ∃ v L, o = .returned v ∧ Qco Z a0 wc sx cd h0 n0 v U'.heap L ∧ FrameEnd U o U' L ({ frames := 0, cells := 0, slots := 0, locals := 0 } : Room).cells ({ frames := 0, cells := 0, slots := 0, locals := 0 } : Room).slots) := by
  refine MetFree.of_bodySF (plainFor_of_name pnco) hisR ?_
  intro p e s m args below meth c s₁ Bd hml0 hP hK
  obtain ⟨rfl, hZ, hh⟩ := hP
  have hx := Bd.exec
  have hby := Bd.bytes
  have hml : c.maxLocals = 1 := hml0
  have hown : s.vm.findClass "java/lang/String" = some m.cls := findClass_of_methodNamed Bd.named
  have hnm := (name_of_methodNamed Bd.named Bd.method).1
  have X0 : Stand p l e ({ frames := 0, cells := 0, slots := 0, locals := 0 } : Room) s m #[(.ref a0)] below meth c s₁ [] 0 0 := Stand.of_body Bd
  have e0 : s₁.heap = h0 := by rw [← hh, Bd.state]; rfl
  have N0 := Fr.nil n0
  show OwnEnd p e below s (fun v h L => Qco Z a0 wc sx cd h0 n0 v h L) ({ frames := 0, cells := 0, slots := 0, locals := 0 } : Room).cells ({ frames := 0, cells := 0, slots := 0, locals := 0 } : Room).slots (s₁.setTop (entryFrame m #[(.ref a0)] 1))
  rw [efco m a0]
  generalize hW : OwnEnd p e below s (fun v h L => Qco Z a0 wc sx cd h0 n0 v h L) ({ frames := 0, cells := 0, slots := 0, locals := 0 } : Room).cells ({ frames := 0, cells := 0, slots := 0, locals := 0 } : Room).slots = W
  have stp : ∀ {A B : State}, (∀ t, Steps p.tables e below B t → Steps p.tables e below A t) → W B → W A := by subst hW; exact own_step
  obtain ⟨S_cs, hcs, S_si, hr_sx⟩ := id BW
  show W (s₁.setTop (mkF m 0 #[.val (.ref a0)] []))
  obtain ⟨Tco1, Xco1, eco1, stco1⟩ := getS2 X0 hx hZ hown (host := "") (Or.inl (hw _ (List.mem_of_getElem? (i := 90) rfl))) Via.refl e0 (S_cs.ext O0.2) (g := (mkF m 0 #[.val (.ref a0)] [])) rfl (hb hby dco_0)
  refine stp (fun t k => stco1 t k) ?_
  show W (Tco1.setTop (mkF m 3 #[.val (.ref a0)] [(.int wc)]))
  refine stp (fun t k => XS.ifNo Xco1.here hx rfl (hb hby dco_3) rfl ((if0 _ _).trans (feq (hcs)).1) k) ?_
  show W (Tco1.setTop (mkF m 6 #[.val (.ref a0)] []))
  refine stp (fun t k => XS.aloadN Xco1.here hx rfl (hb hby dco_6) rfl rfl k) ?_
  show W (Tco1.setTop (mkF m 7 #[.val (.ref a0)] [(.ref a0)]))
  obtain ⟨Tco2, Xco2, eco2, stco2⟩ := getF Xco1 hx hZ hown (host := "") (Or.inl (hw _ (List.mem_of_getElem? (i := 74) rfl))) Via.refl eco1 F_coder_a0 (g := (mkF m 7 #[.val (.ref a0)] [(.ref a0)])) rfl rfl (hb hby dco_7)
  refine stp (fun t k => stco2 t k) ?_
  show W (Tco2.setTop (mkF m 10 #[.val (.ref a0)] [(.int cd)]))
  refine stp (fun t k => XS.goto Xco2.here hx rfl (pc0 := 10) (pc' := 14) rfl (hb hby dco_10) (by decide) (by decide) k) ?_
  show W (Tco2.setTop (mkF m 14 #[.val (.ref a0)] [(.int cd)]))
  show W (Tco2.setTop (mkF m 14 #[.val (.ref a0)] [(.int cd)]))
  rw [← hW]
  exact own_retN Xco2 hx Bd.notSynchronized Bd.returns (w := (nar .byte cd)) (by simp) (hb hby dco_14) rfl (by show Qco Z a0 wc sx cd h0 n0 _ Tco2.heap _; rw [eco2]; exact ⟨rfl, N0, rfl⟩) (by decide) (by decide)
theorem dcL_0 : decode jdk_42_method_56_code 0 = .ok (.aload_n 0, 1) := by decide +kernel
theorem dcL_1 : decode jdk_42_method_56_code 1 = .ok (.invokevirtual 492, 3) := by decide +kernel
theorem dcL_4 : decode jdk_42_method_56_code 4 = .ok (.ifCond .eq 12, 3) := by decide +kernel
theorem dcL_7 : decode jdk_42_method_56_code 7 = .ok (.aload_n 0, 1) := by decide +kernel
theorem dcL_8 : decode jdk_42_method_56_code 8 = .ok (.getfield 9, 3) := by decide +kernel
theorem dcL_11 : decode jdk_42_method_56_code 11 = .ok (.iload_n 1, 1) := by decide +kernel
theorem dcL_12 : decode jdk_42_method_56_code 12 = .ok (.invokestatic 495, 3) := by decide +kernel
theorem dcL_15 : decode jdk_42_method_56_code 15 = .ok (.ireturn, 1) := by decide +kernel
theorem pncL : plainName "java/lang/String" = true := by first | (simp [plainName, overriddenIn]; done) | decide +kernel
theorem pdcL_0 : parseMethodDescriptor "()Z" = some ⟨[], some .boolean⟩ := by decide +kernel
theorem pdcL_1 : parseMethodDescriptor "([BI)C" = some ⟨[(.array .byte), .int], some .char⟩ := by decide +kernel
theorem efcL (m : MethodId) (a0 : Addr) (p1 : Int32) : entryFrame m #[(.ref a0), (.int p1)] 2 = mkF m 0 #[.val (.ref a0), .val (.int p1)] [] := by first | (simp [entryFrame, mkF, argsToLocals, Value.category]; done) | rfl
def fcL (x : Int32) : Int32 := (nar .char (flc x))
def QcL (Z : State) (a0 : Addr) (p1 : Int32) (wc : Int32) (sx : Value) (b : Addr) (kb : ClassId) (z : Int32) (vs : List Value) (x : Int32) (h0 : Heap) (n0 : Nat) (v : Option Value) (h : Heap) (L : List Loc) : Prop := v = some (.int (fcL x)) ∧ Fr n0 L ∧ h = h0
set_option maxRecDepth 65536 in
set_option maxHeartbeats 40000000 in
theorem rmcL (l : Launch) (Z : State) (aa : Array Value) (hw : ∀ d ∈ tables_1, d.before aa Z = true) (ws : List Jvm.Cond) (a0 : Addr) (p1 : Int32) (wc : Int32) (sx : Value) (b : Addr) (kb : ClassId) (z : Int32) (vs : List Value) (x : Int32) (h0 : Heap) (n0 : Nat) (Z0 : n0 ≤ h0.size) (BW : OwnW Z wc sx) (O0 : Old Z n0 h0) (E_a0 : Exa Z h0 a0 "java/lang/String") (F_value_a0 : Fld Z h0 a0 "java/lang/String" "value" "[B" (.ref b)) (F_coder_a0 : Fld Z h0 a0 "java/lang/String" "coder" "B" (.int (0 : Int32))) (V_b : Arv Z h0 b kb .byte z vs (.int (0 : Int32))) (hlo : ¬ p1 < (0 : Int32)) (hhi : p1 < z) (hgx : vs.getD p1.toNatClampNeg (.int (0 : Int32)) = .int x) :
    MetFree l (⟨"java/lang/String", "charAt", "(I)C"⟩ : MethodName) (head1 (Jvm.Cond.code (⟨"java/lang/String", "charAt", "(I)C"⟩ : MethodName) jdk_42_method_56_code 2 (some .char) :: ws) ({ frames := 3, cells := 0, slots := 0, locals := 40 } : Room)) (fun a U => a = #[(.ref a0), (.int p1)] ∧ Z.Warmed39 U.vm ∧ U.heap = h0) (fun _ _ _ _ _ => True) (fun _ U o U' => ∃ v L, o = .returned v ∧ QcL Z a0 p1 wc sx b kb z vs x h0 n0 v U'.heap L ∧ FrameEnd U o U' L ({ frames := 3, cells := 0, slots := 0, locals := 40 } : Room).cells ({ frames := 3, cells := 0, slots := 0, locals := 40 } : Room).slots) := by
  refine MetFree.of_bodySF (plainFor_of_name pncL) hisR ?_
  intro p e s m args below meth c s₁ Bd hml0 hP hK
  obtain ⟨rfl, hZ, hh⟩ := hP
  have hx := Bd.exec
  have hby := Bd.bytes
  have hml : c.maxLocals = 2 := hml0
  have hown : s.vm.findClass "java/lang/String" = some m.cls := findClass_of_methodNamed Bd.named
  have hnm := (name_of_methodNamed Bd.named Bd.method).1
  have X0 : Stand p l e ({ frames := 3, cells := 0, slots := 0, locals := 40 } : Room) s m #[(.ref a0), (.int p1)] below meth c s₁ [] 0 0 := Stand.of_body Bd
  have e0 : s₁.heap = h0 := by rw [← hh, Bd.state]; rfl
  have N0 := Fr.nil n0
  show OwnEnd p e below s (fun v h L => QcL Z a0 p1 wc sx b kb z vs x h0 n0 v h L) ({ frames := 3, cells := 0, slots := 0, locals := 40 } : Room).cells ({ frames := 3, cells := 0, slots := 0, locals := 40 } : Room).slots (s₁.setTop (entryFrame m #[(.ref a0), (.int p1)] 2))
  rw [efcL m a0 p1]
  generalize hW : OwnEnd p e below s (fun v h L => QcL Z a0 p1 wc sx b kb z vs x h0 n0 v h L) ({ frames := 3, cells := 0, slots := 0, locals := 40 } : Room).cells ({ frames := 3, cells := 0, slots := 0, locals := 40 } : Room).slots = W
  have stp : ∀ {A B : State}, (∀ t, Steps p.tables e below B t → Steps p.tables e below A t) → W B → W A := by subst hW; exact own_step
  obtain ⟨S_cs, hcs, S_si, hr_sx⟩ := id BW
  show W (s₁.setTop (mkF m 0 #[.val (.ref a0), .val (.int p1)] []))
  refine stp (fun t k => XS.aloadN X0.here hx rfl (hb hby dcL_0) rfl rfl k) ?_
  show W (s₁.setTop (mkF m 1 #[.val (.ref a0), .val (.int p1)] [(.ref a0)]))
  obtain ⟨cqcLc1, kqcLc1, qcLc1a, qcLc1b, qcLc1c⟩ := isOf hZ e0 E_a0
  obtain ⟨_, _, ⟨TcLc1, LcLc1, kcLc1, ncLc1⟩, -, XcLc1, ⟨LccLc1, hQcLc1, lcLc1, ycLc1, zcLc1⟩, stcLc1⟩ := X0.virtualBack hx (y := (⟨"java/lang/String", "isLatin1", "()Z"⟩ : MethodName)) (z := (⟨"java/lang/String", "isLatin1", "()Z"⟩ : MethodName)) hown (mvT hZ (hw _ (List.mem_of_getElem? (i := 131) rfl))) (mvT hZ (hw _ (List.mem_of_getElem? (i := 132) rfl))) (notFace_of_selects (args := #[]) (mvT hZ (hw _ (List.mem_of_getElem? (i := 134) rfl)))) (mvT hZ (hw _ (List.mem_of_getElem? (i := 134) rfl))) (mvT hZ (hw _ (List.mem_of_getElem? (i := 133) rfl))) (by decide) (backOf (W := 0) (rmil l Z aa hw [] a0 wc sx (0 : Int32) h0 n0 Z0 BW O0 F_coder_a0) hZ (hw _ (List.mem_of_getElem? (i := 135) rfl)) (hw _ (List.mem_of_getElem? (i := 43) rfl)) (by decide) (by decide)) qcLc1a qcLc1c (g := (mkF m 1 #[.val (.ref a0), .val (.int p1)] [(.ref a0)])) rfl (by rw [hml]; rfl) (Steps.refl _) (argsL := []) (rest := []) (lenOf pdcL_0 rfl) rfl (by show 2 * 0 + _ ≤ _; exact Nat.le_of_eq rfl) (hb hby dcL_1) (fun _ _ => ⟨rfl, e0, (by decide : 0 + 0 ≤ _), (by decide : 0 + 0 ≤ _)⟩)
  dsimp only [Pt.U, Pt.locs, Pt.cells, Pt.slots] at XcLc1 lcLc1 ycLc1 zcLc1 stcLc1 hQcLc1
  subst lcLc1 ycLc1 zcLc1
  obtain ⟨rfl, NcLc1q, ecLc1⟩ := hQcLc1
  have NcLc1 := Fr.app N0 NcLc1q
  obtain ⟨lccLt2, XcLc1, NcLc1⟩ : ∃ lc, Stand p l e ({ frames := 3, cells := 0, slots := 0, locals := 40 } : Room) s m #[(.ref a0), (.int p1)] below meth c TcLc1 lc 0 0 ∧ Fr n0 lc := ⟨_, XcLc1, NcLc1⟩
  refine stp (fun t k => stcLc1.trans k) ?_
  show W (TcLc1.setTop (mkF m 4 #[.val (.ref a0), .val (.int p1)] [(.int (fil (0 : Int32)))]))
  refine stp (fun t k => XS.ifNo XcLc1.here hx rfl (hb hby dcL_4) rfl ((if0 _ _).trans (feq (by decide)).1) k) ?_
  show W (TcLc1.setTop (mkF m 7 #[.val (.ref a0), .val (.int p1)] []))
  refine stp (fun t k => XS.aloadN XcLc1.here hx rfl (hb hby dcL_7) rfl rfl k) ?_
  show W (TcLc1.setTop (mkF m 8 #[.val (.ref a0), .val (.int p1)] [(.ref a0)]))
  obtain ⟨TcL3, XcL3, ecL3, stcL3⟩ := getF XcLc1 hx hZ hown (host := "") (Or.inl (hw _ (List.mem_of_getElem? (i := 73) rfl))) Via.refl ecLc1 F_value_a0 (g := (mkF m 8 #[.val (.ref a0), .val (.int p1)] [(.ref a0)])) rfl rfl (hb hby dcL_8)
  refine stp (fun t k => stcL3 t k) ?_
  show W (TcL3.setTop (mkF m 11 #[.val (.ref a0), .val (.int p1)] [(.ref b)]))
  refine stp (fun t k => XS.iloadN XcL3.here hx rfl (hb hby dcL_11) rfl k) ?_
  show W (TcL3.setTop (mkF m 12 #[.val (.ref a0), .val (.int p1)] [(.int p1), (.ref b)]))
  obtain ⟨_, _, ⟨TcLc4, LcLc4, kcLc4, ncLc4⟩, -, XcLc4, ⟨LccLc4, hQcLc4, lcLc4, ycLc4, zcLc4⟩, stcLc4⟩ := Jvm.LawKit.callS XcL3 hx (y := (⟨"java/lang/StringLatin1", "charAt", "([BI)C"⟩ : MethodName)) hown (mvT hZ (hw _ (List.mem_of_getElem? (i := 136) rfl))) (mvT hZ (hw _ (List.mem_of_getElem? (i := 137) rfl))) (mvT hZ (hw _ (List.mem_of_getElem? (i := 138) rfl))) (mvT hZ (hw _ (List.mem_of_getElem? (i := 139) rfl))) (by decide) (backOf (W := 0) (rmlc l Z aa hw [] b p1 wc sx kb z vs x h0 n0 Z0 BW O0 V_b hlo hhi hgx) hZ (hw _ (List.mem_of_getElem? (i := 139) rfl)) (hw _ (List.mem_of_getElem? (i := 138) rfl)) (by decide) (by decide)) (g := (mkF m 12 #[.val (.ref a0), .val (.int p1)] [(.int p1), (.ref b)])) rfl (by rw [hml]; rfl) (argsL := [(.ref b), (.int p1)]) (rest := []) (lenOf pdcL_1 rfl) rfl (by show 2 * 0 + _ ≤ _; exact Nat.le_of_eq rfl) (hb hby dcL_12) (fun _ _ => ⟨rfl, ecL3, (by decide : 0 + 0 ≤ _), (by decide : 0 + 0 ≤ _)⟩)
  dsimp only [Pt.U, Pt.locs, Pt.cells, Pt.slots] at XcLc4 lcLc4 ycLc4 zcLc4 stcLc4 hQcLc4
  subst lcLc4 ycLc4 zcLc4
  obtain ⟨rfl, NcLc4q, ecLc4⟩ := hQcLc4
  have NcLc4 := Fr.app NcLc1 NcLc4q
  obtain ⟨lccLt5, XcLc4, NcLc4⟩ : ∃ lc, Stand p l e ({ frames := 3, cells := 0, slots := 0, locals := 40 } : Room) s m #[(.ref a0), (.int p1)] below meth c TcLc4 lc 0 0 ∧ Fr n0 lc := ⟨_, XcLc4, NcLc4⟩
  refine stp (fun t k => stcLc4 t k) ?_
  show W (TcLc4.setTop (mkF m 15 #[.val (.ref a0), .val (.int p1)] [(.int (flc x))]))
  show W (TcLc4.setTop (mkF m 15 #[.val (.ref a0), .val (.int p1)] [(.int (flc x))]))
  rw [← hW]
  exact own_retN XcLc4 hx Bd.notSynchronized Bd.returns (w := (nar .char (flc x))) (by simp) (hb hby dcL_15) rfl (by show QcL Z a0 p1 wc sx b kb z vs x h0 n0 _ TcLc4.heap _; rw [ecLc4]; exact ⟨rfl, NcLc4, rfl⟩) (by decide) (by decide)
theorem own_narC {c : Int32} (h0 : 0 ≤ c.toInt) (h1 : c.toInt < 65536) : nar .char c = c := own_i2c h0 h1
theorem own_fcL {c : Int32} (h0 : 0 ≤ c.toInt) (h1 : c.toInt < 256) : fcL (own_b c) = c := by
  have e : flc (own_b c) = c := by
    show nar .char (own_cL (own_b c)) = c
    rw [own_decL h0 h1, own_narC h0 (by omega)]
  show nar .char (flc (own_b c)) = c
  rw [e, own_narC h0 (by omega)]
theorem own_u0 (g : Nat → Int32) (i : Nat) : own_u g (2 * i) = own_lo (g i) := by
  unfold own_u
  rw [if_pos (by omega), show 2 * i / 2 = i from by omega]
theorem own_u1 (g : Nat → Int32) (i : Nat) : own_u g (2 * i + 1) = own_hi (g i) := by
  unfold own_u
  rw [if_neg (by omega), show (2 * i + 1) / 2 = i from by omega]
/-- charAt on a String whose chars are known -/
def QcA (Z : State) (a0_ : Addr) (p1 : Int32) (g : Nat → Int32) (i : Nat) (h0 : Heap) (n0 : Nat) (v : Option Value) (h : Heap) (L : List Loc) : Prop := v = some (.int (g i)) ∧ Fr n0 L ∧ h = h0
theorem rmcA (l : Launch) (Z : State) (aa : Array Value) (hw : ∀ d ∈ tables_1, d.before aa Z = true) (ws : List Jvm.Cond) (a0_ : Addr) (p1 : Int32) (wc : Int32) (sx : Value) (b : Addr) (n : Nat) (g : Nat → Int32) (i : Nat) (h0 : Heap) (n0 : Nat) (Z0 : n0 ≤ h0.size) (BW : OwnW Z wc sx) (O0 : Old Z n0 h0) (S : OwnStr Z h0 a0_ b n g) (hn : n ≤ 4000) (hch : ∀ j, j < n → 0 ≤ (g j).toInt ∧ (g j).toInt < 65536) (hi : p1.toInt = i) (hlt : i < n) :
    MetFree l (⟨"java/lang/String", "charAt", "(I)C"⟩ : MethodName) (head1 (Jvm.Cond.code (⟨"java/lang/String", "charAt", "(I)C"⟩ : MethodName) jdk_42_method_56_code 2 (some .char) :: ws) ({ frames := 3, cells := 0, slots := 0, locals := 40 } : Room)) (fun a U => a = #[(.ref a0_), (.int p1)] ∧ Z.Warmed39 U.vm ∧ U.heap = h0) (fun _ _ _ _ _ => True) (fun _ U o U' => ∃ v L, o = .returned v ∧ QcA Z a0_ p1 g i h0 n0 v U'.heap L ∧ FrameEnd U o U' L ({ frames := 3, cells := 0, slots := 0, locals := 40 } : Room).cells ({ frames := 3, cells := 0, slots := 0, locals := 40 } : Room).slots) := by
  obtain ⟨E, F, ⟨C, q, k, V⟩ | C⟩ := S
  · have hz := own_ofNat (n := n) (by omega)
    refine own_mono (rmcL l Z aa hw ws a0_ p1 wc sx b k (Int32.ofNat n) (own_vs n fun j => own_b (g j)) (own_b (g i)) h0 n0 Z0 BW O0 E F C V (own_nn hi) ((own_lt32 hi hz).mpr hlt) (by rw [own_clamp hi, own_vsGet hlt])) ?_
    rintro a s o t ⟨v, L, ho, ⟨hv, N, hh⟩, hF⟩
    exact ⟨v, L, ho, ⟨by rw [hv, own_fcL (hch i hlt).1 (q i hlt)], N, hh⟩, hF⟩
  · exact C.elim
theorem dln_0 : decode jdk_42_method_54_code 0 = .ok (.aload_n 0, 1) := by decide +kernel
theorem dln_1 : decode jdk_42_method_54_code 1 = .ok (.getfield 9, 3) := by decide +kernel
theorem dln_4 : decode jdk_42_method_54_code 4 = .ok (.arraylength, 1) := by decide +kernel
theorem dln_5 : decode jdk_42_method_54_code 5 = .ok (.aload_n 0, 1) := by decide +kernel
theorem dln_6 : decode jdk_42_method_54_code 6 = .ok (.invokevirtual 335, 3) := by decide +kernel
theorem dln_9 : decode jdk_42_method_54_code 9 = .ok (.ishr, 1) := by decide +kernel
theorem dln_10 : decode jdk_42_method_54_code 10 = .ok (.ireturn, 1) := by decide +kernel
theorem pnln : plainName "java/lang/String" = true := by first | (simp [plainName, overriddenIn]; done) | decide +kernel
theorem pdln_0 : parseMethodDescriptor "()B" = some ⟨[], some .byte⟩ := by decide +kernel
theorem efln (m : MethodId) (a0 : Addr) : entryFrame m #[(.ref a0)] 1 = mkF m 0 #[.val (.ref a0)] [] := by first | (simp [entryFrame, mkF, argsToLocals, Value.category]; done) | rfl
def fln (z : Int32) (cd : Int32) : Int32 := (z >>> ((fco cd) &&& 31))
def Qln (Z : State) (a0 : Addr) (wc : Int32) (sx : Value) (cd : Int32) (b : Addr) (kb : ClassId) (z : Int32) (vs : List Value) (h0 : Heap) (n0 : Nat) (v : Option Value) (h : Heap) (L : List Loc) : Prop := v = some (.int (fln z cd)) ∧ Fr n0 L ∧ h = h0
set_option maxRecDepth 65536 in
set_option maxHeartbeats 40000000 in
theorem rmln (l : Launch) (Z : State) (aa : Array Value) (hw : ∀ d ∈ tables_1, d.before aa Z = true) (ws : List Jvm.Cond) (a0 : Addr) (wc : Int32) (sx : Value) (cd : Int32) (b : Addr) (kb : ClassId) (z : Int32) (vs : List Value) (h0 : Heap) (n0 : Nat) (Z0 : n0 ≤ h0.size) (BW : OwnW Z wc sx) (O0 : Old Z n0 h0) (E_a0 : Exa Z h0 a0 "java/lang/String") (F_value_a0 : Fld Z h0 a0 "java/lang/String" "value" "[B" (.ref b)) (F_coder_a0 : Fld Z h0 a0 "java/lang/String" "coder" "B" (.int cd)) (V_b : Arv Z h0 b kb .byte z vs (.int (0 : Int32))) :
    MetFree l (⟨"java/lang/String", "length", "()I"⟩ : MethodName) (head1 (Jvm.Cond.code (⟨"java/lang/String", "length", "()I"⟩ : MethodName) jdk_42_method_54_code 1 (some .int) :: ws) ({ frames := 1, cells := 0, slots := 0, locals := 13 } : Room)) (fun a U => a = #[(.ref a0)] ∧ Z.Warmed39 U.vm ∧ U.heap = h0) (fun _ _ _ _ _ => True) (fun _ U o U' => ∃ v L, o = .returned v ∧ Qln Z a0 wc sx cd b kb z vs h0 n0 v U'.heap L ∧ FrameEnd U o U' L ({ frames := 1, cells := 0, slots := 0, locals := 13 } : Room).cells ({ frames := 1, cells := 0, slots := 0, locals := 13 } : Room).slots) := by
  refine MetFree.of_bodySF (plainFor_of_name pnln) hisR ?_
  intro p e s m args below meth c s₁ Bd hml0 hP hK
  obtain ⟨rfl, hZ, hh⟩ := hP
  have hx := Bd.exec
  have hby := Bd.bytes
  have hml : c.maxLocals = 1 := hml0
  have hown : s.vm.findClass "java/lang/String" = some m.cls := findClass_of_methodNamed Bd.named
  have hnm := (name_of_methodNamed Bd.named Bd.method).1
  have X0 : Stand p l e ({ frames := 1, cells := 0, slots := 0, locals := 13 } : Room) s m #[(.ref a0)] below meth c s₁ [] 0 0 := Stand.of_body Bd
  have e0 : s₁.heap = h0 := by rw [← hh, Bd.state]; rfl
  have N0 := Fr.nil n0
  show OwnEnd p e below s (fun v h L => Qln Z a0 wc sx cd b kb z vs h0 n0 v h L) ({ frames := 1, cells := 0, slots := 0, locals := 13 } : Room).cells ({ frames := 1, cells := 0, slots := 0, locals := 13 } : Room).slots (s₁.setTop (entryFrame m #[(.ref a0)] 1))
  rw [efln m a0]
  generalize hW : OwnEnd p e below s (fun v h L => Qln Z a0 wc sx cd b kb z vs h0 n0 v h L) ({ frames := 1, cells := 0, slots := 0, locals := 13 } : Room).cells ({ frames := 1, cells := 0, slots := 0, locals := 13 } : Room).slots = W
  have stp : ∀ {A B : State}, (∀ t, Steps p.tables e below B t → Steps p.tables e below A t) → W B → W A := by subst hW; exact own_step
  obtain ⟨S_cs, hcs, S_si, hr_sx⟩ := id BW
  show W (s₁.setTop (mkF m 0 #[.val (.ref a0)] []))
  refine stp (fun t k => XS.aloadN X0.here hx rfl (hb hby dln_0) rfl rfl k) ?_
  show W (s₁.setTop (mkF m 1 #[.val (.ref a0)] [(.ref a0)]))
  obtain ⟨Tln1, Xln1, eln1, stln1⟩ := getF X0 hx hZ hown (host := "") (Or.inl (hw _ (List.mem_of_getElem? (i := 73) rfl))) Via.refl e0 F_value_a0 (g := (mkF m 1 #[.val (.ref a0)] [(.ref a0)])) rfl rfl (hb hby dln_1)
  refine stp (fun t k => stln1 t k) ?_
  show W (Tln1.setTop (mkF m 4 #[.val (.ref a0)] [(.ref b)]))
  obtain ⟨clln2, Arln2, qkln2, qsln2, qnln2, qhln2, qgln2⟩ := id V_b
  refine stp (fun t k => Xln1.arraylength hx (by rw [eln1]; exact Arln2.1) (State.isArrayOf_alike hZ.alike Arln2.2.1) (g := (mkF m 4 #[.val (.ref a0)] [(.ref b)])) rfl rfl (hb hby dln_4) _ k) ?_
  rw [len_of qsln2 qnln2]
  show W (Tln1.setTop (mkF m 5 #[.val (.ref a0)] [(.int z)]))
  refine stp (fun t k => XS.aloadN Xln1.here hx rfl (hb hby dln_5) rfl rfl k) ?_
  show W (Tln1.setTop (mkF m 6 #[.val (.ref a0)] [(.ref a0), (.int z)]))
  obtain ⟨cqlnc3, kqlnc3, qlnc3a, qlnc3b, qlnc3c⟩ := isOf hZ eln1 E_a0
  obtain ⟨_, _, ⟨Tlnc3, Llnc3, klnc3, nlnc3⟩, -, Xlnc3, ⟨Lclnc3, hQlnc3, llnc3, ylnc3, zlnc3⟩, stlnc3⟩ := Xln1.virtualBack hx (y := (⟨"java/lang/String", "coder", "()B"⟩ : MethodName)) (z := (⟨"java/lang/String", "coder", "()B"⟩ : MethodName)) hown (mvT hZ (hw _ (List.mem_of_getElem? (i := 85) rfl))) (mvT hZ (hw _ (List.mem_of_getElem? (i := 86) rfl))) (notFace_of_selects (args := #[]) (mvT hZ (hw _ (List.mem_of_getElem? (i := 88) rfl)))) (mvT hZ (hw _ (List.mem_of_getElem? (i := 88) rfl))) (mvT hZ (hw _ (List.mem_of_getElem? (i := 87) rfl))) (by decide) (backOf (W := 1) (rmco l Z aa hw [] a0 wc sx cd h0 n0 Z0 BW O0 F_coder_a0) hZ (hw _ (List.mem_of_getElem? (i := 89) rfl)) (hw _ (List.mem_of_getElem? (i := 43) rfl)) (by decide) (by decide)) qlnc3a qlnc3c (g := (mkF m 6 #[.val (.ref a0)] [(.ref a0), (.int z)])) rfl (by rw [hml]; rfl) (Steps.refl _) (argsL := []) (rest := [(.int z)]) (lenOf pdln_0 rfl) rfl (by show 2 * 0 + _ ≤ _; exact Nat.le_of_eq rfl) (hb hby dln_6) (fun _ _ => ⟨rfl, eln1, (by decide : 0 + 0 ≤ _), (by decide : 0 + 0 ≤ _)⟩)
  dsimp only [Pt.U, Pt.locs, Pt.cells, Pt.slots] at Xlnc3 llnc3 ylnc3 zlnc3 stlnc3 hQlnc3
  subst llnc3 ylnc3 zlnc3
  obtain ⟨rfl, Nlnc3q, elnc3⟩ := hQlnc3
  have Nlnc3 := Fr.app N0 Nlnc3q
  obtain ⟨lclnt4, Xlnc3, Nlnc3⟩ : ∃ lc, Stand p l e ({ frames := 1, cells := 0, slots := 0, locals := 13 } : Room) s m #[(.ref a0)] below meth c Tlnc3 lc 0 0 ∧ Fr n0 lc := ⟨_, Xlnc3, Nlnc3⟩
  refine stp (fun t k => stlnc3.trans k) ?_
  show W (Tlnc3.setTop (mkF m 9 #[.val (.ref a0)] [(.int (fco cd)), (.int z)]))
  refine stp (fun t k => XS.ishr Xlnc3.here hx rfl (hb hby dln_9) rfl k) ?_
  show W (Tlnc3.setTop (mkF m 10 #[.val (.ref a0)] [(.int (z >>> ((fco cd) &&& 31)))]))
  show W (Tlnc3.setTop (mkF m 10 #[.val (.ref a0)] [(.int (z >>> ((fco cd) &&& 31)))]))
  rw [← hW]
  exact own_retI Xlnc3 hx Bd.notSynchronized Bd.returns (hb hby dln_10) (by show Qln Z a0 wc sx cd b kb z vs h0 n0 _ Tlnc3.heap _; rw [elnc3]; exact ⟨rfl, Nlnc3, rfl⟩) (by decide) (by decide)
theorem own_fln0 (z : Int32) : fln z (0 : Int32) = z := by
  show z >>> (nar .byte (0 : Int32) &&& 31) = z
  exact own_shr0 z
theorem own_fln1 {n : Nat} (hn : n ≤ 1000000) : fln (Int32.ofNat (2 * n)) (1 : Int32) = Int32.ofNat n := by
  show Int32.ofNat (2 * n) >>> (nar .byte (1 : Int32) &&& 31) = Int32.ofNat n
  exact own_shr1 hn
def QlA (Z : State) (a0_ : Addr) (n : Nat) (h0 : Heap) (n0 : Nat) (v : Option Value) (h : Heap) (L : List Loc) : Prop := v = some (.int (Int32.ofNat n)) ∧ Fr n0 L ∧ h = h0
theorem rmlA (l : Launch) (Z : State) (aa : Array Value) (hw : ∀ d ∈ tables_1, d.before aa Z = true) (ws : List Jvm.Cond) (a0_ : Addr) (wc : Int32) (sx : Value) (b : Addr) (n : Nat) (g : Nat → Int32) (h0 : Heap) (n0 : Nat) (Z0 : n0 ≤ h0.size) (BW : OwnW Z wc sx) (O0 : Old Z n0 h0) (S : OwnStr Z h0 a0_ b n g) (hn : n ≤ 4000) :
    MetFree l (⟨"java/lang/String", "length", "()I"⟩ : MethodName) (head1 (Jvm.Cond.code (⟨"java/lang/String", "length", "()I"⟩ : MethodName) jdk_42_method_54_code 1 (some .int) :: ws) ({ frames := 1, cells := 0, slots := 0, locals := 13 } : Room)) (fun a U => a = #[(.ref a0_)] ∧ Z.Warmed39 U.vm ∧ U.heap = h0) (fun _ _ _ _ _ => True) (fun _ U o U' => ∃ v L, o = .returned v ∧ QlA Z a0_ n h0 n0 v U'.heap L ∧ FrameEnd U o U' L ({ frames := 1, cells := 0, slots := 0, locals := 13 } : Room).cells ({ frames := 1, cells := 0, slots := 0, locals := 13 } : Room).slots) := by
  obtain ⟨E, F, ⟨C, q, k, V⟩ | C⟩ := S
  · refine own_mono (rmln l Z aa hw ws a0_ wc sx (0 : Int32) b k (Int32.ofNat n) (own_vs n fun j => own_b (g j)) h0 n0 Z0 BW O0 E F C V) ?_
    rintro a s o t ⟨v, L, ho, ⟨hv, N, hh⟩, hF⟩
    exact ⟨v, L, ho, ⟨by rw [hv, own_fln0], N, hh⟩, hF⟩
  · exact C.elim
theorem dmi_0 : decode jdk_29_method_69_code 0 = .ok (.iload_n 0, 1) := by decide +kernel
theorem dmi_1 : decode jdk_29_method_69_code 1 = .ok (.iload_n 1, 1) := by decide +kernel
theorem dmi_2 : decode jdk_29_method_69_code 2 = .ok (.if_icmp .gt 7, 3) := by decide +kernel
theorem dmi_5 : decode jdk_29_method_69_code 5 = .ok (.iload_n 0, 1) := by decide +kernel
theorem dmi_6 : decode jdk_29_method_69_code 6 = .ok (.goto 4, 3) := by decide +kernel
theorem dmi_9 : decode jdk_29_method_69_code 9 = .ok (.iload_n 1, 1) := by decide +kernel
theorem dmi_10 : decode jdk_29_method_69_code 10 = .ok (.ireturn, 1) := by decide +kernel
theorem pnmi : plainFor (⟨"java/lang/Math", "min", "(II)I"⟩ : MethodName) = true := by decide +kernel
theorem efmi (m : MethodId) (p0 : Int32) (p1 : Int32) : entryFrame m #[(.int p0), (.int p1)] 2 = mkF m 0 #[.val (.int p0), .val (.int p1)] [] := by first | (simp [entryFrame, mkF, argsToLocals, Value.category]; done) | rfl
def fmi (p0 : Int32) (p1 : Int32) : Int32 := (if p1 < p0 then p1 else p0)
def Qmi (Z : State) (p0 : Int32) (p1 : Int32) (h0 : Heap) (n0 : Nat) (v : Option Value) (h : Heap) (L : List Loc) : Prop := v = some (.int (fmi p0 p1)) ∧ Fr n0 L ∧ h = h0
set_option maxRecDepth 65536 in
set_option maxHeartbeats 40000000 in
theorem rmmi (l : Launch) (Z : State) (aa : Array Value) (hw : ∀ d ∈ tables_1, d.before aa Z = true) (ws : List Jvm.Cond) (p0 : Int32) (p1 : Int32) (h0 : Heap) (n0 : Nat) (Z0 : n0 ≤ h0.size) :
    MetFree l (⟨"java/lang/Math", "min", "(II)I"⟩ : MethodName) (head1 (Jvm.Cond.code (⟨"java/lang/Math", "min", "(II)I"⟩ : MethodName) jdk_29_method_69_code 2 (some .int) :: ws) ({ frames := 0, cells := 0, slots := 0, locals := 0 } : Room)) (fun a U => a = #[(.int p0), (.int p1)] ∧ Z.Warmed39 U.vm ∧ U.heap = h0) (fun _ _ _ _ _ => True) (fun _ U o U' => ∃ v L, o = .returned v ∧ Qmi Z p0 p1 h0 n0 v U'.heap L ∧ FrameEnd U o U' L ({ frames := 0, cells := 0, slots := 0, locals := 0 } : Room).cells ({ frames := 0, cells := 0, slots := 0, locals := 0 } : Room).slots) := by
  refine MetFree.of_bodySF pnmi hisR ?_
  intro p e s m args below meth c s₁ Bd hml0 hP hK
  obtain ⟨rfl, hZ, hh⟩ := hP
  have hx := Bd.exec
  have hby := Bd.bytes
  have hml : c.maxLocals = 2 := hml0
  have hown : s.vm.findClass "java/lang/Math" = some m.cls := findClass_of_methodNamed Bd.named
  have hnm := (name_of_methodNamed Bd.named Bd.method).1
  have X0 : Stand p l e ({ frames := 0, cells := 0, slots := 0, locals := 0 } : Room) s m #[(.int p0), (.int p1)] below meth c s₁ [] 0 0 := Stand.of_body Bd
  have e0 : s₁.heap = h0 := by rw [← hh, Bd.state]; rfl
  have N0 := Fr.nil n0
  show OwnEnd p e below s (fun v h L => Qmi Z p0 p1 h0 n0 v h L) ({ frames := 0, cells := 0, slots := 0, locals := 0 } : Room).cells ({ frames := 0, cells := 0, slots := 0, locals := 0 } : Room).slots (s₁.setTop (entryFrame m #[(.int p0), (.int p1)] 2))
  rw [efmi m p0 p1]
  generalize hW : OwnEnd p e below s (fun v h L => Qmi Z p0 p1 h0 n0 v h L) ({ frames := 0, cells := 0, slots := 0, locals := 0 } : Room).cells ({ frames := 0, cells := 0, slots := 0, locals := 0 } : Room).slots = W
  have stp : ∀ {A B : State}, (∀ t, Steps p.tables e below B t → Steps p.tables e below A t) → W B → W A := by subst hW; exact own_step
  show W (s₁.setTop (mkF m 0 #[.val (.int p0), .val (.int p1)] []))
  refine stp (fun t k => XS.iloadN X0.here hx rfl (hb hby dmi_0) rfl k) ?_
  show W (s₁.setTop (mkF m 1 #[.val (.int p0), .val (.int p1)] [(.int p0)]))
  refine stp (fun t k => XS.iloadN X0.here hx rfl (hb hby dmi_1) rfl k) ?_
  show W (s₁.setTop (mkF m 2 #[.val (.int p0), .val (.int p1)] [(.int p1), (.int p0)]))
  by_cases hcmi_1 : p1 < p0
  · refine stp (fun t k => XS.icmpYes X0.here hx rfl (pc0 := 2) (pc' := 9) rfl (hb hby dmi_2) rfl ((tlt hcmi_1).2.2.1) (by decide) (by decide) k) ?_
    show W (s₁.setTop (mkF m 9 #[.val (.int p0), .val (.int p1)] []))
    refine stp (fun t k => XS.iloadN X0.here hx rfl (hb hby dmi_9) rfl k) ?_
    show W (s₁.setTop (mkF m 10 #[.val (.int p0), .val (.int p1)] [(.int p1)]))
    show W (s₁.setTop (mkF m 10 #[.val (.int p0), .val (.int p1)] [(.int p1)]))
    rw [← hW]
    exact own_retI X0 hx Bd.notSynchronized Bd.returns (hb hby dmi_10) (by show Qmi Z p0 p1 h0 n0 _ s₁.heap _; rw [e0]; exact ⟨(by rw [fmi, if_pos hcmi_1]), N0, rfl⟩) (by decide) (by decide)
  · refine stp (fun t k => XS.icmpNo X0.here hx rfl (hb hby dmi_2) rfl ((flt hcmi_1).2.2.1) k) ?_
    show W (s₁.setTop (mkF m 5 #[.val (.int p0), .val (.int p1)] []))
    refine stp (fun t k => XS.iloadN X0.here hx rfl (hb hby dmi_5) rfl k) ?_
    show W (s₁.setTop (mkF m 6 #[.val (.int p0), .val (.int p1)] [(.int p0)]))
    refine stp (fun t k => XS.goto X0.here hx rfl (pc0 := 6) (pc' := 10) rfl (hb hby dmi_6) (by decide) (by decide) k) ?_
    show W (s₁.setTop (mkF m 10 #[.val (.int p0), .val (.int p1)] [(.int p0)]))
    show W (s₁.setTop (mkF m 10 #[.val (.int p0), .val (.int p1)] [(.int p0)]))
    rw [← hW]
    exact own_retI X0 hx Bd.notSynchronized Bd.returns (hb hby dmi_10) (by show Qmi Z p0 p1 h0 n0 _ s₁.heap _; rw [e0]; exact ⟨(by rw [fmi, if_neg hcmi_1]), N0, rfl⟩) (by decide) (by decide)
theorem own_add0 {x : Int32} {i : Nat} (h : x.toInt = (i : Int)) : ((0 : Int32) + x).toInt = (i : Int) := by
  have a := c_iadd 0 x
  have b := rng32 ((0 : Int32) + x)
  have d := rng32 x
  have e : (0 : Int32).toInt = 0 := by decide
  omega
theorem own_sub0 (x : Int32) : x - (0 : Int32) = x := by
  apply Int32.toInt_inj.mp
  have a := c_isub x 0
  have b := rng32 (x - 0)
  have d := rng32 x
  have e : (0 : Int32).toInt = 0 := by decide
  omega
theorem own_ofI {i : Int32} {n : Nat} (h : i.toInt = (n : Int)) (hn : n < 2147483648) : i = Int32.ofNat n := by
  apply Int32.toInt_inj.mp
  rw [own_ofNat hn, h]
theorem own_ge0 {c : Int32} (h : 0 ≤ c.toInt) : ¬ c < (0 : Int32) := fun q => by
  have : c.toInt < (0 : Int32).toInt := Int32.lt_iff_toInt_lt.mp q
  rw [show (0 : Int32).toInt = 0 from by decide] at this
  omega
theorem own_lt128 {c : Int32} (h : c.toInt < 128) : c < (128 : Int32) := by
  rw [Int32.lt_iff_toInt_lt, show (128 : Int32).toInt = 128 from by decide]
  exact h
theorem own_h8 : (8192 : Int32).toInt = ((8192 : Nat) : Int) := by decide
theorem own_b7 {c : Int32} (h0 : 0 ≤ c.toInt) (h1 : c.toInt < 128) : own_b c = c := by
  have h := own_bInt c
  have q := c_i2b (c.toInt8.toInt32)
  apply Int32.toInt_inj.mp
  unfold own_b at h ⊢
  omega
theorem own_stepF (n i : Nat) (g F : Nat → Int32) : (own_vs n fun j => if j < i then own_b (g j) else F j).set i (.int (own_b (g i))) = own_vs n fun j => if j < i + 1 then own_b (g j) else F j := by
  rw [own_vsSet]
  apply own_vsCongr
  intro j _
  by_cases h : j = i
  · subst h; simp
  · by_cases h2 : j < i
    · simp [h, h2, Nat.lt_succ_of_lt h2]
    · have h3 : ¬ j < i + 1 := by omega
      simp [h, h2, h3]
/-! longs -/
theorem own_w0 (x : Int32) : ((0 : Int32).toInt64) + (x.toInt64) = x.toInt64 := by
  apply Int64.toInt_inj.mp
  have a := c_ladd (0 : Int32).toInt64 x.toInt64
  have b := rng64 ((0 : Int32).toInt64 + x.toInt64)
  have c := c_i2l 0
  have d := c_i2l x
  have e : (0 : Int32).toInt = 0 := by decide
  have f := rng64 x.toInt64
  omega
theorem own_wI (x : Int32) : (((0 : Int32).toInt64) + (x.toInt64)).toInt32 = x := by
  rw [own_w0]
  apply Int32.toInt_inj.mp
  have a := c_l2i x.toInt64
  have b := c_i2l x
  have d := rng32 x
  have e := rng32 x.toInt64.toInt32
  omega
theorem own_w8 {x : Int32} {n : Nat} (h : x.toInt = (n : Int)) (hn : n ≤ 8192) : ¬ ((8192 : Int32).toInt64 < ((0 : Int32).toInt64) + (x.toInt64)) := by
  rw [own_w0, Int64.lt_iff_toInt_lt, c_i2l, c_i2l, own_h8]
  omega
theorem own_lim1 {x y : Int32} {n m : Nat} (hx : x.toInt = (n : Int)) (hy : y.toInt = (m : Int)) (hn : n ≤ 4) (hm : m ≤ 4) : ¬ (x.toInt64 + y.toInt64 < ((0 : Int32).toInt64) + (x.toInt64)) := by
  rw [own_w0, Int64.lt_iff_toInt_lt]
  have a := c_ladd x.toInt64 y.toInt64
  have b := rng64 (x.toInt64 + y.toInt64)
  have c := c_i2l x
  have d := c_i2l y
  omega
theorem own_lim2 {x : Int32} {q : Int64} (h : ¬ (q < x.toInt64)) : ¬ (q < ((0 : Int32).toInt64) + (x.toInt64)) := by
  rw [own_w0]
  exact h
theorem own_N (p : Int32) : ∃ n : Nat, ((p &&& (2147483647 : Int32)) % (5 : Int32)).toInt = (n : Int) ∧ n ≤ 4 := by
  have m := c_mask p 2147483647 31 (by decide) (by decide)
  have h := (c_iremV (p &&& 2147483647) 5).1 (by omega) (by decide)
  have e : (5 : Int32).toInt = 5 := by decide
  exact ⟨((p &&& 2147483647) % 5).toInt.toNat, by omega, by omega⟩
theorem own_m3 (p : Int32) : ∃ n : Nat, (p &&& (3 : Int32)).toInt = (n : Int) ∧ n ≤ 3 := by
  have m := c_mask p 3 2 (by decide) (by decide)
  exact ⟨(p &&& 3).toInt.toNat, by omega, by omega⟩
theorem own_ch7 (x : Int32) : 0 ≤ (nar .char ((x &&& (127 : Int32)).toUInt32.toUInt16.toUInt32.toInt32)).toInt ∧ (nar .char ((x &&& (127 : Int32)).toUInt32.toUInt16.toUInt32.toInt32)).toInt < 128 := by
  have m := c_mask x 127 7 (by decide) (by decide)
  have e : (x &&& (127 : Int32)).toUInt32.toUInt16.toUInt32.toInt32 = x &&& 127 := own_i2c (by omega) (by omega)
  rw [e]
  have e2 : nar .char (x &&& 127) = x &&& 127 := own_i2c (by omega) (by omega)
  rw [e2]
  omega
def own_g3 (a b c : Int32) (j : Nat) : Int32 := ([a, b, c] : List Int32).getD j 0
def own_g4 (a b c d : Int32) (j : Nat) : Int32 := ([a, b, c, d] : List Int32).getD j 0
theorem own_g3R {a b c : Int32} (ha : 0 ≤ a.toInt ∧ a.toInt < 128) (hb : 0 ≤ b.toInt ∧ b.toInt < 128) (hc : 0 ≤ c.toInt ∧ c.toInt < 128) : ∀ j, j < 3 → 0 ≤ (own_g3 a b c j).toInt ∧ (own_g3 a b c j).toInt < 128 := fun j hj =>
  match j, hj with
  | 0, _ => ha
  | 1, _ => hb
  | 2, _ => hc
theorem own_g4R {a b c d : Int32} (ha : 0 ≤ a.toInt ∧ a.toInt < 128) (hb : 0 ≤ b.toInt ∧ b.toInt < 128) (hc : 0 ≤ c.toInt ∧ c.toInt < 128) (hd : 0 ≤ d.toInt ∧ d.toInt < 128) : ∀ j, j < 4 → 0 ≤ (own_g4 a b c d j).toInt ∧ (own_g4 a b c d j).toInt < 128 := fun j hj =>
  match j, hj with
  | 0, _ => ha
  | 1, _ => hb
  | 2, _ => hc
  | 3, _ => hd
/-! bounds and the copy -/
theorem own_or0 {x : Int32} {n : Nat} (h : x.toInt = (n : Int)) (hn : n ≤ 4) : ¬ (((8192 : Int32) ||| (0 : Int32)) ||| x) < (0 : Int32) := by
  have e := own_ofI h (by omega)
  subst e
  match n, hn with
  | 0, _ => decide
  | 1, _ => decide
  | 2, _ => decide
  | 3, _ => decide
  | 4, _ => decide
theorem own_bd {x : Int32} {n : Nat} (h : x.toInt = (n : Int)) (hn : n ≤ 4) : ¬ ((8192 : Int32) - (0 : Int32)) < x := by
  rw [own_sub0, Int32.lt_iff_toInt_lt, own_h8]
  omega
theorem own_n8 {x : Int32} {n : Nat} (h : x.toInt = (n : Int)) (hn : n ≤ 4) : ¬ x = (8192 : Int32) := fun q => by
  rw [q, own_h8] at h
  omega
theorem own_c0 : (0 : Int32).toNatClampNeg = 0 := by decide
theorem own_c8 : (8192 : Int32).toNatClampNeg = 8192 := by decide
theorem own_c4 {x : Int32} {n : Nat} (h : x.toInt = (n : Int)) (hn : n ≤ 4) : (0 : Int32).toNatClampNeg + x.toNatClampNeg ≤ (8192 : Int32).toNatClampNeg := by
  rw [own_c0, own_c8, own_clamp h]
  omega
theorem own_c5 (x : Int32) : (0 : Int32).toNatClampNeg + x.toNatClampNeg ≤ x.toNatClampNeg := by
  rw [own_c0]
  omega
theorem own_c6 {x : Int32} {n : Nat} (h : x.toInt = (n : Int)) (F : Nat → Int32) : (0 : Int32).toNatClampNeg + x.toNatClampNeg ≤ (own_vs n F).length := by
  rw [own_c0, own_clamp h, own_vsLen]
  omega
theorem own_us {x : Int32} {n N : Nat} (h : x.toInt = (n : Int)) (hn : n ≤ N) (G : Nat → Int32) (d : Value) : own_vs n G = (List.range x.toNatClampNeg).map fun i => (own_vs N G).getD ((0 : Int32).toNatClampNeg + i) d := by
  rw [own_c0, own_clamp h]
  apply List.map_congr_left
  intro j hj
  rw [Nat.zero_add, own_vsGet (by have := List.mem_range.mp hj; omega)]
theorem own_cpE {x : Int32} {n : Nat} (h : x.toInt = (n : Int)) (F G : Nat → Int32) : (own_vs n F).take (0 : Int32).toNatClampNeg ++ own_vs n G ++ (own_vs n F).drop ((0 : Int32).toNatClampNeg + x.toNatClampNeg) = own_vs n G := by
  rw [own_c0, own_clamp h, Nat.zero_add, List.take_zero, List.nil_append, List.drop_of_length_le (by rw [own_vsLen]; omega), List.append_nil]
theorem own_min8 {x : Int32} {n : Nat} (h : x.toInt = (n : Int)) (hn : n ≤ 4) : fmi (8192 : Int32) x = x := by
  unfold fmi
  rw [if_pos ((own_lt32 h own_h8).mpr (by omega))]
/-! the line buffer and the made String -/
def OwnLB (Z : State) (h : Heap) (a b : Addr) (kb : ClassId) (len : Int32) (lim : Int64) (F : Nat → Int32) : Prop :=
  Exa Z h a "com/example/opuscule/opuscule/json/LineBuffer" ∧ Fld Z h a "com/example/opuscule/opuscule/json/LineBuffer" "bytes" "[B" (.ref b) ∧ Fld Z h a "com/example/opuscule/opuscule/json/LineBuffer" "length" "I" (.int len) ∧ Fld Z h a "com/example/opuscule/opuscule/json/LineBuffer" "limit" "J" (.long lim) ∧ Arv Z h b kb .byte (8192 : Int32) (own_vs 8192 F) (.int (0 : Int32))
section OwnLBLaws
variable {Z : State} {h h' : Heap} {a b o : Addr} {kb : ClassId} {len : Int32} {lim : Int64} {F : Nat → Int32} {sl : Nat} {v : Value} {ws : List Addr}
theorem OwnLB.ext (S : OwnLB Z h a b kb len lim F) (E : Ext h h') : OwnLB Z h' a b kb len lim F := by
  obtain ⟨A, B, C, D, V⟩ := S
  exact ⟨A.ext E, B.ext E, C.ext E, D.ext E, V.ext E⟩
theorem OwnLB.other (S : OwnLB Z h a b kb len lim F) (W : Wr h h' o sl v) (ha : a ≠ o) (hb : b ≠ o) : OwnLB Z h' a b kb len lim F := by
  obtain ⟨A, B, C, D, V⟩ := S
  exact ⟨A.wr W, B.other W (Or.inl ha), C.other W (Or.inl ha), D.other W (Or.inl ha), V.other W hb⟩
theorem OwnLB.keep (S : OwnLB Z h a b kb len lim F) (K : Keep h h' ws) (ha : a ∉ ws) (hb : b ∉ ws) : OwnLB Z h' a b kb len lim F := by
  obtain ⟨A, B, C, D, V⟩ := S
  exact ⟨A.keep K, B.keep K ha, C.keep K ha, D.keep K ha, V.keep K hb⟩
theorem OwnLB.lt0 (S : OwnLB Z h a b kb len lim F) : a < h.size := S.1.lt
theorem OwnLB.lt1 (S : OwnLB Z h a b kb len lim F) : b < h.size := S.2.2.2.2.lt
theorem own_latin {n : Nat} {g : Nat → Int32} (S : OwnStr Z h a b n g) : ∃ k, Fld Z h a "java/lang/String" "value" "[B" (.ref b) ∧ Arv Z h b k .byte (Int32.ofNat n) (own_vs n fun j => own_b (g j)) (.int (0 : Int32)) := by
  obtain ⟨-, F, ⟨-, -, k, V⟩ | C⟩ := S
  · exact ⟨k, F, V⟩
  · exact C.elim
theorem own_arvStr {n : Nat} {k : ClassId} {z : Int32} {G g : Nat → Int32} {d : Value} (hz : z.toInt = (n : Int)) (hn : n ≤ 4) (hG : ∀ j, j < n → G j = own_b (g j)) (V : Arv Z h b k .byte z (own_vs n G) d) : Arv Z h b k .byte (Int32.ofNat n) (own_vs n fun j => own_b (g j)) d := by
  rw [← own_ofI hz (by omega)]
  exact own_arvEq (own_vsCongr hG) V
theorem own_lenEq {x y : Int32} (e : x = y) (F : Fld Z h a "com/example/opuscule/opuscule/json/LineBuffer" "length" "I" (.int x)) : Fld Z h a "com/example/opuscule/opuscule/json/LineBuffer" "length" "I" (.int y) := by subst e; exact F
theorem own_strEq {n n' : Nat} {g : Nat → Int32} (e : n = n') (S : OwnStr Z h a b n g) : OwnStr Z h a b n' g := e ▸ S
theorem own_arv0 {k : ClassId} {d : Value} (V : Arv Z h b k .byte (0 : Int32) [] d) (f : Nat → Int32) : Arv Z h b k .byte (Int32.ofNat 0) (own_vs 0 f) d := V
end OwnLBLaws
theorem own_Gnn {n : Nat} {G g : Nat → Int32} (hg : ∀ j, j < n → 0 ≤ (g j).toInt ∧ (g j).toInt < 128) (hG : ∀ j, j < n → G j = own_b (g j)) : ∀ j, j < n → 0 ≤ (G j).toInt := fun j hj => by
  rw [hG j hj, own_b7 (hg j hj).1 (hg j hj).2]
  exact (hg j hj).1
theorem own_len0 {x : Int32} {n : Nat} (h : x.toInt = (n : Int)) (h0 : n = 0) : x = (0 : Int32) := by
  apply Int32.toInt_inj.mp
  rw [h, h0]
  decide
theorem own_exr {args : Array Value} {Z : State} {t : Term} {C : String} (h : (Jvm.Cond.exactly t C).value args Z none Z [] = some true) : ∃ a, t.eval args Z none [] Z = some (.ref a) := by
  obtain ⟨a, _, _, _, e1, -⟩ := Cond.exactly_spec (Cond.before_iff.mpr h)
  exact ⟨a, e1⟩
theorem own_eqRf {args : Array Value} {Z : State} {t1 t2 : Term} {a b : Addr} (h : (Jvm.Cond.eq t1 t2).value args Z none Z [] = some true) (e1 : t1.eval args Z none [] Z = some (.ref a)) (e2 : t2.eval args Z none [] Z = some (.ref b)) : a = b := by
  simp only [Cond.value, e1, e2] at h
  simpa using h
def OwnCS (Z : State) (kU kI kA : Addr) : Prop := Sta Z Z.heap "sun/nio/cs/UTF_8" "INSTANCE" "Lsun/nio/cs/UTF_8;" (.ref kU) ∧ Sta Z Z.heap "sun/nio/cs/ISO_8859_1" "INSTANCE" "Lsun/nio/cs/ISO_8859_1;" (.ref kI) ∧ Sta Z Z.heap "sun/nio/cs/US_ASCII" "INSTANCE" "Lsun/nio/cs/US_ASCII;" (.ref kA) ∧ Sta Z Z.heap "java/nio/charset/StandardCharsets" "US_ASCII" "Ljava/nio/charset/Charset;" (.ref kA) ∧ kA ≠ kU ∧ kA ≠ kI ∧ Exa Z Z.heap kA "sun/nio/cs/US_ASCII"
theorem dwi_0 : decode jdk_2052_method_2_code 0 = .ok (.aload_n 0, 1) := by decide +kernel
theorem dwi_1 : decode jdk_2052_method_2_code 1 = .ok (.invokespecial 7, 3) := by decide +kernel
theorem dwi_4 : decode jdk_2052_method_2_code 4 = .ok (.aload_n 0, 1) := by decide +kernel
theorem dwi_5 : decode jdk_2052_method_2_code 5 = .ok (.aload_n 0, 1) := by decide +kernel
theorem dwi_6 : decode jdk_2052_method_2_code 6 = .ok (.putfield 10, 3) := by decide +kernel
theorem dwi_9 : decode jdk_2052_method_2_code 9 = .ok (.return_, 1) := by decide +kernel
theorem pnwi : plainName "java/io/Writer" = true := by first | (simp [plainName, overriddenIn]; done) | decide +kernel
theorem efwi (m : MethodId) (a0 : Addr) : entryFrame m #[(.ref a0)] 1 = mkF m 0 #[.val (.ref a0)] [] := by first | (simp [entryFrame, mkF, argsToLocals, Value.category]; done) | rfl
def Qwi (Z : State) (a0 : Addr) (wc : Int32) (sx : Value) (h0 : Heap) (n0 : Nat) (v : Option Value) (h : Heap) (L : List Loc) : Prop := v = none ∧ Fr n0 L ∧ Keep h0 h [a0] ∧ Exa Z h a0 "com/example/opuscule/opuscule/json/LineBuffer" ∧ Fld Z h a0 "com/example/opuscule/opuscule/json/LineBuffer" "bytes" "[B" .null ∧ Fld Z h a0 "com/example/opuscule/opuscule/json/LineBuffer" "length" "I" (.int (0 : Int32)) ∧ Fld Z h a0 "com/example/opuscule/opuscule/json/LineBuffer" "limit" "J" (.long (0 : Int64))
set_option maxRecDepth 65536 in
set_option maxHeartbeats 40000000 in
theorem rmwi (l : Launch) (Z : State) (aa : Array Value) (hw : ∀ d ∈ tables_1, d.before aa Z = true) (ws : List Jvm.Cond) (a0 : Addr) (wc : Int32) (sx : Value) (h0 : Heap) (n0 : Nat) (Z0 : n0 ≤ h0.size) (BW : OwnW Z wc sx) (O0 : Old Z n0 h0) (E_a0 : Exa Z h0 a0 "com/example/opuscule/opuscule/json/LineBuffer") (F_lock_a0 : Fld Z h0 a0 "java/io/Writer" "lock" "Ljava/lang/Object;" .null) (F_bytes_a0 : Fld Z h0 a0 "com/example/opuscule/opuscule/json/LineBuffer" "bytes" "[B" .null) (F_length_a0 : Fld Z h0 a0 "com/example/opuscule/opuscule/json/LineBuffer" "length" "I" (.int (0 : Int32))) (F_limit_a0 : Fld Z h0 a0 "com/example/opuscule/opuscule/json/LineBuffer" "limit" "J" (.long (0 : Int64))) (g_a0 : n0 ≤ a0) :
    MetFree l (⟨"java/io/Writer", "<init>", "()V"⟩ : MethodName) (head1 (Jvm.Cond.code (⟨"java/io/Writer", "<init>", "()V"⟩ : MethodName) jdk_2052_method_2_code 1 none :: ws) ({ frames := 1, cells := 0, slots := 0, locals := 12 } : Room)) (fun a U => a = #[(.ref a0)] ∧ Z.Warmed39 U.vm ∧ U.heap = h0) (fun _ _ _ _ _ => True) (fun _ U o U' => ∃ v L, o = .returned v ∧ Qwi Z a0 wc sx h0 n0 v U'.heap L ∧ FrameEnd U o U' L ({ frames := 1, cells := 0, slots := 0, locals := 12 } : Room).cells ({ frames := 1, cells := 0, slots := 0, locals := 12 } : Room).slots) := by
  refine MetFree.of_bodySF (plainFor_of_name pnwi) hisR ?_
  intro p e s m args below meth c s₁ Bd hml0 hP hK
  obtain ⟨rfl, hZ, hh⟩ := hP
  have hx := Bd.exec
  have hby := Bd.bytes
  have hml : c.maxLocals = 1 := hml0
  have hown : s.vm.findClass "java/io/Writer" = some m.cls := findClass_of_methodNamed Bd.named
  have hnm := (name_of_methodNamed Bd.named Bd.method).1
  have X0 : Stand p l e ({ frames := 1, cells := 0, slots := 0, locals := 12 } : Room) s m #[(.ref a0)] below meth c s₁ [] 0 0 := Stand.of_body Bd
  have e0 : s₁.heap = h0 := by rw [← hh, Bd.state]; rfl
  have N0 := Fr.nil n0
  show OwnEnd p e below s (fun v h L => Qwi Z a0 wc sx h0 n0 v h L) ({ frames := 1, cells := 0, slots := 0, locals := 12 } : Room).cells ({ frames := 1, cells := 0, slots := 0, locals := 12 } : Room).slots (s₁.setTop (entryFrame m #[(.ref a0)] 1))
  rw [efwi m a0]
  generalize hW : OwnEnd p e below s (fun v h L => Qwi Z a0 wc sx h0 n0 v h L) ({ frames := 1, cells := 0, slots := 0, locals := 12 } : Room).cells ({ frames := 1, cells := 0, slots := 0, locals := 12 } : Room).slots = W
  have stp : ∀ {A B : State}, (∀ t, Steps p.tables e below B t → Steps p.tables e below A t) → W B → W A := by subst hW; exact own_step
  obtain ⟨S_cs, hcs, S_si, hr_sx⟩ := id BW
  show W (s₁.setTop (mkF m 0 #[.val (.ref a0)] []))
  refine stp (fun t k => XS.aloadN X0.here hx rfl (hb hby dwi_0) rfl rfl k) ?_
  show W (s₁.setTop (mkF m 1 #[.val (.ref a0)] [(.ref a0)]))
  obtain ⟨T1, X1, e1, st1⟩ := initO X0 hx hZ hown (hw _ (List.mem_of_getElem? (i := 11) rfl)) (hw _ (List.mem_of_getElem? (i := 12) rfl)) (hw _ (List.mem_of_getElem? (i := 13) rfl)) e0 (g := (mkF m 1 #[.val (.ref a0)] [(.ref a0)])) rfl (by rw [hml]; rfl) rfl (hb hby dwi_1) (by decide) (W := 0) (by show 2 * 0 + _ ≤ _; exact Nat.le_of_eq rfl) (by decide)
  refine stp (fun t k => st1 t k) ?_
  show W (T1.setTop (mkF m 4 #[.val (.ref a0)] []))
  refine stp (fun t k => XS.aloadN X1.here hx rfl (hb hby dwi_4) rfl rfl k) ?_
  show W (T1.setTop (mkF m 5 #[.val (.ref a0)] [(.ref a0)]))
  refine stp (fun t k => XS.aloadN X1.here hx rfl (hb hby dwi_5) rfl rfl k) ?_
  show W (T1.setTop (mkF m 6 #[.val (.ref a0)] [(.ref a0), (.ref a0)]))
  obtain ⟨Twi2, hwi2, Xwi2, ewi2, Wwi2, stwi2⟩ := putF X1 hx hZ hown (host := "") (Or.inl (hw _ (List.mem_of_getElem? (i := 14) rfl))) Via.refl e1 F_lock_a0 E_a0 (Or.inl (hw _ (List.mem_of_getElem? (i := 15) rfl))) (hw _ (List.mem_of_getElem? (i := 1) rfl)) (ty := (.object "java/lang/Object")) (by decide) rfl rfl (g := (mkF m 6 #[.val (.ref a0)] [(.ref a0), (.ref a0)])) rfl rfl (hb hby dwi_6)
  have Nwi2 := Fr.snoc Xwi2 N0 g_a0
  have F_lock_a0x := F_lock_a0.same Wwi2
  obtain ⟨lcwit3, Xwi2, Nwi2⟩ : ∃ lc, Stand p l e ({ frames := 1, cells := 0, slots := 0, locals := 12 } : Room) s m #[(.ref a0)] below meth c Twi2 lc 0 0 ∧ Fr n0 lc := ⟨_, Xwi2, Nwi2⟩
  replace E_a0 := E_a0.wr Wwi2
  replace F_bytes_a0 := F_bytes_a0.other Wwi2 (Or.inr (slot_ne (Or.inl (hw _ (List.mem_of_getElem? (i := 18) rfl))) (Or.inl (hw _ (List.mem_of_getElem? (i := 15) rfl))) (by decide) (t := (.array .byte)) (t' := (.object "java/lang/Object")) (by decide) (by decide)))
  replace F_length_a0 := F_length_a0.other Wwi2 (Or.inr (slot_ne (Or.inl (hw _ (List.mem_of_getElem? (i := 28) rfl))) (Or.inl (hw _ (List.mem_of_getElem? (i := 15) rfl))) (by decide) (t := .int) (t' := (.object "java/lang/Object")) (by decide) (by decide)))
  replace F_limit_a0 := F_limit_a0.other Wwi2 (Or.inr (slot_ne (Or.inl (hw _ (List.mem_of_getElem? (i := 30) rfl))) (Or.inl (hw _ (List.mem_of_getElem? (i := 15) rfl))) (by decide) (t := .long) (t' := (.object "java/lang/Object")) (by decide) (by decide)))
  have Kwi2 := (Keep.refl h0 [a0]).wr Wwi2 (Or.inl (List.mem_of_getElem? (i := 0) rfl))
  have Zwi2 := Nat.le_trans Z0 (Keep.of_wr Wwi2).1
  have Owi2 := O0.wr Wwi2 g_a0
  replace F_lock_a0 := F_lock_a0x
  clear F_lock_a0x
  refine stp (fun t k => stwi2 t k) ?_
  show W (Twi2.setTop (mkF m 9 #[.val (.ref a0)] []))
  show W (Twi2.setTop (mkF m 9 #[.val (.ref a0)] []))
  rw [← hW]
  exact own_ret0 Xwi2 hx Bd.notSynchronized Bd.returns (hb hby dwi_9) (by show Qwi Z a0 wc sx h0 n0 _ Twi2.heap _; rw [ewi2]; exact ⟨rfl, Nwi2, Kwi2, E_a0, F_bytes_a0, F_length_a0, F_limit_a0⟩) (by decide) (by decide)
theorem dli_0 : decode prog_31_method_1_code 0 = .ok (.aload_n 0, 1) := by decide +kernel
theorem dli_1 : decode prog_31_method_1_code 1 = .ok (.invokespecial 1, 3) := by decide +kernel
theorem dli_4 : decode prog_31_method_1_code 4 = .ok (.aload_n 0, 1) := by decide +kernel
theorem dli_5 : decode prog_31_method_1_code 5 = .ok (.sipush 8192, 3) := by decide +kernel
theorem dli_8 : decode prog_31_method_1_code 8 = .ok (.newarray .byte, 2) := by decide +kernel
theorem dli_10 : decode prog_31_method_1_code 10 = .ok (.putfield 9, 3) := by decide +kernel
theorem dli_13 : decode prog_31_method_1_code 13 = .ok (.return_, 1) := by decide +kernel
theorem pnli : plainName "com/example/opuscule/opuscule/json/LineBuffer" = true := by first | (simp [plainName, overriddenIn]; done) | decide +kernel
theorem pdli_0 : parseMethodDescriptor "()V" = some ⟨[], none⟩ := by decide +kernel
theorem efli (m : MethodId) (a0 : Addr) : entryFrame m #[(.ref a0)] 1 = mkF m 0 #[.val (.ref a0)] [] := by first | (simp [entryFrame, mkF, argsToLocals, Value.category]; done) | rfl
def Qli (Z : State) (a0 : Addr) (wc : Int32) (sx : Value) (h0 : Heap) (n0 : Nat) (v : Option Value) (h : Heap) (L : List Loc) : Prop := v = none ∧ Fr n0 L ∧ Keep h0 h [a0] ∧ ∃ (b : Addr) (kb : ClassId), h0.size ≤ b ∧ OwnLB Z h a0 b kb (0 : Int32) (0 : Int64) (fun _ => (0 : Int32))
set_option maxRecDepth 65536 in
set_option maxHeartbeats 40000000 in
theorem rmli (l : Launch) (Z : State) (aa : Array Value) (hw : ∀ d ∈ tables_1, d.before aa Z = true) (ws : List Jvm.Cond) (a0 : Addr) (wc : Int32) (sx : Value) (h0 : Heap) (n0 : Nat) (Z0 : n0 ≤ h0.size) (BW : OwnW Z wc sx) (O0 : Old Z n0 h0) (E_a0 : Exa Z h0 a0 "com/example/opuscule/opuscule/json/LineBuffer") (F_lock_a0 : Fld Z h0 a0 "java/io/Writer" "lock" "Ljava/lang/Object;" .null) (F_bytes_a0 : Fld Z h0 a0 "com/example/opuscule/opuscule/json/LineBuffer" "bytes" "[B" .null) (F_length_a0 : Fld Z h0 a0 "com/example/opuscule/opuscule/json/LineBuffer" "length" "I" (.int (0 : Int32))) (F_limit_a0 : Fld Z h0 a0 "com/example/opuscule/opuscule/json/LineBuffer" "limit" "J" (.long (0 : Int64))) (g_a0 : n0 ≤ a0) :
    MetFree l (⟨"com/example/opuscule/opuscule/json/LineBuffer", "<init>", "()V"⟩ : MethodName) (head1 (Jvm.Cond.code (⟨"com/example/opuscule/opuscule/json/LineBuffer", "<init>", "()V"⟩ : MethodName) prog_31_method_1_code 1 none :: ws) ({ frames := 2, cells := 1, slots := 8192, locals := 24 } : Room)) (fun a U => a = #[(.ref a0)] ∧ Z.Warmed39 U.vm ∧ U.heap = h0) (fun _ _ _ _ _ => True) (fun _ U o U' => ∃ v L, o = .returned v ∧ Qli Z a0 wc sx h0 n0 v U'.heap L ∧ FrameEnd U o U' L ({ frames := 2, cells := 1, slots := 8192, locals := 24 } : Room).cells ({ frames := 2, cells := 1, slots := 8192, locals := 24 } : Room).slots) := by
  refine MetFree.of_bodySF (plainFor_of_name pnli) hisR ?_
  intro p e s m args below meth c s₁ Bd hml0 hP hK
  obtain ⟨rfl, hZ, hh⟩ := hP
  have hx := Bd.exec
  have hby := Bd.bytes
  have hml : c.maxLocals = 1 := hml0
  have hown : s.vm.findClass "com/example/opuscule/opuscule/json/LineBuffer" = some m.cls := findClass_of_methodNamed Bd.named
  have hnm := (name_of_methodNamed Bd.named Bd.method).1
  have X0 : Stand p l e ({ frames := 2, cells := 1, slots := 8192, locals := 24 } : Room) s m #[(.ref a0)] below meth c s₁ [] 0 0 := Stand.of_body Bd
  have e0 : s₁.heap = h0 := by rw [← hh, Bd.state]; rfl
  have N0 := Fr.nil n0
  show OwnEnd p e below s (fun v h L => Qli Z a0 wc sx h0 n0 v h L) ({ frames := 2, cells := 1, slots := 8192, locals := 24 } : Room).cells ({ frames := 2, cells := 1, slots := 8192, locals := 24 } : Room).slots (s₁.setTop (entryFrame m #[(.ref a0)] 1))
  rw [efli m a0]
  generalize hW : OwnEnd p e below s (fun v h L => Qli Z a0 wc sx h0 n0 v h L) ({ frames := 2, cells := 1, slots := 8192, locals := 24 } : Room).cells ({ frames := 2, cells := 1, slots := 8192, locals := 24 } : Room).slots = W
  have stp : ∀ {A B : State}, (∀ t, Steps p.tables e below B t → Steps p.tables e below A t) → W B → W A := by subst hW; exact own_step
  obtain ⟨S_cs, hcs, S_si, hr_sx⟩ := id BW
  show W (s₁.setTop (mkF m 0 #[.val (.ref a0)] []))
  refine stp (fun t k => XS.aloadN X0.here hx rfl (hb hby dli_0) rfl rfl k) ?_
  show W (s₁.setTop (mkF m 1 #[.val (.ref a0)] [(.ref a0)]))
  obtain ⟨_, _, ⟨Tlic1, Llic1, klic1, nlic1⟩, -, Xlic1, ⟨Lclic1, hQlic1, llic1, ylic1, zlic1⟩, stlic1⟩ := X0.specialBack hx (y := (⟨"java/io/Writer", "<init>", "()V"⟩ : MethodName)) rfl hown (mvT hZ (hw _ (List.mem_of_getElem? (i := 6) rfl))) (mvT hZ (hw _ (List.mem_of_getElem? (i := 7) rfl))) (mvT hZ (hw _ (List.mem_of_getElem? (i := 10) rfl))) (by decide) (backOf (W := 0) (rmwi l Z aa hw [] a0 wc sx h0 n0 Z0 BW O0 E_a0 F_lock_a0 F_bytes_a0 F_length_a0 F_limit_a0 g_a0) hZ (hw _ (List.mem_of_getElem? (i := 10) rfl)) (hw _ (List.mem_of_getElem? (i := 9) rfl)) (by decide) (by decide)) (g := (mkF m 1 #[.val (.ref a0)] [(.ref a0)])) rfl (by rw [hml]; rfl) (Steps.refl _) (a := a0) (argsL := []) (rest := []) (lenOf pdli_0 rfl) rfl (by show 2 * 0 + _ ≤ _; exact Nat.le_of_eq rfl) (hb hby dli_1) (fun _ _ => ⟨rfl, e0, (by decide : 0 + 0 ≤ _), (by decide : 0 + 0 ≤ _)⟩)
  dsimp only [Pt.U, Pt.locs, Pt.cells, Pt.slots] at Xlic1 llic1 ylic1 zlic1 stlic1 hQlic1
  subst llic1 ylic1 zlic1
  obtain ⟨rfl, Nlic1q, Kqlic1, EElic1, FBlic1, FLlic1, FMlic1⟩ := hQlic1
  have Nlic1 := Fr.app N0 Nlic1q
  obtain ⟨lclit2, Xlic1, Nlic1⟩ : ∃ lc, Stand p l e ({ frames := 2, cells := 1, slots := 8192, locals := 24 } : Room) s m #[(.ref a0)] below meth c Tlic1 lc 0 0 ∧ Fr n0 lc := ⟨_, Xlic1, Nlic1⟩
  obtain ⟨hlic1, elic1⟩ : ∃ h, Tlic1.heap = h := ⟨_, rfl⟩
  rw [elic1] at Kqlic1 EElic1 FBlic1 FLlic1 FMlic1
  have KKlic1 := Keep.trans (Keep.refl h0 [a0]) Kqlic1 (allS (Or.inl (List.mem_of_getElem? (i := 0) rfl)) all0)
  have Zlic1 := Nat.le_trans Z0 Kqlic1.1
  have Olic1 := O0.keep Kqlic1 (allS g_a0 all0)
  refine stp (fun t k => stlic1.trans k) ?_
  show W (Tlic1.setTop (mkF m 4 #[.val (.ref a0)] []))
  refine stp (fun t k => XS.aloadN Xlic1.here hx rfl (hb hby dli_4) rfl rfl k) ?_
  show W (Tlic1.setTop (mkF m 5 #[.val (.ref a0)] [(.ref a0)]))
  refine stp (fun t k => XS.sipush Xlic1.here hx rfl (hb hby dli_5) k) ?_
  show W (Tlic1.setTop (mkF m 8 #[.val (.ref a0)] [(.int (8192 : Int32)), (.ref a0)]))
  obtain ⟨Tli3, hli3, kli3, Xli3, eli3, Eli3, Ali3, stli3⟩ := newP Xlic1 hx hZ (hw _ (List.mem_of_getElem? (i := 16) rfl)) elic1 (g := (mkF m 8 #[.val (.ref a0)] [(.int (8192 : Int32)), (.ref a0)])) rfl (hb hby dli_8) rfl (by decide) (cap := 8192) (by decide) (by decide) (by decide) (by decide)
  obtain ⟨bli3, gqli3⟩ : ∃ z, z = hlic1.size := ⟨_, rfl⟩
  rw [← gqli3] at Ali3 stli3
  have ne_a0_bli3 : a0 ≠ bli3 := Nat.ne_of_lt (Nat.lt_of_lt_of_le EElic1.lt (Nat.le_of_eq gqli3.symm))
  have g_bli3 : n0 ≤ bli3 := Nat.le_trans Zlic1 (Nat.le_of_eq gqli3.symm)
  have sz_bli3 : h0.size ≤ bli3 := Nat.le_trans KKlic1.1 (Nat.le_of_eq gqli3.symm)
  replace EElic1 := EElic1.ext Eli3
  replace FBlic1 := FBlic1.ext Eli3
  replace FLlic1 := FLlic1.ext Eli3
  replace FMlic1 := FMlic1.ext Eli3
  have Kli3 := KKlic1.ext Eli3
  have Zli3 := Nat.le_trans Zlic1 Eli3.1
  have Oli3 := Olic1.ext Eli3
  have V_bli3 : Arv Z hli3 bli3 kli3 .byte (8192 : Int32) (own_vs 8192 fun _ => (0 : Int32)) (.int (0 : Int32)) := (Arv.new Ali3 (by decide)).pad (own_vsPad _)
  refine stp (fun t k => stli3 t k) ?_
  show W (Tli3.setTop (mkF m 10 #[.val (.ref a0)] [(.ref bli3), (.ref a0)]))
  obtain ⟨Tli4, hli4, Xli4, eli4, Wli4, stli4⟩ := putF Xli3 hx hZ hown (host := "") (Or.inl (hw _ (List.mem_of_getElem? (i := 17) rfl))) Via.refl eli3 FBlic1 EElic1 (Or.inl (hw _ (List.mem_of_getElem? (i := 18) rfl))) (hw _ (List.mem_of_getElem? (i := 1) rfl)) (ty := (.array .byte)) (by decide) rfl rfl (g := (mkF m 10 #[.val (.ref a0)] [(.ref bli3), (.ref a0)])) rfl rfl (hb hby dli_10)
  have Nli4 := Fr.snoc Xli4 Nlic1 g_a0
  have FBlic1x := FBlic1.same Wli4
  obtain ⟨lclit5, Xli4, Nli4⟩ : ∃ lc, Stand p l e ({ frames := 2, cells := 1, slots := 8192, locals := 24 } : Room) s m #[(.ref a0)] below meth c Tli4 lc 1 8192 ∧ Fr n0 lc := ⟨_, Xli4, Nli4⟩
  replace EElic1 := EElic1.wr Wli4
  replace FLlic1 := FLlic1.other Wli4 (Or.inr (slot_ne (Or.inl (hw _ (List.mem_of_getElem? (i := 28) rfl))) (Or.inl (hw _ (List.mem_of_getElem? (i := 18) rfl))) (by decide) (t := .int) (t' := (.array .byte)) (by decide) (by decide)))
  replace FMlic1 := FMlic1.other Wli4 (Or.inr (slot_ne (Or.inl (hw _ (List.mem_of_getElem? (i := 30) rfl))) (Or.inl (hw _ (List.mem_of_getElem? (i := 18) rfl))) (by decide) (t := .long) (t' := (.array .byte)) (by decide) (by decide)))
  replace V_bli3 := V_bli3.other Wli4 (Ne.symm ne_a0_bli3)
  have Kli4 := Kli3.wr Wli4 (Or.inl (List.mem_of_getElem? (i := 0) rfl))
  have Zli4 := Nat.le_trans Zli3 (Keep.of_wr Wli4).1
  have Oli4 := Oli3.wr Wli4 g_a0
  replace FBlic1 := FBlic1x
  clear FBlic1x
  refine stp (fun t k => stli4 t k) ?_
  show W (Tli4.setTop (mkF m 13 #[.val (.ref a0)] []))
  show W (Tli4.setTop (mkF m 13 #[.val (.ref a0)] []))
  rw [← hW]
  exact own_ret0 Xli4 hx Bd.notSynchronized Bd.returns (hb hby dli_13) (by show Qli Z a0 wc sx h0 n0 _ Tli4.heap _; rw [eli4]; exact ⟨rfl, Nli4, Kli4, bli3, kli3, sz_bli3, EElic1, FBlic1, FLlic1, FMlic1, V_bli3⟩) (by decide) (by decide)
theorem dsa_0 : decode prog_31_method_2_code 0 = .ok (.aload_n 0, 1) := by decide +kernel
theorem dsa_1 : decode prog_31_method_2_code 1 = .ok (.getfield 9, 3) := by decide +kernel
theorem dsa_4 : decode prog_31_method_2_code 4 = .ok (.arraylength, 1) := by decide +kernel
theorem dsa_5 : decode prog_31_method_2_code 5 = .ok (.ldc 13, 2) := by decide +kernel
theorem dsa_7 : decode prog_31_method_2_code 7 = .ok (.if_icmp .le 12, 3) := by decide +kernel
theorem dsa_19 : decode prog_31_method_2_code 19 = .ok (.aload_n 0, 1) := by decide +kernel
theorem dsa_20 : decode prog_31_method_2_code 20 = .ok (.iconst 0, 1) := by decide +kernel
theorem dsa_21 : decode prog_31_method_2_code 21 = .ok (.putfield 14, 3) := by decide +kernel
theorem dsa_24 : decode prog_31_method_2_code 24 = .ok (.aload_n 0, 1) := by decide +kernel
theorem dsa_25 : decode prog_31_method_2_code 25 = .ok (.lload_n 1, 1) := by decide +kernel
theorem dsa_26 : decode prog_31_method_2_code 26 = .ok (.putfield 18, 3) := by decide +kernel
theorem dsa_29 : decode prog_31_method_2_code 29 = .ok (.return_, 1) := by decide +kernel
theorem pnsa : plainName "com/example/opuscule/opuscule/json/LineBuffer" = true := by first | (simp [plainName, overriddenIn]; done) | decide +kernel
theorem efsa (m : MethodId) (a0 : Addr) (q1 : Int64) : entryFrame m #[(.ref a0), (.long q1)] 3 = mkF m 0 #[.val (.ref a0), .val (.long q1), .second] [] := by first | (simp [entryFrame, mkF, argsToLocals, Value.category]; done) | rfl
def Qsa (Z : State) (a0 : Addr) (q1 : Int64) (wc : Int32) (sx : Value) (b : Addr) (kb : ClassId) (len : Int32) (lim : Int64) (F : Nat → Int32) (h0 : Heap) (n0 : Nat) (v : Option Value) (h : Heap) (L : List Loc) : Prop := v = none ∧ Fr n0 L ∧ Keep h0 h [a0] ∧ OwnLB Z h a0 b kb (0 : Int32) q1 F
set_option maxRecDepth 65536 in
set_option maxHeartbeats 40000000 in
theorem rmsa (l : Launch) (Z : State) (aa : Array Value) (hw : ∀ d ∈ tables_1, d.before aa Z = true) (ws : List Jvm.Cond) (a0 : Addr) (q1 : Int64) (wc : Int32) (sx : Value) (b : Addr) (kb : ClassId) (len : Int32) (lim : Int64) (F : Nat → Int32) (h0 : Heap) (n0 : Nat) (Z0 : n0 ≤ h0.size) (BW : OwnW Z wc sx) (O0 : Old Z n0 h0) (LB0 : OwnLB Z h0 a0 b kb len lim F) (g_a0 : n0 ≤ a0) :
    MetFree l (⟨"com/example/opuscule/opuscule/json/LineBuffer", "start", "(J)V"⟩ : MethodName) (head1 (Jvm.Cond.code (⟨"com/example/opuscule/opuscule/json/LineBuffer", "start", "(J)V"⟩ : MethodName) prog_31_method_2_code 3 none :: ws) ({ frames := 0, cells := 0, slots := 0, locals := 0 } : Room)) (fun a U => a = #[(.ref a0), (.long q1)] ∧ Z.Warmed39 U.vm ∧ U.heap = h0) (fun _ _ _ _ _ => True) (fun _ U o U' => ∃ v L, o = .returned v ∧ Qsa Z a0 q1 wc sx b kb len lim F h0 n0 v U'.heap L ∧ FrameEnd U o U' L ({ frames := 0, cells := 0, slots := 0, locals := 0 } : Room).cells ({ frames := 0, cells := 0, slots := 0, locals := 0 } : Room).slots) := by
  refine MetFree.of_bodySF (plainFor_of_name pnsa) hisR ?_
  intro p e s m args below meth c s₁ Bd hml0 hP hK
  obtain ⟨rfl, hZ, hh⟩ := hP
  have hx := Bd.exec
  have hby := Bd.bytes
  have hml : c.maxLocals = 3 := hml0
  have hown : s.vm.findClass "com/example/opuscule/opuscule/json/LineBuffer" = some m.cls := findClass_of_methodNamed Bd.named
  have hnm := (name_of_methodNamed Bd.named Bd.method).1
  have X0 : Stand p l e ({ frames := 0, cells := 0, slots := 0, locals := 0 } : Room) s m #[(.ref a0), (.long q1)] below meth c s₁ [] 0 0 := Stand.of_body Bd
  have e0 : s₁.heap = h0 := by rw [← hh, Bd.state]; rfl
  have N0 := Fr.nil n0
  show OwnEnd p e below s (fun v h L => Qsa Z a0 q1 wc sx b kb len lim F h0 n0 v h L) ({ frames := 0, cells := 0, slots := 0, locals := 0 } : Room).cells ({ frames := 0, cells := 0, slots := 0, locals := 0 } : Room).slots (s₁.setTop (entryFrame m #[(.ref a0), (.long q1)] 3))
  rw [efsa m a0 q1]
  generalize hW : OwnEnd p e below s (fun v h L => Qsa Z a0 q1 wc sx b kb len lim F h0 n0 v h L) ({ frames := 0, cells := 0, slots := 0, locals := 0 } : Room).cells ({ frames := 0, cells := 0, slots := 0, locals := 0 } : Room).slots = W
  have stp : ∀ {A B : State}, (∀ t, Steps p.tables e below B t → Steps p.tables e below A t) → W B → W A := by subst hW; exact own_step
  obtain ⟨S_cs, hcs, S_si, hr_sx⟩ := id BW
  obtain ⟨E_a0, F_bytes_a0, F_length_a0, F_limit_a0, V_b⟩ := LB0
  have ne_a0_b : a0 ≠ b := Exa.neArv E_a0 V_b (hw _ (List.mem_of_getElem? (i := 1) rfl))
  show W (s₁.setTop (mkF m 0 #[.val (.ref a0), .val (.long q1), .second] []))
  refine stp (fun t k => XS.aloadN X0.here hx rfl (hb hby dsa_0) rfl rfl k) ?_
  show W (s₁.setTop (mkF m 1 #[.val (.ref a0), .val (.long q1), .second] [(.ref a0)]))
  obtain ⟨Tsa1, Xsa1, esa1, stsa1⟩ := getF X0 hx hZ hown (host := "") (Or.inl (hw _ (List.mem_of_getElem? (i := 17) rfl))) Via.refl e0 F_bytes_a0 (g := (mkF m 1 #[.val (.ref a0), .val (.long q1), .second] [(.ref a0)])) rfl rfl (hb hby dsa_1)
  refine stp (fun t k => stsa1 t k) ?_
  show W (Tsa1.setTop (mkF m 4 #[.val (.ref a0), .val (.long q1), .second] [(.ref b)]))
  obtain ⟨clsa2, Arsa2, qksa2, qssa2, qnsa2, qhsa2, qgsa2⟩ := id V_b
  refine stp (fun t k => Xsa1.arraylength hx (by rw [esa1]; exact Arsa2.1) (State.isArrayOf_alike hZ.alike Arsa2.2.1) (g := (mkF m 4 #[.val (.ref a0), .val (.long q1), .second] [(.ref b)])) rfl rfl (hb hby dsa_4) _ k) ?_
  rw [len_of qssa2 qnsa2]
  show W (Tsa1.setTop (mkF m 5 #[.val (.ref a0), .val (.long q1), .second] [(.int (8192 : Int32))]))
  refine stp (fun t k => Xsa1.ldcInt hx hown (mvT hZ (hw _ (List.mem_of_getElem? (i := 26) rfl))) (g := (mkF m 5 #[.val (.ref a0), .val (.long q1), .second] [(.int (8192 : Int32))])) rfl (hb hby dsa_5) _ k) ?_
  show W (Tsa1.setTop (mkF m 7 #[.val (.ref a0), .val (.long q1), .second] [(.int (65536 : Int32)), (.int (8192 : Int32))]))
  refine stp (fun t k => XS.icmpYes Xsa1.here hx rfl (pc0 := 7) (pc' := 19) rfl (hb hby dsa_7) rfl ((flt (by decide)).2.2.2) (by decide) (by decide) k) ?_
  show W (Tsa1.setTop (mkF m 19 #[.val (.ref a0), .val (.long q1), .second] []))
  refine stp (fun t k => XS.aloadN Xsa1.here hx rfl (hb hby dsa_19) rfl rfl k) ?_
  show W (Tsa1.setTop (mkF m 20 #[.val (.ref a0), .val (.long q1), .second] [(.ref a0)]))
  refine stp (fun t k => XS.iconst Xsa1.here hx rfl (hb hby dsa_20) k) ?_
  show W (Tsa1.setTop (mkF m 21 #[.val (.ref a0), .val (.long q1), .second] [(.int (0 : Int32)), (.ref a0)]))
  obtain ⟨Tsa3, hsa3, Xsa3, esa3, Wsa3, stsa3⟩ := putF Xsa1 hx hZ hown (host := "") (Or.inl (hw _ (List.mem_of_getElem? (i := 27) rfl))) Via.refl esa1 F_length_a0 E_a0 (Or.inl (hw _ (List.mem_of_getElem? (i := 28) rfl))) (hw _ (List.mem_of_getElem? (i := 1) rfl)) (ty := .int) (by decide) rfl rfl (g := (mkF m 21 #[.val (.ref a0), .val (.long q1), .second] [(.int (0 : Int32)), (.ref a0)])) rfl rfl (hb hby dsa_21)
  have Nsa3 := Fr.snoc Xsa3 N0 g_a0
  have F_length_a0x := F_length_a0.same Wsa3
  obtain ⟨lcsat4, Xsa3, Nsa3⟩ : ∃ lc, Stand p l e ({ frames := 0, cells := 0, slots := 0, locals := 0 } : Room) s m #[(.ref a0), (.long q1)] below meth c Tsa3 lc 0 0 ∧ Fr n0 lc := ⟨_, Xsa3, Nsa3⟩
  replace E_a0 := E_a0.wr Wsa3
  replace F_bytes_a0 := F_bytes_a0.other Wsa3 (Or.inr (slot_ne (Or.inl (hw _ (List.mem_of_getElem? (i := 18) rfl))) (Or.inl (hw _ (List.mem_of_getElem? (i := 28) rfl))) (by decide) (t := (.array .byte)) (t' := .int) (by decide) (by decide)))
  replace F_limit_a0 := F_limit_a0.other Wsa3 (Or.inr (slot_ne (Or.inl (hw _ (List.mem_of_getElem? (i := 30) rfl))) (Or.inl (hw _ (List.mem_of_getElem? (i := 28) rfl))) (by decide) (t := .long) (t' := .int) (by decide) (by decide)))
  replace V_b := V_b.other Wsa3 (Ne.symm ne_a0_b)
  have Ksa3 := (Keep.refl h0 [a0]).wr Wsa3 (Or.inl (List.mem_of_getElem? (i := 0) rfl))
  have Zsa3 := Nat.le_trans Z0 (Keep.of_wr Wsa3).1
  have Osa3 := O0.wr Wsa3 g_a0
  replace F_length_a0 := F_length_a0x
  clear F_length_a0x
  refine stp (fun t k => stsa3 t k) ?_
  show W (Tsa3.setTop (mkF m 24 #[.val (.ref a0), .val (.long q1), .second] []))
  refine stp (fun t k => XS.aloadN Xsa3.here hx rfl (hb hby dsa_24) rfl rfl k) ?_
  show W (Tsa3.setTop (mkF m 25 #[.val (.ref a0), .val (.long q1), .second] [(.ref a0)]))
  refine stp (fun t k => XS.lloadN Xsa3.here hx rfl (hb hby dsa_25) rfl k) ?_
  show W (Tsa3.setTop (mkF m 26 #[.val (.ref a0), .val (.long q1), .second] [(.long q1), (.ref a0)]))
  obtain ⟨Tsa5, hsa5, Xsa5, esa5, Wsa5, stsa5⟩ := putF Xsa3 hx hZ hown (host := "") (Or.inl (hw _ (List.mem_of_getElem? (i := 29) rfl))) Via.refl esa3 F_limit_a0 E_a0 (Or.inl (hw _ (List.mem_of_getElem? (i := 30) rfl))) (hw _ (List.mem_of_getElem? (i := 1) rfl)) (ty := .long) (by decide) rfl rfl (g := (mkF m 26 #[.val (.ref a0), .val (.long q1), .second] [(.long q1), (.ref a0)])) rfl rfl (hb hby dsa_26)
  have Nsa5 := Fr.snoc Xsa5 Nsa3 g_a0
  have F_limit_a0x := F_limit_a0.same Wsa5
  obtain ⟨lcsat6, Xsa5, Nsa5⟩ : ∃ lc, Stand p l e ({ frames := 0, cells := 0, slots := 0, locals := 0 } : Room) s m #[(.ref a0), (.long q1)] below meth c Tsa5 lc 0 0 ∧ Fr n0 lc := ⟨_, Xsa5, Nsa5⟩
  replace E_a0 := E_a0.wr Wsa5
  replace F_bytes_a0 := F_bytes_a0.other Wsa5 (Or.inr (slot_ne (Or.inl (hw _ (List.mem_of_getElem? (i := 18) rfl))) (Or.inl (hw _ (List.mem_of_getElem? (i := 30) rfl))) (by decide) (t := (.array .byte)) (t' := .long) (by decide) (by decide)))
  replace F_length_a0 := F_length_a0.other Wsa5 (Or.inr (slot_ne (Or.inl (hw _ (List.mem_of_getElem? (i := 28) rfl))) (Or.inl (hw _ (List.mem_of_getElem? (i := 30) rfl))) (by decide) (t := .int) (t' := .long) (by decide) (by decide)))
  replace V_b := V_b.other Wsa5 (Ne.symm ne_a0_b)
  have Ksa5 := Ksa3.wr Wsa5 (Or.inl (List.mem_of_getElem? (i := 0) rfl))
  have Zsa5 := Nat.le_trans Zsa3 (Keep.of_wr Wsa5).1
  have Osa5 := Osa3.wr Wsa5 g_a0
  replace F_limit_a0 := F_limit_a0x
  clear F_limit_a0x
  refine stp (fun t k => stsa5 t k) ?_
  show W (Tsa5.setTop (mkF m 29 #[.val (.ref a0), .val (.long q1), .second] []))
  show W (Tsa5.setTop (mkF m 29 #[.val (.ref a0), .val (.long q1), .second] []))
  rw [← hW]
  exact own_ret0 Xsa5 hx Bd.notSynchronized Bd.returns (hb hby dsa_29) (by show Qsa Z a0 q1 wc sx b kb len lim F h0 n0 _ Tsa5.heap _; rw [esa5]; exact ⟨rfl, Nsa5, Ksa5, E_a0, F_bytes_a0, F_length_a0, F_limit_a0, V_b⟩) (by decide) (by decide)
theorem dwr_0 : decode prog_31_method_3_code 0 = .ok (.aload_n 0, 1) := by decide +kernel
theorem dwr_1 : decode prog_31_method_3_code 1 = .ok (.getfield 14, 3) := by decide +kernel
theorem dwr_4 : decode prog_31_method_3_code 4 = .ok (.i2l, 1) := by decide +kernel
theorem dwr_5 : decode prog_31_method_3_code 5 = .ok (.iload_n 3, 1) := by decide +kernel
theorem dwr_6 : decode prog_31_method_3_code 6 = .ok (.i2l, 1) := by decide +kernel
theorem dwr_7 : decode prog_31_method_3_code 7 = .ok (.ladd, 1) := by decide +kernel
theorem dwr_8 : decode prog_31_method_3_code 8 = .ok (.lstore 4, 2) := by decide +kernel
theorem dwr_10 : decode prog_31_method_3_code 10 = .ok (.lload 4, 2) := by decide +kernel
theorem dwr_12 : decode prog_31_method_3_code 12 = .ok (.aload_n 0, 1) := by decide +kernel
theorem dwr_13 : decode prog_31_method_3_code 13 = .ok (.getfield 18, 3) := by decide +kernel
theorem dwr_16 : decode prog_31_method_3_code 16 = .ok (.lcmp, 1) := by decide +kernel
theorem dwr_17 : decode prog_31_method_3_code 17 = .ok (.ifCond .le 11, 3) := by decide +kernel
theorem dwr_28 : decode prog_31_method_3_code 28 = .ok (.lload 4, 2) := by decide +kernel
theorem dwr_30 : decode prog_31_method_3_code 30 = .ok (.aload_n 0, 1) := by decide +kernel
theorem dwr_31 : decode prog_31_method_3_code 31 = .ok (.getfield 9, 3) := by decide +kernel
theorem dwr_34 : decode prog_31_method_3_code 34 = .ok (.arraylength, 1) := by decide +kernel
theorem dwr_35 : decode prog_31_method_3_code 35 = .ok (.i2l, 1) := by decide +kernel
theorem dwr_36 : decode prog_31_method_3_code 36 = .ok (.lcmp, 1) := by decide +kernel
theorem dwr_37 : decode prog_31_method_3_code 37 = .ok (.ifCond .le 51, 3) := by decide +kernel
theorem dwr_88 : decode prog_31_method_3_code 88 = .ok (.iconst 0, 1) := by decide +kernel
theorem dwr_89 : decode prog_31_method_3_code 89 = .ok (.istore 6, 2) := by decide +kernel
theorem dwr_91 : decode prog_31_method_3_code 91 = .ok (.iload 6, 2) := by decide +kernel
theorem dwr_93 : decode prog_31_method_3_code 93 = .ok (.iload_n 3, 1) := by decide +kernel
theorem dwr_94 : decode prog_31_method_3_code 94 = .ok (.if_icmp .ge 65, 3) := by decide +kernel
theorem dwr_97 : decode prog_31_method_3_code 97 = .ok (.aload_n 1, 1) := by decide +kernel
theorem dwr_98 : decode prog_31_method_3_code 98 = .ok (.iload_n 2, 1) := by decide +kernel
theorem dwr_99 : decode prog_31_method_3_code 99 = .ok (.iload 6, 2) := by decide +kernel
theorem dwr_101 : decode prog_31_method_3_code 101 = .ok (.iadd, 1) := by decide +kernel
theorem dwr_102 : decode prog_31_method_3_code 102 = .ok (.caload, 1) := by decide +kernel
theorem dwr_103 : decode prog_31_method_3_code 103 = .ok (.istore 7, 2) := by decide +kernel
theorem dwr_105 : decode prog_31_method_3_code 105 = .ok (.iload 7, 2) := by decide +kernel
theorem dwr_107 : decode prog_31_method_3_code 107 = .ok (.sipush 128, 3) := by decide +kernel
theorem dwr_110 : decode prog_31_method_3_code 110 = .ok (.if_icmp .lt 28, 3) := by decide +kernel
theorem dwr_138 : decode prog_31_method_3_code 138 = .ok (.aload_n 0, 1) := by decide +kernel
theorem dwr_139 : decode prog_31_method_3_code 139 = .ok (.getfield 9, 3) := by decide +kernel
theorem dwr_142 : decode prog_31_method_3_code 142 = .ok (.aload_n 0, 1) := by decide +kernel
theorem dwr_143 : decode prog_31_method_3_code 143 = .ok (.getfield 14, 3) := by decide +kernel
theorem dwr_146 : decode prog_31_method_3_code 146 = .ok (.iload 6, 2) := by decide +kernel
theorem dwr_148 : decode prog_31_method_3_code 148 = .ok (.iadd, 1) := by decide +kernel
theorem dwr_149 : decode prog_31_method_3_code 149 = .ok (.iload 7, 2) := by decide +kernel
theorem dwr_151 : decode prog_31_method_3_code 151 = .ok (.i2b, 1) := by decide +kernel
theorem dwr_152 : decode prog_31_method_3_code 152 = .ok (.bastore, 1) := by decide +kernel
theorem dwr_153 : decode prog_31_method_3_code 153 = .ok (.iinc 6 1, 3) := by decide +kernel
theorem dwr_156 : decode prog_31_method_3_code 156 = .ok (.goto (-65), 3) := by decide +kernel
theorem dwr_159 : decode prog_31_method_3_code 159 = .ok (.aload_n 0, 1) := by decide +kernel
theorem dwr_160 : decode prog_31_method_3_code 160 = .ok (.lload 4, 2) := by decide +kernel
theorem dwr_162 : decode prog_31_method_3_code 162 = .ok (.l2i, 1) := by decide +kernel
theorem dwr_163 : decode prog_31_method_3_code 163 = .ok (.putfield 14, 3) := by decide +kernel
theorem dwr_166 : decode prog_31_method_3_code 166 = .ok (.return_, 1) := by decide +kernel
theorem pnwr : plainName "com/example/opuscule/opuscule/json/LineBuffer" = true := by first | (simp [plainName, overriddenIn]; done) | decide +kernel
theorem efwr (m : MethodId) (a0 : Addr) (a1 : Addr) (p2 : Int32) (p3 : Int32) : entryFrame m #[(.ref a0), (.ref a1), (.int p2), (.int p3)] 8 = mkF m 0 #[.val (.ref a0), .val (.ref a1), .val (.int p2), .val (.int p3), .unset, .unset, .unset, .unset] [] := by first | (simp [entryFrame, mkF, argsToLocals, Value.category]; done) | rfl
def Qwr (Z : State) (a0 : Addr) (a1 : Addr) (p2 : Int32) (p3 : Int32) (wc : Int32) (sx : Value) (b : Addr) (kb : ClassId) (lim : Int64) (F : Nat → Int32) (ka : ClassId) (nn : Nat) (cg : Nat → Int32) (cn : Nat) (h0 : Heap) (n0 : Nat) (v : Option Value) (h : Heap) (L : List Loc) : Prop := v = none ∧ Fr n0 L ∧ Keep h0 h [a0, b] ∧ OwnLB Z h a0 b kb p3 lim (fun j => if j < cn then own_b (cg j) else F j)
set_option maxRecDepth 65536 in
set_option maxHeartbeats 40000000 in
theorem rmwr (l : Launch) (Z : State) (aa : Array Value) (hw : ∀ d ∈ tables_1, d.before aa Z = true) (ws : List Jvm.Cond) (a0 : Addr) (a1 : Addr) (p2 : Int32) (p3 : Int32) (wc : Int32) (sx : Value) (b : Addr) (kb : ClassId) (lim : Int64) (F : Nat → Int32) (ka : ClassId) (nn : Nat) (cg : Nat → Int32) (cn : Nat) (h0 : Heap) (n0 : Nat) (Z0 : n0 ≤ h0.size) (BW : OwnW Z wc sx) (O0 : Old Z n0 h0) (LB0 : OwnLB Z h0 a0 b kb (0 : Int32) lim F) (g_a0 : n0 ≤ a0) (g_b : n0 ≤ b) (V_a1 : Arv Z h0 a1 ka .char (Int32.ofNat nn) (own_vs nn cg) (.int (0 : Int32))) (ne_a1_b : a1 ≠ b) (hp2 : p2 = (0 : Int32)) (hp3 : p3.toInt = (cn : Int)) (hcn : cn ≤ nn) (hnn : nn ≤ 4) (hch : ∀ j, j < nn → 0 ≤ (cg j).toInt ∧ (cg j).toInt < 128) (hlim : ¬ (lim < (((0 : Int32).toInt64) + (p3.toInt64)))) :
    MetFree l (⟨"com/example/opuscule/opuscule/json/LineBuffer", "write", "([CII)V"⟩ : MethodName) (head1 (Jvm.Cond.code (⟨"com/example/opuscule/opuscule/json/LineBuffer", "write", "([CII)V"⟩ : MethodName) prog_31_method_3_code 8 none :: ws) ({ frames := 0, cells := 0, slots := 0, locals := 0 } : Room)) (fun a U => a = #[(.ref a0), (.ref a1), (.int p2), (.int p3)] ∧ Z.Warmed39 U.vm ∧ U.heap = h0) (fun _ _ _ _ _ => True) (fun _ U o U' => ∃ v L, o = .returned v ∧ Qwr Z a0 a1 p2 p3 wc sx b kb lim F ka nn cg cn h0 n0 v U'.heap L ∧ FrameEnd U o U' L ({ frames := 0, cells := 0, slots := 0, locals := 0 } : Room).cells ({ frames := 0, cells := 0, slots := 0, locals := 0 } : Room).slots) := by
  refine MetFree.of_bodySF (plainFor_of_name pnwr) hisR ?_
  intro p e s m args below meth c s₁ Bd hml0 hP hK
  obtain ⟨rfl, hZ, hh⟩ := hP
  have hx := Bd.exec
  have hby := Bd.bytes
  have hml : c.maxLocals = 8 := hml0
  have hown : s.vm.findClass "com/example/opuscule/opuscule/json/LineBuffer" = some m.cls := findClass_of_methodNamed Bd.named
  have hnm := (name_of_methodNamed Bd.named Bd.method).1
  have X0 : Stand p l e ({ frames := 0, cells := 0, slots := 0, locals := 0 } : Room) s m #[(.ref a0), (.ref a1), (.int p2), (.int p3)] below meth c s₁ [] 0 0 := Stand.of_body Bd
  have e0 : s₁.heap = h0 := by rw [← hh, Bd.state]; rfl
  have N0 := Fr.nil n0
  show OwnEnd p e below s (fun v h L => Qwr Z a0 a1 p2 p3 wc sx b kb lim F ka nn cg cn h0 n0 v h L) ({ frames := 0, cells := 0, slots := 0, locals := 0 } : Room).cells ({ frames := 0, cells := 0, slots := 0, locals := 0 } : Room).slots (s₁.setTop (entryFrame m #[(.ref a0), (.ref a1), (.int p2), (.int p3)] 8))
  rw [efwr m a0 a1 p2 p3]
  generalize hW : OwnEnd p e below s (fun v h L => Qwr Z a0 a1 p2 p3 wc sx b kb lim F ka nn cg cn h0 n0 v h L) ({ frames := 0, cells := 0, slots := 0, locals := 0 } : Room).cells ({ frames := 0, cells := 0, slots := 0, locals := 0 } : Room).slots = W
  have stp : ∀ {A B : State}, (∀ t, Steps p.tables e below B t → Steps p.tables e below A t) → W B → W A := by subst hW; exact own_step
  obtain ⟨S_cs, hcs, S_si, hr_sx⟩ := id BW
  obtain ⟨E_a0, F_bytes_a0, F_length_a0, F_limit_a0, V_b⟩ := LB0
  have ne_a0_b : a0 ≠ b := Exa.neArv E_a0 V_b (hw _ (List.mem_of_getElem? (i := 1) rfl))
  have ne_a0_a1 : a0 ≠ a1 := Exa.neArv E_a0 V_a1 (hw _ (List.mem_of_getElem? (i := 1) rfl))
  subst hp2
  have hzn := own_ofNat (n := nn) (by omega)
  show W (s₁.setTop (mkF m 0 #[.val (.ref a0), .val (.ref a1), .val (.int (0 : Int32)), .val (.int p3), .unset, .unset, .unset, .unset] []))
  refine stp (fun t k => XS.aloadN X0.here hx rfl (hb hby dwr_0) rfl rfl k) ?_
  show W (s₁.setTop (mkF m 1 #[.val (.ref a0), .val (.ref a1), .val (.int (0 : Int32)), .val (.int p3), .unset, .unset, .unset, .unset] [(.ref a0)]))
  obtain ⟨Twr1, Xwr1, ewr1, stwr1⟩ := getF X0 hx hZ hown (host := "") (Or.inl (hw _ (List.mem_of_getElem? (i := 27) rfl))) Via.refl e0 F_length_a0 (g := (mkF m 1 #[.val (.ref a0), .val (.ref a1), .val (.int (0 : Int32)), .val (.int p3), .unset, .unset, .unset, .unset] [(.ref a0)])) rfl rfl (hb hby dwr_1)
  refine stp (fun t k => stwr1 t k) ?_
  show W (Twr1.setTop (mkF m 4 #[.val (.ref a0), .val (.ref a1), .val (.int (0 : Int32)), .val (.int p3), .unset, .unset, .unset, .unset] [(.int (0 : Int32))]))
  refine stp (fun t k => XS.i2l Xwr1.here hx rfl (hb hby dwr_4) rfl k) ?_
  show W (Twr1.setTop (mkF m 5 #[.val (.ref a0), .val (.ref a1), .val (.int (0 : Int32)), .val (.int p3), .unset, .unset, .unset, .unset] [(.long ((0 : Int32).toInt64))]))
  refine stp (fun t k => XS.iloadN Xwr1.here hx rfl (hb hby dwr_5) rfl k) ?_
  show W (Twr1.setTop (mkF m 6 #[.val (.ref a0), .val (.ref a1), .val (.int (0 : Int32)), .val (.int p3), .unset, .unset, .unset, .unset] [(.int p3), (.long ((0 : Int32).toInt64))]))
  refine stp (fun t k => XS.i2l Xwr1.here hx rfl (hb hby dwr_6) rfl k) ?_
  show W (Twr1.setTop (mkF m 7 #[.val (.ref a0), .val (.ref a1), .val (.int (0 : Int32)), .val (.int p3), .unset, .unset, .unset, .unset] [(.long (p3.toInt64)), (.long ((0 : Int32).toInt64))]))
  refine stp (fun t k => XS.ladd Xwr1.here hx rfl (hb hby dwr_7) rfl k) ?_
  show W (Twr1.setTop (mkF m 8 #[.val (.ref a0), .val (.ref a1), .val (.int (0 : Int32)), .val (.int p3), .unset, .unset, .unset, .unset] [(.long (((0 : Int32).toInt64) + (p3.toInt64)))]))
  refine stp (fun t k => XS.lstore Xwr1.here hx rfl (hb hby dwr_8) rfl (l' := #[.val (.ref a0), .val (.ref a1), .val (.int (0 : Int32)), .val (.int p3), .val (.long (((0 : Int32).toInt64) + (p3.toInt64))), .second, .unset, .unset]) rfl k) ?_
  show W (Twr1.setTop (mkF m 10 #[.val (.ref a0), .val (.ref a1), .val (.int (0 : Int32)), .val (.int p3), .val (.long (((0 : Int32).toInt64) + (p3.toInt64))), .second, .unset, .unset] []))
  refine stp (fun t k => XS.lload Xwr1.here hx rfl (hb hby dwr_10) rfl k) ?_
  show W (Twr1.setTop (mkF m 12 #[.val (.ref a0), .val (.ref a1), .val (.int (0 : Int32)), .val (.int p3), .val (.long (((0 : Int32).toInt64) + (p3.toInt64))), .second, .unset, .unset] [(.long (((0 : Int32).toInt64) + (p3.toInt64)))]))
  refine stp (fun t k => XS.aloadN Xwr1.here hx rfl (hb hby dwr_12) rfl rfl k) ?_
  show W (Twr1.setTop (mkF m 13 #[.val (.ref a0), .val (.ref a1), .val (.int (0 : Int32)), .val (.int p3), .val (.long (((0 : Int32).toInt64) + (p3.toInt64))), .second, .unset, .unset] [(.ref a0), (.long (((0 : Int32).toInt64) + (p3.toInt64)))]))
  obtain ⟨Twr2, Xwr2, ewr2, stwr2⟩ := getF Xwr1 hx hZ hown (host := "") (Or.inl (hw _ (List.mem_of_getElem? (i := 29) rfl))) Via.refl ewr1 F_limit_a0 (g := (mkF m 13 #[.val (.ref a0), .val (.ref a1), .val (.int (0 : Int32)), .val (.int p3), .val (.long (((0 : Int32).toInt64) + (p3.toInt64))), .second, .unset, .unset] [(.ref a0), (.long (((0 : Int32).toInt64) + (p3.toInt64)))])) rfl rfl (hb hby dwr_13)
  refine stp (fun t k => stwr2 t k) ?_
  show W (Twr2.setTop (mkF m 16 #[.val (.ref a0), .val (.ref a1), .val (.int (0 : Int32)), .val (.int p3), .val (.long (((0 : Int32).toInt64) + (p3.toInt64))), .second, .unset, .unset] [(.long lim), (.long (((0 : Int32).toInt64) + (p3.toInt64)))]))
  refine stp (fun t k => XS.lcmp Xwr2.here hx rfl (hb hby dwr_16) rfl k) ?_
  show W (Twr2.setTop (mkF m 17 #[.val (.ref a0), .val (.ref a1), .val (.int (0 : Int32)), .val (.int p3), .val (.long (((0 : Int32).toInt64) + (p3.toInt64))), .second, .unset, .unset] [(.int (lcmpW (((0 : Int32).toInt64) + (p3.toInt64)) lim))]))
  refine stp (fun t k => XS.ifYes Xwr2.here hx rfl (pc0 := 17) (pc' := 28) rfl (hb hby dwr_17) rfl ((if0 _ _).trans (flt (fun q => (hlim) ((lw_gt (((0 : Int32).toInt64) + (p3.toInt64)) lim).mp q))).2.2.2) (by decide) (by decide) k) ?_
  show W (Twr2.setTop (mkF m 28 #[.val (.ref a0), .val (.ref a1), .val (.int (0 : Int32)), .val (.int p3), .val (.long (((0 : Int32).toInt64) + (p3.toInt64))), .second, .unset, .unset] []))
  refine stp (fun t k => XS.lload Xwr2.here hx rfl (hb hby dwr_28) rfl k) ?_
  show W (Twr2.setTop (mkF m 30 #[.val (.ref a0), .val (.ref a1), .val (.int (0 : Int32)), .val (.int p3), .val (.long (((0 : Int32).toInt64) + (p3.toInt64))), .second, .unset, .unset] [(.long (((0 : Int32).toInt64) + (p3.toInt64)))]))
  refine stp (fun t k => XS.aloadN Xwr2.here hx rfl (hb hby dwr_30) rfl rfl k) ?_
  show W (Twr2.setTop (mkF m 31 #[.val (.ref a0), .val (.ref a1), .val (.int (0 : Int32)), .val (.int p3), .val (.long (((0 : Int32).toInt64) + (p3.toInt64))), .second, .unset, .unset] [(.ref a0), (.long (((0 : Int32).toInt64) + (p3.toInt64)))]))
  obtain ⟨Twr3, Xwr3, ewr3, stwr3⟩ := getF Xwr2 hx hZ hown (host := "") (Or.inl (hw _ (List.mem_of_getElem? (i := 17) rfl))) Via.refl ewr2 F_bytes_a0 (g := (mkF m 31 #[.val (.ref a0), .val (.ref a1), .val (.int (0 : Int32)), .val (.int p3), .val (.long (((0 : Int32).toInt64) + (p3.toInt64))), .second, .unset, .unset] [(.ref a0), (.long (((0 : Int32).toInt64) + (p3.toInt64)))])) rfl rfl (hb hby dwr_31)
  refine stp (fun t k => stwr3 t k) ?_
  show W (Twr3.setTop (mkF m 34 #[.val (.ref a0), .val (.ref a1), .val (.int (0 : Int32)), .val (.int p3), .val (.long (((0 : Int32).toInt64) + (p3.toInt64))), .second, .unset, .unset] [(.ref b), (.long (((0 : Int32).toInt64) + (p3.toInt64)))]))
  obtain ⟨clwr4, Arwr4, qkwr4, qswr4, qnwr4, qhwr4, qgwr4⟩ := id V_b
  refine stp (fun t k => Xwr3.arraylength hx (by rw [ewr3]; exact Arwr4.1) (State.isArrayOf_alike hZ.alike Arwr4.2.1) (g := (mkF m 34 #[.val (.ref a0), .val (.ref a1), .val (.int (0 : Int32)), .val (.int p3), .val (.long (((0 : Int32).toInt64) + (p3.toInt64))), .second, .unset, .unset] [(.ref b), (.long (((0 : Int32).toInt64) + (p3.toInt64)))])) rfl rfl (hb hby dwr_34) _ k) ?_
  rw [len_of qswr4 qnwr4]
  show W (Twr3.setTop (mkF m 35 #[.val (.ref a0), .val (.ref a1), .val (.int (0 : Int32)), .val (.int p3), .val (.long (((0 : Int32).toInt64) + (p3.toInt64))), .second, .unset, .unset] [(.int (8192 : Int32)), (.long (((0 : Int32).toInt64) + (p3.toInt64)))]))
  refine stp (fun t k => XS.i2l Xwr3.here hx rfl (hb hby dwr_35) rfl k) ?_
  show W (Twr3.setTop (mkF m 36 #[.val (.ref a0), .val (.ref a1), .val (.int (0 : Int32)), .val (.int p3), .val (.long (((0 : Int32).toInt64) + (p3.toInt64))), .second, .unset, .unset] [(.long ((8192 : Int32).toInt64)), (.long (((0 : Int32).toInt64) + (p3.toInt64)))]))
  refine stp (fun t k => XS.lcmp Xwr3.here hx rfl (hb hby dwr_36) rfl k) ?_
  show W (Twr3.setTop (mkF m 37 #[.val (.ref a0), .val (.ref a1), .val (.int (0 : Int32)), .val (.int p3), .val (.long (((0 : Int32).toInt64) + (p3.toInt64))), .second, .unset, .unset] [(.int (lcmpW (((0 : Int32).toInt64) + (p3.toInt64)) ((8192 : Int32).toInt64)))]))
  refine stp (fun t k => XS.ifYes Xwr3.here hx rfl (pc0 := 37) (pc' := 88) rfl (hb hby dwr_37) rfl ((if0 _ _).trans (flt (fun q => (own_w8 hp3 (by omega)) ((lw_gt (((0 : Int32).toInt64) + (p3.toInt64)) ((8192 : Int32).toInt64)).mp q))).2.2.2) (by decide) (by decide) k) ?_
  show W (Twr3.setTop (mkF m 88 #[.val (.ref a0), .val (.ref a1), .val (.int (0 : Int32)), .val (.int p3), .val (.long (((0 : Int32).toInt64) + (p3.toInt64))), .second, .unset, .unset] []))
  refine stp (fun t k => XS.iconst Xwr3.here hx rfl (hb hby dwr_88) k) ?_
  show W (Twr3.setTop (mkF m 89 #[.val (.ref a0), .val (.ref a1), .val (.int (0 : Int32)), .val (.int p3), .val (.long (((0 : Int32).toInt64) + (p3.toInt64))), .second, .unset, .unset] [(.int (0 : Int32))]))
  refine stp (fun t k => XS.istore Xwr3.here hx rfl (hb hby dwr_89) rfl (l' := #[.val (.ref a0), .val (.ref a1), .val (.int (0 : Int32)), .val (.int p3), .val (.long (((0 : Int32).toInt64) + (p3.toInt64))), .second, .val (.int (0 : Int32)), .unset]) rfl k) ?_
  have LP : ∀ (r i : Nat) (x : Int32) (s7 : Slot) (T' : State) (lc : List Loc) (h' : Heap) (hir : i + r = cn) (hx6 : x.toInt = (i : Int)) (hs7 : One s7) (XL : Stand p l e ({ frames := 0, cells := 0, slots := 0, locals := 0 } : Room) s m #[(.ref a0), (.ref a1), (.int (0 : Int32)), (.int p3)] below meth c T' lc 0 0) (eL : T'.heap = h') (NL : Fr n0 lc) (KL : Keep h0 h' [a0, b]) (OL : Old Z n0 h') (E_a0 : Exa Z h' a0 "com/example/opuscule/opuscule/json/LineBuffer") (F_bytes_a0 : Fld Z h' a0 "com/example/opuscule/opuscule/json/LineBuffer" "bytes" "[B" (.ref b)) (F_length_a0 : Fld Z h' a0 "com/example/opuscule/opuscule/json/LineBuffer" "length" "I" (.int (0 : Int32))) (F_limit_a0 : Fld Z h' a0 "com/example/opuscule/opuscule/json/LineBuffer" "limit" "J" (.long lim)) (V_b : Arv Z h' b kb .byte (8192 : Int32) (own_vs 8192 fun j => if j < i then own_b (cg j) else F j) (.int (0 : Int32))) (V_a1 : Arv Z h' a1 ka .char (Int32.ofNat nn) (own_vs nn cg) (.int (0 : Int32))), W (T'.setTop (mkF m 91 #[.val (.ref a0), .val (.ref a1), .val (.int (0 : Int32)), .val (.int p3), .val (.long (((0 : Int32).toInt64) + (p3.toInt64))), .second, .val (.int x), s7] [])) := by
    intro r
    induction r with
    | zero =>
      intro i x s7 T' lc h' hir hx6 hs7 XL eL NL KL OL E_a0 F_bytes_a0 F_length_a0 F_limit_a0 V_b V_a1
      have ZL : n0 ≤ h'.size := Nat.le_trans Z0 KL.1
      show W (T'.setTop (mkF m 91 #[.val (.ref a0), .val (.ref a1), .val (.int (0 : Int32)), .val (.int p3), .val (.long (((0 : Int32).toInt64) + (p3.toInt64))), .second, .val (.int x), s7] []))
      refine stp (fun t k => XS.iload XL.here hx rfl (hb hby dwr_91) rfl k) ?_
      show W (T'.setTop (mkF m 93 #[.val (.ref a0), .val (.ref a1), .val (.int (0 : Int32)), .val (.int p3), .val (.long (((0 : Int32).toInt64) + (p3.toInt64))), .second, .val (.int x), s7] [(.int x)]))
      refine stp (fun t k => XS.iloadN XL.here hx rfl (hb hby dwr_93) rfl k) ?_
      show W (T'.setTop (mkF m 94 #[.val (.ref a0), .val (.ref a1), .val (.int (0 : Int32)), .val (.int p3), .val (.long (((0 : Int32).toInt64) + (p3.toInt64))), .second, .val (.int x), s7] [(.int p3), (.int x)]))
      refine stp (fun t k => XS.icmpYes XL.here hx rfl (pc0 := 94) (pc' := 159) rfl (hb hby dwr_94) rfl ((flt (fun q => by have := (own_lt32 hx6 hp3).mp q; omega)).2.1) (by decide) (by decide) k) ?_
      show W (T'.setTop (mkF m 159 #[.val (.ref a0), .val (.ref a1), .val (.int (0 : Int32)), .val (.int p3), .val (.long (((0 : Int32).toInt64) + (p3.toInt64))), .second, .val (.int x), s7] []))
      refine stp (fun t k => XS.aloadN XL.here hx rfl (hb hby dwr_159) rfl rfl k) ?_
      show W (T'.setTop (mkF m 160 #[.val (.ref a0), .val (.ref a1), .val (.int (0 : Int32)), .val (.int p3), .val (.long (((0 : Int32).toInt64) + (p3.toInt64))), .second, .val (.int x), s7] [(.ref a0)]))
      refine stp (fun t k => XS.lload XL.here hx rfl (hb hby dwr_160) rfl k) ?_
      show W (T'.setTop (mkF m 162 #[.val (.ref a0), .val (.ref a1), .val (.int (0 : Int32)), .val (.int p3), .val (.long (((0 : Int32).toInt64) + (p3.toInt64))), .second, .val (.int x), s7] [(.long (((0 : Int32).toInt64) + (p3.toInt64))), (.ref a0)]))
      refine stp (fun t k => XS.l2i XL.here hx rfl (hb hby dwr_162) rfl k) ?_
      show W (T'.setTop (mkF m 163 #[.val (.ref a0), .val (.ref a1), .val (.int (0 : Int32)), .val (.int p3), .val (.long (((0 : Int32).toInt64) + (p3.toInt64))), .second, .val (.int x), s7] [(.int ((((0 : Int32).toInt64) + (p3.toInt64)).toInt32)), (.ref a0)]))
      obtain ⟨Twr5, hwr5, Xwr5, ewr5, Wwr5, stwr5⟩ := putF XL hx hZ hown (host := "") (Or.inl (hw _ (List.mem_of_getElem? (i := 27) rfl))) Via.refl eL F_length_a0 E_a0 (Or.inl (hw _ (List.mem_of_getElem? (i := 28) rfl))) (hw _ (List.mem_of_getElem? (i := 1) rfl)) (ty := .int) (by decide) rfl rfl (g := (mkF m 163 #[.val (.ref a0), .val (.ref a1), .val (.int (0 : Int32)), .val (.int p3), .val (.long (((0 : Int32).toInt64) + (p3.toInt64))), .second, .val (.int x), s7] [(.int ((((0 : Int32).toInt64) + (p3.toInt64)).toInt32)), (.ref a0)])) rfl rfl (hb hby dwr_163)
      have Nwr5 := Fr.snoc Xwr5 NL g_a0
      have F_length_a0x := F_length_a0.same Wwr5
      obtain ⟨lcwrt6, Xwr5, Nwr5⟩ : ∃ lc, Stand p l e ({ frames := 0, cells := 0, slots := 0, locals := 0 } : Room) s m #[(.ref a0), (.ref a1), (.int (0 : Int32)), (.int p3)] below meth c Twr5 lc 0 0 ∧ Fr n0 lc := ⟨_, Xwr5, Nwr5⟩
      replace E_a0 := E_a0.wr Wwr5
      replace F_bytes_a0 := F_bytes_a0.other Wwr5 (Or.inr (slot_ne (Or.inl (hw _ (List.mem_of_getElem? (i := 18) rfl))) (Or.inl (hw _ (List.mem_of_getElem? (i := 28) rfl))) (by decide) (t := (.array .byte)) (t' := .int) (by decide) (by decide)))
      replace F_limit_a0 := F_limit_a0.other Wwr5 (Or.inr (slot_ne (Or.inl (hw _ (List.mem_of_getElem? (i := 30) rfl))) (Or.inl (hw _ (List.mem_of_getElem? (i := 28) rfl))) (by decide) (t := .long) (t' := .int) (by decide) (by decide)))
      replace V_b := V_b.other Wwr5 (Ne.symm ne_a0_b)
      replace V_a1 := V_a1.other Wwr5 (Ne.symm ne_a0_a1)
      have Kwr5 := KL.wr Wwr5 (Or.inl (List.mem_of_getElem? (i := 0) rfl))
      have Zwr5 := Nat.le_trans ZL (Keep.of_wr Wwr5).1
      have Owr5 := OL.wr Wwr5 g_a0
      replace F_length_a0 := F_length_a0x
      clear F_length_a0x
      refine stp (fun t k => stwr5 t k) ?_
      show W (Twr5.setTop (mkF m 166 #[.val (.ref a0), .val (.ref a1), .val (.int (0 : Int32)), .val (.int p3), .val (.long (((0 : Int32).toInt64) + (p3.toInt64))), .second, .val (.int x), s7] []))
      show W (Twr5.setTop (mkF m 166 #[.val (.ref a0), .val (.ref a1), .val (.int (0 : Int32)), .val (.int p3), .val (.long (((0 : Int32).toInt64) + (p3.toInt64))), .second, .val (.int x), s7] []))
      rw [← hW]
      exact own_ret0 Xwr5 hx Bd.notSynchronized Bd.returns (hb hby dwr_166) (by show Qwr Z a0 a1 (0 : Int32) p3 wc sx b kb lim F ka nn cg cn h0 n0 _ Twr5.heap _; rw [ewr5]; exact ⟨rfl, Nwr5, Kwr5, E_a0, F_bytes_a0, own_lenEq (own_wI p3) F_length_a0, F_limit_a0, (by obtain rfl : i = cn := (by omega); exact V_b)⟩) (by decide) (by decide)
    | succ r ih =>
      intro i x s7 T' lc h' hir hx6 hs7 XL eL NL KL OL E_a0 F_bytes_a0 F_length_a0 F_limit_a0 V_b V_a1
      have ZL : n0 ≤ h'.size := Nat.le_trans Z0 KL.1
      show W (T'.setTop (mkF m 91 #[.val (.ref a0), .val (.ref a1), .val (.int (0 : Int32)), .val (.int p3), .val (.long (((0 : Int32).toInt64) + (p3.toInt64))), .second, .val (.int x), s7] []))
      refine stp (fun t k => XS.iload XL.here hx rfl (hb hby dwr_91) rfl k) ?_
      show W (T'.setTop (mkF m 93 #[.val (.ref a0), .val (.ref a1), .val (.int (0 : Int32)), .val (.int p3), .val (.long (((0 : Int32).toInt64) + (p3.toInt64))), .second, .val (.int x), s7] [(.int x)]))
      refine stp (fun t k => XS.iloadN XL.here hx rfl (hb hby dwr_93) rfl k) ?_
      show W (T'.setTop (mkF m 94 #[.val (.ref a0), .val (.ref a1), .val (.int (0 : Int32)), .val (.int p3), .val (.long (((0 : Int32).toInt64) + (p3.toInt64))), .second, .val (.int x), s7] [(.int p3), (.int x)]))
      refine stp (fun t k => XS.icmpNo XL.here hx rfl (hb hby dwr_94) rfl ((tlt ((own_lt32 hx6 hp3).mpr (by omega))).2.1) k) ?_
      show W (T'.setTop (mkF m 97 #[.val (.ref a0), .val (.ref a1), .val (.int (0 : Int32)), .val (.int p3), .val (.long (((0 : Int32).toInt64) + (p3.toInt64))), .second, .val (.int x), s7] []))
      refine stp (fun t k => XS.aloadN XL.here hx rfl (hb hby dwr_97) rfl rfl k) ?_
      show W (T'.setTop (mkF m 98 #[.val (.ref a0), .val (.ref a1), .val (.int (0 : Int32)), .val (.int p3), .val (.long (((0 : Int32).toInt64) + (p3.toInt64))), .second, .val (.int x), s7] [(.ref a1)]))
      refine stp (fun t k => XS.iloadN XL.here hx rfl (hb hby dwr_98) rfl k) ?_
      show W (T'.setTop (mkF m 99 #[.val (.ref a0), .val (.ref a1), .val (.int (0 : Int32)), .val (.int p3), .val (.long (((0 : Int32).toInt64) + (p3.toInt64))), .second, .val (.int x), s7] [(.int (0 : Int32)), (.ref a1)]))
      refine stp (fun t k => XS.iload XL.here hx rfl (hb hby dwr_99) rfl k) ?_
      show W (T'.setTop (mkF m 101 #[.val (.ref a0), .val (.ref a1), .val (.int (0 : Int32)), .val (.int p3), .val (.long (((0 : Int32).toInt64) + (p3.toInt64))), .second, .val (.int x), s7] [(.int x), (.int (0 : Int32)), (.ref a1)]))
      refine stp (fun t k => XS.iadd XL.here hx rfl (hb hby dwr_101) rfl k) ?_
      show W (T'.setTop (mkF m 102 #[.val (.ref a0), .val (.ref a1), .val (.int (0 : Int32)), .val (.int p3), .val (.long (((0 : Int32).toInt64) + (p3.toInt64))), .second, .val (.int x), s7] [(.int ((0 : Int32) + x)), (.ref a1)]))
      obtain ⟨clwr7, Arwr7, qkwr7, qswr7, qnwr7, qhwr7, qgwr7⟩ := id V_a1
      have hinwr7 : ¬ (((0 : Int32) + x) < 0 ∨ clwr7.slots.size ≤ (((0 : Int32) + x)).toNatClampNeg) := inb_of qswr7 ⟨own_nn (own_add0 hx6), (own_lt32 (own_add0 hx6) hzn).mpr (by omega)⟩
      have hatwr7 : clwr7.slots[(((0 : Int32) + x)).toNatClampNeg]? = some (.int (cg i)) := qhwr7.at hinwr7 (by rw [own_clamp (own_add0 hx6), own_vsGet (by omega)])
      refine stp (fun t k => XL.caload hx (j := ((0 : Int32) + x)) (v := (.int (cg i))) (by rw [eL]; exact Arwr7.1) (State.isArrayOf_alike hZ.alike Arwr7.2.1) Arwr7.2.2 hinwr7 hatwr7 (g := (mkF m 102 #[.val (.ref a0), .val (.ref a1), .val (.int (0 : Int32)), .val (.int p3), .val (.long (((0 : Int32).toInt64) + (p3.toInt64))), .second, .val (.int x), s7] [(.int ((0 : Int32) + x)), (.ref a1)])) rfl rfl (hb hby dwr_102) _ k) ?_
      show W (T'.setTop (mkF m 103 #[.val (.ref a0), .val (.ref a1), .val (.int (0 : Int32)), .val (.int p3), .val (.long (((0 : Int32).toInt64) + (p3.toInt64))), .second, .val (.int x), s7] [(.int (cg i))]))
      refine stp (fun t k => XS.istoreS XL.here hx rfl (hb hby dwr_103) rfl rfl hs7 k) ?_
      show W (T'.setTop (mkF m 105 #[.val (.ref a0), .val (.ref a1), .val (.int (0 : Int32)), .val (.int p3), .val (.long (((0 : Int32).toInt64) + (p3.toInt64))), .second, .val (.int x), .val (.int (cg i))] []))
      show W (T'.setTop (mkF m 105 #[.val (.ref a0), .val (.ref a1), .val (.int (0 : Int32)), .val (.int p3), .val (.long (((0 : Int32).toInt64) + (p3.toInt64))), .second, .val (.int x), .val (.int (cg i))] []))
      refine stp (fun t k => XS.iload XL.here hx rfl (hb hby dwr_105) rfl k) ?_
      show W (T'.setTop (mkF m 107 #[.val (.ref a0), .val (.ref a1), .val (.int (0 : Int32)), .val (.int p3), .val (.long (((0 : Int32).toInt64) + (p3.toInt64))), .second, .val (.int x), .val (.int (cg i))] [(.int (cg i))]))
      refine stp (fun t k => XS.sipush XL.here hx rfl (hb hby dwr_107) k) ?_
      show W (T'.setTop (mkF m 110 #[.val (.ref a0), .val (.ref a1), .val (.int (0 : Int32)), .val (.int p3), .val (.long (((0 : Int32).toInt64) + (p3.toInt64))), .second, .val (.int x), .val (.int (cg i))] [(.int (128 : Int32)), (.int (cg i))]))
      refine stp (fun t k => XS.icmpYes XL.here hx rfl (pc0 := 110) (pc' := 138) rfl (hb hby dwr_110) rfl ((tlt (own_lt128 (hch i (by omega)).2)).1) (by decide) (by decide) k) ?_
      show W (T'.setTop (mkF m 138 #[.val (.ref a0), .val (.ref a1), .val (.int (0 : Int32)), .val (.int p3), .val (.long (((0 : Int32).toInt64) + (p3.toInt64))), .second, .val (.int x), .val (.int (cg i))] []))
      refine stp (fun t k => XS.aloadN XL.here hx rfl (hb hby dwr_138) rfl rfl k) ?_
      show W (T'.setTop (mkF m 139 #[.val (.ref a0), .val (.ref a1), .val (.int (0 : Int32)), .val (.int p3), .val (.long (((0 : Int32).toInt64) + (p3.toInt64))), .second, .val (.int x), .val (.int (cg i))] [(.ref a0)]))
      obtain ⟨Twr8, Xwr8, ewr8, stwr8⟩ := getF XL hx hZ hown (host := "") (Or.inl (hw _ (List.mem_of_getElem? (i := 17) rfl))) Via.refl eL F_bytes_a0 (g := (mkF m 139 #[.val (.ref a0), .val (.ref a1), .val (.int (0 : Int32)), .val (.int p3), .val (.long (((0 : Int32).toInt64) + (p3.toInt64))), .second, .val (.int x), .val (.int (cg i))] [(.ref a0)])) rfl rfl (hb hby dwr_139)
      refine stp (fun t k => stwr8 t k) ?_
      show W (Twr8.setTop (mkF m 142 #[.val (.ref a0), .val (.ref a1), .val (.int (0 : Int32)), .val (.int p3), .val (.long (((0 : Int32).toInt64) + (p3.toInt64))), .second, .val (.int x), .val (.int (cg i))] [(.ref b)]))
      refine stp (fun t k => XS.aloadN Xwr8.here hx rfl (hb hby dwr_142) rfl rfl k) ?_
      show W (Twr8.setTop (mkF m 143 #[.val (.ref a0), .val (.ref a1), .val (.int (0 : Int32)), .val (.int p3), .val (.long (((0 : Int32).toInt64) + (p3.toInt64))), .second, .val (.int x), .val (.int (cg i))] [(.ref a0), (.ref b)]))
      obtain ⟨Twr9, Xwr9, ewr9, stwr9⟩ := getF Xwr8 hx hZ hown (host := "") (Or.inl (hw _ (List.mem_of_getElem? (i := 27) rfl))) Via.refl ewr8 F_length_a0 (g := (mkF m 143 #[.val (.ref a0), .val (.ref a1), .val (.int (0 : Int32)), .val (.int p3), .val (.long (((0 : Int32).toInt64) + (p3.toInt64))), .second, .val (.int x), .val (.int (cg i))] [(.ref a0), (.ref b)])) rfl rfl (hb hby dwr_143)
      refine stp (fun t k => stwr9 t k) ?_
      show W (Twr9.setTop (mkF m 146 #[.val (.ref a0), .val (.ref a1), .val (.int (0 : Int32)), .val (.int p3), .val (.long (((0 : Int32).toInt64) + (p3.toInt64))), .second, .val (.int x), .val (.int (cg i))] [(.int (0 : Int32)), (.ref b)]))
      refine stp (fun t k => XS.iload Xwr9.here hx rfl (hb hby dwr_146) rfl k) ?_
      show W (Twr9.setTop (mkF m 148 #[.val (.ref a0), .val (.ref a1), .val (.int (0 : Int32)), .val (.int p3), .val (.long (((0 : Int32).toInt64) + (p3.toInt64))), .second, .val (.int x), .val (.int (cg i))] [(.int x), (.int (0 : Int32)), (.ref b)]))
      refine stp (fun t k => XS.iadd Xwr9.here hx rfl (hb hby dwr_148) rfl k) ?_
      show W (Twr9.setTop (mkF m 149 #[.val (.ref a0), .val (.ref a1), .val (.int (0 : Int32)), .val (.int p3), .val (.long (((0 : Int32).toInt64) + (p3.toInt64))), .second, .val (.int x), .val (.int (cg i))] [(.int ((0 : Int32) + x)), (.ref b)]))
      refine stp (fun t k => XS.iload Xwr9.here hx rfl (hb hby dwr_149) rfl k) ?_
      show W (Twr9.setTop (mkF m 151 #[.val (.ref a0), .val (.ref a1), .val (.int (0 : Int32)), .val (.int p3), .val (.long (((0 : Int32).toInt64) + (p3.toInt64))), .second, .val (.int x), .val (.int (cg i))] [(.int (cg i)), (.int ((0 : Int32) + x)), (.ref b)]))
      refine stp (fun t k => XS.i2b Xwr9.here hx rfl (hb hby dwr_151) rfl k) ?_
      show W (Twr9.setTop (mkF m 152 #[.val (.ref a0), .val (.ref a1), .val (.int (0 : Int32)), .val (.int p3), .val (.long (((0 : Int32).toInt64) + (p3.toInt64))), .second, .val (.int x), .val (.int (cg i))] [(.int ((cg i).toInt8.toInt32)), (.int ((0 : Int32) + x)), (.ref b)]))
      obtain ⟨clwr10, Arwr10, qkwr10, qswr10, qnwr10, qhwr10, qgwr10⟩ := id V_b
      have hinwr10 : ¬ (((0 : Int32) + x) < 0 ∨ clwr10.slots.size ≤ (((0 : Int32) + x)).toNatClampNeg) := inb_of qswr10 ⟨own_nn (own_add0 hx6), (own_lt32 (own_add0 hx6) own_h8).mpr (by omega)⟩
      obtain ⟨Twr10, hwr10, Xwr10, ewr10, Wwr10, stwr10⟩ := stB Xwr9 hx hZ ewr9 Arwr10 (j := ((0 : Int32) + x)) hinwr10 (g := (mkF m 152 #[.val (.ref a0), .val (.ref a1), .val (.int (0 : Int32)), .val (.int p3), .val (.long (((0 : Int32).toInt64) + (p3.toInt64))), .second, .val (.int x), .val (.int (cg i))] [(.int ((cg i).toInt8.toInt32)), (.int ((0 : Int32) + x)), (.ref b)])) rfl rfl (hb hby dwr_152)
      have V_bx := Arv.set Arwr10 qkwr10 qswr10 qnwr10 qhwr10 qgwr10 (fits_nar_byte _) Wwr10 i (own_clamp (own_add0 hx6)) (by rw [own_vsLen]; omega)
      have Nwr10 := Fr.snoc Xwr10 NL g_b
      obtain ⟨lcwrt11, Xwr10, Nwr10⟩ : ∃ lc, Stand p l e ({ frames := 0, cells := 0, slots := 0, locals := 0 } : Room) s m #[(.ref a0), (.ref a1), (.int (0 : Int32)), (.int p3)] below meth c Twr10 lc 0 0 ∧ Fr n0 lc := ⟨_, Xwr10, Nwr10⟩
      replace E_a0 := E_a0.wr Wwr10
      replace F_bytes_a0 := F_bytes_a0.other Wwr10 (Or.inl ne_a0_b)
      replace F_length_a0 := F_length_a0.other Wwr10 (Or.inl ne_a0_b)
      replace F_limit_a0 := F_limit_a0.other Wwr10 (Or.inl ne_a0_b)
      replace V_a1 := V_a1.other Wwr10 ne_a1_b
      have Kwr10 := KL.wr Wwr10 (Or.inl (List.mem_of_getElem? (i := 1) rfl))
      have Zwr10 := Nat.le_trans ZL (Keep.of_wr Wwr10).1
      have Owr10 := OL.wr Wwr10 g_b
      replace V_b : Arv Z hwr10 b kb .byte (8192 : Int32) (own_vs 8192 fun j => if j < i + 1 then own_b (cg j) else F j) (.int (0 : Int32)) := own_arvEq (own_stepF 8192 i cg F) V_bx
      refine stp (fun t k => stwr10 t k) ?_
      show W (Twr10.setTop (mkF m 153 #[.val (.ref a0), .val (.ref a1), .val (.int (0 : Int32)), .val (.int p3), .val (.long (((0 : Int32).toInt64) + (p3.toInt64))), .second, .val (.int x), .val (.int (cg i))] []))
      refine stp (fun t k => XS.iinc Xwr10.here hx rfl (hb hby dwr_153) rfl (l' := #[.val (.ref a0), .val (.ref a1), .val (.int (0 : Int32)), .val (.int p3), .val (.long (((0 : Int32).toInt64) + (p3.toInt64))), .second, .val (.int (x + (1 : Int32))), .val (.int (cg i))]) rfl k) ?_
      show W (Twr10.setTop (mkF m 156 #[.val (.ref a0), .val (.ref a1), .val (.int (0 : Int32)), .val (.int p3), .val (.long (((0 : Int32).toInt64) + (p3.toInt64))), .second, .val (.int (x + (1 : Int32))), .val (.int (cg i))] []))
      refine stp (fun t k => XS.goto Xwr10.here hx rfl (pc0 := 156) (pc' := 91) rfl (hb hby dwr_156) (by decide) (by decide) k) ?_
      exact ih (i + 1) _ _ _ _ _ (by omega) (own_inc hx6 (by omega)) (One.val rfl) Xwr10 ewr10 Nwr10 Kwr10 Owr10 E_a0 F_bytes_a0 F_length_a0 F_limit_a0 V_b V_a1
  exact LP cn 0 (0 : Int32) .unset _ _ _ (by omega) rfl One.u Xwr3 ewr3 N0 (Keep.refl h0 [a0, b]) O0 E_a0 F_bytes_a0 F_length_a0 F_limit_a0 (own_arvEq (own_vsCongr (fun j hj => (if_neg (Nat.not_lt_zero j)).symm)) V_b) V_a1
theorem drn_0 : decode jdk_31_method_10_code 0 = .ok (.aload_n 0, 1) := by decide +kernel
theorem drn_1 : decode jdk_31_method_10_code 1 = .ok (.ifnonnull 11, 3) := by decide +kernel
theorem drn_12 : decode jdk_31_method_10_code 12 = .ok (.aload_n 0, 1) := by decide +kernel
theorem drn_13 : decode jdk_31_method_10_code 13 = .ok (.areturn, 1) := by decide +kernel
theorem pnrn : plainName "java/util/Objects" = true := by first | (simp [plainName, overriddenIn]; done) | decide +kernel
theorem efrn (m : MethodId) (a0 : Addr) : entryFrame m #[(.ref a0)] 1 = mkF m 0 #[.val (.ref a0)] [] := by first | (simp [entryFrame, mkF, argsToLocals, Value.category]; done) | rfl
def Qrn (Z : State) (a0 : Addr) (h0 : Heap) (n0 : Nat) (v : Option Value) (h : Heap) (L : List Loc) : Prop := v = some (.ref a0) ∧ Fr n0 L ∧ h = h0
set_option maxRecDepth 65536 in
set_option maxHeartbeats 40000000 in
theorem rmrn (l : Launch) (Z : State) (aa : Array Value) (hw : ∀ d ∈ tables_1, d.before aa Z = true) (ws : List Jvm.Cond) (a0 : Addr) (h0 : Heap) (n0 : Nat) (Z0 : n0 ≤ h0.size) :
    MetFree l (⟨"java/util/Objects", "requireNonNull", "(Ljava/lang/Object;)Ljava/lang/Object;"⟩ : MethodName) (head1 (Jvm.Cond.code (⟨"java/util/Objects", "requireNonNull", "(Ljava/lang/Object;)Ljava/lang/Object;"⟩ : MethodName) jdk_31_method_10_code 1 (some (.object "java/lang/Object")) :: ws) ({ frames := 0, cells := 0, slots := 0, locals := 0 } : Room)) (fun a U => a = #[(.ref a0)] ∧ Z.Warmed39 U.vm ∧ U.heap = h0) (fun _ _ _ _ _ => True) (fun _ U o U' => ∃ v L, o = .returned v ∧ Qrn Z a0 h0 n0 v U'.heap L ∧ FrameEnd U o U' L ({ frames := 0, cells := 0, slots := 0, locals := 0 } : Room).cells ({ frames := 0, cells := 0, slots := 0, locals := 0 } : Room).slots) := by
  refine MetFree.of_bodySF (plainFor_of_name pnrn) hisR ?_
  intro p e s m args below meth c s₁ Bd hml0 hP hK
  obtain ⟨rfl, hZ, hh⟩ := hP
  have hx := Bd.exec
  have hby := Bd.bytes
  have hml : c.maxLocals = 1 := hml0
  have hown : s.vm.findClass "java/util/Objects" = some m.cls := findClass_of_methodNamed Bd.named
  have hnm := (name_of_methodNamed Bd.named Bd.method).1
  have X0 : Stand p l e ({ frames := 0, cells := 0, slots := 0, locals := 0 } : Room) s m #[(.ref a0)] below meth c s₁ [] 0 0 := Stand.of_body Bd
  have e0 : s₁.heap = h0 := by rw [← hh, Bd.state]; rfl
  have N0 := Fr.nil n0
  show OwnEnd p e below s (fun v h L => Qrn Z a0 h0 n0 v h L) ({ frames := 0, cells := 0, slots := 0, locals := 0 } : Room).cells ({ frames := 0, cells := 0, slots := 0, locals := 0 } : Room).slots (s₁.setTop (entryFrame m #[(.ref a0)] 1))
  rw [efrn m a0]
  generalize hW : OwnEnd p e below s (fun v h L => Qrn Z a0 h0 n0 v h L) ({ frames := 0, cells := 0, slots := 0, locals := 0 } : Room).cells ({ frames := 0, cells := 0, slots := 0, locals := 0 } : Room).slots = W
  have stp : ∀ {A B : State}, (∀ t, Steps p.tables e below B t → Steps p.tables e below A t) → W B → W A := by subst hW; exact own_step
  show W (s₁.setTop (mkF m 0 #[.val (.ref a0)] []))
  refine stp (fun t k => XS.aloadN X0.here hx rfl (hb hby drn_0) rfl rfl k) ?_
  show W (s₁.setTop (mkF m 1 #[.val (.ref a0)] [(.ref a0)]))
  refine stp (fun t k => XT.ifnonnullYes X0.here hx rfl (pc0 := 1) (pc' := 12) rfl (hb hby drn_1) rfl (by decide) (by decide) k) ?_
  show W (s₁.setTop (mkF m 12 #[.val (.ref a0)] []))
  refine stp (fun t k => XS.aloadN X0.here hx rfl (hb hby drn_12) rfl rfl k) ?_
  show W (s₁.setTop (mkF m 13 #[.val (.ref a0)] [(.ref a0)]))
  show W (s₁.setTop (mkF m 13 #[.val (.ref a0)] [(.ref a0)]))
  rw [← hW]
  exact own_retR X0 hx Bd.notSynchronized Bd.returns rfl (hb hby drn_13) (by show Qrn Z a0 h0 n0 _ s₁.heap _; rw [e0]; exact ⟨rfl, N0, rfl⟩) (by decide) (by decide)
theorem dcf_0 : decode jdk_41_method_13_code 0 = .ok (.iload_n 2, 1) := by decide +kernel
theorem dcf_1 : decode jdk_41_method_13_code 1 = .ok (.iload_n 0, 1) := by decide +kernel
theorem dcf_2 : decode jdk_41_method_13_code 2 = .ok (.ior, 1) := by decide +kernel
theorem dcf_3 : decode jdk_41_method_13_code 3 = .ok (.iload_n 1, 1) := by decide +kernel
theorem dcf_4 : decode jdk_41_method_13_code 4 = .ok (.ior, 1) := by decide +kernel
theorem dcf_5 : decode jdk_41_method_13_code 5 = .ok (.ifCond .lt 10, 3) := by decide +kernel
theorem dcf_8 : decode jdk_41_method_13_code 8 = .ok (.iload_n 1, 1) := by decide +kernel
theorem dcf_9 : decode jdk_41_method_13_code 9 = .ok (.iload_n 2, 1) := by decide +kernel
theorem dcf_10 : decode jdk_41_method_13_code 10 = .ok (.iload_n 0, 1) := by decide +kernel
theorem dcf_11 : decode jdk_41_method_13_code 11 = .ok (.isub, 1) := by decide +kernel
theorem dcf_12 : decode jdk_41_method_13_code 12 = .ok (.if_icmp .le 11, 3) := by decide +kernel
theorem dcf_23 : decode jdk_41_method_13_code 23 = .ok (.iload_n 0, 1) := by decide +kernel
theorem dcf_24 : decode jdk_41_method_13_code 24 = .ok (.ireturn, 1) := by decide +kernel
theorem pncf : plainName "jdk/internal/util/Preconditions" = true := by first | (simp [plainName, overriddenIn]; done) | decide +kernel
theorem efcf (m : MethodId) (p0 : Int32) (p1 : Int32) (p2 : Int32) (x3 : Value) (hr_x3 : x3.isRef = true) : entryFrame m #[(.int p0), (.int p1), (.int p2), x3] 4 = mkF m 0 #[.val (.int p0), .val (.int p1), .val (.int p2), .val x3] [] := by
  rcases ref_cases hr_x3 with rfl | ⟨_, rfl⟩
  · rfl
  rfl
def Qcf (Z : State) (p0 : Int32) (p1 : Int32) (p2 : Int32) (x3 : Value) (h0 : Heap) (n0 : Nat) (v : Option Value) (h : Heap) (L : List Loc) : Prop := v = some (.int p0) ∧ Fr n0 L ∧ h = h0
set_option maxRecDepth 65536 in
set_option maxHeartbeats 40000000 in
theorem rmcf (l : Launch) (Z : State) (aa : Array Value) (hw : ∀ d ∈ tables_1, d.before aa Z = true) (ws : List Jvm.Cond) (p0 : Int32) (p1 : Int32) (p2 : Int32) (x3 : Value) (h0 : Heap) (n0 : Nat) (Z0 : n0 ≤ h0.size) (hr_x3 : x3.isRef = true) (hb1 : ¬ ((p2 ||| p0) ||| p1) < (0 : Int32)) (hb2 : ¬ (p2 - p0) < p1) :
    MetFree l (⟨"jdk/internal/util/Preconditions", "checkFromIndexSize", "(IIILjava/util/function/BiFunction;)I"⟩ : MethodName) (head1 (Jvm.Cond.code (⟨"jdk/internal/util/Preconditions", "checkFromIndexSize", "(IIILjava/util/function/BiFunction;)I"⟩ : MethodName) jdk_41_method_13_code 4 (some .int) :: ws) ({ frames := 0, cells := 0, slots := 0, locals := 0 } : Room)) (fun a U => a = #[(.int p0), (.int p1), (.int p2), x3] ∧ Z.Warmed39 U.vm ∧ U.heap = h0) (fun _ _ _ _ _ => True) (fun _ U o U' => ∃ v L, o = .returned v ∧ Qcf Z p0 p1 p2 x3 h0 n0 v U'.heap L ∧ FrameEnd U o U' L ({ frames := 0, cells := 0, slots := 0, locals := 0 } : Room).cells ({ frames := 0, cells := 0, slots := 0, locals := 0 } : Room).slots) := by
  refine MetFree.of_bodySF (plainFor_of_name pncf) hisR ?_
  intro p e s m args below meth c s₁ Bd hml0 hP hK
  obtain ⟨rfl, hZ, hh⟩ := hP
  have hx := Bd.exec
  have hby := Bd.bytes
  have hml : c.maxLocals = 4 := hml0
  have hown : s.vm.findClass "jdk/internal/util/Preconditions" = some m.cls := findClass_of_methodNamed Bd.named
  have hnm := (name_of_methodNamed Bd.named Bd.method).1
  have X0 : Stand p l e ({ frames := 0, cells := 0, slots := 0, locals := 0 } : Room) s m #[(.int p0), (.int p1), (.int p2), x3] below meth c s₁ [] 0 0 := Stand.of_body Bd
  have e0 : s₁.heap = h0 := by rw [← hh, Bd.state]; rfl
  have N0 := Fr.nil n0
  show OwnEnd p e below s (fun v h L => Qcf Z p0 p1 p2 x3 h0 n0 v h L) ({ frames := 0, cells := 0, slots := 0, locals := 0 } : Room).cells ({ frames := 0, cells := 0, slots := 0, locals := 0 } : Room).slots (s₁.setTop (entryFrame m #[(.int p0), (.int p1), (.int p2), x3] 4))
  rw [efcf m p0 p1 p2 x3 hr_x3]
  generalize hW : OwnEnd p e below s (fun v h L => Qcf Z p0 p1 p2 x3 h0 n0 v h L) ({ frames := 0, cells := 0, slots := 0, locals := 0 } : Room).cells ({ frames := 0, cells := 0, slots := 0, locals := 0 } : Room).slots = W
  have stp : ∀ {A B : State}, (∀ t, Steps p.tables e below B t → Steps p.tables e below A t) → W B → W A := by subst hW; exact own_step
  show W (s₁.setTop (mkF m 0 #[.val (.int p0), .val (.int p1), .val (.int p2), .val x3] []))
  refine stp (fun t k => XS.iloadN X0.here hx rfl (hb hby dcf_0) rfl k) ?_
  show W (s₁.setTop (mkF m 1 #[.val (.int p0), .val (.int p1), .val (.int p2), .val x3] [(.int p2)]))
  refine stp (fun t k => XS.iloadN X0.here hx rfl (hb hby dcf_1) rfl k) ?_
  show W (s₁.setTop (mkF m 2 #[.val (.int p0), .val (.int p1), .val (.int p2), .val x3] [(.int p0), (.int p2)]))
  refine stp (fun t k => XS.ior X0.here hx rfl (hb hby dcf_2) rfl k) ?_
  show W (s₁.setTop (mkF m 3 #[.val (.int p0), .val (.int p1), .val (.int p2), .val x3] [(.int (p2 ||| p0))]))
  refine stp (fun t k => XS.iloadN X0.here hx rfl (hb hby dcf_3) rfl k) ?_
  show W (s₁.setTop (mkF m 4 #[.val (.int p0), .val (.int p1), .val (.int p2), .val x3] [(.int p1), (.int (p2 ||| p0))]))
  refine stp (fun t k => XS.ior X0.here hx rfl (hb hby dcf_4) rfl k) ?_
  show W (s₁.setTop (mkF m 5 #[.val (.int p0), .val (.int p1), .val (.int p2), .val x3] [(.int ((p2 ||| p0) ||| p1))]))
  refine stp (fun t k => XS.ifNo X0.here hx rfl (hb hby dcf_5) rfl ((if0 _ _).trans (flt (hb1)).1) k) ?_
  show W (s₁.setTop (mkF m 8 #[.val (.int p0), .val (.int p1), .val (.int p2), .val x3] []))
  refine stp (fun t k => XS.iloadN X0.here hx rfl (hb hby dcf_8) rfl k) ?_
  show W (s₁.setTop (mkF m 9 #[.val (.int p0), .val (.int p1), .val (.int p2), .val x3] [(.int p1)]))
  refine stp (fun t k => XS.iloadN X0.here hx rfl (hb hby dcf_9) rfl k) ?_
  show W (s₁.setTop (mkF m 10 #[.val (.int p0), .val (.int p1), .val (.int p2), .val x3] [(.int p2), (.int p1)]))
  refine stp (fun t k => XS.iloadN X0.here hx rfl (hb hby dcf_10) rfl k) ?_
  show W (s₁.setTop (mkF m 11 #[.val (.int p0), .val (.int p1), .val (.int p2), .val x3] [(.int p0), (.int p2), (.int p1)]))
  refine stp (fun t k => XS.isub X0.here hx rfl (hb hby dcf_11) rfl k) ?_
  show W (s₁.setTop (mkF m 12 #[.val (.int p0), .val (.int p1), .val (.int p2), .val x3] [(.int (p2 - p0)), (.int p1)]))
  refine stp (fun t k => XS.icmpYes X0.here hx rfl (pc0 := 12) (pc' := 23) rfl (hb hby dcf_12) rfl ((flt (hb2)).2.2.2) (by decide) (by decide) k) ?_
  show W (s₁.setTop (mkF m 23 #[.val (.int p0), .val (.int p1), .val (.int p2), .val x3] []))
  refine stp (fun t k => XS.iloadN X0.here hx rfl (hb hby dcf_23) rfl k) ?_
  show W (s₁.setTop (mkF m 24 #[.val (.int p0), .val (.int p1), .val (.int p2), .val x3] [(.int p0)]))
  show W (s₁.setTop (mkF m 24 #[.val (.int p0), .val (.int p1), .val (.int p2), .val x3] [(.int p0)]))
  rw [← hW]
  exact own_retI X0 hx Bd.notSynchronized Bd.returns (hb hby dcf_24) (by show Qcf Z p0 p1 p2 x3 h0 n0 _ s₁.heap _; rw [e0]; exact ⟨rfl, N0, rfl⟩) (by decide) (by decide)
theorem dcb_0 : decode jdk_42_method_157_code 0 = .ok (.iload_n 0, 1) := by decide +kernel
theorem dcb_1 : decode jdk_42_method_157_code 1 = .ok (.iload_n 1, 1) := by decide +kernel
theorem dcb_2 : decode jdk_42_method_157_code 2 = .ok (.iload_n 2, 1) := by decide +kernel
theorem dcb_3 : decode jdk_42_method_157_code 3 = .ok (.getstatic 1053, 3) := by decide +kernel
theorem dcb_6 : decode jdk_42_method_157_code 6 = .ok (.invokestatic 1065, 3) := by decide +kernel
theorem dcb_9 : decode jdk_42_method_157_code 9 = .ok (.ireturn, 1) := by decide +kernel
theorem pncb : plainName "java/lang/String" = true := by first | (simp [plainName, overriddenIn]; done) | decide +kernel
theorem pdcb_0 : parseMethodDescriptor "(IIILjava/util/function/BiFunction;)I" = some ⟨[.int, .int, .int, (.object "java/util/function/BiFunction")], some .int⟩ := by decide +kernel
theorem efcb (m : MethodId) (p0 : Int32) (p1 : Int32) (p2 : Int32) : entryFrame m #[(.int p0), (.int p1), (.int p2)] 3 = mkF m 0 #[.val (.int p0), .val (.int p1), .val (.int p2)] [] := by first | (simp [entryFrame, mkF, argsToLocals, Value.category]; done) | rfl
def Qcb (Z : State) (p0 : Int32) (p1 : Int32) (p2 : Int32) (wc : Int32) (sx : Value) (h0 : Heap) (n0 : Nat) (v : Option Value) (h : Heap) (L : List Loc) : Prop := v = some (.int p0) ∧ Fr n0 L ∧ h = h0
set_option maxRecDepth 65536 in
set_option maxHeartbeats 40000000 in
theorem rmcb (l : Launch) (Z : State) (aa : Array Value) (hw : ∀ d ∈ tables_1, d.before aa Z = true) (ws : List Jvm.Cond) (p0 : Int32) (p1 : Int32) (p2 : Int32) (wc : Int32) (sx : Value) (h0 : Heap) (n0 : Nat) (Z0 : n0 ≤ h0.size) (BW : OwnW Z wc sx) (O0 : Old Z n0 h0) (hb1 : ¬ ((p2 ||| p0) ||| p1) < (0 : Int32)) (hb2 : ¬ (p2 - p0) < p1) :
    MetFree l (⟨"java/lang/String", "checkBoundsOffCount", "(III)I"⟩ : MethodName) (head1 (Jvm.Cond.code (⟨"java/lang/String", "checkBoundsOffCount", "(III)I"⟩ : MethodName) jdk_42_method_157_code 3 (some .int) :: ws) ({ frames := 1, cells := 0, slots := 0, locals := 15 } : Room)) (fun a U => a = #[(.int p0), (.int p1), (.int p2)] ∧ Z.Warmed39 U.vm ∧ U.heap = h0) (fun _ _ _ _ _ => True) (fun _ U o U' => ∃ v L, o = .returned v ∧ Qcb Z p0 p1 p2 wc sx h0 n0 v U'.heap L ∧ FrameEnd U o U' L ({ frames := 1, cells := 0, slots := 0, locals := 15 } : Room).cells ({ frames := 1, cells := 0, slots := 0, locals := 15 } : Room).slots) := by
  refine MetFree.of_bodySF (plainFor_of_name pncb) hisR ?_
  intro p e s m args below meth c s₁ Bd hml0 hP hK
  obtain ⟨rfl, hZ, hh⟩ := hP
  have hx := Bd.exec
  have hby := Bd.bytes
  have hml : c.maxLocals = 3 := hml0
  have hown : s.vm.findClass "java/lang/String" = some m.cls := findClass_of_methodNamed Bd.named
  have hnm := (name_of_methodNamed Bd.named Bd.method).1
  have X0 : Stand p l e ({ frames := 1, cells := 0, slots := 0, locals := 15 } : Room) s m #[(.int p0), (.int p1), (.int p2)] below meth c s₁ [] 0 0 := Stand.of_body Bd
  have e0 : s₁.heap = h0 := by rw [← hh, Bd.state]; rfl
  have N0 := Fr.nil n0
  show OwnEnd p e below s (fun v h L => Qcb Z p0 p1 p2 wc sx h0 n0 v h L) ({ frames := 1, cells := 0, slots := 0, locals := 15 } : Room).cells ({ frames := 1, cells := 0, slots := 0, locals := 15 } : Room).slots (s₁.setTop (entryFrame m #[(.int p0), (.int p1), (.int p2)] 3))
  rw [efcb m p0 p1 p2]
  generalize hW : OwnEnd p e below s (fun v h L => Qcb Z p0 p1 p2 wc sx h0 n0 v h L) ({ frames := 1, cells := 0, slots := 0, locals := 15 } : Room).cells ({ frames := 1, cells := 0, slots := 0, locals := 15 } : Room).slots = W
  have stp : ∀ {A B : State}, (∀ t, Steps p.tables e below B t → Steps p.tables e below A t) → W B → W A := by subst hW; exact own_step
  obtain ⟨S_cs, hcs, S_si, hr_sx⟩ := id BW
  show W (s₁.setTop (mkF m 0 #[.val (.int p0), .val (.int p1), .val (.int p2)] []))
  refine stp (fun t k => XS.iloadN X0.here hx rfl (hb hby dcb_0) rfl k) ?_
  show W (s₁.setTop (mkF m 1 #[.val (.int p0), .val (.int p1), .val (.int p2)] [(.int p0)]))
  refine stp (fun t k => XS.iloadN X0.here hx rfl (hb hby dcb_1) rfl k) ?_
  show W (s₁.setTop (mkF m 2 #[.val (.int p0), .val (.int p1), .val (.int p2)] [(.int p1), (.int p0)]))
  refine stp (fun t k => XS.iloadN X0.here hx rfl (hb hby dcb_2) rfl k) ?_
  show W (s₁.setTop (mkF m 3 #[.val (.int p0), .val (.int p1), .val (.int p2)] [(.int p2), (.int p1), (.int p0)]))
  obtain ⟨Tcb1, Xcb1, ecb1, stcb1⟩ := getS2 X0 hx hZ hown (host := "") (Or.inl (hw _ (List.mem_of_getElem? (i := 58) rfl))) Via.refl e0 (S_si.ext O0.2) (g := (mkF m 3 #[.val (.int p0), .val (.int p1), .val (.int p2)] [(.int p2), (.int p1), (.int p0)])) rfl (hb hby dcb_3)
  refine stp (fun t k => stcb1 t k) ?_
  show W (Tcb1.setTop (mkF m 6 #[.val (.int p0), .val (.int p1), .val (.int p2)] [sx, (.int p2), (.int p1), (.int p0)]))
  obtain ⟨_, _, ⟨Tcbc2, Lcbc2, kcbc2, ncbc2⟩, -, Xcbc2, ⟨Lccbc2, hQcbc2, lcbc2, ycbc2, zcbc2⟩, stcbc2⟩ := Jvm.LawKit.callS Xcb1 hx (y := (⟨"jdk/internal/util/Preconditions", "checkFromIndexSize", "(IIILjava/util/function/BiFunction;)I"⟩ : MethodName)) hown (mvT hZ (hw _ (List.mem_of_getElem? (i := 60) rfl))) (mvT hZ (hw _ (List.mem_of_getElem? (i := 61) rfl))) (mvT hZ (hw _ (List.mem_of_getElem? (i := 59) rfl))) (mvT hZ (hw _ (List.mem_of_getElem? (i := 62) rfl))) (by decide) (backOf (W := 0) (rmcf l Z aa hw [] p0 p1 p2 sx h0 n0 Z0 hr_sx hb1 hb2) hZ (hw _ (List.mem_of_getElem? (i := 62) rfl)) (hw _ (List.mem_of_getElem? (i := 59) rfl)) (by decide) (by decide)) (g := (mkF m 6 #[.val (.int p0), .val (.int p1), .val (.int p2)] [sx, (.int p2), (.int p1), (.int p0)])) rfl (by rw [hml]; rfl) (argsL := [(.int p0), (.int p1), (.int p2), sx]) (rest := []) (lenOf pdcb_0 rfl) rfl (by show 2 * 0 + _ ≤ _; exact Nat.le_of_eq rfl) (hb hby dcb_6) (fun _ _ => ⟨rfl, ecb1, (by decide : 0 + 0 ≤ _), (by decide : 0 + 0 ≤ _)⟩)
  dsimp only [Pt.U, Pt.locs, Pt.cells, Pt.slots] at Xcbc2 lcbc2 ycbc2 zcbc2 stcbc2 hQcbc2
  subst lcbc2 ycbc2 zcbc2
  obtain ⟨rfl, Ncbc2q, ecbc2⟩ := hQcbc2
  have Ncbc2 := Fr.app N0 Ncbc2q
  obtain ⟨lccbt3, Xcbc2, Ncbc2⟩ : ∃ lc, Stand p l e ({ frames := 1, cells := 0, slots := 0, locals := 15 } : Room) s m #[(.int p0), (.int p1), (.int p2)] below meth c Tcbc2 lc 0 0 ∧ Fr n0 lc := ⟨_, Xcbc2, Ncbc2⟩
  refine stp (fun t k => stcbc2 t k) ?_
  show W (Tcbc2.setTop (mkF m 9 #[.val (.int p0), .val (.int p1), .val (.int p2)] [(.int p0)]))
  show W (Tcbc2.setTop (mkF m 9 #[.val (.int p0), .val (.int p1), .val (.int p2)] [(.int p0)]))
  rw [← hW]
  exact own_retI Xcbc2 hx Bd.notSynchronized Bd.returns (hb hby dcb_9) (by show Qcb Z p0 p1 p2 wc sx h0 n0 _ Tcbc2.heap _; rw [ecbc2]; exact ⟨rfl, Ncbc2, rfl⟩) (by decide) (by decide)
theorem dcp_0 : decode jdk_123_method_3_code 0 = .ok (.iload_n 1, 1) := by decide +kernel
theorem dcp_1 : decode jdk_123_method_3_code 1 = .ok (.iload_n 2, 1) := by decide +kernel
theorem dcp_2 : decode jdk_123_method_3_code 2 = .ok (.iadd, 1) := by decide +kernel
theorem dcp_3 : decode jdk_123_method_3_code 3 = .ok (.istore_n 3, 1) := by decide +kernel
theorem dcp_4 : decode jdk_123_method_3_code 4 = .ok (.iload_n 1, 1) := by decide +kernel
theorem dcp_5 : decode jdk_123_method_3_code 5 = .ok (.istore 4, 2) := by decide +kernel
theorem dcp_7 : decode jdk_123_method_3_code 7 = .ok (.iload 4, 2) := by decide +kernel
theorem dcp_9 : decode jdk_123_method_3_code 9 = .ok (.iload_n 3, 1) := by decide +kernel
theorem dcp_10 : decode jdk_123_method_3_code 10 = .ok (.if_icmp .ge 21, 3) := by decide +kernel
theorem dcp_13 : decode jdk_123_method_3_code 13 = .ok (.aload_n 0, 1) := by decide +kernel
theorem dcp_14 : decode jdk_123_method_3_code 14 = .ok (.iload 4, 2) := by decide +kernel
theorem dcp_16 : decode jdk_123_method_3_code 16 = .ok (.baload, 1) := by decide +kernel
theorem dcp_17 : decode jdk_123_method_3_code 17 = .ok (.ifCond .ge 8, 3) := by decide +kernel
theorem dcp_25 : decode jdk_123_method_3_code 25 = .ok (.iinc 4 1, 3) := by decide +kernel
theorem dcp_28 : decode jdk_123_method_3_code 28 = .ok (.goto (-21), 3) := by decide +kernel
theorem dcp_31 : decode jdk_123_method_3_code 31 = .ok (.iload_n 2, 1) := by decide +kernel
theorem dcp_32 : decode jdk_123_method_3_code 32 = .ok (.ireturn, 1) := by decide +kernel
theorem pncp : plainName "java/lang/StringCoding" = true := by first | (simp [plainName, overriddenIn]; done) | decide +kernel
theorem efcp (m : MethodId) (a0 : Addr) (p1 : Int32) (p2 : Int32) : entryFrame m #[(.ref a0), (.int p1), (.int p2)] 5 = mkF m 0 #[.val (.ref a0), .val (.int p1), .val (.int p2), .unset, .unset] [] := by first | (simp [entryFrame, mkF, argsToLocals, Value.category]; done) | rfl
def Qcp (Z : State) (a0 : Addr) (p1 : Int32) (p2 : Int32) (wc : Int32) (sx : Value) (kb : ClassId) (G : Nat → Int32) (cn : Nat) (h0 : Heap) (n0 : Nat) (v : Option Value) (h : Heap) (L : List Loc) : Prop := v = some (.int p2) ∧ Fr n0 L ∧ h = h0
set_option maxRecDepth 65536 in
set_option maxHeartbeats 40000000 in
theorem rmcp (l : Launch) (Z : State) (aa : Array Value) (hw : ∀ d ∈ tables_1, d.before aa Z = true) (ws : List Jvm.Cond) (a0 : Addr) (p1 : Int32) (p2 : Int32) (wc : Int32) (sx : Value) (kb : ClassId) (G : Nat → Int32) (cn : Nat) (h0 : Heap) (n0 : Nat) (Z0 : n0 ≤ h0.size) (BW : OwnW Z wc sx) (O0 : Old Z n0 h0) (V_a0 : Arv Z h0 a0 kb .byte (8192 : Int32) (own_vs 8192 G) (.int (0 : Int32))) (hp1 : p1 = (0 : Int32)) (hp2 : p2.toInt = (cn : Int)) (hcn : cn ≤ 4) (hG : ∀ j, j < cn → 0 ≤ (G j).toInt) :
    MetFree l (⟨"java/lang/StringCoding", "countPositives", "([BII)I"⟩ : MethodName) (head1 (Jvm.Cond.code (⟨"java/lang/StringCoding", "countPositives", "([BII)I"⟩ : MethodName) jdk_123_method_3_code 5 (some .int) :: ws) ({ frames := 0, cells := 0, slots := 0, locals := 0 } : Room)) (fun a U => a = #[(.ref a0), (.int p1), (.int p2)] ∧ Z.Warmed39 U.vm ∧ U.heap = h0) (fun _ _ _ _ _ => True) (fun _ U o U' => ∃ v L, o = .returned v ∧ Qcp Z a0 p1 p2 wc sx kb G cn h0 n0 v U'.heap L ∧ FrameEnd U o U' L ({ frames := 0, cells := 0, slots := 0, locals := 0 } : Room).cells ({ frames := 0, cells := 0, slots := 0, locals := 0 } : Room).slots) := by
  refine MetFree.of_bodySF (plainFor_of_name pncp) hisR ?_
  intro p e s m args below meth c s₁ Bd hml0 hP hK
  obtain ⟨rfl, hZ, hh⟩ := hP
  have hx := Bd.exec
  have hby := Bd.bytes
  have hml : c.maxLocals = 5 := hml0
  have hown : s.vm.findClass "java/lang/StringCoding" = some m.cls := findClass_of_methodNamed Bd.named
  have hnm := (name_of_methodNamed Bd.named Bd.method).1
  have X0 : Stand p l e ({ frames := 0, cells := 0, slots := 0, locals := 0 } : Room) s m #[(.ref a0), (.int p1), (.int p2)] below meth c s₁ [] 0 0 := Stand.of_body Bd
  have e0 : s₁.heap = h0 := by rw [← hh, Bd.state]; rfl
  have N0 := Fr.nil n0
  show OwnEnd p e below s (fun v h L => Qcp Z a0 p1 p2 wc sx kb G cn h0 n0 v h L) ({ frames := 0, cells := 0, slots := 0, locals := 0 } : Room).cells ({ frames := 0, cells := 0, slots := 0, locals := 0 } : Room).slots (s₁.setTop (entryFrame m #[(.ref a0), (.int p1), (.int p2)] 5))
  rw [efcp m a0 p1 p2]
  generalize hW : OwnEnd p e below s (fun v h L => Qcp Z a0 p1 p2 wc sx kb G cn h0 n0 v h L) ({ frames := 0, cells := 0, slots := 0, locals := 0 } : Room).cells ({ frames := 0, cells := 0, slots := 0, locals := 0 } : Room).slots = W
  have stp : ∀ {A B : State}, (∀ t, Steps p.tables e below B t → Steps p.tables e below A t) → W B → W A := by subst hW; exact own_step
  obtain ⟨S_cs, hcs, S_si, hr_sx⟩ := id BW
  subst hp1
  have hz := own_add0 hp2
  show W (s₁.setTop (mkF m 0 #[.val (.ref a0), .val (.int (0 : Int32)), .val (.int p2), .unset, .unset] []))
  refine stp (fun t k => XS.iloadN X0.here hx rfl (hb hby dcp_0) rfl k) ?_
  show W (s₁.setTop (mkF m 1 #[.val (.ref a0), .val (.int (0 : Int32)), .val (.int p2), .unset, .unset] [(.int (0 : Int32))]))
  refine stp (fun t k => XS.iloadN X0.here hx rfl (hb hby dcp_1) rfl k) ?_
  show W (s₁.setTop (mkF m 2 #[.val (.ref a0), .val (.int (0 : Int32)), .val (.int p2), .unset, .unset] [(.int p2), (.int (0 : Int32))]))
  refine stp (fun t k => XS.iadd X0.here hx rfl (hb hby dcp_2) rfl k) ?_
  show W (s₁.setTop (mkF m 3 #[.val (.ref a0), .val (.int (0 : Int32)), .val (.int p2), .unset, .unset] [(.int ((0 : Int32) + p2))]))
  refine stp (fun t k => XS.istoreN X0.here hx rfl (hb hby dcp_3) rfl (l' := #[.val (.ref a0), .val (.int (0 : Int32)), .val (.int p2), .val (.int ((0 : Int32) + p2)), .unset]) rfl k) ?_
  show W (s₁.setTop (mkF m 4 #[.val (.ref a0), .val (.int (0 : Int32)), .val (.int p2), .val (.int ((0 : Int32) + p2)), .unset] []))
  refine stp (fun t k => XS.iloadN X0.here hx rfl (hb hby dcp_4) rfl k) ?_
  show W (s₁.setTop (mkF m 5 #[.val (.ref a0), .val (.int (0 : Int32)), .val (.int p2), .val (.int ((0 : Int32) + p2)), .unset] [(.int (0 : Int32))]))
  refine stp (fun t k => XS.istore X0.here hx rfl (hb hby dcp_5) rfl (l' := #[.val (.ref a0), .val (.int (0 : Int32)), .val (.int p2), .val (.int ((0 : Int32) + p2)), .val (.int (0 : Int32))]) rfl k) ?_
  have LP : ∀ (r i : Nat) (x : Int32) (T' : State) (lc : List Loc) (h' : Heap) (hir : i + r = cn) (hx4 : x.toInt = (i : Int)) (hh : h' = h0) (XL : Stand p l e ({ frames := 0, cells := 0, slots := 0, locals := 0 } : Room) s m #[(.ref a0), (.int (0 : Int32)), (.int p2)] below meth c T' lc 0 0) (eL : T'.heap = h') (NL : Fr n0 lc) (KL : Keep h0 h' []) (OL : Old Z n0 h') (V_a0 : Arv Z h' a0 kb .byte (8192 : Int32) (own_vs 8192 G) (.int (0 : Int32))), W (T'.setTop (mkF m 7 #[.val (.ref a0), .val (.int (0 : Int32)), .val (.int p2), .val (.int ((0 : Int32) + p2)), .val (.int x)] [])) := by
    intro r
    induction r with
    | zero =>
      intro i x T' lc h' hir hx4 hh XL eL NL KL OL V_a0
      have ZL : n0 ≤ h'.size := Nat.le_trans Z0 KL.1
      show W (T'.setTop (mkF m 7 #[.val (.ref a0), .val (.int (0 : Int32)), .val (.int p2), .val (.int ((0 : Int32) + p2)), .val (.int x)] []))
      refine stp (fun t k => XS.iload XL.here hx rfl (hb hby dcp_7) rfl k) ?_
      show W (T'.setTop (mkF m 9 #[.val (.ref a0), .val (.int (0 : Int32)), .val (.int p2), .val (.int ((0 : Int32) + p2)), .val (.int x)] [(.int x)]))
      refine stp (fun t k => XS.iloadN XL.here hx rfl (hb hby dcp_9) rfl k) ?_
      show W (T'.setTop (mkF m 10 #[.val (.ref a0), .val (.int (0 : Int32)), .val (.int p2), .val (.int ((0 : Int32) + p2)), .val (.int x)] [(.int ((0 : Int32) + p2)), (.int x)]))
      refine stp (fun t k => XS.icmpYes XL.here hx rfl (pc0 := 10) (pc' := 31) rfl (hb hby dcp_10) rfl ((flt (fun q => by have := (own_lt32 hx4 hz).mp q; omega)).2.1) (by decide) (by decide) k) ?_
      show W (T'.setTop (mkF m 31 #[.val (.ref a0), .val (.int (0 : Int32)), .val (.int p2), .val (.int ((0 : Int32) + p2)), .val (.int x)] []))
      refine stp (fun t k => XS.iloadN XL.here hx rfl (hb hby dcp_31) rfl k) ?_
      show W (T'.setTop (mkF m 32 #[.val (.ref a0), .val (.int (0 : Int32)), .val (.int p2), .val (.int ((0 : Int32) + p2)), .val (.int x)] [(.int p2)]))
      show W (T'.setTop (mkF m 32 #[.val (.ref a0), .val (.int (0 : Int32)), .val (.int p2), .val (.int ((0 : Int32) + p2)), .val (.int x)] [(.int p2)]))
      rw [← hW]
      exact own_retI XL hx Bd.notSynchronized Bd.returns (hb hby dcp_32) (by show Qcp Z a0 (0 : Int32) p2 wc sx kb G cn h0 n0 _ T'.heap _; rw [eL]; exact ⟨rfl, NL, hh⟩) (by decide) (by decide)
    | succ r ih =>
      intro i x T' lc h' hir hx4 hh XL eL NL KL OL V_a0
      have ZL : n0 ≤ h'.size := Nat.le_trans Z0 KL.1
      show W (T'.setTop (mkF m 7 #[.val (.ref a0), .val (.int (0 : Int32)), .val (.int p2), .val (.int ((0 : Int32) + p2)), .val (.int x)] []))
      refine stp (fun t k => XS.iload XL.here hx rfl (hb hby dcp_7) rfl k) ?_
      show W (T'.setTop (mkF m 9 #[.val (.ref a0), .val (.int (0 : Int32)), .val (.int p2), .val (.int ((0 : Int32) + p2)), .val (.int x)] [(.int x)]))
      refine stp (fun t k => XS.iloadN XL.here hx rfl (hb hby dcp_9) rfl k) ?_
      show W (T'.setTop (mkF m 10 #[.val (.ref a0), .val (.int (0 : Int32)), .val (.int p2), .val (.int ((0 : Int32) + p2)), .val (.int x)] [(.int ((0 : Int32) + p2)), (.int x)]))
      refine stp (fun t k => XS.icmpNo XL.here hx rfl (hb hby dcp_10) rfl ((tlt ((own_lt32 hx4 hz).mpr (by omega))).2.1) k) ?_
      show W (T'.setTop (mkF m 13 #[.val (.ref a0), .val (.int (0 : Int32)), .val (.int p2), .val (.int ((0 : Int32) + p2)), .val (.int x)] []))
      refine stp (fun t k => XS.aloadN XL.here hx rfl (hb hby dcp_13) rfl rfl k) ?_
      show W (T'.setTop (mkF m 14 #[.val (.ref a0), .val (.int (0 : Int32)), .val (.int p2), .val (.int ((0 : Int32) + p2)), .val (.int x)] [(.ref a0)]))
      refine stp (fun t k => XS.iload XL.here hx rfl (hb hby dcp_14) rfl k) ?_
      show W (T'.setTop (mkF m 16 #[.val (.ref a0), .val (.int (0 : Int32)), .val (.int p2), .val (.int ((0 : Int32) + p2)), .val (.int x)] [(.int x), (.ref a0)]))
      obtain ⟨clcp1, Arcp1, qkcp1, qscp1, qncp1, qhcp1, qgcp1⟩ := id V_a0
      have hincp1 : ¬ (x < 0 ∨ clcp1.slots.size ≤ (x).toNatClampNeg) := inb_of qscp1 ⟨own_nn hx4, (own_lt32 hx4 own_h8).mpr (by omega)⟩
      have hatcp1 : clcp1.slots[(x).toNatClampNeg]? = some (.int (G i)) := qhcp1.at hincp1 (by rw [own_clamp hx4, own_vsGet (by omega)])
      refine stp (fun t k => XL.baloadBytes hx (j := x) (v := (.int (G i))) (by rw [eL]; exact Arcp1.1) (State.isArrayOf_alike hZ.alike Arcp1.2.1) Arcp1.2.2 hincp1 hatcp1 (g := (mkF m 16 #[.val (.ref a0), .val (.int (0 : Int32)), .val (.int p2), .val (.int ((0 : Int32) + p2)), .val (.int x)] [(.int x), (.ref a0)])) rfl rfl (hb hby dcp_16) _ k) ?_
      show W (T'.setTop (mkF m 17 #[.val (.ref a0), .val (.int (0 : Int32)), .val (.int p2), .val (.int ((0 : Int32) + p2)), .val (.int x)] [(.int (G i))]))
      refine stp (fun t k => XS.ifYes XL.here hx rfl (pc0 := 17) (pc' := 25) rfl (hb hby dcp_17) rfl ((if0 _ _).trans (flt (own_ge0 (hG i (by omega)))).2.1) (by decide) (by decide) k) ?_
      show W (T'.setTop (mkF m 25 #[.val (.ref a0), .val (.int (0 : Int32)), .val (.int p2), .val (.int ((0 : Int32) + p2)), .val (.int x)] []))
      refine stp (fun t k => XS.iinc XL.here hx rfl (hb hby dcp_25) rfl (l' := #[.val (.ref a0), .val (.int (0 : Int32)), .val (.int p2), .val (.int ((0 : Int32) + p2)), .val (.int (x + (1 : Int32)))]) rfl k) ?_
      show W (T'.setTop (mkF m 28 #[.val (.ref a0), .val (.int (0 : Int32)), .val (.int p2), .val (.int ((0 : Int32) + p2)), .val (.int (x + (1 : Int32)))] []))
      refine stp (fun t k => XS.goto XL.here hx rfl (pc0 := 28) (pc' := 7) rfl (hb hby dcp_28) (by decide) (by decide) k) ?_
      exact ih (i + 1) _ _ _ _ (by omega) (own_inc hx4 (by omega)) hh XL eL NL KL OL V_a0
  exact LP cn 0 (0 : Int32) _ _ _ (by omega) rfl rfl X0 e0 N0 (Keep.refl h0 []) O0 V_a0
theorem dhn_0 : decode jdk_123_method_2_code 0 = .ok (.aload_n 0, 1) := by decide +kernel
theorem dhn_1 : decode jdk_123_method_2_code 1 = .ok (.iload_n 1, 1) := by decide +kernel
theorem dhn_2 : decode jdk_123_method_2_code 2 = .ok (.iload_n 2, 1) := by decide +kernel
theorem dhn_3 : decode jdk_123_method_2_code 3 = .ok (.invokestatic 7, 3) := by decide +kernel
theorem dhn_6 : decode jdk_123_method_2_code 6 = .ok (.iload_n 2, 1) := by decide +kernel
theorem dhn_7 : decode jdk_123_method_2_code 7 = .ok (.if_icmp .eq 7, 3) := by decide +kernel
theorem dhn_14 : decode jdk_123_method_2_code 14 = .ok (.iconst 0, 1) := by decide +kernel
theorem dhn_15 : decode jdk_123_method_2_code 15 = .ok (.ireturn, 1) := by decide +kernel
theorem pnhn : plainName "java/lang/StringCoding" = true := by first | (simp [plainName, overriddenIn]; done) | decide +kernel
theorem pdhn_0 : parseMethodDescriptor "([BII)I" = some ⟨[(.array .byte), .int, .int], some .int⟩ := by decide +kernel
theorem efhn (m : MethodId) (a0 : Addr) (p1 : Int32) (p2 : Int32) : entryFrame m #[(.ref a0), (.int p1), (.int p2)] 3 = mkF m 0 #[.val (.ref a0), .val (.int p1), .val (.int p2)] [] := by first | (simp [entryFrame, mkF, argsToLocals, Value.category]; done) | rfl
def Qhn (Z : State) (a0 : Addr) (p1 : Int32) (p2 : Int32) (wc : Int32) (sx : Value) (kb : ClassId) (G : Nat → Int32) (cn : Nat) (h0 : Heap) (n0 : Nat) (v : Option Value) (h : Heap) (L : List Loc) : Prop := v = some (.int (0 : Int32)) ∧ Fr n0 L ∧ h = h0
set_option maxRecDepth 65536 in
set_option maxHeartbeats 40000000 in
theorem rmhn (l : Launch) (Z : State) (aa : Array Value) (hw : ∀ d ∈ tables_1, d.before aa Z = true) (ws : List Jvm.Cond) (a0 : Addr) (p1 : Int32) (p2 : Int32) (wc : Int32) (sx : Value) (kb : ClassId) (G : Nat → Int32) (cn : Nat) (h0 : Heap) (n0 : Nat) (Z0 : n0 ≤ h0.size) (BW : OwnW Z wc sx) (O0 : Old Z n0 h0) (V_a0 : Arv Z h0 a0 kb .byte (8192 : Int32) (own_vs 8192 G) (.int (0 : Int32))) (hp1 : p1 = (0 : Int32)) (hp2 : p2.toInt = (cn : Int)) (hcn : cn ≤ 4) (hG : ∀ j, j < cn → 0 ≤ (G j).toInt) :
    MetFree l (⟨"java/lang/StringCoding", "hasNegatives", "([BII)Z"⟩ : MethodName) (head1 (Jvm.Cond.code (⟨"java/lang/StringCoding", "hasNegatives", "([BII)Z"⟩ : MethodName) jdk_123_method_2_code 3 (some .boolean) :: ws) ({ frames := 1, cells := 0, slots := 0, locals := 16 } : Room)) (fun a U => a = #[(.ref a0), (.int p1), (.int p2)] ∧ Z.Warmed39 U.vm ∧ U.heap = h0) (fun _ _ _ _ _ => True) (fun _ U o U' => ∃ v L, o = .returned v ∧ Qhn Z a0 p1 p2 wc sx kb G cn h0 n0 v U'.heap L ∧ FrameEnd U o U' L ({ frames := 1, cells := 0, slots := 0, locals := 16 } : Room).cells ({ frames := 1, cells := 0, slots := 0, locals := 16 } : Room).slots) := by
  refine MetFree.of_bodySF (plainFor_of_name pnhn) hisR ?_
  intro p e s m args below meth c s₁ Bd hml0 hP hK
  obtain ⟨rfl, hZ, hh⟩ := hP
  have hx := Bd.exec
  have hby := Bd.bytes
  have hml : c.maxLocals = 3 := hml0
  have hown : s.vm.findClass "java/lang/StringCoding" = some m.cls := findClass_of_methodNamed Bd.named
  have hnm := (name_of_methodNamed Bd.named Bd.method).1
  have X0 : Stand p l e ({ frames := 1, cells := 0, slots := 0, locals := 16 } : Room) s m #[(.ref a0), (.int p1), (.int p2)] below meth c s₁ [] 0 0 := Stand.of_body Bd
  have e0 : s₁.heap = h0 := by rw [← hh, Bd.state]; rfl
  have N0 := Fr.nil n0
  show OwnEnd p e below s (fun v h L => Qhn Z a0 p1 p2 wc sx kb G cn h0 n0 v h L) ({ frames := 1, cells := 0, slots := 0, locals := 16 } : Room).cells ({ frames := 1, cells := 0, slots := 0, locals := 16 } : Room).slots (s₁.setTop (entryFrame m #[(.ref a0), (.int p1), (.int p2)] 3))
  rw [efhn m a0 p1 p2]
  generalize hW : OwnEnd p e below s (fun v h L => Qhn Z a0 p1 p2 wc sx kb G cn h0 n0 v h L) ({ frames := 1, cells := 0, slots := 0, locals := 16 } : Room).cells ({ frames := 1, cells := 0, slots := 0, locals := 16 } : Room).slots = W
  have stp : ∀ {A B : State}, (∀ t, Steps p.tables e below B t → Steps p.tables e below A t) → W B → W A := by subst hW; exact own_step
  obtain ⟨S_cs, hcs, S_si, hr_sx⟩ := id BW
  subst hp1
  show W (s₁.setTop (mkF m 0 #[.val (.ref a0), .val (.int (0 : Int32)), .val (.int p2)] []))
  refine stp (fun t k => XS.aloadN X0.here hx rfl (hb hby dhn_0) rfl rfl k) ?_
  show W (s₁.setTop (mkF m 1 #[.val (.ref a0), .val (.int (0 : Int32)), .val (.int p2)] [(.ref a0)]))
  refine stp (fun t k => XS.iloadN X0.here hx rfl (hb hby dhn_1) rfl k) ?_
  show W (s₁.setTop (mkF m 2 #[.val (.ref a0), .val (.int (0 : Int32)), .val (.int p2)] [(.int (0 : Int32)), (.ref a0)]))
  refine stp (fun t k => XS.iloadN X0.here hx rfl (hb hby dhn_2) rfl k) ?_
  show W (s₁.setTop (mkF m 3 #[.val (.ref a0), .val (.int (0 : Int32)), .val (.int p2)] [(.int p2), (.int (0 : Int32)), (.ref a0)]))
  obtain ⟨_, _, ⟨Thnc1, Lhnc1, khnc1, nhnc1⟩, -, Xhnc1, ⟨Lchnc1, hQhnc1, lhnc1, yhnc1, zhnc1⟩, sthnc1⟩ := Jvm.LawKit.callS X0 hx (y := (⟨"java/lang/StringCoding", "countPositives", "([BII)I"⟩ : MethodName)) hown (mvT hZ (hw _ (List.mem_of_getElem? (i := 105) rfl))) (mvT hZ (hw _ (List.mem_of_getElem? (i := 106) rfl))) (mvT hZ (hw _ (List.mem_of_getElem? (i := 103) rfl))) (mvT hZ (hw _ (List.mem_of_getElem? (i := 107) rfl))) (by decide) (backOf (W := 0) (rmcp l Z aa hw [] a0 (0 : Int32) p2 wc sx kb G cn h0 n0 Z0 BW O0 V_a0 rfl hp2 hcn hG) hZ (hw _ (List.mem_of_getElem? (i := 107) rfl)) (hw _ (List.mem_of_getElem? (i := 103) rfl)) (by decide) (by decide)) (g := (mkF m 3 #[.val (.ref a0), .val (.int (0 : Int32)), .val (.int p2)] [(.int p2), (.int (0 : Int32)), (.ref a0)])) rfl (by rw [hml]; rfl) (argsL := [(.ref a0), (.int (0 : Int32)), (.int p2)]) (rest := []) (lenOf pdhn_0 rfl) rfl (by show 2 * 0 + _ ≤ _; exact Nat.le_of_eq rfl) (hb hby dhn_3) (fun _ _ => ⟨rfl, e0, (by decide : 0 + 0 ≤ _), (by decide : 0 + 0 ≤ _)⟩)
  dsimp only [Pt.U, Pt.locs, Pt.cells, Pt.slots] at Xhnc1 lhnc1 yhnc1 zhnc1 sthnc1 hQhnc1
  subst lhnc1 yhnc1 zhnc1
  obtain ⟨rfl, Nhnc1q, ehnc1⟩ := hQhnc1
  have Nhnc1 := Fr.app N0 Nhnc1q
  obtain ⟨lchnt2, Xhnc1, Nhnc1⟩ : ∃ lc, Stand p l e ({ frames := 1, cells := 0, slots := 0, locals := 16 } : Room) s m #[(.ref a0), (.int (0 : Int32)), (.int p2)] below meth c Thnc1 lc 0 0 ∧ Fr n0 lc := ⟨_, Xhnc1, Nhnc1⟩
  refine stp (fun t k => sthnc1 t k) ?_
  show W (Thnc1.setTop (mkF m 6 #[.val (.ref a0), .val (.int (0 : Int32)), .val (.int p2)] [(.int p2)]))
  refine stp (fun t k => XS.iloadN Xhnc1.here hx rfl (hb hby dhn_6) rfl k) ?_
  show W (Thnc1.setTop (mkF m 7 #[.val (.ref a0), .val (.int (0 : Int32)), .val (.int p2)] [(.int p2), (.int p2)]))
  refine stp (fun t k => XS.icmpYes Xhnc1.here hx rfl (pc0 := 7) (pc' := 14) rfl (hb hby dhn_7) rfl ((teq (rfl)).1) (by decide) (by decide) k) ?_
  show W (Thnc1.setTop (mkF m 14 #[.val (.ref a0), .val (.int (0 : Int32)), .val (.int p2)] []))
  refine stp (fun t k => XS.iconst Xhnc1.here hx rfl (hb hby dhn_14) k) ?_
  show W (Thnc1.setTop (mkF m 15 #[.val (.ref a0), .val (.int (0 : Int32)), .val (.int p2)] [(.int (0 : Int32))]))
  show W (Thnc1.setTop (mkF m 15 #[.val (.ref a0), .val (.int (0 : Int32)), .val (.int p2)] [(.int (0 : Int32))]))
  rw [← hW]
  exact own_retN Xhnc1 hx Bd.notSynchronized Bd.returns (w := (0 : Int32)) (by simp) (hb hby dhn_15) rfl (by show Qhn Z a0 (0 : Int32) p2 wc sx kb G cn h0 n0 _ Thnc1.heap _; rw [ehnc1]; exact ⟨rfl, Nhnc1, rfl⟩) (by decide) (by decide)
theorem dcl_0 : decode jdk_65_method_131_code 0 = .ok (.iload_n 1, 1) := by decide +kernel
theorem dcl_1 : decode jdk_65_method_131_code 1 = .ok (.iload_n 0, 1) := by decide +kernel
theorem dcl_2 : decode jdk_65_method_131_code 2 = .ok (.if_icmp .ge 35, 3) := by decide +kernel
theorem dcl_37 : decode jdk_65_method_131_code 37 = .ok (.return_, 1) := by decide +kernel
theorem pncl : plainName "java/util/Arrays" = true := by first | (simp [plainName, overriddenIn]; done) | decide +kernel
theorem efcl (m : MethodId) (p0 : Int32) (p1 : Int32) : entryFrame m #[(.int p0), (.int p1)] 2 = mkF m 0 #[.val (.int p0), .val (.int p1)] [] := by first | (simp [entryFrame, mkF, argsToLocals, Value.category]; done) | rfl
def Qcl (Z : State) (p0 : Int32) (p1 : Int32) (h0 : Heap) (n0 : Nat) (v : Option Value) (h : Heap) (L : List Loc) : Prop := v = none ∧ Fr n0 L ∧ h = h0
set_option maxRecDepth 65536 in
set_option maxHeartbeats 40000000 in
theorem rmcl (l : Launch) (Z : State) (aa : Array Value) (hw : ∀ d ∈ tables_1, d.before aa Z = true) (ws : List Jvm.Cond) (p0 : Int32) (p1 : Int32) (h0 : Heap) (n0 : Nat) (Z0 : n0 ≤ h0.size) (hlt : ¬ p1 < p0) :
    MetFree l (⟨"java/util/Arrays", "checkLength", "(II)V"⟩ : MethodName) (head1 (Jvm.Cond.code (⟨"java/util/Arrays", "checkLength", "(II)V"⟩ : MethodName) jdk_65_method_131_code 2 none :: ws) ({ frames := 0, cells := 0, slots := 0, locals := 0 } : Room)) (fun a U => a = #[(.int p0), (.int p1)] ∧ Z.Warmed39 U.vm ∧ U.heap = h0) (fun _ _ _ _ _ => True) (fun _ U o U' => ∃ v L, o = .returned v ∧ Qcl Z p0 p1 h0 n0 v U'.heap L ∧ FrameEnd U o U' L ({ frames := 0, cells := 0, slots := 0, locals := 0 } : Room).cells ({ frames := 0, cells := 0, slots := 0, locals := 0 } : Room).slots) := by
  refine MetFree.of_bodySF (plainFor_of_name pncl) hisR ?_
  intro p e s m args below meth c s₁ Bd hml0 hP hK
  obtain ⟨rfl, hZ, hh⟩ := hP
  have hx := Bd.exec
  have hby := Bd.bytes
  have hml : c.maxLocals = 2 := hml0
  have hown : s.vm.findClass "java/util/Arrays" = some m.cls := findClass_of_methodNamed Bd.named
  have hnm := (name_of_methodNamed Bd.named Bd.method).1
  have X0 : Stand p l e ({ frames := 0, cells := 0, slots := 0, locals := 0 } : Room) s m #[(.int p0), (.int p1)] below meth c s₁ [] 0 0 := Stand.of_body Bd
  have e0 : s₁.heap = h0 := by rw [← hh, Bd.state]; rfl
  have N0 := Fr.nil n0
  show OwnEnd p e below s (fun v h L => Qcl Z p0 p1 h0 n0 v h L) ({ frames := 0, cells := 0, slots := 0, locals := 0 } : Room).cells ({ frames := 0, cells := 0, slots := 0, locals := 0 } : Room).slots (s₁.setTop (entryFrame m #[(.int p0), (.int p1)] 2))
  rw [efcl m p0 p1]
  generalize hW : OwnEnd p e below s (fun v h L => Qcl Z p0 p1 h0 n0 v h L) ({ frames := 0, cells := 0, slots := 0, locals := 0 } : Room).cells ({ frames := 0, cells := 0, slots := 0, locals := 0 } : Room).slots = W
  have stp : ∀ {A B : State}, (∀ t, Steps p.tables e below B t → Steps p.tables e below A t) → W B → W A := by subst hW; exact own_step
  show W (s₁.setTop (mkF m 0 #[.val (.int p0), .val (.int p1)] []))
  refine stp (fun t k => XS.iloadN X0.here hx rfl (hb hby dcl_0) rfl k) ?_
  show W (s₁.setTop (mkF m 1 #[.val (.int p0), .val (.int p1)] [(.int p1)]))
  refine stp (fun t k => XS.iloadN X0.here hx rfl (hb hby dcl_1) rfl k) ?_
  show W (s₁.setTop (mkF m 2 #[.val (.int p0), .val (.int p1)] [(.int p0), (.int p1)]))
  refine stp (fun t k => XS.icmpYes X0.here hx rfl (pc0 := 2) (pc' := 37) rfl (hb hby dcl_2) rfl ((flt (hlt)).2.1) (by decide) (by decide) k) ?_
  show W (s₁.setTop (mkF m 37 #[.val (.int p0), .val (.int p1)] []))
  show W (s₁.setTop (mkF m 37 #[.val (.int p0), .val (.int p1)] []))
  rw [← hW]
  exact own_ret0 X0 hx Bd.notSynchronized Bd.returns (hb hby dcl_37) (by show Qcl Z p0 p1 h0 n0 _ s₁.heap _; rw [e0]; exact ⟨rfl, N0, rfl⟩) (by decide) (by decide)
theorem drb_0 : decode jdk_65_method_133_code 0 = .ok (.iload_n 1, 1) := by decide +kernel
theorem drb_1 : decode jdk_65_method_133_code 1 = .ok (.iload_n 2, 1) := by decide +kernel
theorem drb_2 : decode jdk_65_method_133_code 2 = .ok (.invokestatic 343, 3) := by decide +kernel
theorem drb_5 : decode jdk_65_method_133_code 5 = .ok (.iload_n 2, 1) := by decide +kernel
theorem drb_6 : decode jdk_65_method_133_code 6 = .ok (.iload_n 1, 1) := by decide +kernel
theorem drb_7 : decode jdk_65_method_133_code 7 = .ok (.isub, 1) := by decide +kernel
theorem drb_8 : decode jdk_65_method_133_code 8 = .ok (.istore_n 3, 1) := by decide +kernel
theorem drb_9 : decode jdk_65_method_133_code 9 = .ok (.iload_n 3, 1) := by decide +kernel
theorem drb_10 : decode jdk_65_method_133_code 10 = .ok (.newarray .byte, 2) := by decide +kernel
theorem drb_12 : decode jdk_65_method_133_code 12 = .ok (.astore 4, 2) := by decide +kernel
theorem drb_14 : decode jdk_65_method_133_code 14 = .ok (.aload_n 0, 1) := by decide +kernel
theorem drb_15 : decode jdk_65_method_133_code 15 = .ok (.iload_n 1, 1) := by decide +kernel
theorem drb_16 : decode jdk_65_method_133_code 16 = .ok (.aload 4, 2) := by decide +kernel
theorem drb_18 : decode jdk_65_method_133_code 18 = .ok (.iconst 0, 1) := by decide +kernel
theorem drb_19 : decode jdk_65_method_133_code 19 = .ok (.aload_n 0, 1) := by decide +kernel
theorem drb_20 : decode jdk_65_method_133_code 20 = .ok (.arraylength, 1) := by decide +kernel
theorem drb_21 : decode jdk_65_method_133_code 21 = .ok (.iload_n 1, 1) := by decide +kernel
theorem drb_22 : decode jdk_65_method_133_code 22 = .ok (.isub, 1) := by decide +kernel
theorem drb_23 : decode jdk_65_method_133_code 23 = .ok (.iload_n 3, 1) := by decide +kernel
theorem drb_24 : decode jdk_65_method_133_code 24 = .ok (.invokestatic 304, 3) := by decide +kernel
theorem drb_27 : decode jdk_65_method_133_code 27 = .ok (.invokestatic 150, 3) := by decide +kernel
theorem drb_30 : decode jdk_65_method_133_code 30 = .ok (.aload 4, 2) := by decide +kernel
theorem drb_32 : decode jdk_65_method_133_code 32 = .ok (.areturn, 1) := by decide +kernel
theorem pnrb : plainName "java/util/Arrays" = true := by first | (simp [plainName, overriddenIn]; done) | decide +kernel
theorem pdrb_0 : parseMethodDescriptor "(II)V" = some ⟨[.int, .int], none⟩ := by decide +kernel
theorem pdrb_1 : parseMethodDescriptor "(II)I" = some ⟨[.int, .int], some .int⟩ := by decide +kernel
theorem efrb (m : MethodId) (a0 : Addr) (p1 : Int32) (p2 : Int32) : entryFrame m #[(.ref a0), (.int p1), (.int p2)] 5 = mkF m 0 #[.val (.ref a0), .val (.int p1), .val (.int p2), .unset, .unset] [] := by first | (simp [entryFrame, mkF, argsToLocals, Value.category]; done) | rfl
def Qrb (Z : State) (a0 : Addr) (p1 : Int32) (p2 : Int32) (wc : Int32) (sx : Value) (kb : ClassId) (G : Nat → Int32) (cn : Nat) (h0 : Heap) (n0 : Nat) (v : Option Value) (h : Heap) (L : List Loc) : Prop := ∃ (b : Addr) (kb : ClassId), v = some (.ref b) ∧ Fr n0 L ∧ Keep h0 h [] ∧ h0.size ≤ b ∧ Arv Z h b kb .byte p2 (own_vs cn G) (.int (0 : Int32))
set_option maxRecDepth 65536 in
set_option maxHeartbeats 40000000 in
theorem rmrb (l : Launch) (Z : State) (aa : Array Value) (hw : ∀ d ∈ tables_1, d.before aa Z = true) (ws : List Jvm.Cond) (a0 : Addr) (p1 : Int32) (p2 : Int32) (wc : Int32) (sx : Value) (kb : ClassId) (G : Nat → Int32) (cn : Nat) (h0 : Heap) (n0 : Nat) (Z0 : n0 ≤ h0.size) (BW : OwnW Z wc sx) (O0 : Old Z n0 h0) (V_a0 : Arv Z h0 a0 kb .byte (8192 : Int32) (own_vs 8192 G) (.int (0 : Int32))) (hp1 : p1 = (0 : Int32)) (hp2 : p2.toInt = (cn : Int)) (hcn : cn ≤ 4) :
    MetFree l (⟨"java/util/Arrays", "copyOfRangeByte", "([BII)[B"⟩ : MethodName) (head1 (Jvm.Cond.code (⟨"java/util/Arrays", "copyOfRangeByte", "([BII)[B"⟩ : MethodName) jdk_65_method_133_code 5 (some (.array .byte)) :: ws) ({ frames := 1, cells := 1, slots := 4, locals := 18 } : Room)) (fun a U => a = #[(.ref a0), (.int p1), (.int p2)] ∧ Z.Warmed39 U.vm ∧ U.heap = h0) (fun _ _ _ _ _ => True) (fun _ U o U' => ∃ v L, o = .returned v ∧ Qrb Z a0 p1 p2 wc sx kb G cn h0 n0 v U'.heap L ∧ FrameEnd U o U' L ({ frames := 1, cells := 1, slots := 4, locals := 18 } : Room).cells ({ frames := 1, cells := 1, slots := 4, locals := 18 } : Room).slots) := by
  refine MetFree.of_bodySF (plainFor_of_name pnrb) hisR ?_
  intro p e s m args below meth c s₁ Bd hml0 hP hK
  obtain ⟨rfl, hZ, hh⟩ := hP
  have hx := Bd.exec
  have hby := Bd.bytes
  have hml : c.maxLocals = 5 := hml0
  have hown : s.vm.findClass "java/util/Arrays" = some m.cls := findClass_of_methodNamed Bd.named
  have hnm := (name_of_methodNamed Bd.named Bd.method).1
  have X0 : Stand p l e ({ frames := 1, cells := 1, slots := 4, locals := 18 } : Room) s m #[(.ref a0), (.int p1), (.int p2)] below meth c s₁ [] 0 0 := Stand.of_body Bd
  have e0 : s₁.heap = h0 := by rw [← hh, Bd.state]; rfl
  have N0 := Fr.nil n0
  show OwnEnd p e below s (fun v h L => Qrb Z a0 p1 p2 wc sx kb G cn h0 n0 v h L) ({ frames := 1, cells := 1, slots := 4, locals := 18 } : Room).cells ({ frames := 1, cells := 1, slots := 4, locals := 18 } : Room).slots (s₁.setTop (entryFrame m #[(.ref a0), (.int p1), (.int p2)] 5))
  rw [efrb m a0 p1 p2]
  generalize hW : OwnEnd p e below s (fun v h L => Qrb Z a0 p1 p2 wc sx kb G cn h0 n0 v h L) ({ frames := 1, cells := 1, slots := 4, locals := 18 } : Room).cells ({ frames := 1, cells := 1, slots := 4, locals := 18 } : Room).slots = W
  have stp : ∀ {A B : State}, (∀ t, Steps p.tables e below B t → Steps p.tables e below A t) → W B → W A := by subst hW; exact own_step
  obtain ⟨S_cs, hcs, S_si, hr_sx⟩ := id BW
  subst hp1
  show W (s₁.setTop (mkF m 0 #[.val (.ref a0), .val (.int (0 : Int32)), .val (.int p2), .unset, .unset] []))
  refine stp (fun t k => XS.iloadN X0.here hx rfl (hb hby drb_0) rfl k) ?_
  show W (s₁.setTop (mkF m 1 #[.val (.ref a0), .val (.int (0 : Int32)), .val (.int p2), .unset, .unset] [(.int (0 : Int32))]))
  refine stp (fun t k => XS.iloadN X0.here hx rfl (hb hby drb_1) rfl k) ?_
  show W (s₁.setTop (mkF m 2 #[.val (.ref a0), .val (.int (0 : Int32)), .val (.int p2), .unset, .unset] [(.int p2), (.int (0 : Int32))]))
  obtain ⟨_, _, ⟨Trbc1, Lrbc1, krbc1, nrbc1⟩, -, Xrbc1, ⟨Lcrbc1, hQrbc1, lrbc1, yrbc1, zrbc1⟩, strbc1⟩ := Jvm.LawKit.callS X0 hx (y := (⟨"java/util/Arrays", "checkLength", "(II)V"⟩ : MethodName)) hown (mvT hZ (hw _ (List.mem_of_getElem? (i := 115) rfl))) (mvT hZ (hw _ (List.mem_of_getElem? (i := 116) rfl))) (mvT hZ (hw _ (List.mem_of_getElem? (i := 110) rfl))) (mvT hZ (hw _ (List.mem_of_getElem? (i := 117) rfl))) (by decide) (backOf (W := 0) (rmcl l Z aa hw [] (0 : Int32) p2  h0 n0 Z0 (own_nn hp2)) hZ (hw _ (List.mem_of_getElem? (i := 117) rfl)) (hw _ (List.mem_of_getElem? (i := 110) rfl)) (by decide) (by decide)) (g := (mkF m 2 #[.val (.ref a0), .val (.int (0 : Int32)), .val (.int p2), .unset, .unset] [(.int p2), (.int (0 : Int32))])) rfl (by rw [hml]; rfl) (argsL := [(.int (0 : Int32)), (.int p2)]) (rest := []) (lenOf pdrb_0 rfl) rfl (by show 2 * 0 + _ ≤ _; exact Nat.le_of_eq rfl) (hb hby drb_2) (fun _ _ => ⟨rfl, e0, (by decide : 0 + 0 ≤ _), (by decide : 0 + 0 ≤ _)⟩)
  dsimp only [Pt.U, Pt.locs, Pt.cells, Pt.slots] at Xrbc1 lrbc1 yrbc1 zrbc1 strbc1 hQrbc1
  subst lrbc1 yrbc1 zrbc1
  obtain ⟨rfl, Nrbc1q, erbc1⟩ := hQrbc1
  have Nrbc1 := Fr.app N0 Nrbc1q
  obtain ⟨lcrbt2, Xrbc1, Nrbc1⟩ : ∃ lc, Stand p l e ({ frames := 1, cells := 1, slots := 4, locals := 18 } : Room) s m #[(.ref a0), (.int (0 : Int32)), (.int p2)] below meth c Trbc1 lc 0 0 ∧ Fr n0 lc := ⟨_, Xrbc1, Nrbc1⟩
  refine stp (fun t k => strbc1 t k) ?_
  show W (Trbc1.setTop (mkF m 5 #[.val (.ref a0), .val (.int (0 : Int32)), .val (.int p2), .unset, .unset] []))
  refine stp (fun t k => XS.iloadN Xrbc1.here hx rfl (hb hby drb_5) rfl k) ?_
  show W (Trbc1.setTop (mkF m 6 #[.val (.ref a0), .val (.int (0 : Int32)), .val (.int p2), .unset, .unset] [(.int p2)]))
  refine stp (fun t k => XS.iloadN Xrbc1.here hx rfl (hb hby drb_6) rfl k) ?_
  show W (Trbc1.setTop (mkF m 7 #[.val (.ref a0), .val (.int (0 : Int32)), .val (.int p2), .unset, .unset] [(.int (0 : Int32)), (.int p2)]))
  refine stp (fun t k => XS.isub Xrbc1.here hx rfl (hb hby drb_7) rfl k) ?_
  show W (Trbc1.setTop (mkF m 8 #[.val (.ref a0), .val (.int (0 : Int32)), .val (.int p2), .unset, .unset] [(.int (p2 - (0 : Int32)))]))
  rw [show (p2 - (0 : Int32)) = p2 from own_sub0 p2]
  show W (Trbc1.setTop (mkF m 8 #[.val (.ref a0), .val (.int (0 : Int32)), .val (.int p2), .unset, .unset] [(.int p2)]))
  refine stp (fun t k => XS.istoreN Xrbc1.here hx rfl (hb hby drb_8) rfl (l' := #[.val (.ref a0), .val (.int (0 : Int32)), .val (.int p2), .val (.int p2), .unset]) rfl k) ?_
  show W (Trbc1.setTop (mkF m 9 #[.val (.ref a0), .val (.int (0 : Int32)), .val (.int p2), .val (.int p2), .unset] []))
  refine stp (fun t k => XS.iloadN Xrbc1.here hx rfl (hb hby drb_9) rfl k) ?_
  show W (Trbc1.setTop (mkF m 10 #[.val (.ref a0), .val (.int (0 : Int32)), .val (.int p2), .val (.int p2), .unset] [(.int p2)]))
  obtain ⟨Trb3, hrb3, krb3, Xrb3, erb3, Erb3, Arb3, strb3⟩ := newP Xrbc1 hx hZ (hw _ (List.mem_of_getElem? (i := 16) rfl)) erbc1 (g := (mkF m 10 #[.val (.ref a0), .val (.int (0 : Int32)), .val (.int p2), .val (.int p2), .unset] [(.int p2)])) rfl (hb hby drb_10) rfl (own_nn hp2) (cap := 4) (by rw [own_clamp hp2]; exact hcn) (by decide) (by decide) (by decide)
  obtain ⟨brb3, gqrb3⟩ : ∃ z, z = h0.size := ⟨_, rfl⟩
  rw [← gqrb3] at Arb3 strb3
  have ne_a0_brb3 : a0 ≠ brb3 := Nat.ne_of_lt (Nat.lt_of_lt_of_le V_a0.lt (Nat.le_of_eq gqrb3.symm))
  have g_brb3 : n0 ≤ brb3 := Nat.le_trans Z0 (Nat.le_of_eq gqrb3.symm)
  have sz_brb3 : h0.size ≤ brb3 := Nat.le_trans (Keep.refl h0 []).1 (Nat.le_of_eq gqrb3.symm)
  replace V_a0 := V_a0.ext Erb3
  have Krb3 := (Keep.refl h0 []).ext Erb3
  have Zrb3 := Nat.le_trans Z0 Erb3.1
  have Orb3 := O0.ext Erb3
  have V_brb3 : Arv Z hrb3 brb3 krb3 .byte p2 (own_vs cn fun _ => (0 : Int32)) (.int (0 : Int32)) := (Arv.new Arb3 (own_nn hp2)).pad (own_vsPad _)
  refine stp (fun t k => strb3 t k) ?_
  show W (Trb3.setTop (mkF m 12 #[.val (.ref a0), .val (.int (0 : Int32)), .val (.int p2), .val (.int p2), .unset] [(.ref brb3)]))
  refine stp (fun t k => XS.astore Xrb3.here hx rfl (hb hby drb_12) rfl rfl (l' := #[.val (.ref a0), .val (.int (0 : Int32)), .val (.int p2), .val (.int p2), .val (.ref brb3)]) rfl k) ?_
  show W (Trb3.setTop (mkF m 14 #[.val (.ref a0), .val (.int (0 : Int32)), .val (.int p2), .val (.int p2), .val (.ref brb3)] []))
  refine stp (fun t k => XS.aloadN Xrb3.here hx rfl (hb hby drb_14) rfl rfl k) ?_
  show W (Trb3.setTop (mkF m 15 #[.val (.ref a0), .val (.int (0 : Int32)), .val (.int p2), .val (.int p2), .val (.ref brb3)] [(.ref a0)]))
  refine stp (fun t k => XS.iloadN Xrb3.here hx rfl (hb hby drb_15) rfl k) ?_
  show W (Trb3.setTop (mkF m 16 #[.val (.ref a0), .val (.int (0 : Int32)), .val (.int p2), .val (.int p2), .val (.ref brb3)] [(.int (0 : Int32)), (.ref a0)]))
  refine stp (fun t k => XS.aload Xrb3.here hx rfl (hb hby drb_16) rfl rfl k) ?_
  show W (Trb3.setTop (mkF m 18 #[.val (.ref a0), .val (.int (0 : Int32)), .val (.int p2), .val (.int p2), .val (.ref brb3)] [(.ref brb3), (.int (0 : Int32)), (.ref a0)]))
  refine stp (fun t k => XS.iconst Xrb3.here hx rfl (hb hby drb_18) k) ?_
  show W (Trb3.setTop (mkF m 19 #[.val (.ref a0), .val (.int (0 : Int32)), .val (.int p2), .val (.int p2), .val (.ref brb3)] [(.int (0 : Int32)), (.ref brb3), (.int (0 : Int32)), (.ref a0)]))
  refine stp (fun t k => XS.aloadN Xrb3.here hx rfl (hb hby drb_19) rfl rfl k) ?_
  show W (Trb3.setTop (mkF m 20 #[.val (.ref a0), .val (.int (0 : Int32)), .val (.int p2), .val (.int p2), .val (.ref brb3)] [(.ref a0), (.int (0 : Int32)), (.ref brb3), (.int (0 : Int32)), (.ref a0)]))
  obtain ⟨clrb4, Arrb4, qkrb4, qsrb4, qnrb4, qhrb4, qgrb4⟩ := id V_a0
  refine stp (fun t k => Xrb3.arraylength hx (by rw [erb3]; exact Arrb4.1) (State.isArrayOf_alike hZ.alike Arrb4.2.1) (g := (mkF m 20 #[.val (.ref a0), .val (.int (0 : Int32)), .val (.int p2), .val (.int p2), .val (.ref brb3)] [(.ref a0), (.int (0 : Int32)), (.ref brb3), (.int (0 : Int32)), (.ref a0)])) rfl rfl (hb hby drb_20) _ k) ?_
  rw [len_of qsrb4 qnrb4]
  show W (Trb3.setTop (mkF m 21 #[.val (.ref a0), .val (.int (0 : Int32)), .val (.int p2), .val (.int p2), .val (.ref brb3)] [(.int (8192 : Int32)), (.int (0 : Int32)), (.ref brb3), (.int (0 : Int32)), (.ref a0)]))
  refine stp (fun t k => XS.iloadN Xrb3.here hx rfl (hb hby drb_21) rfl k) ?_
  show W (Trb3.setTop (mkF m 22 #[.val (.ref a0), .val (.int (0 : Int32)), .val (.int p2), .val (.int p2), .val (.ref brb3)] [(.int (0 : Int32)), (.int (8192 : Int32)), (.int (0 : Int32)), (.ref brb3), (.int (0 : Int32)), (.ref a0)]))
  refine stp (fun t k => XS.isub Xrb3.here hx rfl (hb hby drb_22) rfl k) ?_
  show W (Trb3.setTop (mkF m 23 #[.val (.ref a0), .val (.int (0 : Int32)), .val (.int p2), .val (.int p2), .val (.ref brb3)] [(.int ((8192 : Int32) - (0 : Int32))), (.int (0 : Int32)), (.ref brb3), (.int (0 : Int32)), (.ref a0)]))
  rw [show ((8192 : Int32) - (0 : Int32)) = (8192 : Int32) from by decide]
  show W (Trb3.setTop (mkF m 23 #[.val (.ref a0), .val (.int (0 : Int32)), .val (.int p2), .val (.int p2), .val (.ref brb3)] [(.int (8192 : Int32)), (.int (0 : Int32)), (.ref brb3), (.int (0 : Int32)), (.ref a0)]))
  refine stp (fun t k => XS.iloadN Xrb3.here hx rfl (hb hby drb_23) rfl k) ?_
  show W (Trb3.setTop (mkF m 24 #[.val (.ref a0), .val (.int (0 : Int32)), .val (.int p2), .val (.int p2), .val (.ref brb3)] [(.int p2), (.int (8192 : Int32)), (.int (0 : Int32)), (.ref brb3), (.int (0 : Int32)), (.ref a0)]))
  obtain ⟨_, _, ⟨Trbc5, Lrbc5, krbc5, nrbc5⟩, -, Xrbc5, ⟨Lcrbc5, hQrbc5, lrbc5, yrbc5, zrbc5⟩, strbc5⟩ := Jvm.LawKit.callS Xrb3 hx (y := (⟨"java/lang/Math", "min", "(II)I"⟩ : MethodName)) hown (mvT hZ (hw _ (List.mem_of_getElem? (i := 118) rfl))) (mvT hZ (hw _ (List.mem_of_getElem? (i := 119) rfl))) (mvT hZ (hw _ (List.mem_of_getElem? (i := 120) rfl))) (mvT hZ (hw _ (List.mem_of_getElem? (i := 121) rfl))) (by decide) (backOf (W := 4) (rmmi l Z aa hw [] (8192 : Int32) p2  hrb3 n0 Zrb3 ) hZ (hw _ (List.mem_of_getElem? (i := 121) rfl)) (hw _ (List.mem_of_getElem? (i := 120) rfl)) (by decide) (by decide)) (g := (mkF m 24 #[.val (.ref a0), .val (.int (0 : Int32)), .val (.int p2), .val (.int p2), .val (.ref brb3)] [(.int p2), (.int (8192 : Int32)), (.int (0 : Int32)), (.ref brb3), (.int (0 : Int32)), (.ref a0)])) rfl (by rw [hml]; rfl) (argsL := [(.int (8192 : Int32)), (.int p2)]) (rest := [(.int (0 : Int32)), (.ref brb3), (.int (0 : Int32)), (.ref a0)]) (lenOf pdrb_1 rfl) rfl (by show 2 * 0 + _ ≤ _; exact Nat.le_of_eq rfl) (hb hby drb_24) (fun _ _ => ⟨rfl, erb3, (by decide : 1 + 0 ≤ _), (by decide : 4 + 0 ≤ _)⟩)
  dsimp only [Pt.U, Pt.locs, Pt.cells, Pt.slots] at Xrbc5 lrbc5 yrbc5 zrbc5 strbc5 hQrbc5
  subst lrbc5 yrbc5 zrbc5
  obtain ⟨rfl, Nrbc5q, erbc5⟩ := hQrbc5
  have Nrbc5 := Fr.app Nrbc1 Nrbc5q
  obtain ⟨lcrbt6, Xrbc5, Nrbc5⟩ : ∃ lc, Stand p l e ({ frames := 1, cells := 1, slots := 4, locals := 18 } : Room) s m #[(.ref a0), (.int (0 : Int32)), (.int p2)] below meth c Trbc5 lc 1 4 ∧ Fr n0 lc := ⟨_, Xrbc5, Nrbc5⟩
  refine stp (fun t k => strbc5 t k) ?_
  show W (Trbc5.setTop (mkF m 27 #[.val (.ref a0), .val (.int (0 : Int32)), .val (.int p2), .val (.int p2), .val (.ref brb3)] [(.int (fmi (8192 : Int32) p2)), (.int (0 : Int32)), (.ref brb3), (.int (0 : Int32)), (.ref a0)]))
  rw [show (fmi (8192 : Int32) p2) = p2 from own_min8 hp2 hcn]
  show W (Trbc5.setTop (mkF m 27 #[.val (.ref a0), .val (.int (0 : Int32)), .val (.int p2), .val (.int p2), .val (.ref brb3)] [(.int p2), (.int (0 : Int32)), (.ref brb3), (.int (0 : Int32)), (.ref a0)]))
  obtain ⟨Trby7, hrby7, Lrby7, Xrby7, erby7, Nrby7, Kqrby7, Vrby7, strby7⟩ := cpA Xrbc5 hx hZ hown (hw _ (List.mem_of_getElem? (i := 122) rfl)) (hw _ (List.mem_of_getElem? (i := 125) rfl)) (hw _ (List.mem_of_getElem? (i := 123) rfl)) (hw _ (List.mem_of_getElem? (i := 124) rfl)) erbc5 V_a0 V_brb3 (Or.inl ⟨rfl, rfl⟩) (by decide) (by decide) (own_nn hp2) (own_c4 hp2 hcn) (own_c5 p2) (own_us hp2 (Nat.le_trans hcn (by decide)) G _) (own_c6 hp2 _) Nrbc5 g_brb3 (g := (mkF m 27 #[.val (.ref a0), .val (.int (0 : Int32)), .val (.int p2), .val (.int p2), .val (.ref brb3)] [(.int p2), (.int (0 : Int32)), (.ref brb3), (.int (0 : Int32)), (.ref a0)])) rfl (by rw [hml]; rfl) rfl (hb hby drb_27) (by decide) (W := 0) (by show 2 * 0 + _ ≤ _; exact Nat.le_of_eq rfl) (by decide)
  replace V_a0 := V_a0.keep Kqrby7 (ninS ne_a0_brb3 nin0)
  have KKrby7 := Keep.trans Krb3 Kqrby7 (allS (Or.inr sz_brb3) all0)
  have Zrby7 := Nat.le_trans Zrb3 Kqrby7.1
  have Orby7 := Orb3.keep Kqrby7 (allS g_brb3 all0)
  have V1rby7 := own_arvEq (own_cpE hp2 _ _) Vrby7
  refine stp (fun t k => strby7 t k) ?_
  show W (Trby7.setTop (mkF m 30 #[.val (.ref a0), .val (.int (0 : Int32)), .val (.int p2), .val (.int p2), .val (.ref brb3)] []))
  refine stp (fun t k => XS.aload Xrby7.here hx rfl (hb hby drb_30) rfl rfl k) ?_
  show W (Trby7.setTop (mkF m 32 #[.val (.ref a0), .val (.int (0 : Int32)), .val (.int p2), .val (.int p2), .val (.ref brb3)] [(.ref brb3)]))
  show W (Trby7.setTop (mkF m 32 #[.val (.ref a0), .val (.int (0 : Int32)), .val (.int p2), .val (.int p2), .val (.ref brb3)] [(.ref brb3)]))
  rw [← hW]
  exact own_retR Xrby7 hx Bd.notSynchronized Bd.returns rfl (hb hby drb_32) (by show Qrb Z a0 (0 : Int32) p2 wc sx kb G cn h0 n0 _ Trby7.heap _; rw [erby7]; exact ⟨brb3, krb3, rfl, Nrby7, KKrby7, sz_brb3, V1rby7⟩) (by decide) (by decide)
theorem dcr_0 : decode jdk_65_method_132_code 0 = .ok (.iload_n 1, 1) := by decide +kernel
theorem dcr_1 : decode jdk_65_method_132_code 1 = .ok (.ifCond .ne 9, 3) := by decide +kernel
theorem dcr_4 : decode jdk_65_method_132_code 4 = .ok (.iload_n 2, 1) := by decide +kernel
theorem dcr_5 : decode jdk_65_method_132_code 5 = .ok (.aload_n 0, 1) := by decide +kernel
theorem dcr_6 : decode jdk_65_method_132_code 6 = .ok (.arraylength, 1) := by decide +kernel
theorem dcr_7 : decode jdk_65_method_132_code 7 = .ok (.if_icmp .eq 10, 3) := by decide +kernel
theorem dcr_10 : decode jdk_65_method_132_code 10 = .ok (.aload_n 0, 1) := by decide +kernel
theorem dcr_11 : decode jdk_65_method_132_code 11 = .ok (.iload_n 1, 1) := by decide +kernel
theorem dcr_12 : decode jdk_65_method_132_code 12 = .ok (.iload_n 2, 1) := by decide +kernel
theorem dcr_13 : decode jdk_65_method_132_code 13 = .ok (.invokestatic 339, 3) := by decide +kernel
theorem dcr_16 : decode jdk_65_method_132_code 16 = .ok (.areturn, 1) := by decide +kernel
theorem pncr : plainName "java/util/Arrays" = true := by first | (simp [plainName, overriddenIn]; done) | decide +kernel
theorem pdcr_0 : parseMethodDescriptor "([BII)[B" = some ⟨[(.array .byte), .int, .int], some (.array .byte)⟩ := by decide +kernel
theorem efcr (m : MethodId) (a0 : Addr) (p1 : Int32) (p2 : Int32) : entryFrame m #[(.ref a0), (.int p1), (.int p2)] 3 = mkF m 0 #[.val (.ref a0), .val (.int p1), .val (.int p2)] [] := by first | (simp [entryFrame, mkF, argsToLocals, Value.category]; done) | rfl
def Qcr (Z : State) (a0 : Addr) (p1 : Int32) (p2 : Int32) (wc : Int32) (sx : Value) (kb : ClassId) (G : Nat → Int32) (cn : Nat) (h0 : Heap) (n0 : Nat) (v : Option Value) (h : Heap) (L : List Loc) : Prop := ∃ (b : Addr) (kb : ClassId), v = some (.ref b) ∧ Fr n0 L ∧ Keep h0 h [] ∧ h0.size ≤ b ∧ Arv Z h b kb .byte p2 (own_vs cn G) (.int (0 : Int32))
set_option maxRecDepth 65536 in
set_option maxHeartbeats 40000000 in
theorem rmcr (l : Launch) (Z : State) (aa : Array Value) (hw : ∀ d ∈ tables_1, d.before aa Z = true) (ws : List Jvm.Cond) (a0 : Addr) (p1 : Int32) (p2 : Int32) (wc : Int32) (sx : Value) (kb : ClassId) (G : Nat → Int32) (cn : Nat) (h0 : Heap) (n0 : Nat) (Z0 : n0 ≤ h0.size) (BW : OwnW Z wc sx) (O0 : Old Z n0 h0) (V_a0 : Arv Z h0 a0 kb .byte (8192 : Int32) (own_vs 8192 G) (.int (0 : Int32))) (hp1 : p1 = (0 : Int32)) (hp2 : p2.toInt = (cn : Int)) (hcn : cn ≤ 4) :
    MetFree l (⟨"java/util/Arrays", "copyOfRange", "([BII)[B"⟩ : MethodName) (head1 (Jvm.Cond.code (⟨"java/util/Arrays", "copyOfRange", "([BII)[B"⟩ : MethodName) jdk_65_method_132_code 3 (some (.array .byte)) :: ws) ({ frames := 2, cells := 1, slots := 4, locals := 34 } : Room)) (fun a U => a = #[(.ref a0), (.int p1), (.int p2)] ∧ Z.Warmed39 U.vm ∧ U.heap = h0) (fun _ _ _ _ _ => True) (fun _ U o U' => ∃ v L, o = .returned v ∧ Qcr Z a0 p1 p2 wc sx kb G cn h0 n0 v U'.heap L ∧ FrameEnd U o U' L ({ frames := 2, cells := 1, slots := 4, locals := 34 } : Room).cells ({ frames := 2, cells := 1, slots := 4, locals := 34 } : Room).slots) := by
  refine MetFree.of_bodySF (plainFor_of_name pncr) hisR ?_
  intro p e s m args below meth c s₁ Bd hml0 hP hK
  obtain ⟨rfl, hZ, hh⟩ := hP
  have hx := Bd.exec
  have hby := Bd.bytes
  have hml : c.maxLocals = 3 := hml0
  have hown : s.vm.findClass "java/util/Arrays" = some m.cls := findClass_of_methodNamed Bd.named
  have hnm := (name_of_methodNamed Bd.named Bd.method).1
  have X0 : Stand p l e ({ frames := 2, cells := 1, slots := 4, locals := 34 } : Room) s m #[(.ref a0), (.int p1), (.int p2)] below meth c s₁ [] 0 0 := Stand.of_body Bd
  have e0 : s₁.heap = h0 := by rw [← hh, Bd.state]; rfl
  have N0 := Fr.nil n0
  show OwnEnd p e below s (fun v h L => Qcr Z a0 p1 p2 wc sx kb G cn h0 n0 v h L) ({ frames := 2, cells := 1, slots := 4, locals := 34 } : Room).cells ({ frames := 2, cells := 1, slots := 4, locals := 34 } : Room).slots (s₁.setTop (entryFrame m #[(.ref a0), (.int p1), (.int p2)] 3))
  rw [efcr m a0 p1 p2]
  generalize hW : OwnEnd p e below s (fun v h L => Qcr Z a0 p1 p2 wc sx kb G cn h0 n0 v h L) ({ frames := 2, cells := 1, slots := 4, locals := 34 } : Room).cells ({ frames := 2, cells := 1, slots := 4, locals := 34 } : Room).slots = W
  have stp : ∀ {A B : State}, (∀ t, Steps p.tables e below B t → Steps p.tables e below A t) → W B → W A := by subst hW; exact own_step
  obtain ⟨S_cs, hcs, S_si, hr_sx⟩ := id BW
  subst hp1
  show W (s₁.setTop (mkF m 0 #[.val (.ref a0), .val (.int (0 : Int32)), .val (.int p2)] []))
  refine stp (fun t k => XS.iloadN X0.here hx rfl (hb hby dcr_0) rfl k) ?_
  show W (s₁.setTop (mkF m 1 #[.val (.ref a0), .val (.int (0 : Int32)), .val (.int p2)] [(.int (0 : Int32))]))
  refine stp (fun t k => XS.ifNo X0.here hx rfl (hb hby dcr_1) rfl ((if0 _ _).trans (teq (rfl)).2) k) ?_
  show W (s₁.setTop (mkF m 4 #[.val (.ref a0), .val (.int (0 : Int32)), .val (.int p2)] []))
  refine stp (fun t k => XS.iloadN X0.here hx rfl (hb hby dcr_4) rfl k) ?_
  show W (s₁.setTop (mkF m 5 #[.val (.ref a0), .val (.int (0 : Int32)), .val (.int p2)] [(.int p2)]))
  refine stp (fun t k => XS.aloadN X0.here hx rfl (hb hby dcr_5) rfl rfl k) ?_
  show W (s₁.setTop (mkF m 6 #[.val (.ref a0), .val (.int (0 : Int32)), .val (.int p2)] [(.ref a0), (.int p2)]))
  obtain ⟨clcr1, Arcr1, qkcr1, qscr1, qncr1, qhcr1, qgcr1⟩ := id V_a0
  refine stp (fun t k => X0.arraylength hx (by rw [e0]; exact Arcr1.1) (State.isArrayOf_alike hZ.alike Arcr1.2.1) (g := (mkF m 6 #[.val (.ref a0), .val (.int (0 : Int32)), .val (.int p2)] [(.ref a0), (.int p2)])) rfl rfl (hb hby dcr_6) _ k) ?_
  rw [len_of qscr1 qncr1]
  show W (s₁.setTop (mkF m 7 #[.val (.ref a0), .val (.int (0 : Int32)), .val (.int p2)] [(.int (8192 : Int32)), (.int p2)]))
  refine stp (fun t k => XS.icmpNo X0.here hx rfl (hb hby dcr_7) rfl ((feq (own_n8 hp2 hcn)).1) k) ?_
  show W (s₁.setTop (mkF m 10 #[.val (.ref a0), .val (.int (0 : Int32)), .val (.int p2)] []))
  refine stp (fun t k => XS.aloadN X0.here hx rfl (hb hby dcr_10) rfl rfl k) ?_
  show W (s₁.setTop (mkF m 11 #[.val (.ref a0), .val (.int (0 : Int32)), .val (.int p2)] [(.ref a0)]))
  refine stp (fun t k => XS.iloadN X0.here hx rfl (hb hby dcr_11) rfl k) ?_
  show W (s₁.setTop (mkF m 12 #[.val (.ref a0), .val (.int (0 : Int32)), .val (.int p2)] [(.int (0 : Int32)), (.ref a0)]))
  refine stp (fun t k => XS.iloadN X0.here hx rfl (hb hby dcr_12) rfl k) ?_
  show W (s₁.setTop (mkF m 13 #[.val (.ref a0), .val (.int (0 : Int32)), .val (.int p2)] [(.int p2), (.int (0 : Int32)), (.ref a0)]))
  obtain ⟨_, _, ⟨Tcrc2, Lcrc2, kcrc2, ncrc2⟩, -, Xcrc2, ⟨Lccrc2, hQcrc2, lcrc2, ycrc2, zcrc2⟩, stcrc2⟩ := Jvm.LawKit.callS X0 hx (y := (⟨"java/util/Arrays", "copyOfRangeByte", "([BII)[B"⟩ : MethodName)) hown (mvT hZ (hw _ (List.mem_of_getElem? (i := 112) rfl))) (mvT hZ (hw _ (List.mem_of_getElem? (i := 113) rfl))) (mvT hZ (hw _ (List.mem_of_getElem? (i := 110) rfl))) (mvT hZ (hw _ (List.mem_of_getElem? (i := 114) rfl))) (by decide) (backOf (W := 0) (rmrb l Z aa hw [] a0 (0 : Int32) p2 wc sx kb G cn h0 n0 Z0 BW O0 V_a0 rfl hp2 hcn) hZ (hw _ (List.mem_of_getElem? (i := 114) rfl)) (hw _ (List.mem_of_getElem? (i := 110) rfl)) (by decide) (by decide)) (g := (mkF m 13 #[.val (.ref a0), .val (.int (0 : Int32)), .val (.int p2)] [(.int p2), (.int (0 : Int32)), (.ref a0)])) rfl (by rw [hml]; rfl) (argsL := [(.ref a0), (.int (0 : Int32)), (.int p2)]) (rest := []) (lenOf pdcr_0 rfl) rfl (by show 2 * 0 + _ ≤ _; exact Nat.le_of_eq rfl) (hb hby dcr_13) (fun _ _ => ⟨rfl, e0, (by decide : 0 + 1 ≤ _), (by decide : 0 + 4 ≤ _)⟩)
  dsimp only [Pt.U, Pt.locs, Pt.cells, Pt.slots] at Xcrc2 lcrc2 ycrc2 zcrc2 stcrc2 hQcrc2
  subst lcrc2 ycrc2 zcrc2
  obtain ⟨bcrc2, kbcrc2, rfl, Ncrc2q, Kqcrc2, sz_bcrc2, V_bcrc2⟩ := hQcrc2
  have Ncrc2 := Fr.app N0 Ncrc2q
  obtain ⟨lccrt3, Xcrc2, Ncrc2⟩ : ∃ lc, Stand p l e ({ frames := 2, cells := 1, slots := 4, locals := 34 } : Room) s m #[(.ref a0), (.int (0 : Int32)), (.int p2)] below meth c Tcrc2 lc 1 4 ∧ Fr n0 lc := ⟨_, Xcrc2, Ncrc2⟩
  obtain ⟨hcrc2, ecrc2⟩ : ∃ h, Tcrc2.heap = h := ⟨_, rfl⟩
  rw [ecrc2] at Kqcrc2 V_bcrc2
  have ne_a0_bcrc2 : a0 ≠ bcrc2 := Nat.ne_of_lt (Nat.lt_of_lt_of_le V_a0.lt sz_bcrc2)
  have g_bcrc2 : n0 ≤ bcrc2 := Nat.le_trans Z0 sz_bcrc2
  have sz_bcrc2 : h0.size ≤ bcrc2 := Nat.le_trans (Keep.refl h0 []).1 sz_bcrc2
  replace V_a0 := V_a0.keep Kqcrc2 nin0
  have KKcrc2 := Keep.trans (Keep.refl h0 []) Kqcrc2 all0
  have Zcrc2 := Nat.le_trans Z0 Kqcrc2.1
  have Ocrc2 := O0.keep Kqcrc2 all0
  refine stp (fun t k => stcrc2 t k) ?_
  show W (Tcrc2.setTop (mkF m 16 #[.val (.ref a0), .val (.int (0 : Int32)), .val (.int p2)] [(.ref bcrc2)]))
  show W (Tcrc2.setTop (mkF m 16 #[.val (.ref a0), .val (.int (0 : Int32)), .val (.int p2)] [(.ref bcrc2)]))
  rw [← hW]
  exact own_retR Xcrc2 hx Bd.notSynchronized Bd.returns rfl (hb hby dcr_16) (by show Qcr Z a0 (0 : Int32) p2 wc sx kb G cn h0 n0 _ Tcrc2.heap _; rw [ecrc2]; exact ⟨bcrc2, kbcrc2, rfl, Ncrc2, KKcrc2, sz_bcrc2, V_bcrc2⟩) (by decide) (by decide)
theorem own_add0E (x : Int32) : (0 : Int32) + x = x := by
  apply Int32.toInt_inj.mp
  have a := c_iadd 0 x
  have b := rng32 ((0 : Int32) + x)
  have d := rng32 x
  have e : (0 : Int32).toInt = 0 := by decide
  omega
theorem dj2_0 : decode jdk_42_method_11_code 0 = .ok (.aload_n 0, 1) := by decide +kernel
theorem dj2_1 : decode jdk_42_method_11_code 1 = .ok (.invokespecial 1, 3) := by decide +kernel
theorem dj2_4 : decode jdk_42_method_11_code 4 = .ok (.iload 4, 2) := by decide +kernel
theorem dj2_6 : decode jdk_42_method_11_code 6 = .ok (.ifCond .ne 24, 3) := by decide +kernel
theorem dj2_30 : decode jdk_42_method_11_code 30 = .ok (.aload_n 1, 1) := by decide +kernel
theorem dj2_31 : decode jdk_42_method_11_code 31 = .ok (.getstatic 86, 3) := by decide +kernel
theorem dj2_34 : decode jdk_42_method_11_code 34 = .ok (.if_acmp .ne 312, 3) := by decide +kernel
theorem dj2_346 : decode jdk_42_method_11_code 346 = .ok (.aload_n 1, 1) := by decide +kernel
theorem dj2_347 : decode jdk_42_method_11_code 347 = .ok (.getstatic 116, 3) := by decide +kernel
theorem dj2_350 : decode jdk_42_method_11_code 350 = .ok (.if_acmp .ne 49, 3) := by decide +kernel
theorem dj2_399 : decode jdk_42_method_11_code 399 = .ok (.aload_n 1, 1) := by decide +kernel
theorem dj2_400 : decode jdk_42_method_11_code 400 = .ok (.getstatic 123, 3) := by decide +kernel
theorem dj2_403 : decode jdk_42_method_11_code 403 = .ok (.if_acmp .ne 105, 3) := by decide +kernel
theorem dj2_406 : decode jdk_42_method_11_code 406 = .ok (.getstatic 38, 3) := by decide +kernel
theorem dj2_409 : decode jdk_42_method_11_code 409 = .ok (.ifCond .eq 34, 3) := by decide +kernel
theorem dj2_412 : decode jdk_42_method_11_code 412 = .ok (.aload_n 2, 1) := by decide +kernel
theorem dj2_413 : decode jdk_42_method_11_code 413 = .ok (.iload_n 3, 1) := by decide +kernel
theorem dj2_414 : decode jdk_42_method_11_code 414 = .ok (.iload 4, 2) := by decide +kernel
theorem dj2_416 : decode jdk_42_method_11_code 416 = .ok (.invokestatic 128, 3) := by decide +kernel
theorem dj2_419 : decode jdk_42_method_11_code 419 = .ok (.ifCond .ne 24, 3) := by decide +kernel
theorem dj2_422 : decode jdk_42_method_11_code 422 = .ok (.aload_n 0, 1) := by decide +kernel
theorem dj2_423 : decode jdk_42_method_11_code 423 = .ok (.aload_n 2, 1) := by decide +kernel
theorem dj2_424 : decode jdk_42_method_11_code 424 = .ok (.iload_n 3, 1) := by decide +kernel
theorem dj2_425 : decode jdk_42_method_11_code 425 = .ok (.iload_n 3, 1) := by decide +kernel
theorem dj2_426 : decode jdk_42_method_11_code 426 = .ok (.iload 4, 2) := by decide +kernel
theorem dj2_428 : decode jdk_42_method_11_code 428 = .ok (.iadd, 1) := by decide +kernel
theorem dj2_429 : decode jdk_42_method_11_code 429 = .ok (.invokestatic 54, 3) := by decide +kernel
theorem dj2_432 : decode jdk_42_method_11_code 432 = .ok (.putfield 9, 3) := by decide +kernel
theorem dj2_435 : decode jdk_42_method_11_code 435 = .ok (.aload_n 0, 1) := by decide +kernel
theorem dj2_436 : decode jdk_42_method_11_code 436 = .ok (.iconst 0, 1) := by decide +kernel
theorem dj2_437 : decode jdk_42_method_11_code 437 = .ok (.putfield 15, 3) := by decide +kernel
theorem dj2_440 : decode jdk_42_method_11_code 440 = .ok (.goto 439, 3) := by decide +kernel
theorem dj2_879 : decode jdk_42_method_11_code 879 = .ok (.return_, 1) := by decide +kernel
theorem pnj2 : plainName "java/lang/String" = true := by first | (simp [plainName, overriddenIn]; done) | decide +kernel
theorem pdj2_0 : parseMethodDescriptor "([BII)Z" = some ⟨[(.array .byte), .int, .int], some .boolean⟩ := by decide +kernel
theorem pdj2_1 : parseMethodDescriptor "([BII)[B" = some ⟨[(.array .byte), .int, .int], some (.array .byte)⟩ := by decide +kernel
theorem efj2 (m : MethodId) (a0 : Addr) (kA : Addr) (a2 : Addr) (p3 : Int32) (p4 : Int32) : entryFrame m #[(.ref a0), (.ref kA), (.ref a2), (.int p3), (.int p4)] 11 = mkF m 0 #[.val (.ref a0), .val (.ref kA), .val (.ref a2), .val (.int p3), .val (.int p4), .unset, .unset, .unset, .unset, .unset, .unset] [] := by first | (simp [entryFrame, mkF, argsToLocals, Value.category]; done) | rfl
def Qj2 (Z : State) (a0 : Addr) (kA : Addr) (a2 : Addr) (p3 : Int32) (p4 : Int32) (wc : Int32) (sx : Value) (kU : Addr) (kI : Addr) (kb : ClassId) (G : Nat → Int32) (cn : Nat) (g : Nat → Int32) (h0 : Heap) (n0 : Nat) (v : Option Value) (h : Heap) (L : List Loc) : Prop := v = none ∧ Fr n0 L ∧ Keep h0 h [a0] ∧ ∃ b : Addr, OwnStr Z h a0 b cn g
set_option maxRecDepth 65536 in
set_option maxHeartbeats 40000000 in
theorem rmj2 (l : Launch) (Z : State) (aa : Array Value) (hw : ∀ d ∈ tables_1, d.before aa Z = true) (ws : List Jvm.Cond) (a0 : Addr) (kA : Addr) (a2 : Addr) (p3 : Int32) (p4 : Int32) (wc : Int32) (sx : Value) (kU : Addr) (kI : Addr) (kb : ClassId) (G : Nat → Int32) (cn : Nat) (g : Nat → Int32) (h0 : Heap) (n0 : Nat) (Z0 : n0 ≤ h0.size) (BW : OwnW Z wc sx) (O0 : Old Z n0 h0) (BC : OwnCS Z kU kI kA) (E_a0 : Exa Z h0 a0 "java/lang/String") (F_value_a0 : Fld Z h0 a0 "java/lang/String" "value" "[B" .null) (F_coder_a0 : Fld Z h0 a0 "java/lang/String" "coder" "B" (.int (0 : Int32))) (g_a0 : n0 ≤ a0) (V_a2 : Arv Z h0 a2 kb .byte (8192 : Int32) (own_vs 8192 G) (.int (0 : Int32))) (ne_a0_a2 : a0 ≠ a2) (hp3 : p3 = (0 : Int32)) (hp4 : p4.toInt = (cn : Int)) (h1 : 0 < cn) (hcn : cn ≤ 4) (hg : ∀ j, j < cn → 0 ≤ (g j).toInt ∧ (g j).toInt < 128) (hGg : ∀ j, j < cn → G j = own_b (g j)) :
    MetFree l (⟨"java/lang/String", "<init>", "(Ljava/nio/charset/Charset;[BII)V"⟩ : MethodName) (head1 (Jvm.Cond.codeWith (⟨"java/lang/String", "<init>", "(Ljava/nio/charset/Charset;[BII)V"⟩ : MethodName) jdk_42_method_11_code 11 none [((800 : Nat), (813 : Nat), (816 : Nat), (202 : Nat))] :: ws) ({ frames := 3, cells := 1, slots := 4, locals := 49 } : Room)) (fun a U => a = #[(.ref a0), (.ref kA), (.ref a2), (.int p3), (.int p4)] ∧ Z.Warmed39 U.vm ∧ U.heap = h0) (fun _ _ _ _ _ => True) (fun _ U o U' => ∃ v L, o = .returned v ∧ Qj2 Z a0 kA a2 p3 p4 wc sx kU kI kb G cn g h0 n0 v U'.heap L ∧ FrameEnd U o U' L ({ frames := 3, cells := 1, slots := 4, locals := 49 } : Room).cells ({ frames := 3, cells := 1, slots := 4, locals := 49 } : Room).slots) := by
  refine MetFree.of_bodySF (plainFor_of_name pnj2) hisWith ?_
  intro p e s m args below meth c s₁ Bd hml0 hP hK
  obtain ⟨rfl, hZ, hh⟩ := hP
  have hx := Bd.exec
  have hby := Bd.bytes
  have hml : c.maxLocals = 11 := hml0
  have hown : s.vm.findClass "java/lang/String" = some m.cls := findClass_of_methodNamed Bd.named
  have hnm := (name_of_methodNamed Bd.named Bd.method).1
  have X0 : Stand p l e ({ frames := 3, cells := 1, slots := 4, locals := 49 } : Room) s m #[(.ref a0), (.ref kA), (.ref a2), (.int p3), (.int p4)] below meth c s₁ [] 0 0 := Stand.of_body Bd
  have e0 : s₁.heap = h0 := by rw [← hh, Bd.state]; rfl
  have N0 := Fr.nil n0
  show OwnEnd p e below s (fun v h L => Qj2 Z a0 kA a2 p3 p4 wc sx kU kI kb G cn g h0 n0 v h L) ({ frames := 3, cells := 1, slots := 4, locals := 49 } : Room).cells ({ frames := 3, cells := 1, slots := 4, locals := 49 } : Room).slots (s₁.setTop (entryFrame m #[(.ref a0), (.ref kA), (.ref a2), (.int p3), (.int p4)] 11))
  rw [efj2 m a0 kA a2 p3 p4]
  generalize hW : OwnEnd p e below s (fun v h L => Qj2 Z a0 kA a2 p3 p4 wc sx kU kI kb G cn g h0 n0 v h L) ({ frames := 3, cells := 1, slots := 4, locals := 49 } : Room).cells ({ frames := 3, cells := 1, slots := 4, locals := 49 } : Room).slots = W
  have stp : ∀ {A B : State}, (∀ t, Steps p.tables e below B t → Steps p.tables e below A t) → W B → W A := by subst hW; exact own_step
  obtain ⟨S_cs, hcs, S_si, hr_sx⟩ := id BW
  obtain ⟨C_u, C_i, C_a, C_s, nU, nI, C_x⟩ := id BC
  subst hp3
  show W (s₁.setTop (mkF m 0 #[.val (.ref a0), .val (.ref kA), .val (.ref a2), .val (.int (0 : Int32)), .val (.int p4), .unset, .unset, .unset, .unset, .unset, .unset] []))
  refine stp (fun t k => XS.aloadN X0.here hx rfl (hb hby dj2_0) rfl rfl k) ?_
  show W (s₁.setTop (mkF m 1 #[.val (.ref a0), .val (.ref kA), .val (.ref a2), .val (.int (0 : Int32)), .val (.int p4), .unset, .unset, .unset, .unset, .unset, .unset] [(.ref a0)]))
  obtain ⟨T1, X1, e1, st1⟩ := initO X0 hx hZ hown (hw _ (List.mem_of_getElem? (i := 67) rfl)) (hw _ (List.mem_of_getElem? (i := 12) rfl)) (hw _ (List.mem_of_getElem? (i := 13) rfl)) e0 (g := (mkF m 1 #[.val (.ref a0), .val (.ref kA), .val (.ref a2), .val (.int (0 : Int32)), .val (.int p4), .unset, .unset, .unset, .unset, .unset, .unset] [(.ref a0)])) rfl (by rw [hml]; rfl) rfl (hb hby dj2_1) (by decide) (W := 0) (by show 2 * 0 + _ ≤ _; exact Nat.le_of_eq rfl) (by decide)
  refine stp (fun t k => st1 t k) ?_
  show W (T1.setTop (mkF m 4 #[.val (.ref a0), .val (.ref kA), .val (.ref a2), .val (.int (0 : Int32)), .val (.int p4), .unset, .unset, .unset, .unset, .unset, .unset] []))
  refine stp (fun t k => XS.iload X1.here hx rfl (hb hby dj2_4) rfl k) ?_
  show W (T1.setTop (mkF m 6 #[.val (.ref a0), .val (.ref kA), .val (.ref a2), .val (.int (0 : Int32)), .val (.int p4), .unset, .unset, .unset, .unset, .unset, .unset] [(.int p4)]))
  refine stp (fun t k => XS.ifYes X1.here hx rfl (pc0 := 6) (pc' := 30) rfl (hb hby dj2_6) rfl ((if0 _ _).trans (feq (fun q => by rw [q, show (0 : Int32).toInt = 0 from by decide] at hp4; omega)).2) (by decide) (by decide) k) ?_
  show W (T1.setTop (mkF m 30 #[.val (.ref a0), .val (.ref kA), .val (.ref a2), .val (.int (0 : Int32)), .val (.int p4), .unset, .unset, .unset, .unset, .unset, .unset] []))
  refine stp (fun t k => XS.aloadN X1.here hx rfl (hb hby dj2_30) rfl rfl k) ?_
  show W (T1.setTop (mkF m 31 #[.val (.ref a0), .val (.ref kA), .val (.ref a2), .val (.int (0 : Int32)), .val (.int p4), .unset, .unset, .unset, .unset, .unset, .unset] [(.ref kA)]))
  obtain ⟨Tj22, Xj22, ej22, stj22⟩ := getS2 X1 hx hZ hown (host := "") (Or.inl (hw _ (List.mem_of_getElem? (i := 95) rfl))) Via.refl e1 (C_u.ext O0.2) (g := (mkF m 31 #[.val (.ref a0), .val (.ref kA), .val (.ref a2), .val (.int (0 : Int32)), .val (.int p4), .unset, .unset, .unset, .unset, .unset, .unset] [(.ref kA)])) rfl (hb hby dj2_31)
  refine stp (fun t k => stj22 t k) ?_
  show W (Tj22.setTop (mkF m 34 #[.val (.ref a0), .val (.ref kA), .val (.ref a2), .val (.int (0 : Int32)), .val (.int p4), .unset, .unset, .unset, .unset, .unset, .unset] [(.ref kU), (.ref kA)]))
  refine stp (fun t k => Jvm.RoadKit.acmp Xj22 hx rfl rfl rfl (pc0 := 34) (pc' := 346) (same := false) rfl (hb hby dj2_34) rfl (decide_eq_false (fun q => nU (Value.ref.inj q))) (by decide) (by decide) k) ?_
  show W (Tj22.setTop (mkF m 346 #[.val (.ref a0), .val (.ref kA), .val (.ref a2), .val (.int (0 : Int32)), .val (.int p4), .unset, .unset, .unset, .unset, .unset, .unset] []))
  refine stp (fun t k => XS.aloadN Xj22.here hx rfl (hb hby dj2_346) rfl rfl k) ?_
  show W (Tj22.setTop (mkF m 347 #[.val (.ref a0), .val (.ref kA), .val (.ref a2), .val (.int (0 : Int32)), .val (.int p4), .unset, .unset, .unset, .unset, .unset, .unset] [(.ref kA)]))
  obtain ⟨Tj23, Xj23, ej23, stj23⟩ := getS2 Xj22 hx hZ hown (host := "") (Or.inl (hw _ (List.mem_of_getElem? (i := 97) rfl))) Via.refl ej22 (C_i.ext O0.2) (g := (mkF m 347 #[.val (.ref a0), .val (.ref kA), .val (.ref a2), .val (.int (0 : Int32)), .val (.int p4), .unset, .unset, .unset, .unset, .unset, .unset] [(.ref kA)])) rfl (hb hby dj2_347)
  refine stp (fun t k => stj23 t k) ?_
  show W (Tj23.setTop (mkF m 350 #[.val (.ref a0), .val (.ref kA), .val (.ref a2), .val (.int (0 : Int32)), .val (.int p4), .unset, .unset, .unset, .unset, .unset, .unset] [(.ref kI), (.ref kA)]))
  refine stp (fun t k => Jvm.RoadKit.acmp Xj23 hx rfl rfl rfl (pc0 := 350) (pc' := 399) (same := false) rfl (hb hby dj2_350) rfl (decide_eq_false (fun q => nI (Value.ref.inj q))) (by decide) (by decide) k) ?_
  show W (Tj23.setTop (mkF m 399 #[.val (.ref a0), .val (.ref kA), .val (.ref a2), .val (.int (0 : Int32)), .val (.int p4), .unset, .unset, .unset, .unset, .unset, .unset] []))
  refine stp (fun t k => XS.aloadN Xj23.here hx rfl (hb hby dj2_399) rfl rfl k) ?_
  show W (Tj23.setTop (mkF m 400 #[.val (.ref a0), .val (.ref kA), .val (.ref a2), .val (.int (0 : Int32)), .val (.int p4), .unset, .unset, .unset, .unset, .unset, .unset] [(.ref kA)]))
  obtain ⟨Tj24, Xj24, ej24, stj24⟩ := getS2 Xj23 hx hZ hown (host := "") (Or.inl (hw _ (List.mem_of_getElem? (i := 99) rfl))) Via.refl ej23 (C_a.ext O0.2) (g := (mkF m 400 #[.val (.ref a0), .val (.ref kA), .val (.ref a2), .val (.int (0 : Int32)), .val (.int p4), .unset, .unset, .unset, .unset, .unset, .unset] [(.ref kA)])) rfl (hb hby dj2_400)
  refine stp (fun t k => stj24 t k) ?_
  show W (Tj24.setTop (mkF m 403 #[.val (.ref a0), .val (.ref kA), .val (.ref a2), .val (.int (0 : Int32)), .val (.int p4), .unset, .unset, .unset, .unset, .unset, .unset] [(.ref kA), (.ref kA)]))
  refine stp (fun t k => Jvm.RoadKit.acmp Xj24 hx rfl rfl rfl (pc0 := 403) (pc' := 406) (same := true) rfl (hb hby dj2_403) rfl (decide_eq_true rfl) (by decide) (by decide) k) ?_
  show W (Tj24.setTop (mkF m 406 #[.val (.ref a0), .val (.ref kA), .val (.ref a2), .val (.int (0 : Int32)), .val (.int p4), .unset, .unset, .unset, .unset, .unset, .unset] []))
  obtain ⟨Tj25, Xj25, ej25, stj25⟩ := getS2 Xj24 hx hZ hown (host := "") (Or.inl (hw _ (List.mem_of_getElem? (i := 90) rfl))) Via.refl ej24 (S_cs.ext O0.2) (g := (mkF m 406 #[.val (.ref a0), .val (.ref kA), .val (.ref a2), .val (.int (0 : Int32)), .val (.int p4), .unset, .unset, .unset, .unset, .unset, .unset] [])) rfl (hb hby dj2_406)
  refine stp (fun t k => stj25 t k) ?_
  show W (Tj25.setTop (mkF m 409 #[.val (.ref a0), .val (.ref kA), .val (.ref a2), .val (.int (0 : Int32)), .val (.int p4), .unset, .unset, .unset, .unset, .unset, .unset] [(.int wc)]))
  refine stp (fun t k => XS.ifNo Xj25.here hx rfl (hb hby dj2_409) rfl ((if0 _ _).trans (feq (hcs)).1) k) ?_
  show W (Tj25.setTop (mkF m 412 #[.val (.ref a0), .val (.ref kA), .val (.ref a2), .val (.int (0 : Int32)), .val (.int p4), .unset, .unset, .unset, .unset, .unset, .unset] []))
  refine stp (fun t k => XS.aloadN Xj25.here hx rfl (hb hby dj2_412) rfl rfl k) ?_
  show W (Tj25.setTop (mkF m 413 #[.val (.ref a0), .val (.ref kA), .val (.ref a2), .val (.int (0 : Int32)), .val (.int p4), .unset, .unset, .unset, .unset, .unset, .unset] [(.ref a2)]))
  refine stp (fun t k => XS.iloadN Xj25.here hx rfl (hb hby dj2_413) rfl k) ?_
  show W (Tj25.setTop (mkF m 414 #[.val (.ref a0), .val (.ref kA), .val (.ref a2), .val (.int (0 : Int32)), .val (.int p4), .unset, .unset, .unset, .unset, .unset, .unset] [(.int (0 : Int32)), (.ref a2)]))
  refine stp (fun t k => XS.iload Xj25.here hx rfl (hb hby dj2_414) rfl k) ?_
  show W (Tj25.setTop (mkF m 416 #[.val (.ref a0), .val (.ref kA), .val (.ref a2), .val (.int (0 : Int32)), .val (.int p4), .unset, .unset, .unset, .unset, .unset, .unset] [(.int p4), (.int (0 : Int32)), (.ref a2)]))
  obtain ⟨_, _, ⟨Tj2c6, Lj2c6, kj2c6, nj2c6⟩, -, Xj2c6, ⟨Lcj2c6, hQj2c6, lj2c6, yj2c6, zj2c6⟩, stj2c6⟩ := Jvm.LawKit.callS Xj25 hx (y := (⟨"java/lang/StringCoding", "hasNegatives", "([BII)Z"⟩ : MethodName)) hown (mvT hZ (hw _ (List.mem_of_getElem? (i := 101) rfl))) (mvT hZ (hw _ (List.mem_of_getElem? (i := 102) rfl))) (mvT hZ (hw _ (List.mem_of_getElem? (i := 103) rfl))) (mvT hZ (hw _ (List.mem_of_getElem? (i := 104) rfl))) (by decide) (backOf (W := 0) (rmhn l Z aa hw [] a2 (0 : Int32) p4 wc sx kb G cn h0 n0 Z0 BW O0 V_a2 rfl hp4 hcn (own_Gnn hg hGg)) hZ (hw _ (List.mem_of_getElem? (i := 104) rfl)) (hw _ (List.mem_of_getElem? (i := 103) rfl)) (by decide) (by decide)) (g := (mkF m 416 #[.val (.ref a0), .val (.ref kA), .val (.ref a2), .val (.int (0 : Int32)), .val (.int p4), .unset, .unset, .unset, .unset, .unset, .unset] [(.int p4), (.int (0 : Int32)), (.ref a2)])) rfl (by rw [hml]; rfl) (argsL := [(.ref a2), (.int (0 : Int32)), (.int p4)]) (rest := []) (lenOf pdj2_0 rfl) rfl (by show 2 * 0 + _ ≤ _; exact Nat.le_of_eq rfl) (hb hby dj2_416) (fun _ _ => ⟨rfl, ej25, (by decide : 0 + 0 ≤ _), (by decide : 0 + 0 ≤ _)⟩)
  dsimp only [Pt.U, Pt.locs, Pt.cells, Pt.slots] at Xj2c6 lj2c6 yj2c6 zj2c6 stj2c6 hQj2c6
  subst lj2c6 yj2c6 zj2c6
  obtain ⟨rfl, Nj2c6q, ej2c6⟩ := hQj2c6
  have Nj2c6 := Fr.app N0 Nj2c6q
  obtain ⟨lcj2t7, Xj2c6, Nj2c6⟩ : ∃ lc, Stand p l e ({ frames := 3, cells := 1, slots := 4, locals := 49 } : Room) s m #[(.ref a0), (.ref kA), (.ref a2), (.int (0 : Int32)), (.int p4)] below meth c Tj2c6 lc 0 0 ∧ Fr n0 lc := ⟨_, Xj2c6, Nj2c6⟩
  refine stp (fun t k => stj2c6 t k) ?_
  show W (Tj2c6.setTop (mkF m 419 #[.val (.ref a0), .val (.ref kA), .val (.ref a2), .val (.int (0 : Int32)), .val (.int p4), .unset, .unset, .unset, .unset, .unset, .unset] [(.int (0 : Int32))]))
  refine stp (fun t k => XS.ifNo Xj2c6.here hx rfl (hb hby dj2_419) rfl ((if0 _ _).trans (teq (rfl)).2) k) ?_
  show W (Tj2c6.setTop (mkF m 422 #[.val (.ref a0), .val (.ref kA), .val (.ref a2), .val (.int (0 : Int32)), .val (.int p4), .unset, .unset, .unset, .unset, .unset, .unset] []))
  refine stp (fun t k => XS.aloadN Xj2c6.here hx rfl (hb hby dj2_422) rfl rfl k) ?_
  show W (Tj2c6.setTop (mkF m 423 #[.val (.ref a0), .val (.ref kA), .val (.ref a2), .val (.int (0 : Int32)), .val (.int p4), .unset, .unset, .unset, .unset, .unset, .unset] [(.ref a0)]))
  refine stp (fun t k => XS.aloadN Xj2c6.here hx rfl (hb hby dj2_423) rfl rfl k) ?_
  show W (Tj2c6.setTop (mkF m 424 #[.val (.ref a0), .val (.ref kA), .val (.ref a2), .val (.int (0 : Int32)), .val (.int p4), .unset, .unset, .unset, .unset, .unset, .unset] [(.ref a2), (.ref a0)]))
  refine stp (fun t k => XS.iloadN Xj2c6.here hx rfl (hb hby dj2_424) rfl k) ?_
  show W (Tj2c6.setTop (mkF m 425 #[.val (.ref a0), .val (.ref kA), .val (.ref a2), .val (.int (0 : Int32)), .val (.int p4), .unset, .unset, .unset, .unset, .unset, .unset] [(.int (0 : Int32)), (.ref a2), (.ref a0)]))
  refine stp (fun t k => XS.iloadN Xj2c6.here hx rfl (hb hby dj2_425) rfl k) ?_
  show W (Tj2c6.setTop (mkF m 426 #[.val (.ref a0), .val (.ref kA), .val (.ref a2), .val (.int (0 : Int32)), .val (.int p4), .unset, .unset, .unset, .unset, .unset, .unset] [(.int (0 : Int32)), (.int (0 : Int32)), (.ref a2), (.ref a0)]))
  refine stp (fun t k => XS.iload Xj2c6.here hx rfl (hb hby dj2_426) rfl k) ?_
  show W (Tj2c6.setTop (mkF m 428 #[.val (.ref a0), .val (.ref kA), .val (.ref a2), .val (.int (0 : Int32)), .val (.int p4), .unset, .unset, .unset, .unset, .unset, .unset] [(.int p4), (.int (0 : Int32)), (.int (0 : Int32)), (.ref a2), (.ref a0)]))
  refine stp (fun t k => XS.iadd Xj2c6.here hx rfl (hb hby dj2_428) rfl k) ?_
  show W (Tj2c6.setTop (mkF m 429 #[.val (.ref a0), .val (.ref kA), .val (.ref a2), .val (.int (0 : Int32)), .val (.int p4), .unset, .unset, .unset, .unset, .unset, .unset] [(.int ((0 : Int32) + p4)), (.int (0 : Int32)), (.ref a2), (.ref a0)]))
  rw [show ((0 : Int32) + p4) = p4 from own_add0E p4]
  show W (Tj2c6.setTop (mkF m 429 #[.val (.ref a0), .val (.ref kA), .val (.ref a2), .val (.int (0 : Int32)), .val (.int p4), .unset, .unset, .unset, .unset, .unset, .unset] [(.int p4), (.int (0 : Int32)), (.ref a2), (.ref a0)]))
  obtain ⟨_, _, ⟨Tj2c8, Lj2c8, kj2c8, nj2c8⟩, -, Xj2c8, ⟨Lcj2c8, hQj2c8, lj2c8, yj2c8, zj2c8⟩, stj2c8⟩ := Jvm.LawKit.callS Xj2c6 hx (y := (⟨"java/util/Arrays", "copyOfRange", "([BII)[B"⟩ : MethodName)) hown (mvT hZ (hw _ (List.mem_of_getElem? (i := 108) rfl))) (mvT hZ (hw _ (List.mem_of_getElem? (i := 109) rfl))) (mvT hZ (hw _ (List.mem_of_getElem? (i := 110) rfl))) (mvT hZ (hw _ (List.mem_of_getElem? (i := 111) rfl))) (by decide) (backOf (W := 1) (rmcr l Z aa hw [] a2 (0 : Int32) p4 wc sx kb G cn h0 n0 Z0 BW O0 V_a2 rfl hp4 hcn) hZ (hw _ (List.mem_of_getElem? (i := 111) rfl)) (hw _ (List.mem_of_getElem? (i := 110) rfl)) (by decide) (by decide)) (g := (mkF m 429 #[.val (.ref a0), .val (.ref kA), .val (.ref a2), .val (.int (0 : Int32)), .val (.int p4), .unset, .unset, .unset, .unset, .unset, .unset] [(.int p4), (.int (0 : Int32)), (.ref a2), (.ref a0)])) rfl (by rw [hml]; rfl) (argsL := [(.ref a2), (.int (0 : Int32)), (.int p4)]) (rest := [(.ref a0)]) (lenOf pdj2_1 rfl) rfl (by show 2 * 0 + _ ≤ _; exact Nat.le_of_eq rfl) (hb hby dj2_429) (fun _ _ => ⟨rfl, ej2c6, (by decide : 0 + 1 ≤ _), (by decide : 0 + 4 ≤ _)⟩)
  dsimp only [Pt.U, Pt.locs, Pt.cells, Pt.slots] at Xj2c8 lj2c8 yj2c8 zj2c8 stj2c8 hQj2c8
  subst lj2c8 yj2c8 zj2c8
  obtain ⟨bj2c8, kbj2c8, rfl, Nj2c8q, Kqj2c8, sz_bj2c8, V_bj2c8⟩ := hQj2c8
  have Nj2c8 := Fr.app Nj2c6 Nj2c8q
  obtain ⟨lcj2t9, Xj2c8, Nj2c8⟩ : ∃ lc, Stand p l e ({ frames := 3, cells := 1, slots := 4, locals := 49 } : Room) s m #[(.ref a0), (.ref kA), (.ref a2), (.int (0 : Int32)), (.int p4)] below meth c Tj2c8 lc 1 4 ∧ Fr n0 lc := ⟨_, Xj2c8, Nj2c8⟩
  obtain ⟨hj2c8, ej2c8⟩ : ∃ h, Tj2c8.heap = h := ⟨_, rfl⟩
  rw [ej2c8] at Kqj2c8 V_bj2c8
  have ne_a0_bj2c8 : a0 ≠ bj2c8 := Nat.ne_of_lt (Nat.lt_of_lt_of_le E_a0.lt sz_bj2c8)
  have ne_a2_bj2c8 : a2 ≠ bj2c8 := Nat.ne_of_lt (Nat.lt_of_lt_of_le V_a2.lt sz_bj2c8)
  have g_bj2c8 : n0 ≤ bj2c8 := Nat.le_trans Z0 sz_bj2c8
  have sz_bj2c8 : h0.size ≤ bj2c8 := Nat.le_trans (Keep.refl h0 [a0]).1 sz_bj2c8
  replace E_a0 := E_a0.keep Kqj2c8
  replace F_value_a0 := F_value_a0.keep Kqj2c8 nin0
  replace F_coder_a0 := F_coder_a0.keep Kqj2c8 nin0
  replace V_a2 := V_a2.keep Kqj2c8 nin0
  have KKj2c8 := Keep.trans (Keep.refl h0 [a0]) Kqj2c8 all0
  have Zj2c8 := Nat.le_trans Z0 Kqj2c8.1
  have Oj2c8 := O0.keep Kqj2c8 all0
  refine stp (fun t k => stj2c8 t k) ?_
  show W (Tj2c8.setTop (mkF m 432 #[.val (.ref a0), .val (.ref kA), .val (.ref a2), .val (.int (0 : Int32)), .val (.int p4), .unset, .unset, .unset, .unset, .unset, .unset] [(.ref bj2c8), (.ref a0)]))
  obtain ⟨Tj210, hj210, Xj210, ej210, Wj210, stj210⟩ := putF Xj2c8 hx hZ hown (host := "") (Or.inl (hw _ (List.mem_of_getElem? (i := 73) rfl))) Via.refl ej2c8 F_value_a0 E_a0 (Or.inr ⟨(hw _ (List.mem_of_getElem? (i := 69) rfl)), rfl, hnm⟩) (hw _ (List.mem_of_getElem? (i := 42) rfl)) (ty := (.array .byte)) (by decide) rfl rfl (g := (mkF m 432 #[.val (.ref a0), .val (.ref kA), .val (.ref a2), .val (.int (0 : Int32)), .val (.int p4), .unset, .unset, .unset, .unset, .unset, .unset] [(.ref bj2c8), (.ref a0)])) rfl rfl (hb hby dj2_432)
  have Nj210 := Fr.snoc Xj210 Nj2c8 g_a0
  have F_value_a0x := F_value_a0.same Wj210
  obtain ⟨lcj2t11, Xj210, Nj210⟩ : ∃ lc, Stand p l e ({ frames := 3, cells := 1, slots := 4, locals := 49 } : Room) s m #[(.ref a0), (.ref kA), (.ref a2), (.int (0 : Int32)), (.int p4)] below meth c Tj210 lc 1 4 ∧ Fr n0 lc := ⟨_, Xj210, Nj210⟩
  replace E_a0 := E_a0.wr Wj210
  replace F_coder_a0 := F_coder_a0.other Wj210 (Or.inr (slot_ne (Or.inr (hw _ (List.mem_of_getElem? (i := 70) rfl))) (Or.inr (hw _ (List.mem_of_getElem? (i := 69) rfl))) (by decide) (t := .byte) (t' := (.array .byte)) (by decide) (by decide)))
  replace V_a2 := V_a2.other Wj210 (Ne.symm ne_a0_a2)
  replace V_bj2c8 := V_bj2c8.other Wj210 (Ne.symm ne_a0_bj2c8)
  have Kj210 := KKj2c8.wr Wj210 (Or.inl (List.mem_of_getElem? (i := 0) rfl))
  have Zj210 := Nat.le_trans Zj2c8 (Keep.of_wr Wj210).1
  have Oj210 := Oj2c8.wr Wj210 g_a0
  replace F_value_a0 := F_value_a0x
  clear F_value_a0x
  refine stp (fun t k => stj210 t k) ?_
  show W (Tj210.setTop (mkF m 435 #[.val (.ref a0), .val (.ref kA), .val (.ref a2), .val (.int (0 : Int32)), .val (.int p4), .unset, .unset, .unset, .unset, .unset, .unset] []))
  refine stp (fun t k => XS.aloadN Xj210.here hx rfl (hb hby dj2_435) rfl rfl k) ?_
  show W (Tj210.setTop (mkF m 436 #[.val (.ref a0), .val (.ref kA), .val (.ref a2), .val (.int (0 : Int32)), .val (.int p4), .unset, .unset, .unset, .unset, .unset, .unset] [(.ref a0)]))
  refine stp (fun t k => XS.iconst Xj210.here hx rfl (hb hby dj2_436) k) ?_
  show W (Tj210.setTop (mkF m 437 #[.val (.ref a0), .val (.ref kA), .val (.ref a2), .val (.int (0 : Int32)), .val (.int p4), .unset, .unset, .unset, .unset, .unset, .unset] [(.int (0 : Int32)), (.ref a0)]))
  obtain ⟨Tj212, hj212, Xj212, ej212, Wj212, stj212⟩ := putFN Xj210 hx hZ hown (hw _ (List.mem_of_getElem? (i := 74) rfl)) Via.refl ej210 F_coder_a0 E_a0 (Or.inr ⟨(hw _ (List.mem_of_getElem? (i := 70) rfl)), rfl, hnm⟩) (hw _ (List.mem_of_getElem? (i := 42) rfl)) (ty := .byte) (v' := (.int (nar .byte (0 : Int32)))) (by decide) rfl (fits_nar_byte _) (g := (mkF m 437 #[.val (.ref a0), .val (.ref kA), .val (.ref a2), .val (.int (0 : Int32)), .val (.int p4), .unset, .unset, .unset, .unset, .unset, .unset] [(.int (0 : Int32)), (.ref a0)])) rfl rfl (hb hby dj2_437)
  have Nj212 := Fr.snoc Xj212 Nj210 g_a0
  have F_coder_a0x := F_coder_a0.same Wj212
  obtain ⟨lcj2t13, Xj212, Nj212⟩ : ∃ lc, Stand p l e ({ frames := 3, cells := 1, slots := 4, locals := 49 } : Room) s m #[(.ref a0), (.ref kA), (.ref a2), (.int (0 : Int32)), (.int p4)] below meth c Tj212 lc 1 4 ∧ Fr n0 lc := ⟨_, Xj212, Nj212⟩
  replace E_a0 := E_a0.wr Wj212
  replace F_value_a0 := F_value_a0.other Wj212 (Or.inr (slot_ne (Or.inr (hw _ (List.mem_of_getElem? (i := 69) rfl))) (Or.inr (hw _ (List.mem_of_getElem? (i := 70) rfl))) (by decide) (t := (.array .byte)) (t' := .byte) (by decide) (by decide)))
  replace V_a2 := V_a2.other Wj212 (Ne.symm ne_a0_a2)
  replace V_bj2c8 := V_bj2c8.other Wj212 (Ne.symm ne_a0_bj2c8)
  have Kj212 := Kj210.wr Wj212 (Or.inl (List.mem_of_getElem? (i := 0) rfl))
  have Zj212 := Nat.le_trans Zj210 (Keep.of_wr Wj212).1
  have Oj212 := Oj210.wr Wj212 g_a0
  replace F_coder_a0 := F_coder_a0x
  clear F_coder_a0x
  refine stp (fun t k => stj212 t k) ?_
  show W (Tj212.setTop (mkF m 440 #[.val (.ref a0), .val (.ref kA), .val (.ref a2), .val (.int (0 : Int32)), .val (.int p4), .unset, .unset, .unset, .unset, .unset, .unset] []))
  refine stp (fun t k => XS.goto Xj212.here hx rfl (pc0 := 440) (pc' := 879) rfl (hb hby dj2_440) (by decide) (by decide) k) ?_
  show W (Tj212.setTop (mkF m 879 #[.val (.ref a0), .val (.ref kA), .val (.ref a2), .val (.int (0 : Int32)), .val (.int p4), .unset, .unset, .unset, .unset, .unset, .unset] []))
  show W (Tj212.setTop (mkF m 879 #[.val (.ref a0), .val (.ref kA), .val (.ref a2), .val (.int (0 : Int32)), .val (.int p4), .unset, .unset, .unset, .unset, .unset, .unset] []))
  rw [← hW]
  exact own_ret0 Xj212 hx Bd.notSynchronized Bd.returns (hb hby dj2_879) (by show Qj2 Z a0 kA a2 (0 : Int32) p4 wc sx kU kI kb G cn g h0 n0 _ Tj212.heap _; rw [ej212]; exact ⟨rfl, Nj212, Kj212, bj2c8, E_a0, F_value_a0, Or.inl ⟨own_fldEq (by decide) F_coder_a0, (fun j hj => by have := hg j hj; omega), _, own_arvStr hp4 hcn hGg V_bj2c8⟩⟩) (by decide) (by decide)
theorem djz_0 : decode jdk_42_method_11_code 0 = .ok (.aload_n 0, 1) := by decide +kernel
theorem djz_1 : decode jdk_42_method_11_code 1 = .ok (.invokespecial 1, 3) := by decide +kernel
theorem djz_4 : decode jdk_42_method_11_code 4 = .ok (.iload 4, 2) := by decide +kernel
theorem djz_6 : decode jdk_42_method_11_code 6 = .ok (.ifCond .ne 24, 3) := by decide +kernel
theorem djz_9 : decode jdk_42_method_11_code 9 = .ok (.aload_n 0, 1) := by decide +kernel
theorem djz_10 : decode jdk_42_method_11_code 10 = .ok (.ldc 7, 2) := by decide +kernel
theorem djz_12 : decode jdk_42_method_11_code 12 = .ok (.getfield 9, 3) := by decide +kernel
theorem djz_15 : decode jdk_42_method_11_code 15 = .ok (.putfield 9, 3) := by decide +kernel
theorem djz_18 : decode jdk_42_method_11_code 18 = .ok (.aload_n 0, 1) := by decide +kernel
theorem djz_19 : decode jdk_42_method_11_code 19 = .ok (.ldc 7, 2) := by decide +kernel
theorem djz_21 : decode jdk_42_method_11_code 21 = .ok (.getfield 15, 3) := by decide +kernel
theorem djz_24 : decode jdk_42_method_11_code 24 = .ok (.putfield 15, 3) := by decide +kernel
theorem djz_27 : decode jdk_42_method_11_code 27 = .ok (.goto 852, 3) := by decide +kernel
theorem djz_879 : decode jdk_42_method_11_code 879 = .ok (.return_, 1) := by decide +kernel
theorem pnjz : plainName "java/lang/String" = true := by first | (simp [plainName, overriddenIn]; done) | decide +kernel
theorem efjz (m : MethodId) (a0 : Addr) (kA : Addr) (a2 : Addr) (p3 : Int32) (p4 : Int32) : entryFrame m #[(.ref a0), (.ref kA), (.ref a2), (.int p3), (.int p4)] 11 = mkF m 0 #[.val (.ref a0), .val (.ref kA), .val (.ref a2), .val (.int p3), .val (.int p4), .unset, .unset, .unset, .unset, .unset, .unset] [] := by first | (simp [entryFrame, mkF, argsToLocals, Value.category]; done) | rfl
def Qjz (Z : State) (a0 : Addr) (kA : Addr) (a2 : Addr) (p3 : Int32) (p4 : Int32) (wc : Int32) (sx : Value) (g : Nat → Int32) (h0 : Heap) (n0 : Nat) (v : Option Value) (h : Heap) (L : List Loc) : Prop := v = none ∧ Fr n0 L ∧ Keep h0 h [a0] ∧ ∃ b : Addr, OwnStr Z h a0 b 0 g
set_option maxRecDepth 65536 in
set_option maxHeartbeats 40000000 in
theorem rmjz (l : Launch) (Z : State) (aa : Array Value) (hw : ∀ d ∈ tables_1, d.before aa Z = true) (ws : List Jvm.Cond) (a0 : Addr) (kA : Addr) (a2 : Addr) (p3 : Int32) (p4 : Int32) (wc : Int32) (sx : Value) (g : Nat → Int32) (h0 : Heap) (n0 : Nat) (Z0 : n0 ≤ h0.size) (BW : OwnW Z wc sx) (O0 : Old Z n0 h0) (E_a0 : Exa Z h0 a0 "java/lang/String") (F_value_a0 : Fld Z h0 a0 "java/lang/String" "value" "[B" .null) (F_coder_a0 : Fld Z h0 a0 "java/lang/String" "coder" "B" (.int (0 : Int32))) (g_a0 : n0 ≤ a0) (hp4 : p4 = (0 : Int32)) :
    MetFree l (⟨"java/lang/String", "<init>", "(Ljava/nio/charset/Charset;[BII)V"⟩ : MethodName) (head1 (Jvm.Cond.codeWith (⟨"java/lang/String", "<init>", "(Ljava/nio/charset/Charset;[BII)V"⟩ : MethodName) jdk_42_method_11_code 11 none [((800 : Nat), (813 : Nat), (816 : Nat), (202 : Nat))] :: ws) ({ frames := 1, cells := 4, slots := 8, locals := 12 } : Room)) (fun a U => a = #[(.ref a0), (.ref kA), (.ref a2), (.int p3), (.int p4)] ∧ Z.Warmed39 U.vm ∧ U.heap = h0 ∧ CHv Z ownEL U.vm h0) (fun _ _ _ _ _ => True) (fun _ U o U' => ∃ v L, o = .returned v ∧ Qjz Z a0 kA a2 p3 p4 wc sx g h0 n0 v U'.heap L ∧ CHr Z ownEL U.vm U.heap U'.vm U'.heap ∧ ReturnedEndW U o U' L ({ frames := 1, cells := 4, slots := 8, locals := 12 } : Room).cells ({ frames := 1, cells := 4, slots := 8, locals := 12 } : Room).slots) := by
  refine MetFree.of_bodySF (plainFor_of_name pnjz) hisWith ?_
  intro p e s m args below meth c s₁ Bd hml0 hP hK
  obtain ⟨rfl, hZ, hh, hH⟩ := hP
  have hx := Bd.exec
  have hby := Bd.bytes
  have hml : c.maxLocals = 11 := hml0
  have hown : s.vm.findClass "java/lang/String" = some m.cls := findClass_of_methodNamed Bd.named
  have hnm := (name_of_methodNamed Bd.named Bd.method).1
  have X0 : Stand p l e ({ frames := 1, cells := 4, slots := 8, locals := 12 } : Room) s m #[(.ref a0), (.ref kA), (.ref a2), (.int p3), (.int p4)] below meth c s₁ [] 0 0 := Stand.of_body Bd
  have e0 : s₁.heap = h0 := by rw [← hh, Bd.state]; rfl
  have N0 := Fr.nil n0
  have hEL := own_EW hw
  obtain ⟨vm0, X0, CC, hZ, hown⟩ : ∃ vm, Stand p l e ({ frames := 1, cells := 4, slots := 8, locals := 12 } : Room) (s.setVm vm) m #[(.ref a0), (.ref kA), (.ref a2), (.int p3), (.int p4)] below meth c s₁ [] 0 0 ∧ OwnC Z ownEL s vm h0 ∧ Z.Warmed39 (s.setVm vm).vm ∧ (s.setVm vm).vm.findClass "java/lang/String" = some m.cls := ⟨s.vm, X0, OwnC.start hh hH, hZ, hown⟩
  show OwnEndW Z ownEL p e below s (fun v h L => Qjz Z a0 kA a2 p3 p4 wc sx g h0 n0 v h L) ({ frames := 1, cells := 4, slots := 8, locals := 12 } : Room).cells ({ frames := 1, cells := 4, slots := 8, locals := 12 } : Room).slots (s₁.setTop (entryFrame m #[(.ref a0), (.ref kA), (.ref a2), (.int p3), (.int p4)] 11))
  rw [efjz m a0 kA a2 p3 p4]
  generalize hW : OwnEndW Z ownEL p e below s (fun v h L => Qjz Z a0 kA a2 p3 p4 wc sx g h0 n0 v h L) ({ frames := 1, cells := 4, slots := 8, locals := 12 } : Room).cells ({ frames := 1, cells := 4, slots := 8, locals := 12 } : Room).slots = W
  have stp : ∀ {A B : State}, (∀ t, Steps p.tables e below B t → Steps p.tables e below A t) → W B → W A := by subst hW; exact own_stepW
  obtain ⟨S_cs, hcs, S_si, hr_sx⟩ := id BW
  subst hp4
  have SF_a0 : Safe Z ownEL vm0 h0 a0 := own_safeNull hZ.alike E_a0 F_value_a0
  show W (s₁.setTop (mkF m 0 #[.val (.ref a0), .val (.ref kA), .val (.ref a2), .val (.int p3), .val (.int (0 : Int32)), .unset, .unset, .unset, .unset, .unset, .unset] []))
  refine stp (fun t k => XS.aloadN X0.here hx rfl (hb hby djz_0) rfl rfl k) ?_
  show W (s₁.setTop (mkF m 1 #[.val (.ref a0), .val (.ref kA), .val (.ref a2), .val (.int p3), .val (.int (0 : Int32)), .unset, .unset, .unset, .unset, .unset, .unset] [(.ref a0)]))
  obtain ⟨T1, X1, e1, st1⟩ := initO X0 hx hZ hown (hw _ (List.mem_of_getElem? (i := 67) rfl)) (hw _ (List.mem_of_getElem? (i := 12) rfl)) (hw _ (List.mem_of_getElem? (i := 13) rfl)) e0 (g := (mkF m 1 #[.val (.ref a0), .val (.ref kA), .val (.ref a2), .val (.int p3), .val (.int (0 : Int32)), .unset, .unset, .unset, .unset, .unset, .unset] [(.ref a0)])) rfl (by rw [hml]; rfl) rfl (hb hby djz_1) (by decide) (W := 0) (by show 2 * 0 + _ ≤ _; exact Nat.le_of_eq rfl) (by decide)
  refine stp (fun t k => st1 t k) ?_
  show W (T1.setTop (mkF m 4 #[.val (.ref a0), .val (.ref kA), .val (.ref a2), .val (.int p3), .val (.int (0 : Int32)), .unset, .unset, .unset, .unset, .unset, .unset] []))
  refine stp (fun t k => XS.iload X1.here hx rfl (hb hby djz_4) rfl k) ?_
  show W (T1.setTop (mkF m 6 #[.val (.ref a0), .val (.ref kA), .val (.ref a2), .val (.int p3), .val (.int (0 : Int32)), .unset, .unset, .unset, .unset, .unset, .unset] [(.int (0 : Int32))]))
  refine stp (fun t k => XS.ifNo X1.here hx rfl (hb hby djz_6) rfl ((if0 _ _).trans (teq (rfl)).2) k) ?_
  show W (T1.setTop (mkF m 9 #[.val (.ref a0), .val (.ref kA), .val (.ref a2), .val (.int p3), .val (.int (0 : Int32)), .unset, .unset, .unset, .unset, .unset, .unset] []))
  refine stp (fun t k => XS.aloadN X1.here hx rfl (hb hby djz_9) rfl rfl k) ?_
  show W (T1.setTop (mkF m 10 #[.val (.ref a0), .val (.ref kA), .val (.ref a2), .val (.int p3), .val (.int (0 : Int32)), .unset, .unset, .unset, .unset, .unset, .unset] [(.ref a0)]))
  obtain ⟨kkjzk2, hSajzk2, hkajzk2⟩ := CC.1
  obtain ⟨bjzk2a, Tjzk2, hjzk2, jjzk2, bjzk2b, kjzk2, Xjzk2, ejzk2, Ejzk2, hSjzk2, hkjzk2, hZjzk2, hownjzk2, E_bjzk2a, F_coder_bjzk2a, F_value_bjzk2a, V_bjzk2b, -, -, hCjzk2, -, -, stjzk2⟩ := ldcCH X1 hx hZ hown (hw _ (List.mem_of_getElem? (i := 68) rfl)) (own_wS hw) e1 hSajzk2 hkajzk2 hEL (by decide) CC.2.1 (vs := []) (z := (0 : Int32)) (by decide) (by decide) rfl (g := (mkF m 10 #[.val (.ref a0), .val (.ref kA), .val (.ref a2), .val (.int p3), .val (.int (0 : Int32)), .unset, .unset, .unset, .unset, .unset, .unset] [(.ref a0)])) rfl (hb hby djz_10) (n := 0) (by decide) (by decide) (by decide) (by decide)
  replace SF_a0 := CHr.safe hCjzk2 E_a0.lt SF_a0
  obtain ⟨vmjzk2, Xjzk2, CCjzk2, hZ, hown⟩ : ∃ vm, Stand p l e ({ frames := 1, cells := 4, slots := 8, locals := 12 } : Room) (s.setVm vm) m #[(.ref a0), (.ref kA), (.ref a2), (.int p3), (.int (0 : Int32))] below meth c Tjzk2 _ 2 4 ∧ (OwnC Z ownEL s vm hjzk2 ∧ Safe Z ownEL vm hjzk2 a0) ∧ Z.Warmed39 (s.setVm vm).vm ∧ (s.setVm vm).vm.findClass "java/lang/String" = some m.cls := ⟨_, Xjzk2, ⟨⟨⟨_, hSjzk2, hkjzk2⟩, CC.2.trans hCjzk2⟩, SF_a0⟩, hZjzk2, hownjzk2⟩
  obtain ⟨CCjzk2, SF_a0⟩ := CCjzk2
  replace CC := CCjzk2
  replace E_a0 := E_a0.ext Ejzk2
  replace F_value_a0 := F_value_a0.ext Ejzk2
  replace F_coder_a0 := F_coder_a0.ext Ejzk2
  have Kjzk2 := (Keep.refl h0 [a0]).ext Ejzk2
  have Zjzk2 := Nat.le_trans Z0 Ejzk2.1
  have Ojzk2 := O0.ext Ejzk2
  have ne_a0_bjzk2b : a0 ≠ bjzk2b := Exa.neArv E_a0 V_bjzk2b (hw _ (List.mem_of_getElem? (i := 42) rfl))
  refine stp (fun t k => stjzk2 t k) ?_
  show W (Tjzk2.setTop (mkF m 12 #[.val (.ref a0), .val (.ref kA), .val (.ref a2), .val (.int p3), .val (.int (0 : Int32)), .unset, .unset, .unset, .unset, .unset, .unset] [(.ref bjzk2a), (.ref a0)]))
  obtain ⟨Tjz3, Xjz3, ejz3, stjz3⟩ := getF Xjzk2 hx hZ hown (host := "") (Or.inl (hw _ (List.mem_of_getElem? (i := 73) rfl))) Via.refl ejzk2 F_value_bjzk2a (g := (mkF m 12 #[.val (.ref a0), .val (.ref kA), .val (.ref a2), .val (.int p3), .val (.int (0 : Int32)), .unset, .unset, .unset, .unset, .unset, .unset] [(.ref bjzk2a), (.ref a0)])) rfl rfl (hb hby djz_12)
  refine stp (fun t k => stjz3 t k) ?_
  show W (Tjz3.setTop (mkF m 15 #[.val (.ref a0), .val (.ref kA), .val (.ref a2), .val (.int p3), .val (.int (0 : Int32)), .unset, .unset, .unset, .unset, .unset, .unset] [(.ref bjzk2b), (.ref a0)]))
  obtain ⟨Tjz4, hjz4, Xjz4, ejz4, Wjz4, stjz4⟩ := putF Xjz3 hx hZ hown (host := "") (Or.inl (hw _ (List.mem_of_getElem? (i := 73) rfl))) Via.refl ejz3 F_value_a0 E_a0 (Or.inr ⟨(hw _ (List.mem_of_getElem? (i := 69) rfl)), rfl, hnm⟩) (hw _ (List.mem_of_getElem? (i := 42) rfl)) (ty := (.array .byte)) (by decide) rfl rfl (g := (mkF m 15 #[.val (.ref a0), .val (.ref kA), .val (.ref a2), .val (.int p3), .val (.int (0 : Int32)), .unset, .unset, .unset, .unset, .unset, .unset] [(.ref bjzk2b), (.ref a0)])) rfl rfl (hb hby djz_15)
  have Njz4 := Fr.snoc Xjz4 N0 g_a0
  have F_value_a0x := F_value_a0.same Wjz4
  obtain ⟨lcjzt5, Xjz4, Njz4⟩ : ∃ lc, Stand p l e ({ frames := 1, cells := 4, slots := 8, locals := 12 } : Room) (s.setVm vmjzk2) m #[(.ref a0), (.ref kA), (.ref a2), (.int p3), (.int (0 : Int32))] below meth c Tjz4 lc 2 4 ∧ Fr n0 lc := ⟨_, Xjz4, Njz4⟩
  have SFw : Safe Z ownEL vmjzk2 _ a0 := SF_a0
  replace SF_a0 := Safe.wr Wjz4 SFw CC.2.1 SF_a0
  replace CC := CC.wr Wjz4 SFw
  clear SFw
  replace E_a0 := E_a0.wr Wjz4
  replace F_coder_a0 := F_coder_a0.other Wjz4 (Or.inr (slot_ne (Or.inr (hw _ (List.mem_of_getElem? (i := 70) rfl))) (Or.inr (hw _ (List.mem_of_getElem? (i := 69) rfl))) (by decide) (t := .byte) (t' := (.array .byte)) (by decide) (by decide)))
  replace V_bjzk2b := V_bjzk2b.other Wjz4 (Ne.symm ne_a0_bjzk2b)
  have Kjz4 := Kjzk2.wr Wjz4 (Or.inl (List.mem_of_getElem? (i := 0) rfl))
  have Zjz4 := Nat.le_trans Zjzk2 (Keep.of_wr Wjz4).1
  have Ojz4 := Ojzk2.wr Wjz4 g_a0
  replace F_value_a0 := F_value_a0x
  clear F_value_a0x
  refine stp (fun t k => stjz4 t k) ?_
  show W (Tjz4.setTop (mkF m 18 #[.val (.ref a0), .val (.ref kA), .val (.ref a2), .val (.int p3), .val (.int (0 : Int32)), .unset, .unset, .unset, .unset, .unset, .unset] []))
  refine stp (fun t k => XS.aloadN Xjz4.here hx rfl (hb hby djz_18) rfl rfl k) ?_
  show W (Tjz4.setTop (mkF m 19 #[.val (.ref a0), .val (.ref kA), .val (.ref a2), .val (.int p3), .val (.int (0 : Int32)), .unset, .unset, .unset, .unset, .unset, .unset] [(.ref a0)]))
  obtain ⟨kkjzk6, hSajzk6, hkajzk6⟩ := CC.1
  obtain ⟨bjzk6a, Tjzk6, hjzk6, jjzk6, bjzk6b, kjzk6, Xjzk6, ejzk6, Ejzk6, hSjzk6, hkjzk6, hZjzk6, hownjzk6, E_bjzk6a, F_coder_bjzk6a, F_value_bjzk6a, V_bjzk6b, -, -, hCjzk6, -, -, stjzk6⟩ := ldcCH Xjz4 hx hZ hown (hw _ (List.mem_of_getElem? (i := 68) rfl)) (own_wS hw) ejz4 hSajzk6 hkajzk6 hEL (by decide) CC.2.1 (vs := []) (z := (0 : Int32)) (by decide) (by decide) rfl (g := (mkF m 19 #[.val (.ref a0), .val (.ref kA), .val (.ref a2), .val (.int p3), .val (.int (0 : Int32)), .unset, .unset, .unset, .unset, .unset, .unset] [(.ref a0)])) rfl (hb hby djz_19) (n := 0) (by decide) (by decide) (by decide) (by decide)
  replace SF_a0 := CHr.safe hCjzk6 E_a0.lt SF_a0
  obtain ⟨vmjzk6, Xjzk6, CCjzk6, hZ, hown⟩ : ∃ vm, Stand p l e ({ frames := 1, cells := 4, slots := 8, locals := 12 } : Room) (s.setVm vm) m #[(.ref a0), (.ref kA), (.ref a2), (.int p3), (.int (0 : Int32))] below meth c Tjzk6 _ 4 8 ∧ (OwnC Z ownEL s vm hjzk6 ∧ Safe Z ownEL vm hjzk6 a0) ∧ Z.Warmed39 (s.setVm vm).vm ∧ (s.setVm vm).vm.findClass "java/lang/String" = some m.cls := ⟨_, Xjzk6, ⟨⟨⟨_, hSjzk6, hkjzk6⟩, CC.2.trans hCjzk6⟩, SF_a0⟩, hZjzk6, hownjzk6⟩
  obtain ⟨CCjzk6, SF_a0⟩ := CCjzk6
  replace CC := CCjzk6
  replace E_a0 := E_a0.ext Ejzk6
  replace F_value_a0 := F_value_a0.ext Ejzk6
  replace F_coder_a0 := F_coder_a0.ext Ejzk6
  replace V_bjzk2b := V_bjzk2b.ext Ejzk6
  have Kjzk6 := Kjz4.ext Ejzk6
  have Zjzk6 := Nat.le_trans Zjz4 Ejzk6.1
  have Ojzk6 := Ojz4.ext Ejzk6
  have ne_a0_bjzk6b : a0 ≠ bjzk6b := Exa.neArv E_a0 V_bjzk6b (hw _ (List.mem_of_getElem? (i := 42) rfl))
  refine stp (fun t k => stjzk6 t k) ?_
  show W (Tjzk6.setTop (mkF m 21 #[.val (.ref a0), .val (.ref kA), .val (.ref a2), .val (.int p3), .val (.int (0 : Int32)), .unset, .unset, .unset, .unset, .unset, .unset] [(.ref bjzk6a), (.ref a0)]))
  obtain ⟨Tjz7, Xjz7, ejz7, stjz7⟩ := getF Xjzk6 hx hZ hown (host := "") (Or.inl (hw _ (List.mem_of_getElem? (i := 74) rfl))) Via.refl ejzk6 F_coder_bjzk6a (g := (mkF m 21 #[.val (.ref a0), .val (.ref kA), .val (.ref a2), .val (.int p3), .val (.int (0 : Int32)), .unset, .unset, .unset, .unset, .unset, .unset] [(.ref bjzk6a), (.ref a0)])) rfl rfl (hb hby djz_21)
  refine stp (fun t k => stjz7 t k) ?_
  show W (Tjz7.setTop (mkF m 24 #[.val (.ref a0), .val (.ref kA), .val (.ref a2), .val (.int p3), .val (.int (0 : Int32)), .unset, .unset, .unset, .unset, .unset, .unset] [(.int (0 : Int32)), (.ref a0)]))
  obtain ⟨Tjz8, hjz8, Xjz8, ejz8, Wjz8, stjz8⟩ := putFN Xjz7 hx hZ hown (hw _ (List.mem_of_getElem? (i := 74) rfl)) Via.refl ejz7 F_coder_a0 E_a0 (Or.inr ⟨(hw _ (List.mem_of_getElem? (i := 70) rfl)), rfl, hnm⟩) (hw _ (List.mem_of_getElem? (i := 42) rfl)) (ty := .byte) (v' := (.int (nar .byte (0 : Int32)))) (by decide) rfl (fits_nar_byte _) (g := (mkF m 24 #[.val (.ref a0), .val (.ref kA), .val (.ref a2), .val (.int p3), .val (.int (0 : Int32)), .unset, .unset, .unset, .unset, .unset, .unset] [(.int (0 : Int32)), (.ref a0)])) rfl rfl (hb hby djz_24)
  have Njz8 := Fr.snoc Xjz8 Njz4 g_a0
  have F_coder_a0x := F_coder_a0.same Wjz8
  obtain ⟨lcjzt9, Xjz8, Njz8⟩ : ∃ lc, Stand p l e ({ frames := 1, cells := 4, slots := 8, locals := 12 } : Room) (s.setVm vmjzk6) m #[(.ref a0), (.ref kA), (.ref a2), (.int p3), (.int (0 : Int32))] below meth c Tjz8 lc 4 8 ∧ Fr n0 lc := ⟨_, Xjz8, Njz8⟩
  have SFw : Safe Z ownEL vmjzk6 _ a0 := SF_a0
  replace SF_a0 := Safe.wr Wjz8 SFw CC.2.1 SF_a0
  replace CC := CC.wr Wjz8 SFw
  clear SFw
  replace E_a0 := E_a0.wr Wjz8
  replace F_value_a0 := F_value_a0.other Wjz8 (Or.inr (slot_ne (Or.inr (hw _ (List.mem_of_getElem? (i := 69) rfl))) (Or.inr (hw _ (List.mem_of_getElem? (i := 70) rfl))) (by decide) (t := (.array .byte)) (t' := .byte) (by decide) (by decide)))
  replace V_bjzk2b := V_bjzk2b.other Wjz8 (Ne.symm ne_a0_bjzk2b)
  replace V_bjzk6b := V_bjzk6b.other Wjz8 (Ne.symm ne_a0_bjzk6b)
  have Kjz8 := Kjzk6.wr Wjz8 (Or.inl (List.mem_of_getElem? (i := 0) rfl))
  have Zjz8 := Nat.le_trans Zjzk6 (Keep.of_wr Wjz8).1
  have Ojz8 := Ojzk6.wr Wjz8 g_a0
  replace F_coder_a0 := F_coder_a0x
  clear F_coder_a0x
  refine stp (fun t k => stjz8 t k) ?_
  show W (Tjz8.setTop (mkF m 27 #[.val (.ref a0), .val (.ref kA), .val (.ref a2), .val (.int p3), .val (.int (0 : Int32)), .unset, .unset, .unset, .unset, .unset, .unset] []))
  refine stp (fun t k => XS.goto Xjz8.here hx rfl (pc0 := 27) (pc' := 879) rfl (hb hby djz_27) (by decide) (by decide) k) ?_
  show W (Tjz8.setTop (mkF m 879 #[.val (.ref a0), .val (.ref kA), .val (.ref a2), .val (.int p3), .val (.int (0 : Int32)), .unset, .unset, .unset, .unset, .unset, .unset] []))
  show W (Tjz8.setTop (mkF m 879 #[.val (.ref a0), .val (.ref kA), .val (.ref a2), .val (.int p3), .val (.int (0 : Int32)), .unset, .unset, .unset, .unset, .unset, .unset] []))
  rw [← hW]
  exact own_W hZ hEL CC (own_ret0 Xjz8 hx Bd.notSynchronized Bd.returns (hb hby djz_879) (by show Qjz Z a0 kA a2 p3 (0 : Int32) wc sx g h0 n0 _ Tjz8.heap _ ∧ Tjz8.heap = hjz8; rw [ejz8]; exact ⟨⟨rfl, Njz8, Kjz8, bjzk2b, E_a0, F_value_a0, Or.inl ⟨own_fldEq (by decide) F_coder_a0, (fun j hj => absurd hj (Nat.not_lt_zero _)), _, own_arv0 V_bjzk2b _⟩⟩, rfl⟩) (by decide) (by decide))
theorem dj1_0 : decode jdk_42_method_10_code 0 = .ok (.aload_n 0, 1) := by decide +kernel
theorem dj1_1 : decode jdk_42_method_10_code 1 = .ok (.aload 4, 2) := by decide +kernel
theorem dj1_3 : decode jdk_42_method_10_code 3 = .ok (.invokestatic 78, 3) := by decide +kernel
theorem dj1_6 : decode jdk_42_method_10_code 6 = .ok (.checkcast 84, 3) := by decide +kernel
theorem dj1_9 : decode jdk_42_method_10_code 9 = .ok (.aload_n 1, 1) := by decide +kernel
theorem dj1_10 : decode jdk_42_method_10_code 10 = .ok (.iload_n 2, 1) := by decide +kernel
theorem dj1_11 : decode jdk_42_method_10_code 11 = .ok (.iload_n 3, 1) := by decide +kernel
theorem dj1_12 : decode jdk_42_method_10_code 12 = .ok (.aload_n 1, 1) := by decide +kernel
theorem dj1_13 : decode jdk_42_method_10_code 13 = .ok (.arraylength, 1) := by decide +kernel
theorem dj1_14 : decode jdk_42_method_10_code 14 = .ok (.invokestatic 34, 3) := by decide +kernel
theorem dj1_17 : decode jdk_42_method_10_code 17 = .ok (.iload_n 3, 1) := by decide +kernel
theorem dj1_18 : decode jdk_42_method_10_code 18 = .ok (.invokespecial 75, 3) := by decide +kernel
theorem dj1_21 : decode jdk_42_method_10_code 21 = .ok (.return_, 1) := by decide +kernel
theorem pnj1 : plainName "java/lang/String" = true := by first | (simp [plainName, overriddenIn]; done) | decide +kernel
theorem pdj1_0 : parseMethodDescriptor "(Ljava/lang/Object;)Ljava/lang/Object;" = some ⟨[(.object "java/lang/Object")], some (.object "java/lang/Object")⟩ := by decide +kernel
theorem pdj1_1 : parseMethodDescriptor "(III)I" = some ⟨[.int, .int, .int], some .int⟩ := by decide +kernel
theorem pdj1_2 : parseMethodDescriptor "(Ljava/nio/charset/Charset;[BII)V" = some ⟨[(.object "java/nio/charset/Charset"), (.array .byte), .int, .int], none⟩ := by decide +kernel
theorem efj1 (m : MethodId) (a0 : Addr) (a1 : Addr) (p2 : Int32) (p3 : Int32) (kA : Addr) : entryFrame m #[(.ref a0), (.ref a1), (.int p2), (.int p3), (.ref kA)] 5 = mkF m 0 #[.val (.ref a0), .val (.ref a1), .val (.int p2), .val (.int p3), .val (.ref kA)] [] := by first | (simp [entryFrame, mkF, argsToLocals, Value.category]; done) | rfl
def Qj1 (Z : State) (a0 : Addr) (a1 : Addr) (p2 : Int32) (p3 : Int32) (kA : Addr) (wc : Int32) (sx : Value) (kU : Addr) (kI : Addr) (kb : ClassId) (G : Nat → Int32) (cn : Nat) (g : Nat → Int32) (h0 : Heap) (n0 : Nat) (v : Option Value) (h : Heap) (L : List Loc) : Prop := v = none ∧ Fr n0 L ∧ Keep h0 h [a0] ∧ ∃ b : Addr, OwnStr Z h a0 b cn g
set_option maxRecDepth 65536 in
set_option maxHeartbeats 40000000 in
theorem rmj1 (l : Launch) (Z : State) (aa : Array Value) (hw : ∀ d ∈ tables_1, d.before aa Z = true) (ws : List Jvm.Cond) (a0 : Addr) (a1 : Addr) (p2 : Int32) (p3 : Int32) (kA : Addr) (wc : Int32) (sx : Value) (kU : Addr) (kI : Addr) (kb : ClassId) (G : Nat → Int32) (cn : Nat) (g : Nat → Int32) (h0 : Heap) (n0 : Nat) (Z0 : n0 ≤ h0.size) (BW : OwnW Z wc sx) (O0 : Old Z n0 h0) (BC : OwnCS Z kU kI kA) (E_a0 : Exa Z h0 a0 "java/lang/String") (F_value_a0 : Fld Z h0 a0 "java/lang/String" "value" "[B" .null) (F_coder_a0 : Fld Z h0 a0 "java/lang/String" "coder" "B" (.int (0 : Int32))) (g_a0 : n0 ≤ a0) (V_a1 : Arv Z h0 a1 kb .byte (8192 : Int32) (own_vs 8192 G) (.int (0 : Int32))) (ne_a0_a1 : a0 ≠ a1) (hp2 : p2 = (0 : Int32)) (hp3 : p3.toInt = (cn : Int)) (h1 : 0 < cn) (hcn : cn ≤ 4) (hg : ∀ j, j < cn → 0 ≤ (g j).toInt ∧ (g j).toInt < 128) (hGg : ∀ j, j < cn → G j = own_b (g j)) :
    MetFree l (⟨"java/lang/String", "<init>", "([BIILjava/nio/charset/Charset;)V"⟩ : MethodName) (head1 (Jvm.Cond.code (⟨"java/lang/String", "<init>", "([BIILjava/nio/charset/Charset;)V"⟩ : MethodName) jdk_42_method_10_code 5 none :: ws) ({ frames := 4, cells := 1, slots := 4, locals := 71 } : Room)) (fun a U => a = #[(.ref a0), (.ref a1), (.int p2), (.int p3), (.ref kA)] ∧ Z.Warmed39 U.vm ∧ U.heap = h0) (fun _ _ _ _ _ => True) (fun _ U o U' => ∃ v L, o = .returned v ∧ Qj1 Z a0 a1 p2 p3 kA wc sx kU kI kb G cn g h0 n0 v U'.heap L ∧ FrameEnd U o U' L ({ frames := 4, cells := 1, slots := 4, locals := 71 } : Room).cells ({ frames := 4, cells := 1, slots := 4, locals := 71 } : Room).slots) := by
  refine MetFree.of_bodySF (plainFor_of_name pnj1) hisR ?_
  intro p e s m args below meth c s₁ Bd hml0 hP hK
  obtain ⟨rfl, hZ, hh⟩ := hP
  have hx := Bd.exec
  have hby := Bd.bytes
  have hml : c.maxLocals = 5 := hml0
  have hown : s.vm.findClass "java/lang/String" = some m.cls := findClass_of_methodNamed Bd.named
  have hnm := (name_of_methodNamed Bd.named Bd.method).1
  have X0 : Stand p l e ({ frames := 4, cells := 1, slots := 4, locals := 71 } : Room) s m #[(.ref a0), (.ref a1), (.int p2), (.int p3), (.ref kA)] below meth c s₁ [] 0 0 := Stand.of_body Bd
  have e0 : s₁.heap = h0 := by rw [← hh, Bd.state]; rfl
  have N0 := Fr.nil n0
  show OwnEnd p e below s (fun v h L => Qj1 Z a0 a1 p2 p3 kA wc sx kU kI kb G cn g h0 n0 v h L) ({ frames := 4, cells := 1, slots := 4, locals := 71 } : Room).cells ({ frames := 4, cells := 1, slots := 4, locals := 71 } : Room).slots (s₁.setTop (entryFrame m #[(.ref a0), (.ref a1), (.int p2), (.int p3), (.ref kA)] 5))
  rw [efj1 m a0 a1 p2 p3 kA]
  generalize hW : OwnEnd p e below s (fun v h L => Qj1 Z a0 a1 p2 p3 kA wc sx kU kI kb G cn g h0 n0 v h L) ({ frames := 4, cells := 1, slots := 4, locals := 71 } : Room).cells ({ frames := 4, cells := 1, slots := 4, locals := 71 } : Room).slots = W
  have stp : ∀ {A B : State}, (∀ t, Steps p.tables e below B t → Steps p.tables e below A t) → W B → W A := by subst hW; exact own_step
  obtain ⟨S_cs, hcs, S_si, hr_sx⟩ := id BW
  obtain ⟨C_u, C_i, C_a, C_s, nU, nI, C_x⟩ := id BC
  have E_kA : Exa Z h0 kA "sun/nio/cs/US_ASCII" := C_x.ext O0.2
  subst hp2
  show W (s₁.setTop (mkF m 0 #[.val (.ref a0), .val (.ref a1), .val (.int (0 : Int32)), .val (.int p3), .val (.ref kA)] []))
  refine stp (fun t k => XS.aloadN X0.here hx rfl (hb hby dj1_0) rfl rfl k) ?_
  show W (s₁.setTop (mkF m 1 #[.val (.ref a0), .val (.ref a1), .val (.int (0 : Int32)), .val (.int p3), .val (.ref kA)] [(.ref a0)]))
  refine stp (fun t k => XS.aload X0.here hx rfl (hb hby dj1_1) rfl rfl k) ?_
  show W (s₁.setTop (mkF m 3 #[.val (.ref a0), .val (.ref a1), .val (.int (0 : Int32)), .val (.int p3), .val (.ref kA)] [(.ref kA), (.ref a0)]))
  obtain ⟨_, _, ⟨Tj1c1, Lj1c1, kj1c1, nj1c1⟩, -, Xj1c1, ⟨Lcj1c1, hQj1c1, lj1c1, yj1c1, zj1c1⟩, stj1c1⟩ := Jvm.LawKit.callS X0 hx (y := (⟨"java/util/Objects", "requireNonNull", "(Ljava/lang/Object;)Ljava/lang/Object;"⟩ : MethodName)) hown (mvT hZ (hw _ (List.mem_of_getElem? (i := 49) rfl))) (mvT hZ (hw _ (List.mem_of_getElem? (i := 50) rfl))) (mvT hZ (hw _ (List.mem_of_getElem? (i := 51) rfl))) (mvT hZ (hw _ (List.mem_of_getElem? (i := 52) rfl))) (by decide) (backOf (W := 1) (rmrn l Z aa hw [] kA h0 n0 Z0) hZ (hw _ (List.mem_of_getElem? (i := 52) rfl)) (hw _ (List.mem_of_getElem? (i := 51) rfl)) (by decide) (by decide)) (g := (mkF m 3 #[.val (.ref a0), .val (.ref a1), .val (.int (0 : Int32)), .val (.int p3), .val (.ref kA)] [(.ref kA), (.ref a0)])) rfl (by rw [hml]; rfl) (argsL := [(.ref kA)]) (rest := [(.ref a0)]) (lenOf pdj1_0 rfl) rfl (by show 2 * 0 + _ ≤ _; exact Nat.le_of_eq rfl) (hb hby dj1_3) (fun _ _ => ⟨rfl, e0, (by decide : 0 + 0 ≤ _), (by decide : 0 + 0 ≤ _)⟩)
  dsimp only [Pt.U, Pt.locs, Pt.cells, Pt.slots] at Xj1c1 lj1c1 yj1c1 zj1c1 stj1c1 hQj1c1
  subst lj1c1 yj1c1 zj1c1
  obtain ⟨rfl, Nj1c1q, ej1c1⟩ := hQj1c1
  have Nj1c1 := Fr.app N0 Nj1c1q
  obtain ⟨lcj1t2, Xj1c1, Nj1c1⟩ : ∃ lc, Stand p l e ({ frames := 4, cells := 1, slots := 4, locals := 71 } : Room) s m #[(.ref a0), (.ref a1), (.int (0 : Int32)), (.int p3), (.ref kA)] below meth c Tj1c1 lc 0 0 ∧ Fr n0 lc := ⟨_, Xj1c1, Nj1c1⟩
  refine stp (fun t k => stj1c1 t k) ?_
  show W (Tj1c1.setTop (mkF m 6 #[.val (.ref a0), .val (.ref a1), .val (.int (0 : Int32)), .val (.int p3), .val (.ref kA)] [(.ref kA), (.ref a0)]))
  obtain ⟨Tj1q3, Xj1q3, ej1q3, stj1q3⟩ := castY Xj1c1 hx hZ hown (hw _ (List.mem_of_getElem? (i := 53) rfl)) ej1c1 (Ins.of_exa E_kA (hw _ (List.mem_of_getElem? (i := 54) rfl))) (g := (mkF m 6 #[.val (.ref a0), .val (.ref a1), .val (.int (0 : Int32)), .val (.int p3), .val (.ref kA)] [(.ref kA), (.ref a0)])) rfl rfl (hb hby dj1_6)
  refine stp (fun t k => stj1q3 t k) ?_
  show W (Tj1q3.setTop (mkF m 9 #[.val (.ref a0), .val (.ref a1), .val (.int (0 : Int32)), .val (.int p3), .val (.ref kA)] [(.ref kA), (.ref a0)]))
  refine stp (fun t k => XS.aloadN Xj1q3.here hx rfl (hb hby dj1_9) rfl rfl k) ?_
  show W (Tj1q3.setTop (mkF m 10 #[.val (.ref a0), .val (.ref a1), .val (.int (0 : Int32)), .val (.int p3), .val (.ref kA)] [(.ref a1), (.ref kA), (.ref a0)]))
  refine stp (fun t k => XS.iloadN Xj1q3.here hx rfl (hb hby dj1_10) rfl k) ?_
  show W (Tj1q3.setTop (mkF m 11 #[.val (.ref a0), .val (.ref a1), .val (.int (0 : Int32)), .val (.int p3), .val (.ref kA)] [(.int (0 : Int32)), (.ref a1), (.ref kA), (.ref a0)]))
  refine stp (fun t k => XS.iloadN Xj1q3.here hx rfl (hb hby dj1_11) rfl k) ?_
  show W (Tj1q3.setTop (mkF m 12 #[.val (.ref a0), .val (.ref a1), .val (.int (0 : Int32)), .val (.int p3), .val (.ref kA)] [(.int p3), (.int (0 : Int32)), (.ref a1), (.ref kA), (.ref a0)]))
  refine stp (fun t k => XS.aloadN Xj1q3.here hx rfl (hb hby dj1_12) rfl rfl k) ?_
  show W (Tj1q3.setTop (mkF m 13 #[.val (.ref a0), .val (.ref a1), .val (.int (0 : Int32)), .val (.int p3), .val (.ref kA)] [(.ref a1), (.int p3), (.int (0 : Int32)), (.ref a1), (.ref kA), (.ref a0)]))
  obtain ⟨clj14, Arj14, qkj14, qsj14, qnj14, qhj14, qgj14⟩ := id V_a1
  refine stp (fun t k => Xj1q3.arraylength hx (by rw [ej1q3]; exact Arj14.1) (State.isArrayOf_alike hZ.alike Arj14.2.1) (g := (mkF m 13 #[.val (.ref a0), .val (.ref a1), .val (.int (0 : Int32)), .val (.int p3), .val (.ref kA)] [(.ref a1), (.int p3), (.int (0 : Int32)), (.ref a1), (.ref kA), (.ref a0)])) rfl rfl (hb hby dj1_13) _ k) ?_
  rw [len_of qsj14 qnj14]
  show W (Tj1q3.setTop (mkF m 14 #[.val (.ref a0), .val (.ref a1), .val (.int (0 : Int32)), .val (.int p3), .val (.ref kA)] [(.int (8192 : Int32)), (.int p3), (.int (0 : Int32)), (.ref a1), (.ref kA), (.ref a0)]))
  obtain ⟨_, _, ⟨Tj1c5, Lj1c5, kj1c5, nj1c5⟩, -, Xj1c5, ⟨Lcj1c5, hQj1c5, lj1c5, yj1c5, zj1c5⟩, stj1c5⟩ := Jvm.LawKit.callS Xj1q3 hx (y := (⟨"java/lang/String", "checkBoundsOffCount", "(III)I"⟩ : MethodName)) hown (mvT hZ (hw _ (List.mem_of_getElem? (i := 55) rfl))) (mvT hZ (hw _ (List.mem_of_getElem? (i := 56) rfl))) (mvT hZ (hw _ (List.mem_of_getElem? (i := 43) rfl))) (mvT hZ (hw _ (List.mem_of_getElem? (i := 57) rfl))) (by decide) (backOf (W := 3) (rmcb l Z aa hw [] (0 : Int32) p3 (8192 : Int32) wc sx h0 n0 Z0 BW O0 (own_or0 hp3 hcn) (own_bd hp3 hcn)) hZ (hw _ (List.mem_of_getElem? (i := 57) rfl)) (hw _ (List.mem_of_getElem? (i := 43) rfl)) (by decide) (by decide)) (g := (mkF m 14 #[.val (.ref a0), .val (.ref a1), .val (.int (0 : Int32)), .val (.int p3), .val (.ref kA)] [(.int (8192 : Int32)), (.int p3), (.int (0 : Int32)), (.ref a1), (.ref kA), (.ref a0)])) rfl (by rw [hml]; rfl) (argsL := [(.int (0 : Int32)), (.int p3), (.int (8192 : Int32))]) (rest := [(.ref a1), (.ref kA), (.ref a0)]) (lenOf pdj1_1 rfl) rfl (by show 2 * 0 + _ ≤ _; exact Nat.le_of_eq rfl) (hb hby dj1_14) (fun _ _ => ⟨rfl, ej1q3, (by decide : 0 + 0 ≤ _), (by decide : 0 + 0 ≤ _)⟩)
  dsimp only [Pt.U, Pt.locs, Pt.cells, Pt.slots] at Xj1c5 lj1c5 yj1c5 zj1c5 stj1c5 hQj1c5
  subst lj1c5 yj1c5 zj1c5
  obtain ⟨rfl, Nj1c5q, ej1c5⟩ := hQj1c5
  have Nj1c5 := Fr.app Nj1c1 Nj1c5q
  obtain ⟨lcj1t6, Xj1c5, Nj1c5⟩ : ∃ lc, Stand p l e ({ frames := 4, cells := 1, slots := 4, locals := 71 } : Room) s m #[(.ref a0), (.ref a1), (.int (0 : Int32)), (.int p3), (.ref kA)] below meth c Tj1c5 lc 0 0 ∧ Fr n0 lc := ⟨_, Xj1c5, Nj1c5⟩
  refine stp (fun t k => stj1c5 t k) ?_
  show W (Tj1c5.setTop (mkF m 17 #[.val (.ref a0), .val (.ref a1), .val (.int (0 : Int32)), .val (.int p3), .val (.ref kA)] [(.int (0 : Int32)), (.ref a1), (.ref kA), (.ref a0)]))
  refine stp (fun t k => XS.iloadN Xj1c5.here hx rfl (hb hby dj1_17) rfl k) ?_
  show W (Tj1c5.setTop (mkF m 18 #[.val (.ref a0), .val (.ref a1), .val (.int (0 : Int32)), .val (.int p3), .val (.ref kA)] [(.int p3), (.int (0 : Int32)), (.ref a1), (.ref kA), (.ref a0)]))
  obtain ⟨_, _, ⟨Tj1c7, Lj1c7, kj1c7, nj1c7⟩, -, Xj1c7, ⟨Lcj1c7, hQj1c7, lj1c7, yj1c7, zj1c7⟩, stj1c7⟩ := Xj1c5.specialBackH hx (y := (⟨"java/lang/String", "<init>", "(Ljava/nio/charset/Charset;[BII)V"⟩ : MethodName)) rfl hown (mvT hZ (hw _ (List.mem_of_getElem? (i := 63) rfl))) (mvT hZ (hw _ (List.mem_of_getElem? (i := 64) rfl))) (mvT hZ (hw _ (List.mem_of_getElem? (i := 66) rfl))) (by decide) (backOfWith (W := 0) (rmj2 l Z aa hw [] a0 kA a1 (0 : Int32) p3 wc sx kU kI kb G cn g h0 n0 Z0 BW O0 BC E_a0 F_value_a0 F_coder_a0 g_a0 V_a1 ne_a0_a1 rfl hp3 h1 hcn hg hGg) hZ (hw _ (List.mem_of_getElem? (i := 66) rfl)) (hw _ (List.mem_of_getElem? (i := 43) rfl)) (by decide) (by decide)) (g := (mkF m 18 #[.val (.ref a0), .val (.ref a1), .val (.int (0 : Int32)), .val (.int p3), .val (.ref kA)] [(.int p3), (.int (0 : Int32)), (.ref a1), (.ref kA), (.ref a0)])) rfl (by rw [hml]; rfl) (Steps.refl _) (a := a0) (argsL := [(.ref kA), (.ref a1), (.int (0 : Int32)), (.int p3)]) (rest := []) (lenOf pdj1_2 rfl) rfl (by show 2 * 0 + _ ≤ _; exact Nat.le_of_eq rfl) (hb hby dj1_18) (fun _ _ => ⟨rfl, ej1c5, (by decide : 0 + 1 ≤ _), (by decide : 0 + 4 ≤ _)⟩)
  dsimp only [Pt.U, Pt.locs, Pt.cells, Pt.slots] at Xj1c7 lj1c7 yj1c7 zj1c7 stj1c7 hQj1c7
  subst lj1c7 yj1c7 zj1c7
  obtain ⟨rfl, Nj1c7q, Kqj1c7, Gj1c7⟩ := hQj1c7
  have Nj1c7 := Fr.app Nj1c5 Nj1c7q
  obtain ⟨lcj1t8, Xj1c7, Nj1c7⟩ : ∃ lc, Stand p l e ({ frames := 4, cells := 1, slots := 4, locals := 71 } : Room) s m #[(.ref a0), (.ref a1), (.int (0 : Int32)), (.int p3), (.ref kA)] below meth c Tj1c7 lc 1 4 ∧ Fr n0 lc := ⟨_, Xj1c7, Nj1c7⟩
  refine stp (fun t k => stj1c7.trans k) ?_
  obtain ⟨hj1c7, ej1c7⟩ : ∃ h, Tj1c7.heap = h := ⟨_, rfl⟩
  rw [ej1c7] at Kqj1c7 Gj1c7
  show W (Tj1c7.setTop (mkF m 21 #[.val (.ref a0), .val (.ref a1), .val (.int (0 : Int32)), .val (.int p3), .val (.ref kA)] []))
  show W (Tj1c7.setTop (mkF m 21 #[.val (.ref a0), .val (.ref a1), .val (.int (0 : Int32)), .val (.int p3), .val (.ref kA)] []))
  rw [← hW]
  exact own_ret0 Xj1c7 hx Bd.notSynchronized Bd.returns (hb hby dj1_21) (by show Qj1 Z a0 a1 (0 : Int32) p3 kA wc sx kU kI kb G cn g h0 n0 _ Tj1c7.heap _; rw [ej1c7]; exact ⟨rfl, Nj1c7, Kqj1c7, Gj1c7⟩) (by decide) (by decide)
theorem dj0_0 : decode jdk_42_method_10_code 0 = .ok (.aload_n 0, 1) := by decide +kernel
theorem dj0_1 : decode jdk_42_method_10_code 1 = .ok (.aload 4, 2) := by decide +kernel
theorem dj0_3 : decode jdk_42_method_10_code 3 = .ok (.invokestatic 78, 3) := by decide +kernel
theorem dj0_6 : decode jdk_42_method_10_code 6 = .ok (.checkcast 84, 3) := by decide +kernel
theorem dj0_9 : decode jdk_42_method_10_code 9 = .ok (.aload_n 1, 1) := by decide +kernel
theorem dj0_10 : decode jdk_42_method_10_code 10 = .ok (.iload_n 2, 1) := by decide +kernel
theorem dj0_11 : decode jdk_42_method_10_code 11 = .ok (.iload_n 3, 1) := by decide +kernel
theorem dj0_12 : decode jdk_42_method_10_code 12 = .ok (.aload_n 1, 1) := by decide +kernel
theorem dj0_13 : decode jdk_42_method_10_code 13 = .ok (.arraylength, 1) := by decide +kernel
theorem dj0_14 : decode jdk_42_method_10_code 14 = .ok (.invokestatic 34, 3) := by decide +kernel
theorem dj0_17 : decode jdk_42_method_10_code 17 = .ok (.iload_n 3, 1) := by decide +kernel
theorem dj0_18 : decode jdk_42_method_10_code 18 = .ok (.invokespecial 75, 3) := by decide +kernel
theorem dj0_21 : decode jdk_42_method_10_code 21 = .ok (.return_, 1) := by decide +kernel
theorem pnj0 : plainName "java/lang/String" = true := by first | (simp [plainName, overriddenIn]; done) | decide +kernel
theorem pdj0_0 : parseMethodDescriptor "(Ljava/lang/Object;)Ljava/lang/Object;" = some ⟨[(.object "java/lang/Object")], some (.object "java/lang/Object")⟩ := by decide +kernel
theorem pdj0_1 : parseMethodDescriptor "(III)I" = some ⟨[.int, .int, .int], some .int⟩ := by decide +kernel
theorem pdj0_2 : parseMethodDescriptor "(Ljava/nio/charset/Charset;[BII)V" = some ⟨[(.object "java/nio/charset/Charset"), (.array .byte), .int, .int], none⟩ := by decide +kernel
theorem efj0 (m : MethodId) (a0 : Addr) (a1 : Addr) (p2 : Int32) (p3 : Int32) (kA : Addr) : entryFrame m #[(.ref a0), (.ref a1), (.int p2), (.int p3), (.ref kA)] 5 = mkF m 0 #[.val (.ref a0), .val (.ref a1), .val (.int p2), .val (.int p3), .val (.ref kA)] [] := by first | (simp [entryFrame, mkF, argsToLocals, Value.category]; done) | rfl
def Qj0 (Z : State) (a0 : Addr) (a1 : Addr) (p2 : Int32) (p3 : Int32) (kA : Addr) (wc : Int32) (sx : Value) (kU : Addr) (kI : Addr) (kb : ClassId) (G : Nat → Int32) (g : Nat → Int32) (h0 : Heap) (n0 : Nat) (v : Option Value) (h : Heap) (L : List Loc) : Prop := v = none ∧ Fr n0 L ∧ Keep h0 h [a0] ∧ ∃ b : Addr, OwnStr Z h a0 b 0 g
set_option maxRecDepth 65536 in
set_option maxHeartbeats 40000000 in
theorem rmj0 (l : Launch) (Z : State) (aa : Array Value) (hw : ∀ d ∈ tables_1, d.before aa Z = true) (ws : List Jvm.Cond) (a0 : Addr) (a1 : Addr) (p2 : Int32) (p3 : Int32) (kA : Addr) (wc : Int32) (sx : Value) (kU : Addr) (kI : Addr) (kb : ClassId) (G : Nat → Int32) (g : Nat → Int32) (h0 : Heap) (n0 : Nat) (Z0 : n0 ≤ h0.size) (BW : OwnW Z wc sx) (O0 : Old Z n0 h0) (BC : OwnCS Z kU kI kA) (E_a0 : Exa Z h0 a0 "java/lang/String") (F_value_a0 : Fld Z h0 a0 "java/lang/String" "value" "[B" .null) (F_coder_a0 : Fld Z h0 a0 "java/lang/String" "coder" "B" (.int (0 : Int32))) (g_a0 : n0 ≤ a0) (V_a1 : Arv Z h0 a1 kb .byte (8192 : Int32) (own_vs 8192 G) (.int (0 : Int32))) (hp2 : p2 = (0 : Int32)) (hp3 : p3 = (0 : Int32)) :
    MetFree l (⟨"java/lang/String", "<init>", "([BIILjava/nio/charset/Charset;)V"⟩ : MethodName) (head1 (Jvm.Cond.code (⟨"java/lang/String", "<init>", "([BIILjava/nio/charset/Charset;)V"⟩ : MethodName) jdk_42_method_10_code 5 none :: ws) ({ frames := 2, cells := 4, slots := 8, locals := 34 } : Room)) (fun a U => a = #[(.ref a0), (.ref a1), (.int p2), (.int p3), (.ref kA)] ∧ Z.Warmed39 U.vm ∧ U.heap = h0 ∧ CHv Z ownEL U.vm h0) (fun _ _ _ _ _ => True) (fun _ U o U' => ∃ v L, o = .returned v ∧ Qj0 Z a0 a1 p2 p3 kA wc sx kU kI kb G g h0 n0 v U'.heap L ∧ CHr Z ownEL U.vm U.heap U'.vm U'.heap ∧ ReturnedEndW U o U' L ({ frames := 2, cells := 4, slots := 8, locals := 34 } : Room).cells ({ frames := 2, cells := 4, slots := 8, locals := 34 } : Room).slots) := by
  refine MetFree.of_bodySF (plainFor_of_name pnj0) hisR ?_
  intro p e s m args below meth c s₁ Bd hml0 hP hK
  obtain ⟨rfl, hZ, hh, hH⟩ := hP
  have hx := Bd.exec
  have hby := Bd.bytes
  have hml : c.maxLocals = 5 := hml0
  have hown : s.vm.findClass "java/lang/String" = some m.cls := findClass_of_methodNamed Bd.named
  have hnm := (name_of_methodNamed Bd.named Bd.method).1
  have X0 : Stand p l e ({ frames := 2, cells := 4, slots := 8, locals := 34 } : Room) s m #[(.ref a0), (.ref a1), (.int p2), (.int p3), (.ref kA)] below meth c s₁ [] 0 0 := Stand.of_body Bd
  have e0 : s₁.heap = h0 := by rw [← hh, Bd.state]; rfl
  have N0 := Fr.nil n0
  have hEL := own_EW hw
  obtain ⟨vm0, X0, CC, hZ, hown⟩ : ∃ vm, Stand p l e ({ frames := 2, cells := 4, slots := 8, locals := 34 } : Room) (s.setVm vm) m #[(.ref a0), (.ref a1), (.int p2), (.int p3), (.ref kA)] below meth c s₁ [] 0 0 ∧ OwnC Z ownEL s vm h0 ∧ Z.Warmed39 (s.setVm vm).vm ∧ (s.setVm vm).vm.findClass "java/lang/String" = some m.cls := ⟨s.vm, X0, OwnC.start hh hH, hZ, hown⟩
  show OwnEndW Z ownEL p e below s (fun v h L => Qj0 Z a0 a1 p2 p3 kA wc sx kU kI kb G g h0 n0 v h L) ({ frames := 2, cells := 4, slots := 8, locals := 34 } : Room).cells ({ frames := 2, cells := 4, slots := 8, locals := 34 } : Room).slots (s₁.setTop (entryFrame m #[(.ref a0), (.ref a1), (.int p2), (.int p3), (.ref kA)] 5))
  rw [efj0 m a0 a1 p2 p3 kA]
  generalize hW : OwnEndW Z ownEL p e below s (fun v h L => Qj0 Z a0 a1 p2 p3 kA wc sx kU kI kb G g h0 n0 v h L) ({ frames := 2, cells := 4, slots := 8, locals := 34 } : Room).cells ({ frames := 2, cells := 4, slots := 8, locals := 34 } : Room).slots = W
  have stp : ∀ {A B : State}, (∀ t, Steps p.tables e below B t → Steps p.tables e below A t) → W B → W A := by subst hW; exact own_stepW
  obtain ⟨S_cs, hcs, S_si, hr_sx⟩ := id BW
  obtain ⟨C_u, C_i, C_a, C_s, nU, nI, C_x⟩ := id BC
  have E_kA : Exa Z h0 kA "sun/nio/cs/US_ASCII" := C_x.ext O0.2
  subst hp2 hp3
  show W (s₁.setTop (mkF m 0 #[.val (.ref a0), .val (.ref a1), .val (.int (0 : Int32)), .val (.int (0 : Int32)), .val (.ref kA)] []))
  refine stp (fun t k => XS.aloadN X0.here hx rfl (hb hby dj0_0) rfl rfl k) ?_
  show W (s₁.setTop (mkF m 1 #[.val (.ref a0), .val (.ref a1), .val (.int (0 : Int32)), .val (.int (0 : Int32)), .val (.ref kA)] [(.ref a0)]))
  refine stp (fun t k => XS.aload X0.here hx rfl (hb hby dj0_1) rfl rfl k) ?_
  show W (s₁.setTop (mkF m 3 #[.val (.ref a0), .val (.ref a1), .val (.int (0 : Int32)), .val (.int (0 : Int32)), .val (.ref kA)] [(.ref kA), (.ref a0)]))
  obtain ⟨_, _, ⟨Tj0c1, Lj0c1, kj0c1, nj0c1⟩, -, Xj0c1, ⟨Lcj0c1, hQj0c1, lj0c1, yj0c1, zj0c1⟩, stj0c1⟩ := Jvm.LawKit.callS X0 hx (y := (⟨"java/util/Objects", "requireNonNull", "(Ljava/lang/Object;)Ljava/lang/Object;"⟩ : MethodName)) hown (mvT hZ (hw _ (List.mem_of_getElem? (i := 49) rfl))) (mvT hZ (hw _ (List.mem_of_getElem? (i := 50) rfl))) (mvT hZ (hw _ (List.mem_of_getElem? (i := 51) rfl))) (mvT hZ (hw _ (List.mem_of_getElem? (i := 52) rfl))) (by decide) (backOf (W := 1) (rmrn l Z aa hw [] kA h0 n0 Z0) hZ (hw _ (List.mem_of_getElem? (i := 52) rfl)) (hw _ (List.mem_of_getElem? (i := 51) rfl)) (by decide) (by decide)) (g := (mkF m 3 #[.val (.ref a0), .val (.ref a1), .val (.int (0 : Int32)), .val (.int (0 : Int32)), .val (.ref kA)] [(.ref kA), (.ref a0)])) rfl (by rw [hml]; rfl) (argsL := [(.ref kA)]) (rest := [(.ref a0)]) (lenOf pdj0_0 rfl) rfl (by show 2 * 0 + _ ≤ _; exact Nat.le_of_eq rfl) (hb hby dj0_3) (fun _ _ => ⟨rfl, e0, (by decide : 0 + 0 ≤ _), (by decide : 0 + 0 ≤ _)⟩)
  dsimp only [Pt.U, Pt.locs, Pt.cells, Pt.slots] at Xj0c1 lj0c1 yj0c1 zj0c1 stj0c1 hQj0c1
  subst lj0c1 yj0c1 zj0c1
  obtain ⟨rfl, Nj0c1q, ej0c1⟩ := hQj0c1
  have Nj0c1 := Fr.app N0 Nj0c1q
  obtain ⟨lcj0t2, Xj0c1, Nj0c1⟩ : ∃ lc, Stand p l e ({ frames := 2, cells := 4, slots := 8, locals := 34 } : Room) (s.setVm vm0) m #[(.ref a0), (.ref a1), (.int (0 : Int32)), (.int (0 : Int32)), (.ref kA)] below meth c Tj0c1 lc 0 0 ∧ Fr n0 lc := ⟨_, Xj0c1, Nj0c1⟩
  refine stp (fun t k => stj0c1 t k) ?_
  show W (Tj0c1.setTop (mkF m 6 #[.val (.ref a0), .val (.ref a1), .val (.int (0 : Int32)), .val (.int (0 : Int32)), .val (.ref kA)] [(.ref kA), (.ref a0)]))
  obtain ⟨Tj0q3, Xj0q3, ej0q3, stj0q3⟩ := castY Xj0c1 hx hZ hown (hw _ (List.mem_of_getElem? (i := 53) rfl)) ej0c1 (Ins.of_exa E_kA (hw _ (List.mem_of_getElem? (i := 54) rfl))) (g := (mkF m 6 #[.val (.ref a0), .val (.ref a1), .val (.int (0 : Int32)), .val (.int (0 : Int32)), .val (.ref kA)] [(.ref kA), (.ref a0)])) rfl rfl (hb hby dj0_6)
  refine stp (fun t k => stj0q3 t k) ?_
  show W (Tj0q3.setTop (mkF m 9 #[.val (.ref a0), .val (.ref a1), .val (.int (0 : Int32)), .val (.int (0 : Int32)), .val (.ref kA)] [(.ref kA), (.ref a0)]))
  refine stp (fun t k => XS.aloadN Xj0q3.here hx rfl (hb hby dj0_9) rfl rfl k) ?_
  show W (Tj0q3.setTop (mkF m 10 #[.val (.ref a0), .val (.ref a1), .val (.int (0 : Int32)), .val (.int (0 : Int32)), .val (.ref kA)] [(.ref a1), (.ref kA), (.ref a0)]))
  refine stp (fun t k => XS.iloadN Xj0q3.here hx rfl (hb hby dj0_10) rfl k) ?_
  show W (Tj0q3.setTop (mkF m 11 #[.val (.ref a0), .val (.ref a1), .val (.int (0 : Int32)), .val (.int (0 : Int32)), .val (.ref kA)] [(.int (0 : Int32)), (.ref a1), (.ref kA), (.ref a0)]))
  refine stp (fun t k => XS.iloadN Xj0q3.here hx rfl (hb hby dj0_11) rfl k) ?_
  show W (Tj0q3.setTop (mkF m 12 #[.val (.ref a0), .val (.ref a1), .val (.int (0 : Int32)), .val (.int (0 : Int32)), .val (.ref kA)] [(.int (0 : Int32)), (.int (0 : Int32)), (.ref a1), (.ref kA), (.ref a0)]))
  refine stp (fun t k => XS.aloadN Xj0q3.here hx rfl (hb hby dj0_12) rfl rfl k) ?_
  show W (Tj0q3.setTop (mkF m 13 #[.val (.ref a0), .val (.ref a1), .val (.int (0 : Int32)), .val (.int (0 : Int32)), .val (.ref kA)] [(.ref a1), (.int (0 : Int32)), (.int (0 : Int32)), (.ref a1), (.ref kA), (.ref a0)]))
  obtain ⟨clj04, Arj04, qkj04, qsj04, qnj04, qhj04, qgj04⟩ := id V_a1
  refine stp (fun t k => Xj0q3.arraylength hx (by rw [ej0q3]; exact Arj04.1) (State.isArrayOf_alike hZ.alike Arj04.2.1) (g := (mkF m 13 #[.val (.ref a0), .val (.ref a1), .val (.int (0 : Int32)), .val (.int (0 : Int32)), .val (.ref kA)] [(.ref a1), (.int (0 : Int32)), (.int (0 : Int32)), (.ref a1), (.ref kA), (.ref a0)])) rfl rfl (hb hby dj0_13) _ k) ?_
  rw [len_of qsj04 qnj04]
  show W (Tj0q3.setTop (mkF m 14 #[.val (.ref a0), .val (.ref a1), .val (.int (0 : Int32)), .val (.int (0 : Int32)), .val (.ref kA)] [(.int (8192 : Int32)), (.int (0 : Int32)), (.int (0 : Int32)), (.ref a1), (.ref kA), (.ref a0)]))
  obtain ⟨_, _, ⟨Tj0c5, Lj0c5, kj0c5, nj0c5⟩, -, Xj0c5, ⟨Lcj0c5, hQj0c5, lj0c5, yj0c5, zj0c5⟩, stj0c5⟩ := Jvm.LawKit.callS Xj0q3 hx (y := (⟨"java/lang/String", "checkBoundsOffCount", "(III)I"⟩ : MethodName)) hown (mvT hZ (hw _ (List.mem_of_getElem? (i := 55) rfl))) (mvT hZ (hw _ (List.mem_of_getElem? (i := 56) rfl))) (mvT hZ (hw _ (List.mem_of_getElem? (i := 43) rfl))) (mvT hZ (hw _ (List.mem_of_getElem? (i := 57) rfl))) (by decide) (backOf (W := 3) (rmcb l Z aa hw [] (0 : Int32) (0 : Int32) (8192 : Int32) wc sx h0 n0 Z0 BW O0 (by decide) (by decide)) hZ (hw _ (List.mem_of_getElem? (i := 57) rfl)) (hw _ (List.mem_of_getElem? (i := 43) rfl)) (by decide) (by decide)) (g := (mkF m 14 #[.val (.ref a0), .val (.ref a1), .val (.int (0 : Int32)), .val (.int (0 : Int32)), .val (.ref kA)] [(.int (8192 : Int32)), (.int (0 : Int32)), (.int (0 : Int32)), (.ref a1), (.ref kA), (.ref a0)])) rfl (by rw [hml]; rfl) (argsL := [(.int (0 : Int32)), (.int (0 : Int32)), (.int (8192 : Int32))]) (rest := [(.ref a1), (.ref kA), (.ref a0)]) (lenOf pdj0_1 rfl) rfl (by show 2 * 0 + _ ≤ _; exact Nat.le_of_eq rfl) (hb hby dj0_14) (fun _ _ => ⟨rfl, ej0q3, (by decide : 0 + 0 ≤ _), (by decide : 0 + 0 ≤ _)⟩)
  dsimp only [Pt.U, Pt.locs, Pt.cells, Pt.slots] at Xj0c5 lj0c5 yj0c5 zj0c5 stj0c5 hQj0c5
  subst lj0c5 yj0c5 zj0c5
  obtain ⟨rfl, Nj0c5q, ej0c5⟩ := hQj0c5
  have Nj0c5 := Fr.app Nj0c1 Nj0c5q
  obtain ⟨lcj0t6, Xj0c5, Nj0c5⟩ : ∃ lc, Stand p l e ({ frames := 2, cells := 4, slots := 8, locals := 34 } : Room) (s.setVm vm0) m #[(.ref a0), (.ref a1), (.int (0 : Int32)), (.int (0 : Int32)), (.ref kA)] below meth c Tj0c5 lc 0 0 ∧ Fr n0 lc := ⟨_, Xj0c5, Nj0c5⟩
  refine stp (fun t k => stj0c5 t k) ?_
  show W (Tj0c5.setTop (mkF m 17 #[.val (.ref a0), .val (.ref a1), .val (.int (0 : Int32)), .val (.int (0 : Int32)), .val (.ref kA)] [(.int (0 : Int32)), (.ref a1), (.ref kA), (.ref a0)]))
  refine stp (fun t k => XS.iloadN Xj0c5.here hx rfl (hb hby dj0_17) rfl k) ?_
  show W (Tj0c5.setTop (mkF m 18 #[.val (.ref a0), .val (.ref a1), .val (.int (0 : Int32)), .val (.int (0 : Int32)), .val (.ref kA)] [(.int (0 : Int32)), (.int (0 : Int32)), (.ref a1), (.ref kA), (.ref a0)]))
  obtain ⟨_, _, ⟨Tj0c7, Lj0c7, kj0c7, nj0c7⟩, -, Xj0c7, hSj0c7, hGj0c7, ⟨Lcj0c7, hQj0c7, lj0c7, yj0c7, zj0c7, hCj0c7⟩, stj0c7⟩ := own_specialBackHS Xj0c5 hx (y := (⟨"java/lang/String", "<init>", "(Ljava/nio/charset/Charset;[BII)V"⟩ : MethodName)) rfl hown (mvT hZ (hw _ (List.mem_of_getElem? (i := 63) rfl))) (mvT hZ (hw _ (List.mem_of_getElem? (i := 64) rfl))) (mvT hZ (hw _ (List.mem_of_getElem? (i := 66) rfl))) (by decide) (own_backSW (W := 0) (rmjz l Z aa hw [] a0 kA a1 (0 : Int32) (0 : Int32) wc sx g h0 n0 Z0 BW O0 E_a0 F_value_a0 F_coder_a0 g_a0 rfl) hZ (hw _ (List.mem_of_getElem? (i := 66) rfl)) (hw _ (List.mem_of_getElem? (i := 43) rfl)) (by decide) (by decide) hEL CC.2.1) (g := (mkF m 18 #[.val (.ref a0), .val (.ref a1), .val (.int (0 : Int32)), .val (.int (0 : Int32)), .val (.ref kA)] [(.int (0 : Int32)), (.int (0 : Int32)), (.ref a1), (.ref kA), (.ref a0)])) rfl (by rw [hml]; rfl) (Steps.refl _) (a := a0) (argsL := [(.ref kA), (.ref a1), (.int (0 : Int32)), (.int (0 : Int32))]) (rest := []) (lenOf pdj0_2 rfl) rfl (by show 2 * 0 + _ ≤ _; exact Nat.le_of_eq rfl) (hb hby dj0_18) (fun _ _ => ⟨rfl, ej0c5, (by decide : 0 + 4 ≤ _), (by decide : 0 + 8 ≤ _)⟩)
  dsimp only [Pt.U, Pt.locs, Pt.cells, Pt.slots] at Xj0c7 lj0c7 yj0c7 zj0c7 stj0c7 hQj0c7
  subst lj0c7 yj0c7 zj0c7
  obtain ⟨rfl, Nj0c7q, Kqj0c7, Gj0c7⟩ := hQj0c7
  have Nj0c7 := Fr.app Nj0c5 Nj0c7q
  dsimp only [Pt.U] at hSj0c7 hGj0c7 hCj0c7
  rw [ej0c5] at hGj0c7
  obtain ⟨vmj0c7, ⟨lcj0c7, Xj0c7, Nj0c7⟩, CCj0c7, hZ, hown⟩ : ∃ vm, (∃ lc, Stand p l e ({ frames := 2, cells := 4, slots := 8, locals := 34 } : Room) (s.setVm vm) m #[(.ref a0), (.ref a1), (.int (0 : Int32)), (.int (0 : Int32)), (.ref kA)] below meth c Tj0c7 lc 4 8 ∧ Fr n0 lc) ∧ OwnC Z ownEL s vm Tj0c7.heap ∧ Z.Warmed39 (s.setVm vm).vm ∧ (s.setVm vm).vm.findClass "java/lang/String" = some m.cls := ⟨_, ⟨_, Xj0c7, Nj0c7⟩, CC.reb hSj0c7 hGj0c7 hCj0c7, State.Warmed39.trans hZ hSj0c7.1, (hSj0c7.1.alike.findClass _ _).trans hown⟩
  replace CC := CCj0c7
  obtain ⟨hj0c7, ej0c7⟩ : ∃ h, Tj0c7.heap = h := ⟨_, rfl⟩
  rw [ej0c7] at Kqj0c7 Gj0c7 CC
  refine stp (fun t k => stj0c7.trans k) ?_
  show W (Tj0c7.setTop (mkF m 21 #[.val (.ref a0), .val (.ref a1), .val (.int (0 : Int32)), .val (.int (0 : Int32)), .val (.ref kA)] []))
  show W (Tj0c7.setTop (mkF m 21 #[.val (.ref a0), .val (.ref a1), .val (.int (0 : Int32)), .val (.int (0 : Int32)), .val (.ref kA)] []))
  rw [← hW]
  exact own_W hZ hEL CC (own_ret0 Xj0c7 hx Bd.notSynchronized Bd.returns (hb hby dj0_21) (by show Qj0 Z a0 a1 (0 : Int32) (0 : Int32) kA wc sx kU kI kb G g h0 n0 _ Tj0c7.heap _ ∧ Tj0c7.heap = hj0c7; rw [ej0c7]; exact ⟨⟨rfl, Nj0c7, Kqj0c7, Gj0c7⟩, rfl⟩) (by decide) (by decide))
theorem dts_0 : decode prog_31_method_6_code 0 = .ok (.new 55, 3) := by decide +kernel
theorem dts_3 : decode prog_31_method_6_code 3 = .ok (.dup, 1) := by decide +kernel
theorem dts_4 : decode prog_31_method_6_code 4 = .ok (.aload_n 0, 1) := by decide +kernel
theorem dts_5 : decode prog_31_method_6_code 5 = .ok (.getfield 9, 3) := by decide +kernel
theorem dts_8 : decode prog_31_method_6_code 8 = .ok (.iconst 0, 1) := by decide +kernel
theorem dts_9 : decode prog_31_method_6_code 9 = .ok (.aload_n 0, 1) := by decide +kernel
theorem dts_10 : decode prog_31_method_6_code 10 = .ok (.getfield 14, 3) := by decide +kernel
theorem dts_13 : decode prog_31_method_6_code 13 = .ok (.getstatic 63, 3) := by decide +kernel
theorem dts_16 : decode prog_31_method_6_code 16 = .ok (.invokespecial 69, 3) := by decide +kernel
theorem dts_19 : decode prog_31_method_6_code 19 = .ok (.areturn, 1) := by decide +kernel
theorem pnts : plainName "com/example/opuscule/opuscule/json/LineBuffer" = true := by first | (simp [plainName, overriddenIn]; done) | decide +kernel
theorem pdts_0 : parseMethodDescriptor "([BIILjava/nio/charset/Charset;)V" = some ⟨[(.array .byte), .int, .int, (.object "java/nio/charset/Charset")], none⟩ := by decide +kernel
theorem efts (m : MethodId) (a0 : Addr) : entryFrame m #[(.ref a0)] 1 = mkF m 0 #[.val (.ref a0)] [] := by first | (simp [entryFrame, mkF, argsToLocals, Value.category]; done) | rfl
def Qts (Z : State) (a0 : Addr) (wc : Int32) (sx : Value) (kU : Addr) (kI : Addr) (kA : Addr) (b : Addr) (kb : ClassId) (len : Int32) (lim : Int64) (G : Nat → Int32) (cn : Nat) (g : Nat → Int32) (h0 : Heap) (n0 : Nat) (v : Option Value) (h : Heap) (L : List Loc) : Prop := ∃ (a c : Addr), v = some (.ref a) ∧ Fr n0 L ∧ Keep h0 h [] ∧ OwnStr Z h a c cn g
set_option maxRecDepth 65536 in
set_option maxHeartbeats 40000000 in
theorem rmts (l : Launch) (Z : State) (aa : Array Value) (hw : ∀ d ∈ tables_1, d.before aa Z = true) (ws : List Jvm.Cond) (a0 : Addr) (wc : Int32) (sx : Value) (kU : Addr) (kI : Addr) (kA : Addr) (b : Addr) (kb : ClassId) (len : Int32) (lim : Int64) (G : Nat → Int32) (cn : Nat) (g : Nat → Int32) (h0 : Heap) (n0 : Nat) (Z0 : n0 ≤ h0.size) (BW : OwnW Z wc sx) (O0 : Old Z n0 h0) (BC : OwnCS Z kU kI kA) (LB0 : OwnLB Z h0 a0 b kb len lim G) (hlen : len.toInt = (cn : Int)) (hcn : cn ≤ 4) (hg : ∀ j, j < cn → 0 ≤ (g j).toInt ∧ (g j).toInt < 128) (hGg : ∀ j, j < cn → G j = own_b (g j)) :
    MetFree l (⟨"com/example/opuscule/opuscule/json/LineBuffer", "toString", "()Ljava/lang/String;"⟩ : MethodName) (head1 (Jvm.Cond.code (⟨"com/example/opuscule/opuscule/json/LineBuffer", "toString", "()Ljava/lang/String;"⟩ : MethodName) prog_31_method_6_code 1 (some (.object "java/lang/String")) :: ws) ({ frames := 5, cells := 5, slots := 12, locals := 88 } : Room)) (fun a U => a = #[(.ref a0)] ∧ Z.Warmed39 U.vm ∧ U.heap = h0 ∧ CHv Z ownEL U.vm h0) (fun _ _ _ _ _ => True) (fun _ U o U' => ∃ v L, o = .returned v ∧ Qts Z a0 wc sx kU kI kA b kb len lim G cn g h0 n0 v U'.heap L ∧ CHr Z ownEL U.vm U.heap U'.vm U'.heap ∧ ReturnedEndW U o U' L ({ frames := 5, cells := 5, slots := 12, locals := 88 } : Room).cells ({ frames := 5, cells := 5, slots := 12, locals := 88 } : Room).slots) := by
  refine MetFree.of_bodySF (plainFor_of_name pnts) hisR ?_
  intro p e s m args below meth c s₁ Bd hml0 hP hK
  obtain ⟨rfl, hZ, hh, hH⟩ := hP
  have hx := Bd.exec
  have hby := Bd.bytes
  have hml : c.maxLocals = 1 := hml0
  have hown : s.vm.findClass "com/example/opuscule/opuscule/json/LineBuffer" = some m.cls := findClass_of_methodNamed Bd.named
  have hnm := (name_of_methodNamed Bd.named Bd.method).1
  have X0 : Stand p l e ({ frames := 5, cells := 5, slots := 12, locals := 88 } : Room) s m #[(.ref a0)] below meth c s₁ [] 0 0 := Stand.of_body Bd
  have e0 : s₁.heap = h0 := by rw [← hh, Bd.state]; rfl
  have N0 := Fr.nil n0
  have hEL := own_EW hw
  obtain ⟨vm0, X0, CC, hZ, hown⟩ : ∃ vm, Stand p l e ({ frames := 5, cells := 5, slots := 12, locals := 88 } : Room) (s.setVm vm) m #[(.ref a0)] below meth c s₁ [] 0 0 ∧ OwnC Z ownEL s vm h0 ∧ Z.Warmed39 (s.setVm vm).vm ∧ (s.setVm vm).vm.findClass "com/example/opuscule/opuscule/json/LineBuffer" = some m.cls := ⟨s.vm, X0, OwnC.start hh hH, hZ, hown⟩
  show OwnEndW Z ownEL p e below s (fun v h L => Qts Z a0 wc sx kU kI kA b kb len lim G cn g h0 n0 v h L) ({ frames := 5, cells := 5, slots := 12, locals := 88 } : Room).cells ({ frames := 5, cells := 5, slots := 12, locals := 88 } : Room).slots (s₁.setTop (entryFrame m #[(.ref a0)] 1))
  rw [efts m a0]
  generalize hW : OwnEndW Z ownEL p e below s (fun v h L => Qts Z a0 wc sx kU kI kA b kb len lim G cn g h0 n0 v h L) ({ frames := 5, cells := 5, slots := 12, locals := 88 } : Room).cells ({ frames := 5, cells := 5, slots := 12, locals := 88 } : Room).slots = W
  have stp : ∀ {A B : State}, (∀ t, Steps p.tables e below B t → Steps p.tables e below A t) → W B → W A := by subst hW; exact own_stepW
  obtain ⟨S_cs, hcs, S_si, hr_sx⟩ := id BW
  obtain ⟨C_u, C_i, C_a, C_s, nU, nI, C_x⟩ := id BC
  obtain ⟨E_a0, F_bytes_a0, F_length_a0, F_limit_a0, V_b⟩ := LB0
  have ne_a0_b : a0 ≠ b := Exa.neArv E_a0 V_b (hw _ (List.mem_of_getElem? (i := 1) rfl))
  show W (s₁.setTop (mkF m 0 #[.val (.ref a0)] []))
  obtain ⟨Tts1, hts1, Xts1, ets1, Ets1, Ats1, Dts1, -, stts1⟩ := newO X0 hx hZ hown (hw _ (List.mem_of_getElem? (i := 41) rfl)) (hw _ (List.mem_of_getElem? (i := 42) rfl)) (hw _ (List.mem_of_getElem? (i := 43) rfl)) e0 (g := (mkF m 0 #[.val (.ref a0)] [])) rfl (hb hby dts_0) (by decide) (by decide)
  obtain ⟨bts1, gqts1⟩ : ∃ z, z = h0.size := ⟨_, rfl⟩
  rw [← gqts1] at Ats1 Dts1 stts1
  replace CC := CC.ext Ets1
  have ne_a0_bts1 : a0 ≠ bts1 := Nat.ne_of_lt (Nat.lt_of_lt_of_le E_a0.lt (Nat.le_of_eq gqts1.symm))
  have ne_b_bts1 : b ≠ bts1 := Nat.ne_of_lt (Nat.lt_of_lt_of_le V_b.lt (Nat.le_of_eq gqts1.symm))
  have g_bts1 : n0 ≤ bts1 := Nat.le_trans Z0 (Nat.le_of_eq gqts1.symm)
  have sz_bts1 : h0.size ≤ bts1 := Nat.le_trans (Keep.refl h0 []).1 (Nat.le_of_eq gqts1.symm)
  replace E_a0 := E_a0.ext Ets1
  replace F_bytes_a0 := F_bytes_a0.ext Ets1
  replace F_length_a0 := F_length_a0.ext Ets1
  replace F_limit_a0 := F_limit_a0.ext Ets1
  replace V_b := V_b.ext Ets1
  have Kts1 := (Keep.refl h0 []).ext Ets1
  have Zts1 := Nat.le_trans Z0 Ets1.1
  have Ots1 := O0.ext Ets1
  have E_bts1 := Ats1
  have F_value_bts1 : Fld Z hts1 bts1 "java/lang/String" "value" "[B" .null := Dts1 (Or.inr (hw _ (List.mem_of_getElem? (i := 69) rfl))) (ty := (.array .byte)) (by decide)
  have F_coder_bts1 : Fld Z hts1 bts1 "java/lang/String" "coder" "B" (.int (0 : Int32)) := Dts1 (Or.inr (hw _ (List.mem_of_getElem? (i := 70) rfl))) (ty := .byte) (by decide)
  refine stp (fun t k => stts1 t k) ?_
  show W (Tts1.setTop (mkF m 3 #[.val (.ref a0)] [(.ref bts1)]))
  refine stp (fun t k => XS.dup Xts1.here hx rfl (hb hby dts_3) rfl rfl k) ?_
  show W (Tts1.setTop (mkF m 4 #[.val (.ref a0)] [(.ref bts1), (.ref bts1)]))
  refine stp (fun t k => XS.aloadN Xts1.here hx rfl (hb hby dts_4) rfl rfl k) ?_
  show W (Tts1.setTop (mkF m 5 #[.val (.ref a0)] [(.ref a0), (.ref bts1), (.ref bts1)]))
  obtain ⟨Tts2, Xts2, ets2, stts2⟩ := getF Xts1 hx hZ hown (host := "") (Or.inl (hw _ (List.mem_of_getElem? (i := 17) rfl))) Via.refl ets1 F_bytes_a0 (g := (mkF m 5 #[.val (.ref a0)] [(.ref a0), (.ref bts1), (.ref bts1)])) rfl rfl (hb hby dts_5)
  refine stp (fun t k => stts2 t k) ?_
  show W (Tts2.setTop (mkF m 8 #[.val (.ref a0)] [(.ref b), (.ref bts1), (.ref bts1)]))
  refine stp (fun t k => XS.iconst Xts2.here hx rfl (hb hby dts_8) k) ?_
  show W (Tts2.setTop (mkF m 9 #[.val (.ref a0)] [(.int (0 : Int32)), (.ref b), (.ref bts1), (.ref bts1)]))
  refine stp (fun t k => XS.aloadN Xts2.here hx rfl (hb hby dts_9) rfl rfl k) ?_
  show W (Tts2.setTop (mkF m 10 #[.val (.ref a0)] [(.ref a0), (.int (0 : Int32)), (.ref b), (.ref bts1), (.ref bts1)]))
  obtain ⟨Tts3, Xts3, ets3, stts3⟩ := getF Xts2 hx hZ hown (host := "") (Or.inl (hw _ (List.mem_of_getElem? (i := 27) rfl))) Via.refl ets2 F_length_a0 (g := (mkF m 10 #[.val (.ref a0)] [(.ref a0), (.int (0 : Int32)), (.ref b), (.ref bts1), (.ref bts1)])) rfl rfl (hb hby dts_10)
  refine stp (fun t k => stts3 t k) ?_
  show W (Tts3.setTop (mkF m 13 #[.val (.ref a0)] [(.int len), (.int (0 : Int32)), (.ref b), (.ref bts1), (.ref bts1)]))
  obtain ⟨Tts4, Xts4, ets4, stts4⟩ := getS2 Xts3 hx hZ hown (host := "") (Or.inl (hw _ (List.mem_of_getElem? (i := 44) rfl))) Via.refl ets3 (C_s.ext Ots1.2) (g := (mkF m 13 #[.val (.ref a0)] [(.int len), (.int (0 : Int32)), (.ref b), (.ref bts1), (.ref bts1)])) rfl (hb hby dts_13)
  refine stp (fun t k => stts4 t k) ?_
  show W (Tts4.setTop (mkF m 16 #[.val (.ref a0)] [(.ref kA), (.int len), (.int (0 : Int32)), (.ref b), (.ref bts1), (.ref bts1)]))
  rcases Nat.eq_zero_or_pos cn with hc0 | hc0
  · show W (Tts4.setTop (mkF m 16 #[.val (.ref a0)] [(.ref kA), (.int len), (.int (0 : Int32)), (.ref b), (.ref bts1), (.ref bts1)]))
    obtain ⟨_, _, ⟨Ttsc5, Ltsc5, ktsc5, ntsc5⟩, -, Xtsc5, hStsc5, hGtsc5, ⟨Lctsc5, hQtsc5, ltsc5, ytsc5, ztsc5, hCtsc5⟩, sttsc5⟩ := Xts4.specialBackS hx (y := (⟨"java/lang/String", "<init>", "([BIILjava/nio/charset/Charset;)V"⟩ : MethodName)) rfl hown (mvT hZ (hw _ (List.mem_of_getElem? (i := 46) rfl))) (mvT hZ (hw _ (List.mem_of_getElem? (i := 47) rfl))) (mvT hZ (hw _ (List.mem_of_getElem? (i := 48) rfl))) (by decide) (backOfSH (W := 1) (rmj0 l Z aa hw [] bts1 b (0 : Int32) len kA wc sx kU kI kb G g hts1 n0 Zts1 BW Ots1 BC E_bts1 F_value_bts1 F_coder_bts1 g_bts1 V_b rfl (own_len0 hlen hc0)) hZ (hw _ (List.mem_of_getElem? (i := 48) rfl)) (hw _ (List.mem_of_getElem? (i := 43) rfl)) (by decide) (by decide) hEL CC.2.1) (g := (mkF m 16 #[.val (.ref a0)] [(.ref kA), (.int len), (.int (0 : Int32)), (.ref b), (.ref bts1), (.ref bts1)])) rfl (by rw [hml]; rfl) (Steps.refl _) (a := bts1) (argsL := [(.ref b), (.int (0 : Int32)), (.int len), (.ref kA)]) (rest := [(.ref bts1)]) (lenOf pdts_0 rfl) rfl (by show 2 * 0 + _ ≤ _; exact Nat.le_of_eq rfl) (hb hby dts_16) (fun _ _ => ⟨rfl, ets4, (by decide : 1 + 4 ≤ _), (by decide : 4 + 8 ≤ _)⟩)
    dsimp only [Pt.U, Pt.locs, Pt.cells, Pt.slots] at Xtsc5 ltsc5 ytsc5 ztsc5 sttsc5 hQtsc5
    subst ltsc5 ytsc5 ztsc5
    obtain ⟨rfl, Ntsc5q, Kqtsc5, btsc5, S_tsc5⟩ := hQtsc5
    have Ntsc5 := Fr.app N0 Ntsc5q
    dsimp only [Pt.U] at hStsc5 hGtsc5 hCtsc5
    rw [ets4] at hGtsc5
    obtain ⟨vmtsc5, ⟨lctsc5, Xtsc5, Ntsc5⟩, CCtsc5, hZ, hown⟩ : ∃ vm, (∃ lc, Stand p l e ({ frames := 5, cells := 5, slots := 12, locals := 88 } : Room) (s.setVm vm) m #[(.ref a0)] below meth c Ttsc5 lc 5 12 ∧ Fr n0 lc) ∧ OwnC Z ownEL s vm Ttsc5.heap ∧ Z.Warmed39 (s.setVm vm).vm ∧ (s.setVm vm).vm.findClass "com/example/opuscule/opuscule/json/LineBuffer" = some m.cls := ⟨_, ⟨_, Xtsc5, Ntsc5⟩, CC.reb hStsc5 hGtsc5 hCtsc5, State.Warmed39.trans hZ hStsc5.1, (hStsc5.1.alike.findClass _ _).trans hown⟩
    replace CC := CCtsc5
    obtain ⟨htsc5, etsc5⟩ : ∃ h, Ttsc5.heap = h := ⟨_, rfl⟩
    rw [etsc5] at Kqtsc5 S_tsc5 CC
    replace E_a0 := E_a0.keep Kqtsc5
    replace F_bytes_a0 := F_bytes_a0.keep Kqtsc5 (ninS ne_a0_bts1 nin0)
    replace F_length_a0 := F_length_a0.keep Kqtsc5 (ninS ne_a0_bts1 nin0)
    replace F_limit_a0 := F_limit_a0.keep Kqtsc5 (ninS ne_a0_bts1 nin0)
    replace V_b := V_b.keep Kqtsc5 (ninS ne_b_bts1 nin0)
    have KKtsc5 := Keep.trans Kts1 Kqtsc5 (allS (Or.inr sz_bts1) all0)
    have Ztsc5 := Nat.le_trans Zts1 Kqtsc5.1
    have Otsc5 := Ots1.keep Kqtsc5 (allS g_bts1 all0)
    refine stp (fun t k => sttsc5.trans k) ?_
    show W (Ttsc5.setTop (mkF m 19 #[.val (.ref a0)] [(.ref bts1)]))
    show W (Ttsc5.setTop (mkF m 19 #[.val (.ref a0)] [(.ref bts1)]))
    rw [← hW]
    exact own_W hZ hEL CC (own_retR Xtsc5 hx Bd.notSynchronized Bd.returns rfl (hb hby dts_19) (by show Qts Z a0 wc sx kU kI kA b kb len lim G cn g h0 n0 _ Ttsc5.heap _ ∧ Ttsc5.heap = htsc5; rw [etsc5]; exact ⟨⟨bts1, btsc5, rfl, Ntsc5, KKtsc5, own_strEq hc0.symm S_tsc5⟩, rfl⟩) (by decide) (by decide))
  · show W (Tts4.setTop (mkF m 16 #[.val (.ref a0)] [(.ref kA), (.int len), (.int (0 : Int32)), (.ref b), (.ref bts1), (.ref bts1)]))
    obtain ⟨_, _, ⟨Ttsc6, Ltsc6, ktsc6, ntsc6⟩, -, Xtsc6, ⟨Lctsc6, hQtsc6, ltsc6, ytsc6, ztsc6⟩, sttsc6⟩ := Xts4.specialBack hx (y := (⟨"java/lang/String", "<init>", "([BIILjava/nio/charset/Charset;)V"⟩ : MethodName)) rfl hown (mvT hZ (hw _ (List.mem_of_getElem? (i := 46) rfl))) (mvT hZ (hw _ (List.mem_of_getElem? (i := 47) rfl))) (mvT hZ (hw _ (List.mem_of_getElem? (i := 48) rfl))) (by decide) (backOf (W := 1) (rmj1 l Z aa hw [] bts1 b (0 : Int32) len kA wc sx kU kI kb G cn g hts1 n0 Zts1 BW Ots1 BC E_bts1 F_value_bts1 F_coder_bts1 g_bts1 V_b (Ne.symm ne_b_bts1) rfl hlen hc0 hcn hg hGg) hZ (hw _ (List.mem_of_getElem? (i := 48) rfl)) (hw _ (List.mem_of_getElem? (i := 43) rfl)) (by decide) (by decide)) (g := (mkF m 16 #[.val (.ref a0)] [(.ref kA), (.int len), (.int (0 : Int32)), (.ref b), (.ref bts1), (.ref bts1)])) rfl (by rw [hml]; rfl) (Steps.refl _) (a := bts1) (argsL := [(.ref b), (.int (0 : Int32)), (.int len), (.ref kA)]) (rest := [(.ref bts1)]) (lenOf pdts_0 rfl) rfl (by show 2 * 0 + _ ≤ _; exact Nat.le_of_eq rfl) (hb hby dts_16) (fun _ _ => ⟨rfl, ets4, (by decide : 1 + 1 ≤ _), (by decide : 4 + 4 ≤ _)⟩)
    dsimp only [Pt.U, Pt.locs, Pt.cells, Pt.slots] at Xtsc6 ltsc6 ytsc6 ztsc6 sttsc6 hQtsc6
    subst ltsc6 ytsc6 ztsc6
    obtain ⟨rfl, Ntsc6q, Kqtsc6, btsc6, S_tsc6⟩ := hQtsc6
    have Ntsc6 := Fr.app N0 Ntsc6q
    obtain ⟨lctst7, Xtsc6, Ntsc6⟩ : ∃ lc, Stand p l e ({ frames := 5, cells := 5, slots := 12, locals := 88 } : Room) (s.setVm vm0) m #[(.ref a0)] below meth c Ttsc6 lc 2 8 ∧ Fr n0 lc := ⟨_, Xtsc6, Ntsc6⟩
    obtain ⟨htsc6, etsc6⟩ : ∃ h, Ttsc6.heap = h := ⟨_, rfl⟩
    rw [etsc6] at Kqtsc6 S_tsc6
    have SF_bts1 : Safe Z ownEL vm0 _ bts1 := (own_safeNull hZ.alike E_bts1 F_value_bts1)
    have SFk : ∀ x ∈ ([bts1] : List Addr), Safe Z ownEL vm0 _ x := (sfS SF_bts1 sf0)
    replace SF_bts1 := Safe.keep Kqtsc6 SFk CC.2.1 SF_bts1
    replace CC := CC.keep Kqtsc6 SFk
    clear SFk
    replace E_a0 := E_a0.keep Kqtsc6
    replace F_bytes_a0 := F_bytes_a0.keep Kqtsc6 (ninS ne_a0_bts1 nin0)
    replace F_length_a0 := F_length_a0.keep Kqtsc6 (ninS ne_a0_bts1 nin0)
    replace F_limit_a0 := F_limit_a0.keep Kqtsc6 (ninS ne_a0_bts1 nin0)
    replace V_b := V_b.keep Kqtsc6 (ninS ne_b_bts1 nin0)
    have KKtsc6 := Keep.trans Kts1 Kqtsc6 (allS (Or.inr sz_bts1) all0)
    have Ztsc6 := Nat.le_trans Zts1 Kqtsc6.1
    have Otsc6 := Ots1.keep Kqtsc6 (allS g_bts1 all0)
    refine stp (fun t k => sttsc6.trans k) ?_
    show W (Ttsc6.setTop (mkF m 19 #[.val (.ref a0)] [(.ref bts1)]))
    show W (Ttsc6.setTop (mkF m 19 #[.val (.ref a0)] [(.ref bts1)]))
    rw [← hW]
    exact own_W hZ hEL CC (own_retR Xtsc6 hx Bd.notSynchronized Bd.returns rfl (hb hby dts_19) (by show Qts Z a0 wc sx kU kI kA b kb len lim G cn g h0 n0 _ Ttsc6.heap _ ∧ Ttsc6.heap = htsc6; rw [etsc6]; exact ⟨⟨bts1, btsc6, rfl, Ntsc6, KKtsc6, S_tsc6⟩, rfl⟩) (by decide) (by decide))
theorem die_0 : decode jdk_42_method_55_code 0 = .ok (.aload_n 0, 1) := by decide +kernel
theorem die_1 : decode jdk_42_method_55_code 1 = .ok (.getfield 9, 3) := by decide +kernel
theorem die_4 : decode jdk_42_method_55_code 4 = .ok (.arraylength, 1) := by decide +kernel
theorem die_5 : decode jdk_42_method_55_code 5 = .ok (.ifCond .ne 7, 3) := by decide +kernel
theorem die_8 : decode jdk_42_method_55_code 8 = .ok (.iconst 1, 1) := by decide +kernel
theorem die_9 : decode jdk_42_method_55_code 9 = .ok (.goto 4, 3) := by decide +kernel
theorem die_12 : decode jdk_42_method_55_code 12 = .ok (.iconst 0, 1) := by decide +kernel
theorem die_13 : decode jdk_42_method_55_code 13 = .ok (.ireturn, 1) := by decide +kernel
theorem pnie : plainName "java/lang/String" = true := by first | (simp [plainName, overriddenIn]; done) | decide +kernel
theorem efie (m : MethodId) (a0 : Addr) : entryFrame m #[(.ref a0)] 1 = mkF m 0 #[.val (.ref a0)] [] := by first | (simp [entryFrame, mkF, argsToLocals, Value.category]; done) | rfl
def fie (z : Int32) : Int32 := (if z = (0 : Int32) then (1 : Int32) else (0 : Int32))
def Qie (Z : State) (a0 : Addr) (wc : Int32) (sx : Value) (b : Addr) (kb : ClassId) (z : Int32) (vs : List Value) (h0 : Heap) (n0 : Nat) (v : Option Value) (h : Heap) (L : List Loc) : Prop := v = some (.int (fie z)) ∧ Fr n0 L ∧ h = h0
set_option maxRecDepth 65536 in
set_option maxHeartbeats 40000000 in
theorem rmie (l : Launch) (Z : State) (aa : Array Value) (hw : ∀ d ∈ tables_1, d.before aa Z = true) (ws : List Jvm.Cond) (a0 : Addr) (wc : Int32) (sx : Value) (b : Addr) (kb : ClassId) (z : Int32) (vs : List Value) (h0 : Heap) (n0 : Nat) (Z0 : n0 ≤ h0.size) (BW : OwnW Z wc sx) (O0 : Old Z n0 h0) (F_value_a0 : Fld Z h0 a0 "java/lang/String" "value" "[B" (.ref b)) (V_b : Arv Z h0 b kb .byte z vs (.int (0 : Int32))) :
    MetFree l (⟨"java/lang/String", "isEmpty", "()Z"⟩ : MethodName) (head1 (Jvm.Cond.code (⟨"java/lang/String", "isEmpty", "()Z"⟩ : MethodName) jdk_42_method_55_code 1 (some .boolean) :: ws) ({ frames := 0, cells := 0, slots := 0, locals := 0 } : Room)) (fun a U => a = #[(.ref a0)] ∧ Z.Warmed39 U.vm ∧ U.heap = h0) (fun _ _ _ _ _ => True) (fun _ U o U' => ∃ v L, o = .returned v ∧ Qie Z a0 wc sx b kb z vs h0 n0 v U'.heap L ∧ FrameEnd U o U' L ({ frames := 0, cells := 0, slots := 0, locals := 0 } : Room).cells ({ frames := 0, cells := 0, slots := 0, locals := 0 } : Room).slots) := by
  refine MetFree.of_bodySF (plainFor_of_name pnie) hisR ?_
  intro p e s m args below meth c s₁ Bd hml0 hP hK
  obtain ⟨rfl, hZ, hh⟩ := hP
  have hx := Bd.exec
  have hby := Bd.bytes
  have hml : c.maxLocals = 1 := hml0
  have hown : s.vm.findClass "java/lang/String" = some m.cls := findClass_of_methodNamed Bd.named
  have hnm := (name_of_methodNamed Bd.named Bd.method).1
  have X0 : Stand p l e ({ frames := 0, cells := 0, slots := 0, locals := 0 } : Room) s m #[(.ref a0)] below meth c s₁ [] 0 0 := Stand.of_body Bd
  have e0 : s₁.heap = h0 := by rw [← hh, Bd.state]; rfl
  have N0 := Fr.nil n0
  show OwnEnd p e below s (fun v h L => Qie Z a0 wc sx b kb z vs h0 n0 v h L) ({ frames := 0, cells := 0, slots := 0, locals := 0 } : Room).cells ({ frames := 0, cells := 0, slots := 0, locals := 0 } : Room).slots (s₁.setTop (entryFrame m #[(.ref a0)] 1))
  rw [efie m a0]
  generalize hW : OwnEnd p e below s (fun v h L => Qie Z a0 wc sx b kb z vs h0 n0 v h L) ({ frames := 0, cells := 0, slots := 0, locals := 0 } : Room).cells ({ frames := 0, cells := 0, slots := 0, locals := 0 } : Room).slots = W
  have stp : ∀ {A B : State}, (∀ t, Steps p.tables e below B t → Steps p.tables e below A t) → W B → W A := by subst hW; exact own_step
  obtain ⟨S_cs, hcs, S_si, hr_sx⟩ := id BW
  show W (s₁.setTop (mkF m 0 #[.val (.ref a0)] []))
  refine stp (fun t k => XS.aloadN X0.here hx rfl (hb hby die_0) rfl rfl k) ?_
  show W (s₁.setTop (mkF m 1 #[.val (.ref a0)] [(.ref a0)]))
  obtain ⟨Tie1, Xie1, eie1, stie1⟩ := getF X0 hx hZ hown (host := "") (Or.inl (hw _ (List.mem_of_getElem? (i := 73) rfl))) Via.refl e0 F_value_a0 (g := (mkF m 1 #[.val (.ref a0)] [(.ref a0)])) rfl rfl (hb hby die_1)
  refine stp (fun t k => stie1 t k) ?_
  show W (Tie1.setTop (mkF m 4 #[.val (.ref a0)] [(.ref b)]))
  obtain ⟨clie2, Arie2, qkie2, qsie2, qnie2, qhie2, qgie2⟩ := id V_b
  refine stp (fun t k => Xie1.arraylength hx (by rw [eie1]; exact Arie2.1) (State.isArrayOf_alike hZ.alike Arie2.2.1) (g := (mkF m 4 #[.val (.ref a0)] [(.ref b)])) rfl rfl (hb hby die_4) _ k) ?_
  rw [len_of qsie2 qnie2]
  show W (Tie1.setTop (mkF m 5 #[.val (.ref a0)] [(.int z)]))
  by_cases hcie_3 : z = (0 : Int32)
  · refine stp (fun t k => XS.ifNo Xie1.here hx rfl (hb hby die_5) rfl ((if0 _ _).trans (teq hcie_3).2) k) ?_
    show W (Tie1.setTop (mkF m 8 #[.val (.ref a0)] []))
    refine stp (fun t k => XS.iconst Xie1.here hx rfl (hb hby die_8) k) ?_
    show W (Tie1.setTop (mkF m 9 #[.val (.ref a0)] [(.int (1 : Int32))]))
    refine stp (fun t k => XS.goto Xie1.here hx rfl (pc0 := 9) (pc' := 13) rfl (hb hby die_9) (by decide) (by decide) k) ?_
    show W (Tie1.setTop (mkF m 13 #[.val (.ref a0)] [(.int (1 : Int32))]))
    show W (Tie1.setTop (mkF m 13 #[.val (.ref a0)] [(.int (1 : Int32))]))
    rw [← hW]
    exact own_retN Xie1 hx Bd.notSynchronized Bd.returns (w := (1 : Int32)) (by simp) (hb hby die_13) rfl (by show Qie Z a0 wc sx b kb z vs h0 n0 _ Tie1.heap _; rw [eie1]; exact ⟨(by rw [fie, if_pos hcie_3]), N0, rfl⟩) (by decide) (by decide)
  · refine stp (fun t k => XS.ifYes Xie1.here hx rfl (pc0 := 5) (pc' := 12) rfl (hb hby die_5) rfl ((if0 _ _).trans (feq hcie_3).2) (by decide) (by decide) k) ?_
    show W (Tie1.setTop (mkF m 12 #[.val (.ref a0)] []))
    refine stp (fun t k => XS.iconst Xie1.here hx rfl (hb hby die_12) k) ?_
    show W (Tie1.setTop (mkF m 13 #[.val (.ref a0)] [(.int (0 : Int32))]))
    show W (Tie1.setTop (mkF m 13 #[.val (.ref a0)] [(.int (0 : Int32))]))
    rw [← hW]
    exact own_retN Xie1 hx Bd.notSynchronized Bd.returns (w := (0 : Int32)) (by simp) (hb hby die_13) rfl (by show Qie Z a0 wc sx b kb z vs h0 n0 _ Tie1.heap _; rw [eie1]; exact ⟨(by rw [fie, if_neg hcie_3]), N0, rfl⟩) (by decide) (by decide)
theorem dat_0 : decode method_3_code 0 = .ok (.iload_n 2, 1) := by decide +kernel
theorem dat_1 : decode method_3_code 1 = .ok (.iload_n 3, 1) := by decide +kernel
theorem dat_2 : decode method_3_code 2 = .ok (.if_icmp .ge 14, 3) := by decide +kernel
theorem dat_5 : decode method_3_code 5 = .ok (.aload_n 0, 1) := by decide +kernel
theorem dat_6 : decode method_3_code 6 = .ok (.iload_n 2, 1) := by decide +kernel
theorem dat_7 : decode method_3_code 7 = .ok (.invokevirtual 39, 3) := by decide +kernel
theorem dat_10 : decode method_3_code 10 = .ok (.aload_n 1, 1) := by decide +kernel
theorem dat_11 : decode method_3_code 11 = .ok (.iload_n 2, 1) := by decide +kernel
theorem dat_12 : decode method_3_code 12 = .ok (.caload, 1) := by decide +kernel
theorem dat_13 : decode method_3_code 13 = .ok (.if_icmp .ne 7, 3) := by decide +kernel
theorem dat_16 : decode method_3_code 16 = .ok (.iconst 1, 1) := by decide +kernel
theorem dat_17 : decode method_3_code 17 = .ok (.goto 4, 3) := by decide +kernel
theorem dat_21 : decode method_3_code 21 = .ok (.ireturn, 1) := by decide +kernel
theorem pnat : plainName "com/example/opuscule/opuscule/json/LineBufferStartPinLaw" = true := by first | (simp [plainName, overriddenIn]; done) | decide +kernel
theorem pdat_0 : parseMethodDescriptor "(I)C" = some ⟨[.int], some .char⟩ := by decide +kernel
theorem efat (m : MethodId) (a0 : Addr) (a1 : Addr) (p2 : Int32) (p3 : Int32) : entryFrame m #[(.ref a0), (.ref a1), (.int p2), (.int p3)] 4 = mkF m 0 #[.val (.ref a0), .val (.ref a1), .val (.int p2), .val (.int p3)] [] := by first | (simp [entryFrame, mkF, argsToLocals, Value.category]; done) | rfl
def Qat (Z : State) (a0 : Addr) (a1 : Addr) (p2 : Int32) (p3 : Int32) (wc : Int32) (sx : Value) (cs : Addr) (cn : Nat) (cg : Nat → Int32) (ka : ClassId) (i : Nat) (h0 : Heap) (n0 : Nat) (v : Option Value) (h : Heap) (L : List Loc) : Prop := v = some (.int (1 : Int32)) ∧ Fr n0 L ∧ h = h0
set_option maxRecDepth 65536 in
set_option maxHeartbeats 40000000 in
theorem rmat (l : Launch) (Z : State) (aa : Array Value) (hw : ∀ d ∈ tables_1, d.before aa Z = true) (ws : List Jvm.Cond) (a0 : Addr) (a1 : Addr) (p2 : Int32) (p3 : Int32) (wc : Int32) (sx : Value) (cs : Addr) (cn : Nat) (cg : Nat → Int32) (ka : ClassId) (i : Nat) (h0 : Heap) (n0 : Nat) (Z0 : n0 ≤ h0.size) (BW : OwnW Z wc sx) (O0 : Old Z n0 h0) (S_a0 : OwnStr Z h0 a0 cs cn cg) (hn : cn ≤ 4000) (hch : ∀ j, j < cn → 0 ≤ (cg j).toInt ∧ (cg j).toInt < 65536) (V_a1 : Arv Z h0 a1 ka .char (Int32.ofNat 4) (own_vs 4 cg) (.int (0 : Int32))) (hp2 : p2.toInt = (i : Int)) (hi : i < 4) (hp3 : p3.toInt = (cn : Int)) :
    MetFree l (⟨"com/example/opuscule/opuscule/json/LineBufferStartPinLaw", "at", "(Ljava/lang/String;[CII)Z"⟩ : MethodName) (head1 (Jvm.Cond.code (⟨"com/example/opuscule/opuscule/json/LineBufferStartPinLaw", "at", "(Ljava/lang/String;[CII)Z"⟩ : MethodName) method_3_code 4 (some .boolean) :: ws) ({ frames := 4, cells := 0, slots := 0, locals := 53 } : Room)) (fun a U => a = #[(.ref a0), (.ref a1), (.int p2), (.int p3)] ∧ Z.Warmed39 U.vm ∧ U.heap = h0) (fun _ _ _ _ _ => True) (fun _ U o U' => ∃ v L, o = .returned v ∧ Qat Z a0 a1 p2 p3 wc sx cs cn cg ka i h0 n0 v U'.heap L ∧ FrameEnd U o U' L ({ frames := 4, cells := 0, slots := 0, locals := 53 } : Room).cells ({ frames := 4, cells := 0, slots := 0, locals := 53 } : Room).slots) := by
  refine MetFree.of_bodySF (plainFor_of_name pnat) hisR ?_
  intro p e s m args below meth c s₁ Bd hml0 hP hK
  obtain ⟨rfl, hZ, hh⟩ := hP
  have hx := Bd.exec
  have hby := Bd.bytes
  have hml : c.maxLocals = 4 := hml0
  have hown : s.vm.findClass "com/example/opuscule/opuscule/json/LineBufferStartPinLaw" = some m.cls := findClass_of_methodNamed Bd.named
  have hnm := (name_of_methodNamed Bd.named Bd.method).1
  have X0 : Stand p l e ({ frames := 4, cells := 0, slots := 0, locals := 53 } : Room) s m #[(.ref a0), (.ref a1), (.int p2), (.int p3)] below meth c s₁ [] 0 0 := Stand.of_body Bd
  have e0 : s₁.heap = h0 := by rw [← hh, Bd.state]; rfl
  have N0 := Fr.nil n0
  show OwnEnd p e below s (fun v h L => Qat Z a0 a1 p2 p3 wc sx cs cn cg ka i h0 n0 v h L) ({ frames := 4, cells := 0, slots := 0, locals := 53 } : Room).cells ({ frames := 4, cells := 0, slots := 0, locals := 53 } : Room).slots (s₁.setTop (entryFrame m #[(.ref a0), (.ref a1), (.int p2), (.int p3)] 4))
  rw [efat m a0 a1 p2 p3]
  generalize hW : OwnEnd p e below s (fun v h L => Qat Z a0 a1 p2 p3 wc sx cs cn cg ka i h0 n0 v h L) ({ frames := 4, cells := 0, slots := 0, locals := 53 } : Room).cells ({ frames := 4, cells := 0, slots := 0, locals := 53 } : Room).slots = W
  have stp : ∀ {A B : State}, (∀ t, Steps p.tables e below B t → Steps p.tables e below A t) → W B → W A := by subst hW; exact own_step
  obtain ⟨S_cs, hcs, S_si, hr_sx⟩ := id BW
  have h4 := own_ofNat (n := 4) (by decide)
  show W (s₁.setTop (mkF m 0 #[.val (.ref a0), .val (.ref a1), .val (.int p2), .val (.int p3)] []))
  refine stp (fun t k => XS.iloadN X0.here hx rfl (hb hby dat_0) rfl k) ?_
  show W (s₁.setTop (mkF m 1 #[.val (.ref a0), .val (.ref a1), .val (.int p2), .val (.int p3)] [(.int p2)]))
  refine stp (fun t k => XS.iloadN X0.here hx rfl (hb hby dat_1) rfl k) ?_
  show W (s₁.setTop (mkF m 2 #[.val (.ref a0), .val (.ref a1), .val (.int p2), .val (.int p3)] [(.int p3), (.int p2)]))
  by_cases hcat_1 : p2 < p3
  · refine stp (fun t k => XS.icmpNo X0.here hx rfl (hb hby dat_2) rfl ((tlt hcat_1).2.1) k) ?_
    show W (s₁.setTop (mkF m 5 #[.val (.ref a0), .val (.ref a1), .val (.int p2), .val (.int p3)] []))
    refine stp (fun t k => XS.aloadN X0.here hx rfl (hb hby dat_5) rfl rfl k) ?_
    show W (s₁.setTop (mkF m 6 #[.val (.ref a0), .val (.ref a1), .val (.int p2), .val (.int p3)] [(.ref a0)]))
    refine stp (fun t k => XS.iloadN X0.here hx rfl (hb hby dat_6) rfl k) ?_
    show W (s₁.setTop (mkF m 7 #[.val (.ref a0), .val (.ref a1), .val (.int p2), .val (.int p3)] [(.int p2), (.ref a0)]))
    obtain ⟨cqatc2, kqatc2, qatc2a, qatc2b, qatc2c⟩ := isOf hZ e0 S_a0.1
    obtain ⟨_, _, ⟨Tatc2, Latc2, katc2, natc2⟩, -, Xatc2, ⟨Lcatc2, hQatc2, latc2, yatc2, zatc2⟩, statc2⟩ := X0.virtualBack hx (y := (⟨"java/lang/String", "charAt", "(I)C"⟩ : MethodName)) (z := (⟨"java/lang/String", "charAt", "(I)C"⟩ : MethodName)) hown (mvT hZ (hw _ (List.mem_of_getElem? (i := 126) rfl))) (mvT hZ (hw _ (List.mem_of_getElem? (i := 127) rfl))) (notFace_of_selects (args := #[]) (mvT hZ (hw _ (List.mem_of_getElem? (i := 129) rfl)))) (mvT hZ (hw _ (List.mem_of_getElem? (i := 129) rfl))) (mvT hZ (hw _ (List.mem_of_getElem? (i := 128) rfl))) (by decide) (backOf (W := 0) (rmcA l Z aa hw [] a0 p2 wc sx cs cn cg i h0 n0 Z0 BW O0 S_a0 hn hch hp2 ((own_lt32 hp2 hp3).mp hcat_1)) hZ (hw _ (List.mem_of_getElem? (i := 130) rfl)) (hw _ (List.mem_of_getElem? (i := 43) rfl)) (by decide) (by decide)) qatc2a qatc2c (g := (mkF m 7 #[.val (.ref a0), .val (.ref a1), .val (.int p2), .val (.int p3)] [(.int p2), (.ref a0)])) rfl (by rw [hml]; rfl) (Steps.refl _) (argsL := [(.int p2)]) (rest := []) (lenOf pdat_0 rfl) rfl (by show 2 * 0 + _ ≤ _; exact Nat.le_of_eq rfl) (hb hby dat_7) (fun _ _ => ⟨rfl, e0, (by decide : 0 + 0 ≤ _), (by decide : 0 + 0 ≤ _)⟩)
    dsimp only [Pt.U, Pt.locs, Pt.cells, Pt.slots] at Xatc2 latc2 yatc2 zatc2 statc2 hQatc2
    subst latc2 yatc2 zatc2
    obtain ⟨rfl, Natc2q, eatc2⟩ := hQatc2
    have Natc2 := Fr.app N0 Natc2q
    obtain ⟨lcatt3, Xatc2, Natc2⟩ : ∃ lc, Stand p l e ({ frames := 4, cells := 0, slots := 0, locals := 53 } : Room) s m #[(.ref a0), (.ref a1), (.int p2), (.int p3)] below meth c Tatc2 lc 0 0 ∧ Fr n0 lc := ⟨_, Xatc2, Natc2⟩
    refine stp (fun t k => statc2.trans k) ?_
    show W (Tatc2.setTop (mkF m 10 #[.val (.ref a0), .val (.ref a1), .val (.int p2), .val (.int p3)] [(.int (cg i))]))
    refine stp (fun t k => XS.aloadN Xatc2.here hx rfl (hb hby dat_10) rfl rfl k) ?_
    show W (Tatc2.setTop (mkF m 11 #[.val (.ref a0), .val (.ref a1), .val (.int p2), .val (.int p3)] [(.ref a1), (.int (cg i))]))
    refine stp (fun t k => XS.iloadN Xatc2.here hx rfl (hb hby dat_11) rfl k) ?_
    show W (Tatc2.setTop (mkF m 12 #[.val (.ref a0), .val (.ref a1), .val (.int p2), .val (.int p3)] [(.int p2), (.ref a1), (.int (cg i))]))
    obtain ⟨clat4, Arat4, qkat4, qsat4, qnat4, qhat4, qgat4⟩ := id V_a1
    have hinat4 : ¬ (p2 < 0 ∨ clat4.slots.size ≤ (p2).toNatClampNeg) := inb_of qsat4 ⟨own_nn hp2, (own_lt32 hp2 h4).mpr hi⟩
    have hatat4 : clat4.slots[(p2).toNatClampNeg]? = some (.int (cg i)) := qhat4.at hinat4 (by rw [own_clamp hp2, own_vsGet hi])
    refine stp (fun t k => Xatc2.caload hx (j := p2) (v := (.int (cg i))) (by rw [eatc2]; exact Arat4.1) (State.isArrayOf_alike hZ.alike Arat4.2.1) Arat4.2.2 hinat4 hatat4 (g := (mkF m 12 #[.val (.ref a0), .val (.ref a1), .val (.int p2), .val (.int p3)] [(.int p2), (.ref a1), (.int (cg i))])) rfl rfl (hb hby dat_12) _ k) ?_
    show W (Tatc2.setTop (mkF m 13 #[.val (.ref a0), .val (.ref a1), .val (.int p2), .val (.int p3)] [(.int (cg i)), (.int (cg i))]))
    refine stp (fun t k => XS.icmpNo Xatc2.here hx rfl (hb hby dat_13) rfl ((teq (rfl)).2) k) ?_
    show W (Tatc2.setTop (mkF m 16 #[.val (.ref a0), .val (.ref a1), .val (.int p2), .val (.int p3)] []))
    refine stp (fun t k => XS.iconst Xatc2.here hx rfl (hb hby dat_16) k) ?_
    show W (Tatc2.setTop (mkF m 17 #[.val (.ref a0), .val (.ref a1), .val (.int p2), .val (.int p3)] [(.int (1 : Int32))]))
    refine stp (fun t k => XS.goto Xatc2.here hx rfl (pc0 := 17) (pc' := 21) rfl (hb hby dat_17) (by decide) (by decide) k) ?_
    show W (Tatc2.setTop (mkF m 21 #[.val (.ref a0), .val (.ref a1), .val (.int p2), .val (.int p3)] [(.int (1 : Int32))]))
    show W (Tatc2.setTop (mkF m 21 #[.val (.ref a0), .val (.ref a1), .val (.int p2), .val (.int p3)] [(.int (1 : Int32))]))
    rw [← hW]
    exact own_retN Xatc2 hx Bd.notSynchronized Bd.returns (w := (1 : Int32)) (by simp) (hb hby dat_21) rfl (by show Qat Z a0 a1 p2 p3 wc sx cs cn cg ka i h0 n0 _ Tatc2.heap _; rw [eatc2]; exact ⟨rfl, Natc2, rfl⟩) (by decide) (by decide)
  · refine stp (fun t k => XS.icmpYes X0.here hx rfl (pc0 := 2) (pc' := 16) rfl (hb hby dat_2) rfl ((flt hcat_1).2.1) (by decide) (by decide) k) ?_
    show W (s₁.setTop (mkF m 16 #[.val (.ref a0), .val (.ref a1), .val (.int p2), .val (.int p3)] []))
    refine stp (fun t k => XS.iconst X0.here hx rfl (hb hby dat_16) k) ?_
    show W (s₁.setTop (mkF m 17 #[.val (.ref a0), .val (.ref a1), .val (.int p2), .val (.int p3)] [(.int (1 : Int32))]))
    refine stp (fun t k => XS.goto X0.here hx rfl (pc0 := 17) (pc' := 21) rfl (hb hby dat_17) (by decide) (by decide) k) ?_
    show W (s₁.setTop (mkF m 21 #[.val (.ref a0), .val (.ref a1), .val (.int p2), .val (.int p3)] [(.int (1 : Int32))]))
    show W (s₁.setTop (mkF m 21 #[.val (.ref a0), .val (.ref a1), .val (.int p2), .val (.int p3)] [(.int (1 : Int32))]))
    rw [← hW]
    exact own_retN X0 hx Bd.notSynchronized Bd.returns (w := (1 : Int32)) (by simp) (hb hby dat_21) rfl (by show Qat Z a0 a1 p2 p3 wc sx cs cn cg ka i h0 n0 _ s₁.heap _; rw [e0]; exact ⟨rfl, N0, rfl⟩) (by decide) (by decide)
theorem own_w16 {n : Nat} {g : Nat → Int32} (h : ∀ j, j < n → 0 ≤ (g j).toInt ∧ (g j).toInt < 128) : ∀ j, j < n → 0 ≤ (g j).toInt ∧ (g j).toInt < 65536 := fun j hj => ⟨(h j hj).1, by have := (h j hj).2; omega⟩
theorem pn0 : plainName "com/example/opuscule/opuscule/json/LineBufferStartPinLaw" = true := by first | (simp [plainName, overriddenIn]; done) | decide +kernel
theorem pd0_0 : parseMethodDescriptor "()V" = some ⟨[], none⟩ := by decide +kernel
theorem pd0_1 : parseMethodDescriptor "(J)V" = some ⟨[.long], none⟩ := by decide +kernel
theorem pd0_2 : parseMethodDescriptor "([CII)V" = some ⟨[(.array .char), .int, .int], none⟩ := by decide +kernel
theorem pd0_3 : parseMethodDescriptor "()Ljava/lang/String;" = some ⟨[], some (.object "java/lang/String")⟩ := by decide +kernel
theorem pd0_4 : parseMethodDescriptor "()Z" = some ⟨[], some .boolean⟩ := by decide +kernel
theorem pd0_5 : parseMethodDescriptor "()I" = some ⟨[], some .int⟩ := by decide +kernel
theorem pd0_6 : parseMethodDescriptor "(Ljava/lang/String;[CII)Z" = some ⟨[(.object "java/lang/String"), (.array .char), .int, .int], some .boolean⟩ := by decide +kernel
theorem ef0 (m : MethodId) (q0 : Int64) (p1 : Int32) (p2 : Int32) (p3 : Int32) : entryFrame m #[(.long q0), (.int p1), (.int p2), (.int p3)] maxLocals = mkF m 0 #[.val (.long q0), .second, .val (.int p1), .val (.int p2), .val (.int p3), .unset, .unset, .unset, .unset, .unset, .unset, .unset] [] := by first | (simp [entryFrame, mkF, argsToLocals, Value.category, maxLocals]; done) | rfl
def Q0 (Z : State) (q0 : Int64) (p1 : Int32) (p2 : Int32) (p3 : Int32) (wc : Int32) (sx : Value) (kU : Addr) (kI : Addr) (kA : Addr) (h0 : Heap) (n0 : Nat) (v : Option Value) (h : Heap) (L : List Loc) : Prop := v = some (.int (1 : Int32)) ∧ Fr n0 L
set_option maxRecDepth 65536 in
set_option maxHeartbeats 40000000 in
theorem rm0 (l : Launch) (Z : State) (aa : Array Value) (hw : ∀ d ∈ tables_1, d.before aa Z = true) (ws : List Jvm.Cond) (q0 : Int64) (p1 : Int32) (p2 : Int32) (p3 : Int32) (wc : Int32) (sx : Value) (kU : Addr) (kI : Addr) (kA : Addr) (h0 : Heap) (n0 : Nat) (Z0 : n0 ≤ h0.size) (BW : OwnW Z wc sx) (O0 : Old Z n0 h0) (BC : OwnCS Z kU kI kA) :
    MetFree l x (head1 (Jvm.Cond.code x code maxLocals ret :: ws) room_1) (fun a U => a = #[(.long q0), (.int p1), (.int p2), (.int p3)] ∧ Z.Warmed39 U.vm ∧ U.heap = h0 ∧ CHv Z ownEL U.vm h0) (fun _ _ _ _ _ => True) (fun _ U o U' => ∃ v L, o = .returned v ∧ Q0 Z q0 p1 p2 p3 wc sx kU kI kA h0 n0 v U'.heap L ∧ CHr Z ownEL U.vm U.heap U'.vm U'.heap ∧ ReturnedEndW U o U' L room_1.cells room_1.slots) := by
  refine MetFree.of_bodySF (plainFor_of_name pn0) hisR ?_
  intro p e s m args below meth c s₁ Bd hml0 hP hK
  obtain ⟨rfl, hZ, hh, hH⟩ := hP
  have hx := Bd.exec
  have hby := Bd.bytes
  have hml : c.maxLocals = 12 := hml0
  have hown : s.vm.findClass "com/example/opuscule/opuscule/json/LineBufferStartPinLaw" = some m.cls := findClass_of_methodNamed Bd.named
  have hnm := (name_of_methodNamed Bd.named Bd.method).1
  have X0 : Stand p l e room_1 s m #[(.long q0), (.int p1), (.int p2), (.int p3)] below meth c s₁ [] 0 0 := Stand.of_body Bd
  have e0 : s₁.heap = h0 := by rw [← hh, Bd.state]; rfl
  have N0 := Fr.nil n0
  have hEL := own_EW hw
  obtain ⟨vm0, X0, CC, hZ, hown⟩ : ∃ vm, Stand p l e room_1 (s.setVm vm) m #[(.long q0), (.int p1), (.int p2), (.int p3)] below meth c s₁ [] 0 0 ∧ OwnC Z ownEL s vm h0 ∧ Z.Warmed39 (s.setVm vm).vm ∧ (s.setVm vm).vm.findClass "com/example/opuscule/opuscule/json/LineBufferStartPinLaw" = some m.cls := ⟨s.vm, X0, OwnC.start hh hH, hZ, hown⟩
  show OwnEndW Z ownEL p e below s (fun v h L => Q0 Z q0 p1 p2 p3 wc sx kU kI kA h0 n0 v h L) room_1.cells room_1.slots (s₁.setTop (entryFrame m #[(.long q0), (.int p1), (.int p2), (.int p3)] maxLocals))
  rw [ef0 m q0 p1 p2 p3]
  generalize hW : OwnEndW Z ownEL p e below s (fun v h L => Q0 Z q0 p1 p2 p3 wc sx kU kI kA h0 n0 v h L) room_1.cells room_1.slots = W
  have stp : ∀ {A B : State}, (∀ t, Steps p.tables e below B t → Steps p.tables e below A t) → W B → W A := by subst hW; exact own_stepW
  obtain ⟨S_cs, hcs, S_si, hr_sx⟩ := id BW
  obtain ⟨C_u, C_i, C_a, C_s, nU, nI, C_x⟩ := id BC
  show W (s₁.setTop (mkF m 0 #[.val (.long q0), .second, .val (.int p1), .val (.int p2), .val (.int p3), .unset, .unset, .unset, .unset, .unset, .unset, .unset] []))
  obtain ⟨T01, h01, X01, e01, E01, A01, D01, -, st01⟩ := newO X0 hx hZ hown (hw _ (List.mem_of_getElem? (i := 0) rfl)) (hw _ (List.mem_of_getElem? (i := 1) rfl)) (hw _ (List.mem_of_getElem? (i := 2) rfl)) e0 (g := (mkF m 0 #[.val (.long q0), .second, .val (.int p1), .val (.int p2), .val (.int p3), .unset, .unset, .unset, .unset, .unset, .unset, .unset] [])) rfl (hb hby at_0) (by decide) (by decide)
  obtain ⟨b01, gq01⟩ : ∃ z, z = h0.size := ⟨_, rfl⟩
  rw [← gq01] at A01 D01 st01
  replace CC := CC.ext E01
  have g_b01 : n0 ≤ b01 := Nat.le_trans Z0 (Nat.le_of_eq gq01.symm)
  have sz_b01 : h0.size ≤ b01 := Nat.le_trans (Keep.refl h0 []).1 (Nat.le_of_eq gq01.symm)
  have K01 := (Keep.refl h0 []).ext E01
  have Z01 := Nat.le_trans Z0 E01.1
  have O01 := O0.ext E01
  have E_b01 := A01
  have F_lock_b01 : Fld Z h01 b01 "java/io/Writer" "lock" "Ljava/lang/Object;" .null := D01 (Or.inl (hw _ (List.mem_of_getElem? (i := 15) rfl))) (ty := (.object "java/lang/Object")) (by decide)
  have F_bytes_b01 : Fld Z h01 b01 "com/example/opuscule/opuscule/json/LineBuffer" "bytes" "[B" .null := D01 (Or.inl (hw _ (List.mem_of_getElem? (i := 18) rfl))) (ty := (.array .byte)) (by decide)
  have F_length_b01 : Fld Z h01 b01 "com/example/opuscule/opuscule/json/LineBuffer" "length" "I" (.int (0 : Int32)) := D01 (Or.inl (hw _ (List.mem_of_getElem? (i := 28) rfl))) (ty := .int) (by decide)
  have F_limit_b01 : Fld Z h01 b01 "com/example/opuscule/opuscule/json/LineBuffer" "limit" "J" (.long (0 : Int64)) := D01 (Or.inl (hw _ (List.mem_of_getElem? (i := 30) rfl))) (ty := .long) (by decide)
  refine stp (fun t k => st01 t k) ?_
  show W (T01.setTop (mkF m 3 #[.val (.long q0), .second, .val (.int p1), .val (.int p2), .val (.int p3), .unset, .unset, .unset, .unset, .unset, .unset, .unset] [(.ref b01)]))
  refine stp (fun t k => XS.dup X01.here hx rfl (hb hby at_3) rfl rfl k) ?_
  show W (T01.setTop (mkF m 4 #[.val (.long q0), .second, .val (.int p1), .val (.int p2), .val (.int p3), .unset, .unset, .unset, .unset, .unset, .unset, .unset] [(.ref b01), (.ref b01)]))
  obtain ⟨_, _, ⟨T0c2, L0c2, k0c2, n0c2⟩, -, X0c2, ⟨Lc0c2, hQ0c2, l0c2, y0c2, z0c2⟩, st0c2⟩ := X01.specialBack hx (y := (⟨"com/example/opuscule/opuscule/json/LineBuffer", "<init>", "()V"⟩ : MethodName)) rfl hown (mvT hZ (hw _ (List.mem_of_getElem? (i := 3) rfl))) (mvT hZ (hw _ (List.mem_of_getElem? (i := 4) rfl))) (mvT hZ (hw _ (List.mem_of_getElem? (i := 5) rfl))) (by decide) (backOf (W := 1) (rmli l Z aa hw [] b01 wc sx h01 n0 Z01 BW O01 E_b01 F_lock_b01 F_bytes_b01 F_length_b01 F_limit_b01 g_b01) hZ (hw _ (List.mem_of_getElem? (i := 5) rfl)) (hw _ (List.mem_of_getElem? (i := 2) rfl)) (by decide) (by decide)) (g := (mkF m 4 #[.val (.long q0), .second, .val (.int p1), .val (.int p2), .val (.int p3), .unset, .unset, .unset, .unset, .unset, .unset, .unset] [(.ref b01), (.ref b01)])) rfl (by rw [hml]; rfl) (Steps.refl _) (a := b01) (argsL := []) (rest := [(.ref b01)]) (lenOf pd0_0 rfl) rfl (by show 2 * 0 + _ ≤ _; exact Nat.le_of_eq rfl) (hb hby at_4) (fun _ _ => ⟨rfl, e01, (by decide : 1 + 1 ≤ _), (by decide : 5 + 8192 ≤ _)⟩)
  dsimp only [Pt.U, Pt.locs, Pt.cells, Pt.slots] at X0c2 l0c2 y0c2 z0c2 st0c2 hQ0c2
  subst l0c2 y0c2 z0c2
  obtain ⟨rfl, N0c2q, Kq0c2, b0c2, kb0c2, sz_b0c2, LB0c2⟩ := hQ0c2
  have N0c2 := Fr.app N0 N0c2q
  obtain ⟨lc0t3, X0c2, N0c2⟩ : ∃ lc, Stand p l e room_1 (s.setVm vm0) m #[(.long q0), (.int p1), (.int p2), (.int p3)] below meth c T0c2 lc 2 8197 ∧ Fr n0 lc := ⟨_, X0c2, N0c2⟩
  obtain ⟨h0c2, e0c2⟩ : ∃ h, T0c2.heap = h := ⟨_, rfl⟩
  rw [e0c2] at Kq0c2 LB0c2
  have ne_b01_b0c2 : b01 ≠ b0c2 := Nat.ne_of_lt (Nat.lt_of_lt_of_le E_b01.lt sz_b0c2)
  have SF_b0c2 : Safe Z ownEL vm0 h01 b0c2 := Safe.new sz_b0c2
  have SF_b01 : Safe Z ownEL vm0 h01 b01 := Safe.exa hZ.alike E_b01 (by decide) (by decide)
  have g_b0c2 : n0 ≤ b0c2 := Nat.le_trans Z01 sz_b0c2
  have sz_b0c2 : h0.size ≤ b0c2 := Nat.le_trans K01.1 sz_b0c2
  have SFk : ∀ x ∈ ([b01] : List Addr), Safe Z ownEL vm0 _ x := (sfS SF_b01 sf0)
  replace SF_b01 := Safe.keep Kq0c2 SFk CC.2.1 SF_b01
  replace SF_b0c2 := Safe.keep Kq0c2 SFk CC.2.1 SF_b0c2
  replace CC := CC.keep Kq0c2 SFk
  clear SFk
  have KK0c2 := Keep.trans K01 Kq0c2 (allS (Or.inr sz_b01) all0)
  have Z0c2 := Nat.le_trans Z01 Kq0c2.1
  have O0c2 := O01.keep Kq0c2 (allS g_b01 all0)
  refine stp (fun t k => st0c2.trans k) ?_
  show W (T0c2.setTop (mkF m 7 #[.val (.long q0), .second, .val (.int p1), .val (.int p2), .val (.int p3), .unset, .unset, .unset, .unset, .unset, .unset, .unset] [(.ref b01)]))
  refine stp (fun t k => XS.astore X0c2.here hx rfl (hb hby at_7) rfl rfl (l' := #[.val (.long q0), .second, .val (.int p1), .val (.int p2), .val (.int p3), .val (.ref b01), .unset, .unset, .unset, .unset, .unset, .unset]) rfl k) ?_
  show W (T0c2.setTop (mkF m 9 #[.val (.long q0), .second, .val (.int p1), .val (.int p2), .val (.int p3), .val (.ref b01), .unset, .unset, .unset, .unset, .unset, .unset] []))
  refine stp (fun t k => XS.iloadN X0c2.here hx rfl (hb hby at_9) rfl k) ?_
  show W (T0c2.setTop (mkF m 10 #[.val (.long q0), .second, .val (.int p1), .val (.int p2), .val (.int p3), .val (.ref b01), .unset, .unset, .unset, .unset, .unset, .unset] [(.int p1)]))
  refine stp (fun t k => XS.iconst X0c2.here hx rfl (hb hby at_10) k) ?_
  show W (T0c2.setTop (mkF m 11 #[.val (.long q0), .second, .val (.int p1), .val (.int p2), .val (.int p3), .val (.ref b01), .unset, .unset, .unset, .unset, .unset, .unset] [(.int (3 : Int32)), (.int p1)]))
  refine stp (fun t k => XS.iand X0c2.here hx rfl (hb hby at_11) rfl k) ?_
  show W (T0c2.setTop (mkF m 12 #[.val (.long q0), .second, .val (.int p1), .val (.int p2), .val (.int p3), .val (.ref b01), .unset, .unset, .unset, .unset, .unset, .unset] [(.int (p1 &&& (3 : Int32)))]))
  refine stp (fun t k => XS.istore X0c2.here hx rfl (hb hby at_12) rfl (l' := #[.val (.long q0), .second, .val (.int p1), .val (.int p2), .val (.int p3), .val (.ref b01), .val (.int (p1 &&& (3 : Int32))), .unset, .unset, .unset, .unset, .unset]) rfl k) ?_
  show W (T0c2.setTop (mkF m 14 #[.val (.long q0), .second, .val (.int p1), .val (.int p2), .val (.int p3), .val (.ref b01), .val (.int (p1 &&& (3 : Int32))), .unset, .unset, .unset, .unset, .unset] []))
  refine stp (fun t k => XS.iconst X0c2.here hx rfl (hb hby at_14) k) ?_
  show W (T0c2.setTop (mkF m 15 #[.val (.long q0), .second, .val (.int p1), .val (.int p2), .val (.int p3), .val (.ref b01), .val (.int (p1 &&& (3 : Int32))), .unset, .unset, .unset, .unset, .unset] [(.int (3 : Int32))]))
  obtain ⟨T04, h04, k04, X04, e04, E04, A04, st04⟩ := newP X0c2 hx hZ (hw _ (List.mem_of_getElem? (i := 19) rfl)) e0c2 (g := (mkF m 15 #[.val (.long q0), .second, .val (.int p1), .val (.int p2), .val (.int p3), .val (.ref b01), .val (.int (p1 &&& (3 : Int32))), .unset, .unset, .unset, .unset, .unset] [(.int (3 : Int32))])) rfl (hb hby at_15) rfl (by decide) (cap := 3) (by decide) (by decide) (by decide) (by decide)
  obtain ⟨b04, gq04⟩ : ∃ z, z = h0c2.size := ⟨_, rfl⟩
  rw [← gq04] at A04 st04
  replace SF_b01 := Safe.ext E04 CC.2.1 SF_b01
  replace SF_b0c2 := Safe.ext E04 CC.2.1 SF_b0c2
  replace CC := CC.ext E04
  have ne_b01_b04 : b01 ≠ b04 := Nat.ne_of_lt (Nat.lt_of_lt_of_le LB0c2.lt0 (Nat.le_of_eq gq04.symm))
  have ne_b0c2_b04 : b0c2 ≠ b04 := Nat.ne_of_lt (Nat.lt_of_lt_of_le LB0c2.lt1 (Nat.le_of_eq gq04.symm))
  have g_b04 : n0 ≤ b04 := Nat.le_trans Z0c2 (Nat.le_of_eq gq04.symm)
  have sz_b04 : h0.size ≤ b04 := Nat.le_trans KK0c2.1 (Nat.le_of_eq gq04.symm)
  replace LB0c2 := LB0c2.ext E04
  have K04 := KK0c2.ext E04
  have Z04 := Nat.le_trans Z0c2 E04.1
  have O04 := O0c2.ext E04
  have V_b04 : Arv Z h04 b04 k04 .char (3 : Int32) [(.int (0 : Int32)), (.int (0 : Int32)), (.int (0 : Int32))] (.int (0 : Int32)) := (Arv.new A04 (by decide)).pad (pad_rep [] (.int (0 : Int32)) 3)
  refine stp (fun t k => st04 t k) ?_
  show W (T04.setTop (mkF m 17 #[.val (.long q0), .second, .val (.int p1), .val (.int p2), .val (.int p3), .val (.ref b01), .val (.int (p1 &&& (3 : Int32))), .unset, .unset, .unset, .unset, .unset] [(.ref b04)]))
  refine stp (fun t k => XS.astore X04.here hx rfl (hb hby at_17) rfl rfl (l' := #[.val (.long q0), .second, .val (.int p1), .val (.int p2), .val (.int p3), .val (.ref b01), .val (.int (p1 &&& (3 : Int32))), .val (.ref b04), .unset, .unset, .unset, .unset]) rfl k) ?_
  show W (T04.setTop (mkF m 19 #[.val (.long q0), .second, .val (.int p1), .val (.int p2), .val (.int p3), .val (.ref b01), .val (.int (p1 &&& (3 : Int32))), .val (.ref b04), .unset, .unset, .unset, .unset] []))
  refine stp (fun t k => XS.aload X04.here hx rfl (hb hby at_19) rfl rfl k) ?_
  show W (T04.setTop (mkF m 21 #[.val (.long q0), .second, .val (.int p1), .val (.int p2), .val (.int p3), .val (.ref b01), .val (.int (p1 &&& (3 : Int32))), .val (.ref b04), .unset, .unset, .unset, .unset] [(.ref b04)]))
  refine stp (fun t k => XS.iconst X04.here hx rfl (hb hby at_21) k) ?_
  show W (T04.setTop (mkF m 22 #[.val (.long q0), .second, .val (.int p1), .val (.int p2), .val (.int p3), .val (.ref b01), .val (.int (p1 &&& (3 : Int32))), .val (.ref b04), .unset, .unset, .unset, .unset] [(.int (0 : Int32)), (.ref b04)]))
  refine stp (fun t k => XS.iloadN X04.here hx rfl (hb hby at_22) rfl k) ?_
  show W (T04.setTop (mkF m 23 #[.val (.long q0), .second, .val (.int p1), .val (.int p2), .val (.int p3), .val (.ref b01), .val (.int (p1 &&& (3 : Int32))), .val (.ref b04), .unset, .unset, .unset, .unset] [(.int p1), (.int (0 : Int32)), (.ref b04)]))
  refine stp (fun t k => XS.iconst X04.here hx rfl (hb hby at_23) k) ?_
  show W (T04.setTop (mkF m 24 #[.val (.long q0), .second, .val (.int p1), .val (.int p2), .val (.int p3), .val (.ref b01), .val (.int (p1 &&& (3 : Int32))), .val (.ref b04), .unset, .unset, .unset, .unset] [(.int (2 : Int32)), (.int p1), (.int (0 : Int32)), (.ref b04)]))
  refine stp (fun t k => XS.iushr X04.here hx rfl (hb hby at_24) rfl k) ?_
  show W (T04.setTop (mkF m 25 #[.val (.long q0), .second, .val (.int p1), .val (.int p2), .val (.int p3), .val (.ref b01), .val (.int (p1 &&& (3 : Int32))), .val (.ref b04), .unset, .unset, .unset, .unset] [(.int ((p1.toUInt32 >>> ((2 : Int32) &&& 31).toUInt32).toInt32)), (.int (0 : Int32)), (.ref b04)]))
  refine stp (fun t k => XS.bipush X04.here hx rfl (hb hby at_25) k) ?_
  show W (T04.setTop (mkF m 27 #[.val (.long q0), .second, .val (.int p1), .val (.int p2), .val (.int p3), .val (.ref b01), .val (.int (p1 &&& (3 : Int32))), .val (.ref b04), .unset, .unset, .unset, .unset] [(.int (127 : Int32)), (.int ((p1.toUInt32 >>> ((2 : Int32) &&& 31).toUInt32).toInt32)), (.int (0 : Int32)), (.ref b04)]))
  refine stp (fun t k => XS.iand X04.here hx rfl (hb hby at_27) rfl k) ?_
  show W (T04.setTop (mkF m 28 #[.val (.long q0), .second, .val (.int p1), .val (.int p2), .val (.int p3), .val (.ref b01), .val (.int (p1 &&& (3 : Int32))), .val (.ref b04), .unset, .unset, .unset, .unset] [(.int (((p1.toUInt32 >>> ((2 : Int32) &&& 31).toUInt32).toInt32) &&& (127 : Int32))), (.int (0 : Int32)), (.ref b04)]))
  refine stp (fun t k => XS.i2c X04.here hx rfl (hb hby at_28) rfl k) ?_
  show W (T04.setTop (mkF m 29 #[.val (.long q0), .second, .val (.int p1), .val (.int p2), .val (.int p3), .val (.ref b01), .val (.int (p1 &&& (3 : Int32))), .val (.ref b04), .unset, .unset, .unset, .unset] [(.int ((((p1.toUInt32 >>> ((2 : Int32) &&& 31).toUInt32).toInt32) &&& (127 : Int32)).toUInt32.toUInt16.toUInt32.toInt32)), (.int (0 : Int32)), (.ref b04)]))
  obtain ⟨cl05, Ar05, qk05, qs05, qn05, qh05, qg05⟩ := id V_b04
  have hin05 : ¬ ((0 : Int32) < 0 ∨ cl05.slots.size ≤ ((0 : Int32)).toNatClampNeg) := inb_of qs05 ⟨by decide, by decide⟩
  obtain ⟨T05, h05, X05, e05, W05, st05⟩ := stC X04 hx hZ e04 Ar05 (j := (0 : Int32)) hin05 (g := (mkF m 29 #[.val (.long q0), .second, .val (.int p1), .val (.int p2), .val (.int p3), .val (.ref b01), .val (.int (p1 &&& (3 : Int32))), .val (.ref b04), .unset, .unset, .unset, .unset] [(.int ((((p1.toUInt32 >>> ((2 : Int32) &&& 31).toUInt32).toInt32) &&& (127 : Int32)).toUInt32.toUInt16.toUInt32.toInt32)), (.int (0 : Int32)), (.ref b04)])) rfl rfl (hb hby at_29)
  have V_b04x := Arv.set Ar05 qk05 qs05 qn05 qh05 qg05 (fits_nar_char _) W05 0 rfl (Nat.le_of_ble_eq_true rfl)
  have N05 := Fr.snoc X05 N0c2 g_b04
  obtain ⟨lc0t6, X05, N05⟩ : ∃ lc, Stand p l e room_1 (s.setVm vm0) m #[(.long q0), (.int p1), (.int p2), (.int p3)] below meth c T05 lc 3 8200 ∧ Fr n0 lc := ⟨_, X05, N05⟩
  have SFw : Safe Z ownEL vm0 _ b04 := (Safe.arv hZ.alike V_b04 (by decide))
  replace SF_b01 := Safe.wr W05 SFw CC.2.1 SF_b01
  replace SF_b0c2 := Safe.wr W05 SFw CC.2.1 SF_b0c2
  replace CC := CC.wr W05 SFw
  clear SFw
  replace LB0c2 := LB0c2.other W05 ne_b01_b04 ne_b0c2_b04
  have K05 := K04.wr W05 (Or.inr sz_b04)
  have Z05 := Nat.le_trans Z04 (Keep.of_wr W05).1
  have O05 := O04.wr W05 g_b04
  replace V_b04 : Arv Z h05 b04 k04 .char (3 : Int32) [(.int (nar .char ((((p1.toUInt32 >>> ((2 : Int32) &&& 31).toUInt32).toInt32) &&& (127 : Int32)).toUInt32.toUInt16.toUInt32.toInt32))), (.int (0 : Int32)), (.int (0 : Int32))] (.int (0 : Int32)) := V_b04x
  refine stp (fun t k => st05 t k) ?_
  show W (T05.setTop (mkF m 30 #[.val (.long q0), .second, .val (.int p1), .val (.int p2), .val (.int p3), .val (.ref b01), .val (.int (p1 &&& (3 : Int32))), .val (.ref b04), .unset, .unset, .unset, .unset] []))
  refine stp (fun t k => XS.aload X05.here hx rfl (hb hby at_30) rfl rfl k) ?_
  show W (T05.setTop (mkF m 32 #[.val (.long q0), .second, .val (.int p1), .val (.int p2), .val (.int p3), .val (.ref b01), .val (.int (p1 &&& (3 : Int32))), .val (.ref b04), .unset, .unset, .unset, .unset] [(.ref b04)]))
  refine stp (fun t k => XS.iconst X05.here hx rfl (hb hby at_32) k) ?_
  show W (T05.setTop (mkF m 33 #[.val (.long q0), .second, .val (.int p1), .val (.int p2), .val (.int p3), .val (.ref b01), .val (.int (p1 &&& (3 : Int32))), .val (.ref b04), .unset, .unset, .unset, .unset] [(.int (1 : Int32)), (.ref b04)]))
  refine stp (fun t k => XS.iloadN X05.here hx rfl (hb hby at_33) rfl k) ?_
  show W (T05.setTop (mkF m 34 #[.val (.long q0), .second, .val (.int p1), .val (.int p2), .val (.int p3), .val (.ref b01), .val (.int (p1 &&& (3 : Int32))), .val (.ref b04), .unset, .unset, .unset, .unset] [(.int p1), (.int (1 : Int32)), (.ref b04)]))
  refine stp (fun t k => XS.bipush X05.here hx rfl (hb hby at_34) k) ?_
  show W (T05.setTop (mkF m 36 #[.val (.long q0), .second, .val (.int p1), .val (.int p2), .val (.int p3), .val (.ref b01), .val (.int (p1 &&& (3 : Int32))), .val (.ref b04), .unset, .unset, .unset, .unset] [(.int (9 : Int32)), (.int p1), (.int (1 : Int32)), (.ref b04)]))
  refine stp (fun t k => XS.iushr X05.here hx rfl (hb hby at_36) rfl k) ?_
  show W (T05.setTop (mkF m 37 #[.val (.long q0), .second, .val (.int p1), .val (.int p2), .val (.int p3), .val (.ref b01), .val (.int (p1 &&& (3 : Int32))), .val (.ref b04), .unset, .unset, .unset, .unset] [(.int ((p1.toUInt32 >>> ((9 : Int32) &&& 31).toUInt32).toInt32)), (.int (1 : Int32)), (.ref b04)]))
  refine stp (fun t k => XS.bipush X05.here hx rfl (hb hby at_37) k) ?_
  show W (T05.setTop (mkF m 39 #[.val (.long q0), .second, .val (.int p1), .val (.int p2), .val (.int p3), .val (.ref b01), .val (.int (p1 &&& (3 : Int32))), .val (.ref b04), .unset, .unset, .unset, .unset] [(.int (127 : Int32)), (.int ((p1.toUInt32 >>> ((9 : Int32) &&& 31).toUInt32).toInt32)), (.int (1 : Int32)), (.ref b04)]))
  refine stp (fun t k => XS.iand X05.here hx rfl (hb hby at_39) rfl k) ?_
  show W (T05.setTop (mkF m 40 #[.val (.long q0), .second, .val (.int p1), .val (.int p2), .val (.int p3), .val (.ref b01), .val (.int (p1 &&& (3 : Int32))), .val (.ref b04), .unset, .unset, .unset, .unset] [(.int (((p1.toUInt32 >>> ((9 : Int32) &&& 31).toUInt32).toInt32) &&& (127 : Int32))), (.int (1 : Int32)), (.ref b04)]))
  refine stp (fun t k => XS.i2c X05.here hx rfl (hb hby at_40) rfl k) ?_
  show W (T05.setTop (mkF m 41 #[.val (.long q0), .second, .val (.int p1), .val (.int p2), .val (.int p3), .val (.ref b01), .val (.int (p1 &&& (3 : Int32))), .val (.ref b04), .unset, .unset, .unset, .unset] [(.int ((((p1.toUInt32 >>> ((9 : Int32) &&& 31).toUInt32).toInt32) &&& (127 : Int32)).toUInt32.toUInt16.toUInt32.toInt32)), (.int (1 : Int32)), (.ref b04)]))
  obtain ⟨cl07, Ar07, qk07, qs07, qn07, qh07, qg07⟩ := id V_b04
  have hin07 : ¬ ((1 : Int32) < 0 ∨ cl07.slots.size ≤ ((1 : Int32)).toNatClampNeg) := inb_of qs07 ⟨by decide, by decide⟩
  obtain ⟨T07, h07, X07, e07, W07, st07⟩ := stC X05 hx hZ e05 Ar07 (j := (1 : Int32)) hin07 (g := (mkF m 41 #[.val (.long q0), .second, .val (.int p1), .val (.int p2), .val (.int p3), .val (.ref b01), .val (.int (p1 &&& (3 : Int32))), .val (.ref b04), .unset, .unset, .unset, .unset] [(.int ((((p1.toUInt32 >>> ((9 : Int32) &&& 31).toUInt32).toInt32) &&& (127 : Int32)).toUInt32.toUInt16.toUInt32.toInt32)), (.int (1 : Int32)), (.ref b04)])) rfl rfl (hb hby at_41)
  have V_b04x := Arv.set Ar07 qk07 qs07 qn07 qh07 qg07 (fits_nar_char _) W07 1 rfl (Nat.le_of_ble_eq_true rfl)
  have N07 := Fr.snoc X07 N05 g_b04
  obtain ⟨lc0t8, X07, N07⟩ : ∃ lc, Stand p l e room_1 (s.setVm vm0) m #[(.long q0), (.int p1), (.int p2), (.int p3)] below meth c T07 lc 3 8200 ∧ Fr n0 lc := ⟨_, X07, N07⟩
  have SFw : Safe Z ownEL vm0 _ b04 := (Safe.arv hZ.alike V_b04 (by decide))
  replace SF_b01 := Safe.wr W07 SFw CC.2.1 SF_b01
  replace SF_b0c2 := Safe.wr W07 SFw CC.2.1 SF_b0c2
  replace CC := CC.wr W07 SFw
  clear SFw
  replace LB0c2 := LB0c2.other W07 ne_b01_b04 ne_b0c2_b04
  have K07 := K05.wr W07 (Or.inr sz_b04)
  have Z07 := Nat.le_trans Z05 (Keep.of_wr W07).1
  have O07 := O05.wr W07 g_b04
  replace V_b04 : Arv Z h07 b04 k04 .char (3 : Int32) [(.int (nar .char ((((p1.toUInt32 >>> ((2 : Int32) &&& 31).toUInt32).toInt32) &&& (127 : Int32)).toUInt32.toUInt16.toUInt32.toInt32))), (.int (nar .char ((((p1.toUInt32 >>> ((9 : Int32) &&& 31).toUInt32).toInt32) &&& (127 : Int32)).toUInt32.toUInt16.toUInt32.toInt32))), (.int (0 : Int32))] (.int (0 : Int32)) := V_b04x
  refine stp (fun t k => st07 t k) ?_
  show W (T07.setTop (mkF m 42 #[.val (.long q0), .second, .val (.int p1), .val (.int p2), .val (.int p3), .val (.ref b01), .val (.int (p1 &&& (3 : Int32))), .val (.ref b04), .unset, .unset, .unset, .unset] []))
  refine stp (fun t k => XS.aload X07.here hx rfl (hb hby at_42) rfl rfl k) ?_
  show W (T07.setTop (mkF m 44 #[.val (.long q0), .second, .val (.int p1), .val (.int p2), .val (.int p3), .val (.ref b01), .val (.int (p1 &&& (3 : Int32))), .val (.ref b04), .unset, .unset, .unset, .unset] [(.ref b04)]))
  refine stp (fun t k => XS.iconst X07.here hx rfl (hb hby at_44) k) ?_
  show W (T07.setTop (mkF m 45 #[.val (.long q0), .second, .val (.int p1), .val (.int p2), .val (.int p3), .val (.ref b01), .val (.int (p1 &&& (3 : Int32))), .val (.ref b04), .unset, .unset, .unset, .unset] [(.int (2 : Int32)), (.ref b04)]))
  refine stp (fun t k => XS.iloadN X07.here hx rfl (hb hby at_45) rfl k) ?_
  show W (T07.setTop (mkF m 46 #[.val (.long q0), .second, .val (.int p1), .val (.int p2), .val (.int p3), .val (.ref b01), .val (.int (p1 &&& (3 : Int32))), .val (.ref b04), .unset, .unset, .unset, .unset] [(.int p1), (.int (2 : Int32)), (.ref b04)]))
  refine stp (fun t k => XS.bipush X07.here hx rfl (hb hby at_46) k) ?_
  show W (T07.setTop (mkF m 48 #[.val (.long q0), .second, .val (.int p1), .val (.int p2), .val (.int p3), .val (.ref b01), .val (.int (p1 &&& (3 : Int32))), .val (.ref b04), .unset, .unset, .unset, .unset] [(.int (16 : Int32)), (.int p1), (.int (2 : Int32)), (.ref b04)]))
  refine stp (fun t k => XS.iushr X07.here hx rfl (hb hby at_48) rfl k) ?_
  show W (T07.setTop (mkF m 49 #[.val (.long q0), .second, .val (.int p1), .val (.int p2), .val (.int p3), .val (.ref b01), .val (.int (p1 &&& (3 : Int32))), .val (.ref b04), .unset, .unset, .unset, .unset] [(.int ((p1.toUInt32 >>> ((16 : Int32) &&& 31).toUInt32).toInt32)), (.int (2 : Int32)), (.ref b04)]))
  refine stp (fun t k => XS.bipush X07.here hx rfl (hb hby at_49) k) ?_
  show W (T07.setTop (mkF m 51 #[.val (.long q0), .second, .val (.int p1), .val (.int p2), .val (.int p3), .val (.ref b01), .val (.int (p1 &&& (3 : Int32))), .val (.ref b04), .unset, .unset, .unset, .unset] [(.int (127 : Int32)), (.int ((p1.toUInt32 >>> ((16 : Int32) &&& 31).toUInt32).toInt32)), (.int (2 : Int32)), (.ref b04)]))
  refine stp (fun t k => XS.iand X07.here hx rfl (hb hby at_51) rfl k) ?_
  show W (T07.setTop (mkF m 52 #[.val (.long q0), .second, .val (.int p1), .val (.int p2), .val (.int p3), .val (.ref b01), .val (.int (p1 &&& (3 : Int32))), .val (.ref b04), .unset, .unset, .unset, .unset] [(.int (((p1.toUInt32 >>> ((16 : Int32) &&& 31).toUInt32).toInt32) &&& (127 : Int32))), (.int (2 : Int32)), (.ref b04)]))
  refine stp (fun t k => XS.i2c X07.here hx rfl (hb hby at_52) rfl k) ?_
  show W (T07.setTop (mkF m 53 #[.val (.long q0), .second, .val (.int p1), .val (.int p2), .val (.int p3), .val (.ref b01), .val (.int (p1 &&& (3 : Int32))), .val (.ref b04), .unset, .unset, .unset, .unset] [(.int ((((p1.toUInt32 >>> ((16 : Int32) &&& 31).toUInt32).toInt32) &&& (127 : Int32)).toUInt32.toUInt16.toUInt32.toInt32)), (.int (2 : Int32)), (.ref b04)]))
  obtain ⟨cl09, Ar09, qk09, qs09, qn09, qh09, qg09⟩ := id V_b04
  have hin09 : ¬ ((2 : Int32) < 0 ∨ cl09.slots.size ≤ ((2 : Int32)).toNatClampNeg) := inb_of qs09 ⟨by decide, by decide⟩
  obtain ⟨T09, h09, X09, e09, W09, st09⟩ := stC X07 hx hZ e07 Ar09 (j := (2 : Int32)) hin09 (g := (mkF m 53 #[.val (.long q0), .second, .val (.int p1), .val (.int p2), .val (.int p3), .val (.ref b01), .val (.int (p1 &&& (3 : Int32))), .val (.ref b04), .unset, .unset, .unset, .unset] [(.int ((((p1.toUInt32 >>> ((16 : Int32) &&& 31).toUInt32).toInt32) &&& (127 : Int32)).toUInt32.toUInt16.toUInt32.toInt32)), (.int (2 : Int32)), (.ref b04)])) rfl rfl (hb hby at_53)
  have V_b04x := Arv.set Ar09 qk09 qs09 qn09 qh09 qg09 (fits_nar_char _) W09 2 rfl (Nat.le_of_ble_eq_true rfl)
  have N09 := Fr.snoc X09 N07 g_b04
  obtain ⟨lc0t10, X09, N09⟩ : ∃ lc, Stand p l e room_1 (s.setVm vm0) m #[(.long q0), (.int p1), (.int p2), (.int p3)] below meth c T09 lc 3 8200 ∧ Fr n0 lc := ⟨_, X09, N09⟩
  have SFw : Safe Z ownEL vm0 _ b04 := (Safe.arv hZ.alike V_b04 (by decide))
  replace SF_b01 := Safe.wr W09 SFw CC.2.1 SF_b01
  replace SF_b0c2 := Safe.wr W09 SFw CC.2.1 SF_b0c2
  replace CC := CC.wr W09 SFw
  clear SFw
  replace LB0c2 := LB0c2.other W09 ne_b01_b04 ne_b0c2_b04
  have K09 := K07.wr W09 (Or.inr sz_b04)
  have Z09 := Nat.le_trans Z07 (Keep.of_wr W09).1
  have O09 := O07.wr W09 g_b04
  replace V_b04 : Arv Z h09 b04 k04 .char (3 : Int32) [(.int (nar .char ((((p1.toUInt32 >>> ((2 : Int32) &&& 31).toUInt32).toInt32) &&& (127 : Int32)).toUInt32.toUInt16.toUInt32.toInt32))), (.int (nar .char ((((p1.toUInt32 >>> ((9 : Int32) &&& 31).toUInt32).toInt32) &&& (127 : Int32)).toUInt32.toUInt16.toUInt32.toInt32))), (.int (nar .char ((((p1.toUInt32 >>> ((16 : Int32) &&& 31).toUInt32).toInt32) &&& (127 : Int32)).toUInt32.toUInt16.toUInt32.toInt32)))] (.int (0 : Int32)) := V_b04x
  refine stp (fun t k => st09 t k) ?_
  show W (T09.setTop (mkF m 54 #[.val (.long q0), .second, .val (.int p1), .val (.int p2), .val (.int p3), .val (.ref b01), .val (.int (p1 &&& (3 : Int32))), .val (.ref b04), .unset, .unset, .unset, .unset] []))
  refine stp (fun t k => XS.iload X09.here hx rfl (hb hby at_54) rfl k) ?_
  show W (T09.setTop (mkF m 56 #[.val (.long q0), .second, .val (.int p1), .val (.int p2), .val (.int p3), .val (.ref b01), .val (.int (p1 &&& (3 : Int32))), .val (.ref b04), .unset, .unset, .unset, .unset] [(.int p3)]))
  refine stp (fun t k => X09.ldcInt hx hown (mvT hZ (hw _ (List.mem_of_getElem? (i := 20) rfl))) (g := (mkF m 56 #[.val (.long q0), .second, .val (.int p1), .val (.int p2), .val (.int p3), .val (.ref b01), .val (.int (p1 &&& (3 : Int32))), .val (.ref b04), .unset, .unset, .unset, .unset] [(.int p3)])) rfl (hb hby at_56) _ k) ?_
  show W (T09.setTop (mkF m 58 #[.val (.long q0), .second, .val (.int p1), .val (.int p2), .val (.int p3), .val (.ref b01), .val (.int (p1 &&& (3 : Int32))), .val (.ref b04), .unset, .unset, .unset, .unset] [(.int (2147483647 : Int32)), (.int p3)]))
  refine stp (fun t k => XS.iand X09.here hx rfl (hb hby at_58) rfl k) ?_
  show W (T09.setTop (mkF m 59 #[.val (.long q0), .second, .val (.int p1), .val (.int p2), .val (.int p3), .val (.ref b01), .val (.int (p1 &&& (3 : Int32))), .val (.ref b04), .unset, .unset, .unset, .unset] [(.int (p3 &&& (2147483647 : Int32)))]))
  refine stp (fun t k => XS.iconst X09.here hx rfl (hb hby at_59) k) ?_
  show W (T09.setTop (mkF m 60 #[.val (.long q0), .second, .val (.int p1), .val (.int p2), .val (.int p3), .val (.ref b01), .val (.int (p1 &&& (3 : Int32))), .val (.ref b04), .unset, .unset, .unset, .unset] [(.int (5 : Int32)), (.int (p3 &&& (2147483647 : Int32)))]))
  refine stp (fun t k => iremM X09 hx rfl (hb hby at_60) rfl (by decide) k) ?_
  show W (T09.setTop (mkF m 61 #[.val (.long q0), .second, .val (.int p1), .val (.int p2), .val (.int p3), .val (.ref b01), .val (.int (p1 &&& (3 : Int32))), .val (.ref b04), .unset, .unset, .unset, .unset] [(.int ((p3 &&& (2147483647 : Int32)) % (5 : Int32)))]))
  refine stp (fun t k => XS.istore X09.here hx rfl (hb hby at_61) rfl (l' := #[.val (.long q0), .second, .val (.int p1), .val (.int p2), .val (.int p3), .val (.ref b01), .val (.int (p1 &&& (3 : Int32))), .val (.ref b04), .val (.int ((p3 &&& (2147483647 : Int32)) % (5 : Int32))), .unset, .unset, .unset]) rfl k) ?_
  show W (T09.setTop (mkF m 63 #[.val (.long q0), .second, .val (.int p1), .val (.int p2), .val (.int p3), .val (.ref b01), .val (.int (p1 &&& (3 : Int32))), .val (.ref b04), .val (.int ((p3 &&& (2147483647 : Int32)) % (5 : Int32))), .unset, .unset, .unset] []))
  generalize hu0_11 : ((p3 &&& (2147483647 : Int32)) % (5 : Int32)) = u0_11
  show W (T09.setTop (mkF m 63 #[.val (.long q0), .second, .val (.int p1), .val (.int p2), .val (.int p3), .val (.ref b01), .val (.int (p1 &&& (3 : Int32))), .val (.ref b04), .val (.int u0_11), .unset, .unset, .unset] []))
  refine stp (fun t k => XS.iconst X09.here hx rfl (hb hby at_63) k) ?_
  show W (T09.setTop (mkF m 64 #[.val (.long q0), .second, .val (.int p1), .val (.int p2), .val (.int p3), .val (.ref b01), .val (.int (p1 &&& (3 : Int32))), .val (.ref b04), .val (.int u0_11), .unset, .unset, .unset] [(.int (4 : Int32))]))
  obtain ⟨T012, h012, k012, X012, e012, E012, A012, st012⟩ := newP X09 hx hZ (hw _ (List.mem_of_getElem? (i := 19) rfl)) e09 (g := (mkF m 64 #[.val (.long q0), .second, .val (.int p1), .val (.int p2), .val (.int p3), .val (.ref b01), .val (.int (p1 &&& (3 : Int32))), .val (.ref b04), .val (.int u0_11), .unset, .unset, .unset] [(.int (4 : Int32))])) rfl (hb hby at_64) rfl (by decide) (cap := 4) (by decide) (by decide) (by decide) (by decide)
  obtain ⟨b012, gq012⟩ : ∃ z, z = h09.size := ⟨_, rfl⟩
  rw [← gq012] at A012 st012
  replace SF_b01 := Safe.ext E012 CC.2.1 SF_b01
  replace SF_b0c2 := Safe.ext E012 CC.2.1 SF_b0c2
  replace CC := CC.ext E012
  have ne_b01_b012 : b01 ≠ b012 := Nat.ne_of_lt (Nat.lt_of_lt_of_le LB0c2.lt0 (Nat.le_of_eq gq012.symm))
  have ne_b04_b012 : b04 ≠ b012 := Nat.ne_of_lt (Nat.lt_of_lt_of_le V_b04.lt (Nat.le_of_eq gq012.symm))
  have ne_b0c2_b012 : b0c2 ≠ b012 := Nat.ne_of_lt (Nat.lt_of_lt_of_le LB0c2.lt1 (Nat.le_of_eq gq012.symm))
  have g_b012 : n0 ≤ b012 := Nat.le_trans Z09 (Nat.le_of_eq gq012.symm)
  have sz_b012 : h0.size ≤ b012 := Nat.le_trans K09.1 (Nat.le_of_eq gq012.symm)
  replace LB0c2 := LB0c2.ext E012
  replace V_b04 := V_b04.ext E012
  have K012 := K09.ext E012
  have Z012 := Nat.le_trans Z09 E012.1
  have O012 := O09.ext E012
  have V_b012 : Arv Z h012 b012 k012 .char (4 : Int32) [(.int (0 : Int32)), (.int (0 : Int32)), (.int (0 : Int32)), (.int (0 : Int32))] (.int (0 : Int32)) := (Arv.new A012 (by decide)).pad (pad_rep [] (.int (0 : Int32)) 4)
  refine stp (fun t k => st012 t k) ?_
  show W (T012.setTop (mkF m 66 #[.val (.long q0), .second, .val (.int p1), .val (.int p2), .val (.int p3), .val (.ref b01), .val (.int (p1 &&& (3 : Int32))), .val (.ref b04), .val (.int u0_11), .unset, .unset, .unset] [(.ref b012)]))
  refine stp (fun t k => XS.astore X012.here hx rfl (hb hby at_66) rfl rfl (l' := #[.val (.long q0), .second, .val (.int p1), .val (.int p2), .val (.int p3), .val (.ref b01), .val (.int (p1 &&& (3 : Int32))), .val (.ref b04), .val (.int u0_11), .val (.ref b012), .unset, .unset]) rfl k) ?_
  show W (T012.setTop (mkF m 68 #[.val (.long q0), .second, .val (.int p1), .val (.int p2), .val (.int p3), .val (.ref b01), .val (.int (p1 &&& (3 : Int32))), .val (.ref b04), .val (.int u0_11), .val (.ref b012), .unset, .unset] []))
  refine stp (fun t k => XS.aload X012.here hx rfl (hb hby at_68) rfl rfl k) ?_
  show W (T012.setTop (mkF m 70 #[.val (.long q0), .second, .val (.int p1), .val (.int p2), .val (.int p3), .val (.ref b01), .val (.int (p1 &&& (3 : Int32))), .val (.ref b04), .val (.int u0_11), .val (.ref b012), .unset, .unset] [(.ref b012)]))
  refine stp (fun t k => XS.iconst X012.here hx rfl (hb hby at_70) k) ?_
  show W (T012.setTop (mkF m 71 #[.val (.long q0), .second, .val (.int p1), .val (.int p2), .val (.int p3), .val (.ref b01), .val (.int (p1 &&& (3 : Int32))), .val (.ref b04), .val (.int u0_11), .val (.ref b012), .unset, .unset] [(.int (0 : Int32)), (.ref b012)]))
  refine stp (fun t k => XS.iloadN X012.here hx rfl (hb hby at_71) rfl k) ?_
  show W (T012.setTop (mkF m 72 #[.val (.long q0), .second, .val (.int p1), .val (.int p2), .val (.int p3), .val (.ref b01), .val (.int (p1 &&& (3 : Int32))), .val (.ref b04), .val (.int u0_11), .val (.ref b012), .unset, .unset] [(.int p2), (.int (0 : Int32)), (.ref b012)]))
  refine stp (fun t k => XS.bipush X012.here hx rfl (hb hby at_72) k) ?_
  show W (T012.setTop (mkF m 74 #[.val (.long q0), .second, .val (.int p1), .val (.int p2), .val (.int p3), .val (.ref b01), .val (.int (p1 &&& (3 : Int32))), .val (.ref b04), .val (.int u0_11), .val (.ref b012), .unset, .unset] [(.int (127 : Int32)), (.int p2), (.int (0 : Int32)), (.ref b012)]))
  refine stp (fun t k => XS.iand X012.here hx rfl (hb hby at_74) rfl k) ?_
  show W (T012.setTop (mkF m 75 #[.val (.long q0), .second, .val (.int p1), .val (.int p2), .val (.int p3), .val (.ref b01), .val (.int (p1 &&& (3 : Int32))), .val (.ref b04), .val (.int u0_11), .val (.ref b012), .unset, .unset] [(.int (p2 &&& (127 : Int32))), (.int (0 : Int32)), (.ref b012)]))
  refine stp (fun t k => XS.i2c X012.here hx rfl (hb hby at_75) rfl k) ?_
  show W (T012.setTop (mkF m 76 #[.val (.long q0), .second, .val (.int p1), .val (.int p2), .val (.int p3), .val (.ref b01), .val (.int (p1 &&& (3 : Int32))), .val (.ref b04), .val (.int u0_11), .val (.ref b012), .unset, .unset] [(.int ((p2 &&& (127 : Int32)).toUInt32.toUInt16.toUInt32.toInt32)), (.int (0 : Int32)), (.ref b012)]))
  obtain ⟨cl013, Ar013, qk013, qs013, qn013, qh013, qg013⟩ := id V_b012
  have hin013 : ¬ ((0 : Int32) < 0 ∨ cl013.slots.size ≤ ((0 : Int32)).toNatClampNeg) := inb_of qs013 ⟨by decide, by decide⟩
  obtain ⟨T013, h013, X013, e013, W013, st013⟩ := stC X012 hx hZ e012 Ar013 (j := (0 : Int32)) hin013 (g := (mkF m 76 #[.val (.long q0), .second, .val (.int p1), .val (.int p2), .val (.int p3), .val (.ref b01), .val (.int (p1 &&& (3 : Int32))), .val (.ref b04), .val (.int u0_11), .val (.ref b012), .unset, .unset] [(.int ((p2 &&& (127 : Int32)).toUInt32.toUInt16.toUInt32.toInt32)), (.int (0 : Int32)), (.ref b012)])) rfl rfl (hb hby at_76)
  have V_b012x := Arv.set Ar013 qk013 qs013 qn013 qh013 qg013 (fits_nar_char _) W013 0 rfl (Nat.le_of_ble_eq_true rfl)
  have N013 := Fr.snoc X013 N09 g_b012
  obtain ⟨lc0t14, X013, N013⟩ : ∃ lc, Stand p l e room_1 (s.setVm vm0) m #[(.long q0), (.int p1), (.int p2), (.int p3)] below meth c T013 lc 4 8204 ∧ Fr n0 lc := ⟨_, X013, N013⟩
  have SFw : Safe Z ownEL vm0 _ b012 := (Safe.arv hZ.alike V_b012 (by decide))
  replace SF_b01 := Safe.wr W013 SFw CC.2.1 SF_b01
  replace SF_b0c2 := Safe.wr W013 SFw CC.2.1 SF_b0c2
  replace CC := CC.wr W013 SFw
  clear SFw
  replace LB0c2 := LB0c2.other W013 ne_b01_b012 ne_b0c2_b012
  replace V_b04 := V_b04.other W013 ne_b04_b012
  have K013 := K012.wr W013 (Or.inr sz_b012)
  have Z013 := Nat.le_trans Z012 (Keep.of_wr W013).1
  have O013 := O012.wr W013 g_b012
  replace V_b012 : Arv Z h013 b012 k012 .char (4 : Int32) [(.int (nar .char ((p2 &&& (127 : Int32)).toUInt32.toUInt16.toUInt32.toInt32))), (.int (0 : Int32)), (.int (0 : Int32)), (.int (0 : Int32))] (.int (0 : Int32)) := V_b012x
  refine stp (fun t k => st013 t k) ?_
  show W (T013.setTop (mkF m 77 #[.val (.long q0), .second, .val (.int p1), .val (.int p2), .val (.int p3), .val (.ref b01), .val (.int (p1 &&& (3 : Int32))), .val (.ref b04), .val (.int u0_11), .val (.ref b012), .unset, .unset] []))
  refine stp (fun t k => XS.aload X013.here hx rfl (hb hby at_77) rfl rfl k) ?_
  show W (T013.setTop (mkF m 79 #[.val (.long q0), .second, .val (.int p1), .val (.int p2), .val (.int p3), .val (.ref b01), .val (.int (p1 &&& (3 : Int32))), .val (.ref b04), .val (.int u0_11), .val (.ref b012), .unset, .unset] [(.ref b012)]))
  refine stp (fun t k => XS.iconst X013.here hx rfl (hb hby at_79) k) ?_
  show W (T013.setTop (mkF m 80 #[.val (.long q0), .second, .val (.int p1), .val (.int p2), .val (.int p3), .val (.ref b01), .val (.int (p1 &&& (3 : Int32))), .val (.ref b04), .val (.int u0_11), .val (.ref b012), .unset, .unset] [(.int (1 : Int32)), (.ref b012)]))
  refine stp (fun t k => XS.iloadN X013.here hx rfl (hb hby at_80) rfl k) ?_
  show W (T013.setTop (mkF m 81 #[.val (.long q0), .second, .val (.int p1), .val (.int p2), .val (.int p3), .val (.ref b01), .val (.int (p1 &&& (3 : Int32))), .val (.ref b04), .val (.int u0_11), .val (.ref b012), .unset, .unset] [(.int p2), (.int (1 : Int32)), (.ref b012)]))
  refine stp (fun t k => XS.bipush X013.here hx rfl (hb hby at_81) k) ?_
  show W (T013.setTop (mkF m 83 #[.val (.long q0), .second, .val (.int p1), .val (.int p2), .val (.int p3), .val (.ref b01), .val (.int (p1 &&& (3 : Int32))), .val (.ref b04), .val (.int u0_11), .val (.ref b012), .unset, .unset] [(.int (8 : Int32)), (.int p2), (.int (1 : Int32)), (.ref b012)]))
  refine stp (fun t k => XS.iushr X013.here hx rfl (hb hby at_83) rfl k) ?_
  show W (T013.setTop (mkF m 84 #[.val (.long q0), .second, .val (.int p1), .val (.int p2), .val (.int p3), .val (.ref b01), .val (.int (p1 &&& (3 : Int32))), .val (.ref b04), .val (.int u0_11), .val (.ref b012), .unset, .unset] [(.int ((p2.toUInt32 >>> ((8 : Int32) &&& 31).toUInt32).toInt32)), (.int (1 : Int32)), (.ref b012)]))
  refine stp (fun t k => XS.bipush X013.here hx rfl (hb hby at_84) k) ?_
  show W (T013.setTop (mkF m 86 #[.val (.long q0), .second, .val (.int p1), .val (.int p2), .val (.int p3), .val (.ref b01), .val (.int (p1 &&& (3 : Int32))), .val (.ref b04), .val (.int u0_11), .val (.ref b012), .unset, .unset] [(.int (127 : Int32)), (.int ((p2.toUInt32 >>> ((8 : Int32) &&& 31).toUInt32).toInt32)), (.int (1 : Int32)), (.ref b012)]))
  refine stp (fun t k => XS.iand X013.here hx rfl (hb hby at_86) rfl k) ?_
  show W (T013.setTop (mkF m 87 #[.val (.long q0), .second, .val (.int p1), .val (.int p2), .val (.int p3), .val (.ref b01), .val (.int (p1 &&& (3 : Int32))), .val (.ref b04), .val (.int u0_11), .val (.ref b012), .unset, .unset] [(.int (((p2.toUInt32 >>> ((8 : Int32) &&& 31).toUInt32).toInt32) &&& (127 : Int32))), (.int (1 : Int32)), (.ref b012)]))
  refine stp (fun t k => XS.i2c X013.here hx rfl (hb hby at_87) rfl k) ?_
  show W (T013.setTop (mkF m 88 #[.val (.long q0), .second, .val (.int p1), .val (.int p2), .val (.int p3), .val (.ref b01), .val (.int (p1 &&& (3 : Int32))), .val (.ref b04), .val (.int u0_11), .val (.ref b012), .unset, .unset] [(.int ((((p2.toUInt32 >>> ((8 : Int32) &&& 31).toUInt32).toInt32) &&& (127 : Int32)).toUInt32.toUInt16.toUInt32.toInt32)), (.int (1 : Int32)), (.ref b012)]))
  obtain ⟨cl015, Ar015, qk015, qs015, qn015, qh015, qg015⟩ := id V_b012
  have hin015 : ¬ ((1 : Int32) < 0 ∨ cl015.slots.size ≤ ((1 : Int32)).toNatClampNeg) := inb_of qs015 ⟨by decide, by decide⟩
  obtain ⟨T015, h015, X015, e015, W015, st015⟩ := stC X013 hx hZ e013 Ar015 (j := (1 : Int32)) hin015 (g := (mkF m 88 #[.val (.long q0), .second, .val (.int p1), .val (.int p2), .val (.int p3), .val (.ref b01), .val (.int (p1 &&& (3 : Int32))), .val (.ref b04), .val (.int u0_11), .val (.ref b012), .unset, .unset] [(.int ((((p2.toUInt32 >>> ((8 : Int32) &&& 31).toUInt32).toInt32) &&& (127 : Int32)).toUInt32.toUInt16.toUInt32.toInt32)), (.int (1 : Int32)), (.ref b012)])) rfl rfl (hb hby at_88)
  have V_b012x := Arv.set Ar015 qk015 qs015 qn015 qh015 qg015 (fits_nar_char _) W015 1 rfl (Nat.le_of_ble_eq_true rfl)
  have N015 := Fr.snoc X015 N013 g_b012
  obtain ⟨lc0t16, X015, N015⟩ : ∃ lc, Stand p l e room_1 (s.setVm vm0) m #[(.long q0), (.int p1), (.int p2), (.int p3)] below meth c T015 lc 4 8204 ∧ Fr n0 lc := ⟨_, X015, N015⟩
  have SFw : Safe Z ownEL vm0 _ b012 := (Safe.arv hZ.alike V_b012 (by decide))
  replace SF_b01 := Safe.wr W015 SFw CC.2.1 SF_b01
  replace SF_b0c2 := Safe.wr W015 SFw CC.2.1 SF_b0c2
  replace CC := CC.wr W015 SFw
  clear SFw
  replace LB0c2 := LB0c2.other W015 ne_b01_b012 ne_b0c2_b012
  replace V_b04 := V_b04.other W015 ne_b04_b012
  have K015 := K013.wr W015 (Or.inr sz_b012)
  have Z015 := Nat.le_trans Z013 (Keep.of_wr W015).1
  have O015 := O013.wr W015 g_b012
  replace V_b012 : Arv Z h015 b012 k012 .char (4 : Int32) [(.int (nar .char ((p2 &&& (127 : Int32)).toUInt32.toUInt16.toUInt32.toInt32))), (.int (nar .char ((((p2.toUInt32 >>> ((8 : Int32) &&& 31).toUInt32).toInt32) &&& (127 : Int32)).toUInt32.toUInt16.toUInt32.toInt32))), (.int (0 : Int32)), (.int (0 : Int32))] (.int (0 : Int32)) := V_b012x
  refine stp (fun t k => st015 t k) ?_
  show W (T015.setTop (mkF m 89 #[.val (.long q0), .second, .val (.int p1), .val (.int p2), .val (.int p3), .val (.ref b01), .val (.int (p1 &&& (3 : Int32))), .val (.ref b04), .val (.int u0_11), .val (.ref b012), .unset, .unset] []))
  refine stp (fun t k => XS.aload X015.here hx rfl (hb hby at_89) rfl rfl k) ?_
  show W (T015.setTop (mkF m 91 #[.val (.long q0), .second, .val (.int p1), .val (.int p2), .val (.int p3), .val (.ref b01), .val (.int (p1 &&& (3 : Int32))), .val (.ref b04), .val (.int u0_11), .val (.ref b012), .unset, .unset] [(.ref b012)]))
  refine stp (fun t k => XS.iconst X015.here hx rfl (hb hby at_91) k) ?_
  show W (T015.setTop (mkF m 92 #[.val (.long q0), .second, .val (.int p1), .val (.int p2), .val (.int p3), .val (.ref b01), .val (.int (p1 &&& (3 : Int32))), .val (.ref b04), .val (.int u0_11), .val (.ref b012), .unset, .unset] [(.int (2 : Int32)), (.ref b012)]))
  refine stp (fun t k => XS.iloadN X015.here hx rfl (hb hby at_92) rfl k) ?_
  show W (T015.setTop (mkF m 93 #[.val (.long q0), .second, .val (.int p1), .val (.int p2), .val (.int p3), .val (.ref b01), .val (.int (p1 &&& (3 : Int32))), .val (.ref b04), .val (.int u0_11), .val (.ref b012), .unset, .unset] [(.int p2), (.int (2 : Int32)), (.ref b012)]))
  refine stp (fun t k => XS.bipush X015.here hx rfl (hb hby at_93) k) ?_
  show W (T015.setTop (mkF m 95 #[.val (.long q0), .second, .val (.int p1), .val (.int p2), .val (.int p3), .val (.ref b01), .val (.int (p1 &&& (3 : Int32))), .val (.ref b04), .val (.int u0_11), .val (.ref b012), .unset, .unset] [(.int (16 : Int32)), (.int p2), (.int (2 : Int32)), (.ref b012)]))
  refine stp (fun t k => XS.iushr X015.here hx rfl (hb hby at_95) rfl k) ?_
  show W (T015.setTop (mkF m 96 #[.val (.long q0), .second, .val (.int p1), .val (.int p2), .val (.int p3), .val (.ref b01), .val (.int (p1 &&& (3 : Int32))), .val (.ref b04), .val (.int u0_11), .val (.ref b012), .unset, .unset] [(.int ((p2.toUInt32 >>> ((16 : Int32) &&& 31).toUInt32).toInt32)), (.int (2 : Int32)), (.ref b012)]))
  refine stp (fun t k => XS.bipush X015.here hx rfl (hb hby at_96) k) ?_
  show W (T015.setTop (mkF m 98 #[.val (.long q0), .second, .val (.int p1), .val (.int p2), .val (.int p3), .val (.ref b01), .val (.int (p1 &&& (3 : Int32))), .val (.ref b04), .val (.int u0_11), .val (.ref b012), .unset, .unset] [(.int (127 : Int32)), (.int ((p2.toUInt32 >>> ((16 : Int32) &&& 31).toUInt32).toInt32)), (.int (2 : Int32)), (.ref b012)]))
  refine stp (fun t k => XS.iand X015.here hx rfl (hb hby at_98) rfl k) ?_
  show W (T015.setTop (mkF m 99 #[.val (.long q0), .second, .val (.int p1), .val (.int p2), .val (.int p3), .val (.ref b01), .val (.int (p1 &&& (3 : Int32))), .val (.ref b04), .val (.int u0_11), .val (.ref b012), .unset, .unset] [(.int (((p2.toUInt32 >>> ((16 : Int32) &&& 31).toUInt32).toInt32) &&& (127 : Int32))), (.int (2 : Int32)), (.ref b012)]))
  refine stp (fun t k => XS.i2c X015.here hx rfl (hb hby at_99) rfl k) ?_
  show W (T015.setTop (mkF m 100 #[.val (.long q0), .second, .val (.int p1), .val (.int p2), .val (.int p3), .val (.ref b01), .val (.int (p1 &&& (3 : Int32))), .val (.ref b04), .val (.int u0_11), .val (.ref b012), .unset, .unset] [(.int ((((p2.toUInt32 >>> ((16 : Int32) &&& 31).toUInt32).toInt32) &&& (127 : Int32)).toUInt32.toUInt16.toUInt32.toInt32)), (.int (2 : Int32)), (.ref b012)]))
  obtain ⟨cl017, Ar017, qk017, qs017, qn017, qh017, qg017⟩ := id V_b012
  have hin017 : ¬ ((2 : Int32) < 0 ∨ cl017.slots.size ≤ ((2 : Int32)).toNatClampNeg) := inb_of qs017 ⟨by decide, by decide⟩
  obtain ⟨T017, h017, X017, e017, W017, st017⟩ := stC X015 hx hZ e015 Ar017 (j := (2 : Int32)) hin017 (g := (mkF m 100 #[.val (.long q0), .second, .val (.int p1), .val (.int p2), .val (.int p3), .val (.ref b01), .val (.int (p1 &&& (3 : Int32))), .val (.ref b04), .val (.int u0_11), .val (.ref b012), .unset, .unset] [(.int ((((p2.toUInt32 >>> ((16 : Int32) &&& 31).toUInt32).toInt32) &&& (127 : Int32)).toUInt32.toUInt16.toUInt32.toInt32)), (.int (2 : Int32)), (.ref b012)])) rfl rfl (hb hby at_100)
  have V_b012x := Arv.set Ar017 qk017 qs017 qn017 qh017 qg017 (fits_nar_char _) W017 2 rfl (Nat.le_of_ble_eq_true rfl)
  have N017 := Fr.snoc X017 N015 g_b012
  obtain ⟨lc0t18, X017, N017⟩ : ∃ lc, Stand p l e room_1 (s.setVm vm0) m #[(.long q0), (.int p1), (.int p2), (.int p3)] below meth c T017 lc 4 8204 ∧ Fr n0 lc := ⟨_, X017, N017⟩
  have SFw : Safe Z ownEL vm0 _ b012 := (Safe.arv hZ.alike V_b012 (by decide))
  replace SF_b01 := Safe.wr W017 SFw CC.2.1 SF_b01
  replace SF_b0c2 := Safe.wr W017 SFw CC.2.1 SF_b0c2
  replace CC := CC.wr W017 SFw
  clear SFw
  replace LB0c2 := LB0c2.other W017 ne_b01_b012 ne_b0c2_b012
  replace V_b04 := V_b04.other W017 ne_b04_b012
  have K017 := K015.wr W017 (Or.inr sz_b012)
  have Z017 := Nat.le_trans Z015 (Keep.of_wr W017).1
  have O017 := O015.wr W017 g_b012
  replace V_b012 : Arv Z h017 b012 k012 .char (4 : Int32) [(.int (nar .char ((p2 &&& (127 : Int32)).toUInt32.toUInt16.toUInt32.toInt32))), (.int (nar .char ((((p2.toUInt32 >>> ((8 : Int32) &&& 31).toUInt32).toInt32) &&& (127 : Int32)).toUInt32.toUInt16.toUInt32.toInt32))), (.int (nar .char ((((p2.toUInt32 >>> ((16 : Int32) &&& 31).toUInt32).toInt32) &&& (127 : Int32)).toUInt32.toUInt16.toUInt32.toInt32))), (.int (0 : Int32))] (.int (0 : Int32)) := V_b012x
  refine stp (fun t k => st017 t k) ?_
  show W (T017.setTop (mkF m 101 #[.val (.long q0), .second, .val (.int p1), .val (.int p2), .val (.int p3), .val (.ref b01), .val (.int (p1 &&& (3 : Int32))), .val (.ref b04), .val (.int u0_11), .val (.ref b012), .unset, .unset] []))
  refine stp (fun t k => XS.aload X017.here hx rfl (hb hby at_101) rfl rfl k) ?_
  show W (T017.setTop (mkF m 103 #[.val (.long q0), .second, .val (.int p1), .val (.int p2), .val (.int p3), .val (.ref b01), .val (.int (p1 &&& (3 : Int32))), .val (.ref b04), .val (.int u0_11), .val (.ref b012), .unset, .unset] [(.ref b012)]))
  refine stp (fun t k => XS.iconst X017.here hx rfl (hb hby at_103) k) ?_
  show W (T017.setTop (mkF m 104 #[.val (.long q0), .second, .val (.int p1), .val (.int p2), .val (.int p3), .val (.ref b01), .val (.int (p1 &&& (3 : Int32))), .val (.ref b04), .val (.int u0_11), .val (.ref b012), .unset, .unset] [(.int (3 : Int32)), (.ref b012)]))
  refine stp (fun t k => XS.iloadN X017.here hx rfl (hb hby at_104) rfl k) ?_
  show W (T017.setTop (mkF m 105 #[.val (.long q0), .second, .val (.int p1), .val (.int p2), .val (.int p3), .val (.ref b01), .val (.int (p1 &&& (3 : Int32))), .val (.ref b04), .val (.int u0_11), .val (.ref b012), .unset, .unset] [(.int p2), (.int (3 : Int32)), (.ref b012)]))
  refine stp (fun t k => XS.bipush X017.here hx rfl (hb hby at_105) k) ?_
  show W (T017.setTop (mkF m 107 #[.val (.long q0), .second, .val (.int p1), .val (.int p2), .val (.int p3), .val (.ref b01), .val (.int (p1 &&& (3 : Int32))), .val (.ref b04), .val (.int u0_11), .val (.ref b012), .unset, .unset] [(.int (24 : Int32)), (.int p2), (.int (3 : Int32)), (.ref b012)]))
  refine stp (fun t k => XS.iushr X017.here hx rfl (hb hby at_107) rfl k) ?_
  show W (T017.setTop (mkF m 108 #[.val (.long q0), .second, .val (.int p1), .val (.int p2), .val (.int p3), .val (.ref b01), .val (.int (p1 &&& (3 : Int32))), .val (.ref b04), .val (.int u0_11), .val (.ref b012), .unset, .unset] [(.int ((p2.toUInt32 >>> ((24 : Int32) &&& 31).toUInt32).toInt32)), (.int (3 : Int32)), (.ref b012)]))
  refine stp (fun t k => XS.bipush X017.here hx rfl (hb hby at_108) k) ?_
  show W (T017.setTop (mkF m 110 #[.val (.long q0), .second, .val (.int p1), .val (.int p2), .val (.int p3), .val (.ref b01), .val (.int (p1 &&& (3 : Int32))), .val (.ref b04), .val (.int u0_11), .val (.ref b012), .unset, .unset] [(.int (127 : Int32)), (.int ((p2.toUInt32 >>> ((24 : Int32) &&& 31).toUInt32).toInt32)), (.int (3 : Int32)), (.ref b012)]))
  refine stp (fun t k => XS.iand X017.here hx rfl (hb hby at_110) rfl k) ?_
  show W (T017.setTop (mkF m 111 #[.val (.long q0), .second, .val (.int p1), .val (.int p2), .val (.int p3), .val (.ref b01), .val (.int (p1 &&& (3 : Int32))), .val (.ref b04), .val (.int u0_11), .val (.ref b012), .unset, .unset] [(.int (((p2.toUInt32 >>> ((24 : Int32) &&& 31).toUInt32).toInt32) &&& (127 : Int32))), (.int (3 : Int32)), (.ref b012)]))
  refine stp (fun t k => XS.i2c X017.here hx rfl (hb hby at_111) rfl k) ?_
  show W (T017.setTop (mkF m 112 #[.val (.long q0), .second, .val (.int p1), .val (.int p2), .val (.int p3), .val (.ref b01), .val (.int (p1 &&& (3 : Int32))), .val (.ref b04), .val (.int u0_11), .val (.ref b012), .unset, .unset] [(.int ((((p2.toUInt32 >>> ((24 : Int32) &&& 31).toUInt32).toInt32) &&& (127 : Int32)).toUInt32.toUInt16.toUInt32.toInt32)), (.int (3 : Int32)), (.ref b012)]))
  obtain ⟨cl019, Ar019, qk019, qs019, qn019, qh019, qg019⟩ := id V_b012
  have hin019 : ¬ ((3 : Int32) < 0 ∨ cl019.slots.size ≤ ((3 : Int32)).toNatClampNeg) := inb_of qs019 ⟨by decide, by decide⟩
  obtain ⟨T019, h019, X019, e019, W019, st019⟩ := stC X017 hx hZ e017 Ar019 (j := (3 : Int32)) hin019 (g := (mkF m 112 #[.val (.long q0), .second, .val (.int p1), .val (.int p2), .val (.int p3), .val (.ref b01), .val (.int (p1 &&& (3 : Int32))), .val (.ref b04), .val (.int u0_11), .val (.ref b012), .unset, .unset] [(.int ((((p2.toUInt32 >>> ((24 : Int32) &&& 31).toUInt32).toInt32) &&& (127 : Int32)).toUInt32.toUInt16.toUInt32.toInt32)), (.int (3 : Int32)), (.ref b012)])) rfl rfl (hb hby at_112)
  have V_b012x := Arv.set Ar019 qk019 qs019 qn019 qh019 qg019 (fits_nar_char _) W019 3 rfl (Nat.le_of_ble_eq_true rfl)
  have N019 := Fr.snoc X019 N017 g_b012
  obtain ⟨lc0t20, X019, N019⟩ : ∃ lc, Stand p l e room_1 (s.setVm vm0) m #[(.long q0), (.int p1), (.int p2), (.int p3)] below meth c T019 lc 4 8204 ∧ Fr n0 lc := ⟨_, X019, N019⟩
  have SFw : Safe Z ownEL vm0 _ b012 := (Safe.arv hZ.alike V_b012 (by decide))
  replace SF_b01 := Safe.wr W019 SFw CC.2.1 SF_b01
  replace SF_b0c2 := Safe.wr W019 SFw CC.2.1 SF_b0c2
  replace CC := CC.wr W019 SFw
  clear SFw
  replace LB0c2 := LB0c2.other W019 ne_b01_b012 ne_b0c2_b012
  replace V_b04 := V_b04.other W019 ne_b04_b012
  have K019 := K017.wr W019 (Or.inr sz_b012)
  have Z019 := Nat.le_trans Z017 (Keep.of_wr W019).1
  have O019 := O017.wr W019 g_b012
  replace V_b012 : Arv Z h019 b012 k012 .char (4 : Int32) [(.int (nar .char ((p2 &&& (127 : Int32)).toUInt32.toUInt16.toUInt32.toInt32))), (.int (nar .char ((((p2.toUInt32 >>> ((8 : Int32) &&& 31).toUInt32).toInt32) &&& (127 : Int32)).toUInt32.toUInt16.toUInt32.toInt32))), (.int (nar .char ((((p2.toUInt32 >>> ((16 : Int32) &&& 31).toUInt32).toInt32) &&& (127 : Int32)).toUInt32.toUInt16.toUInt32.toInt32))), (.int (nar .char ((((p2.toUInt32 >>> ((24 : Int32) &&& 31).toUInt32).toInt32) &&& (127 : Int32)).toUInt32.toUInt16.toUInt32.toInt32)))] (.int (0 : Int32)) := V_b012x
  refine stp (fun t k => st019 t k) ?_
  show W (T019.setTop (mkF m 113 #[.val (.long q0), .second, .val (.int p1), .val (.int p2), .val (.int p3), .val (.ref b01), .val (.int (p1 &&& (3 : Int32))), .val (.ref b04), .val (.int u0_11), .val (.ref b012), .unset, .unset] []))
  obtain ⟨kn, hkn, hkn3⟩ : ∃ n : Nat, (p1 &&& (3 : Int32)).toInt = (n : Int) ∧ n ≤ 3 := by subst hu0_11; exact own_m3 _
  obtain ⟨cn, hcn, hcn4⟩ : ∃ n : Nat, u0_11.toInt = (n : Int) ∧ n ≤ 4 := by subst hu0_11; exact own_N _
  obtain ⟨og, hog, V_b04⟩ : ∃ f : Nat → Int32, (∀ j, j < 3 → 0 ≤ (f j).toInt ∧ (f j).toInt < 128) ∧ Arv Z h019 b04 k04 .char (Int32.ofNat 3) (own_vs 3 f) (.int (0 : Int32)) := ⟨own_g3 (nar .char ((((p1.toUInt32 >>> ((2 : Int32) &&& 31).toUInt32).toInt32) &&& (127 : Int32)).toUInt32.toUInt16.toUInt32.toInt32)) (nar .char ((((p1.toUInt32 >>> ((9 : Int32) &&& 31).toUInt32).toInt32) &&& (127 : Int32)).toUInt32.toUInt16.toUInt32.toInt32)) (nar .char ((((p1.toUInt32 >>> ((16 : Int32) &&& 31).toUInt32).toInt32) &&& (127 : Int32)).toUInt32.toUInt16.toUInt32.toInt32)), own_g3R (own_ch7 _) (own_ch7 _) (own_ch7 _), V_b04⟩
  obtain ⟨cg, hcg, V_b012⟩ : ∃ f : Nat → Int32, (∀ j, j < 4 → 0 ≤ (f j).toInt ∧ (f j).toInt < 128) ∧ Arv Z h019 b012 k012 .char (Int32.ofNat 4) (own_vs 4 f) (.int (0 : Int32)) := ⟨own_g4 (nar .char ((p2 &&& (127 : Int32)).toUInt32.toUInt16.toUInt32.toInt32)) (nar .char ((((p2.toUInt32 >>> ((8 : Int32) &&& 31).toUInt32).toInt32) &&& (127 : Int32)).toUInt32.toUInt16.toUInt32.toInt32)) (nar .char ((((p2.toUInt32 >>> ((16 : Int32) &&& 31).toUInt32).toInt32) &&& (127 : Int32)).toUInt32.toUInt16.toUInt32.toInt32)) (nar .char ((((p2.toUInt32 >>> ((24 : Int32) &&& 31).toUInt32).toInt32) &&& (127 : Int32)).toUInt32.toUInt16.toUInt32.toInt32)), own_g4R (own_ch7 _) (own_ch7 _) (own_ch7 _) (own_ch7 _), V_b012⟩
  show W (T019.setTop (mkF m 113 #[.val (.long q0), .second, .val (.int p1), .val (.int p2), .val (.int p3), .val (.ref b01), .val (.int (p1 &&& (3 : Int32))), .val (.ref b04), .val (.int u0_11), .val (.ref b012), .unset, .unset] []))
  refine stp (fun t k => XS.aload X019.here hx rfl (hb hby at_113) rfl rfl k) ?_
  show W (T019.setTop (mkF m 115 #[.val (.long q0), .second, .val (.int p1), .val (.int p2), .val (.int p3), .val (.ref b01), .val (.int (p1 &&& (3 : Int32))), .val (.ref b04), .val (.int u0_11), .val (.ref b012), .unset, .unset] [(.ref b01)]))
  refine stp (fun t k => XS.iload X019.here hx rfl (hb hby at_115) rfl k) ?_
  show W (T019.setTop (mkF m 117 #[.val (.long q0), .second, .val (.int p1), .val (.int p2), .val (.int p3), .val (.ref b01), .val (.int (p1 &&& (3 : Int32))), .val (.ref b04), .val (.int u0_11), .val (.ref b012), .unset, .unset] [(.int (p1 &&& (3 : Int32))), (.ref b01)]))
  refine stp (fun t k => XS.i2l X019.here hx rfl (hb hby at_117) rfl k) ?_
  show W (T019.setTop (mkF m 118 #[.val (.long q0), .second, .val (.int p1), .val (.int p2), .val (.int p3), .val (.ref b01), .val (.int (p1 &&& (3 : Int32))), .val (.ref b04), .val (.int u0_11), .val (.ref b012), .unset, .unset] [(.long ((p1 &&& (3 : Int32)).toInt64)), (.ref b01)]))
  refine stp (fun t k => XS.iloadN X019.here hx rfl (hb hby at_118) rfl k) ?_
  show W (T019.setTop (mkF m 119 #[.val (.long q0), .second, .val (.int p1), .val (.int p2), .val (.int p3), .val (.ref b01), .val (.int (p1 &&& (3 : Int32))), .val (.ref b04), .val (.int u0_11), .val (.ref b012), .unset, .unset] [(.int p1), (.long ((p1 &&& (3 : Int32)).toInt64)), (.ref b01)]))
  refine stp (fun t k => XS.bipush X019.here hx rfl (hb hby at_119) k) ?_
  show W (T019.setTop (mkF m 121 #[.val (.long q0), .second, .val (.int p1), .val (.int p2), .val (.int p3), .val (.ref b01), .val (.int (p1 &&& (3 : Int32))), .val (.ref b04), .val (.int u0_11), .val (.ref b012), .unset, .unset] [(.int (23 : Int32)), (.int p1), (.long ((p1 &&& (3 : Int32)).toInt64)), (.ref b01)]))
  refine stp (fun t k => XS.iushr X019.here hx rfl (hb hby at_121) rfl k) ?_
  show W (T019.setTop (mkF m 122 #[.val (.long q0), .second, .val (.int p1), .val (.int p2), .val (.int p3), .val (.ref b01), .val (.int (p1 &&& (3 : Int32))), .val (.ref b04), .val (.int u0_11), .val (.ref b012), .unset, .unset] [(.int ((p1.toUInt32 >>> ((23 : Int32) &&& 31).toUInt32).toInt32)), (.long ((p1 &&& (3 : Int32)).toInt64)), (.ref b01)]))
  refine stp (fun t k => XS.iconst X019.here hx rfl (hb hby at_122) k) ?_
  show W (T019.setTop (mkF m 123 #[.val (.long q0), .second, .val (.int p1), .val (.int p2), .val (.int p3), .val (.ref b01), .val (.int (p1 &&& (3 : Int32))), .val (.ref b04), .val (.int u0_11), .val (.ref b012), .unset, .unset] [(.int (3 : Int32)), (.int ((p1.toUInt32 >>> ((23 : Int32) &&& 31).toUInt32).toInt32)), (.long ((p1 &&& (3 : Int32)).toInt64)), (.ref b01)]))
  refine stp (fun t k => XS.iand X019.here hx rfl (hb hby at_123) rfl k) ?_
  show W (T019.setTop (mkF m 124 #[.val (.long q0), .second, .val (.int p1), .val (.int p2), .val (.int p3), .val (.ref b01), .val (.int (p1 &&& (3 : Int32))), .val (.ref b04), .val (.int u0_11), .val (.ref b012), .unset, .unset] [(.int (((p1.toUInt32 >>> ((23 : Int32) &&& 31).toUInt32).toInt32) &&& (3 : Int32))), (.long ((p1 &&& (3 : Int32)).toInt64)), (.ref b01)]))
  refine stp (fun t k => XS.i2l X019.here hx rfl (hb hby at_124) rfl k) ?_
  show W (T019.setTop (mkF m 125 #[.val (.long q0), .second, .val (.int p1), .val (.int p2), .val (.int p3), .val (.ref b01), .val (.int (p1 &&& (3 : Int32))), .val (.ref b04), .val (.int u0_11), .val (.ref b012), .unset, .unset] [(.long ((((p1.toUInt32 >>> ((23 : Int32) &&& 31).toUInt32).toInt32) &&& (3 : Int32)).toInt64)), (.long ((p1 &&& (3 : Int32)).toInt64)), (.ref b01)]))
  refine stp (fun t k => XS.ladd X019.here hx rfl (hb hby at_125) rfl k) ?_
  show W (T019.setTop (mkF m 126 #[.val (.long q0), .second, .val (.int p1), .val (.int p2), .val (.int p3), .val (.ref b01), .val (.int (p1 &&& (3 : Int32))), .val (.ref b04), .val (.int u0_11), .val (.ref b012), .unset, .unset] [(.long (((p1 &&& (3 : Int32)).toInt64) + ((((p1.toUInt32 >>> ((23 : Int32) &&& 31).toUInt32).toInt32) &&& (3 : Int32)).toInt64))), (.ref b01)]))
  obtain ⟨k2, hk2, hk23⟩ := own_m3 ((p1.toUInt32 >>> ((23 : Int32) &&& 31).toUInt32).toInt32)
  show W (T019.setTop (mkF m 126 #[.val (.long q0), .second, .val (.int p1), .val (.int p2), .val (.int p3), .val (.ref b01), .val (.int (p1 &&& (3 : Int32))), .val (.ref b04), .val (.int u0_11), .val (.ref b012), .unset, .unset] [(.long (((p1 &&& (3 : Int32)).toInt64) + ((((p1.toUInt32 >>> ((23 : Int32) &&& 31).toUInt32).toInt32) &&& (3 : Int32)).toInt64))), (.ref b01)]))
  obtain ⟨cq0c21, kq0c21, q0c21a, q0c21b, q0c21c⟩ := isOf hZ e019 LB0c2.1
  obtain ⟨_, _, ⟨T0c21, L0c21, k0c21, n0c21⟩, -, X0c21, ⟨Lc0c21, hQ0c21, l0c21, y0c21, z0c21⟩, st0c21⟩ := X019.virtualBack hx (y := (⟨"com/example/opuscule/opuscule/json/LineBuffer", "start", "(J)V"⟩ : MethodName)) (z := (⟨"com/example/opuscule/opuscule/json/LineBuffer", "start", "(J)V"⟩ : MethodName)) hown (mvT hZ (hw _ (List.mem_of_getElem? (i := 21) rfl))) (mvT hZ (hw _ (List.mem_of_getElem? (i := 22) rfl))) (notFace_of_selects (args := #[]) (mvT hZ (hw _ (List.mem_of_getElem? (i := 24) rfl)))) (mvT hZ (hw _ (List.mem_of_getElem? (i := 24) rfl))) (mvT hZ (hw _ (List.mem_of_getElem? (i := 23) rfl))) (by decide) (backOf (W := 0) (rmsa l Z aa hw [] b01 (((p1 &&& (3 : Int32)).toInt64) + ((((p1.toUInt32 >>> ((23 : Int32) &&& 31).toUInt32).toInt32) &&& (3 : Int32)).toInt64)) wc sx b0c2 kb0c2 (0 : Int32) (0 : Int64) (fun _ => (0 : Int32)) h019 n0 Z019 BW O019 LB0c2 g_b01) hZ (hw _ (List.mem_of_getElem? (i := 25) rfl)) (hw _ (List.mem_of_getElem? (i := 2) rfl)) (by decide) (by decide)) q0c21a q0c21c (g := (mkF m 126 #[.val (.long q0), .second, .val (.int p1), .val (.int p2), .val (.int p3), .val (.ref b01), .val (.int (p1 &&& (3 : Int32))), .val (.ref b04), .val (.int u0_11), .val (.ref b012), .unset, .unset] [(.long (((p1 &&& (3 : Int32)).toInt64) + ((((p1.toUInt32 >>> ((23 : Int32) &&& 31).toUInt32).toInt32) &&& (3 : Int32)).toInt64))), (.ref b01)])) rfl (by rw [hml]; rfl) (Steps.refl _) (argsL := [(.long (((p1 &&& (3 : Int32)).toInt64) + ((((p1.toUInt32 >>> ((23 : Int32) &&& 31).toUInt32).toInt32) &&& (3 : Int32)).toInt64)))]) (rest := []) (lenOf pd0_1 rfl) rfl (by show 2 * 0 + _ ≤ _; exact Nat.le_of_eq rfl) (hb hby at_126) (fun _ _ => ⟨rfl, e019, (by decide : 4 + 0 ≤ _), (by decide : 8204 + 0 ≤ _)⟩)
  dsimp only [Pt.U, Pt.locs, Pt.cells, Pt.slots] at X0c21 l0c21 y0c21 z0c21 st0c21 hQ0c21
  subst l0c21 y0c21 z0c21
  obtain ⟨rfl, N0c21q, Kq0c21, LB0c21⟩ := hQ0c21
  have N0c21 := Fr.app N019 N0c21q
  obtain ⟨lc0t22, X0c21, N0c21⟩ : ∃ lc, Stand p l e room_1 (s.setVm vm0) m #[(.long q0), (.int p1), (.int p2), (.int p3)] below meth c T0c21 lc 4 8204 ∧ Fr n0 lc := ⟨_, X0c21, N0c21⟩
  obtain ⟨h0c21, e0c21⟩ : ∃ h, T0c21.heap = h := ⟨_, rfl⟩
  rw [e0c21] at Kq0c21 LB0c21
  have SFk : ∀ x ∈ ([b01] : List Addr), Safe Z ownEL vm0 _ x := (sfS SF_b01 sf0)
  replace SF_b01 := Safe.keep Kq0c21 SFk CC.2.1 SF_b01
  replace SF_b0c2 := Safe.keep Kq0c21 SFk CC.2.1 SF_b0c2
  replace CC := CC.keep Kq0c21 SFk
  clear SFk
  replace V_b04 := V_b04.keep Kq0c21 (ninS (Ne.symm ne_b01_b04) nin0)
  replace V_b012 := V_b012.keep Kq0c21 (ninS (Ne.symm ne_b01_b012) nin0)
  have KK0c21 := Keep.trans K019 Kq0c21 (allS (Or.inr sz_b01) all0)
  have Z0c21 := Nat.le_trans Z019 Kq0c21.1
  have O0c21 := O019.keep Kq0c21 (allS g_b01 all0)
  refine stp (fun t k => st0c21.trans k) ?_
  show W (T0c21.setTop (mkF m 129 #[.val (.long q0), .second, .val (.int p1), .val (.int p2), .val (.int p3), .val (.ref b01), .val (.int (p1 &&& (3 : Int32))), .val (.ref b04), .val (.int u0_11), .val (.ref b012), .unset, .unset] []))
  refine stp (fun t k => XS.aload X0c21.here hx rfl (hb hby at_129) rfl rfl k) ?_
  show W (T0c21.setTop (mkF m 131 #[.val (.long q0), .second, .val (.int p1), .val (.int p2), .val (.int p3), .val (.ref b01), .val (.int (p1 &&& (3 : Int32))), .val (.ref b04), .val (.int u0_11), .val (.ref b012), .unset, .unset] [(.ref b01)]))
  refine stp (fun t k => XS.aload X0c21.here hx rfl (hb hby at_131) rfl rfl k) ?_
  show W (T0c21.setTop (mkF m 133 #[.val (.long q0), .second, .val (.int p1), .val (.int p2), .val (.int p3), .val (.ref b01), .val (.int (p1 &&& (3 : Int32))), .val (.ref b04), .val (.int u0_11), .val (.ref b012), .unset, .unset] [(.ref b04), (.ref b01)]))
  refine stp (fun t k => XS.iconst X0c21.here hx rfl (hb hby at_133) k) ?_
  show W (T0c21.setTop (mkF m 134 #[.val (.long q0), .second, .val (.int p1), .val (.int p2), .val (.int p3), .val (.ref b01), .val (.int (p1 &&& (3 : Int32))), .val (.ref b04), .val (.int u0_11), .val (.ref b012), .unset, .unset] [(.int (0 : Int32)), (.ref b04), (.ref b01)]))
  refine stp (fun t k => XS.iload X0c21.here hx rfl (hb hby at_134) rfl k) ?_
  show W (T0c21.setTop (mkF m 136 #[.val (.long q0), .second, .val (.int p1), .val (.int p2), .val (.int p3), .val (.ref b01), .val (.int (p1 &&& (3 : Int32))), .val (.ref b04), .val (.int u0_11), .val (.ref b012), .unset, .unset] [(.int (p1 &&& (3 : Int32))), (.int (0 : Int32)), (.ref b04), (.ref b01)]))
  obtain ⟨cq0c23, kq0c23, q0c23a, q0c23b, q0c23c⟩ := isOf hZ e0c21 LB0c21.1
  obtain ⟨_, _, ⟨T0c23, L0c23, k0c23, n0c23⟩, -, X0c23, ⟨Lc0c23, hQ0c23, l0c23, y0c23, z0c23⟩, st0c23⟩ := X0c21.virtualBack hx (y := (⟨"com/example/opuscule/opuscule/json/LineBuffer", "write", "([CII)V"⟩ : MethodName)) (z := (⟨"com/example/opuscule/opuscule/json/LineBuffer", "write", "([CII)V"⟩ : MethodName)) hown (mvT hZ (hw _ (List.mem_of_getElem? (i := 31) rfl))) (mvT hZ (hw _ (List.mem_of_getElem? (i := 32) rfl))) (notFace_of_selects (args := #[]) (mvT hZ (hw _ (List.mem_of_getElem? (i := 34) rfl)))) (mvT hZ (hw _ (List.mem_of_getElem? (i := 34) rfl))) (mvT hZ (hw _ (List.mem_of_getElem? (i := 33) rfl))) (by decide) (backOf (W := 0) (rmwr l Z aa hw [] b01 b04 (0 : Int32) (p1 &&& (3 : Int32)) wc sx b0c2 kb0c2 (((p1 &&& (3 : Int32)).toInt64) + ((((p1.toUInt32 >>> ((23 : Int32) &&& 31).toUInt32).toInt32) &&& (3 : Int32)).toInt64)) (fun _ => (0 : Int32)) k04 3 og kn  h0c21 n0 Z0c21 BW O0c21 LB0c21 g_b01 g_b0c2 V_b04 (Ne.symm ne_b0c2_b04) rfl hkn hkn3 (by decide) hog (own_lim1 hkn hk2 (by omega) (by omega))) hZ (hw _ (List.mem_of_getElem? (i := 35) rfl)) (hw _ (List.mem_of_getElem? (i := 2) rfl)) (by decide) (by decide)) q0c23a q0c23c (g := (mkF m 136 #[.val (.long q0), .second, .val (.int p1), .val (.int p2), .val (.int p3), .val (.ref b01), .val (.int (p1 &&& (3 : Int32))), .val (.ref b04), .val (.int u0_11), .val (.ref b012), .unset, .unset] [(.int (p1 &&& (3 : Int32))), (.int (0 : Int32)), (.ref b04), (.ref b01)])) rfl (by rw [hml]; rfl) (Steps.refl _) (argsL := [(.ref b04), (.int (0 : Int32)), (.int (p1 &&& (3 : Int32)))]) (rest := []) (lenOf pd0_2 rfl) rfl (by show 2 * 0 + _ ≤ _; exact Nat.le_of_eq rfl) (hb hby at_136) (fun _ _ => ⟨rfl, e0c21, (by decide : 4 + 0 ≤ _), (by decide : 8204 + 0 ≤ _)⟩)
  dsimp only [Pt.U, Pt.locs, Pt.cells, Pt.slots] at X0c23 l0c23 y0c23 z0c23 st0c23 hQ0c23
  subst l0c23 y0c23 z0c23
  obtain ⟨rfl, N0c23q, Kq0c23, LB0c23⟩ := hQ0c23
  have N0c23 := Fr.app N0c21 N0c23q
  obtain ⟨lc0t24, X0c23, N0c23⟩ : ∃ lc, Stand p l e room_1 (s.setVm vm0) m #[(.long q0), (.int p1), (.int p2), (.int p3)] below meth c T0c23 lc 4 8204 ∧ Fr n0 lc := ⟨_, X0c23, N0c23⟩
  obtain ⟨h0c23, e0c23⟩ : ∃ h, T0c23.heap = h := ⟨_, rfl⟩
  rw [e0c23] at Kq0c23 LB0c23
  have SFk : ∀ x ∈ ([b01, b0c2] : List Addr), Safe Z ownEL vm0 _ x := (sfS SF_b01 (sfS SF_b0c2 sf0))
  replace SF_b01 := Safe.keep Kq0c23 SFk CC.2.1 SF_b01
  replace SF_b0c2 := Safe.keep Kq0c23 SFk CC.2.1 SF_b0c2
  replace CC := CC.keep Kq0c23 SFk
  clear SFk
  replace V_b04 := V_b04.keep Kq0c23 (ninS (Ne.symm ne_b01_b04) (ninS (Ne.symm ne_b0c2_b04) nin0))
  replace V_b012 := V_b012.keep Kq0c23 (ninS (Ne.symm ne_b01_b012) (ninS (Ne.symm ne_b0c2_b012) nin0))
  have KK0c23 := Keep.trans KK0c21 Kq0c23 (allS (Or.inr sz_b01) (allS (Or.inr sz_b0c2) all0))
  have Z0c23 := Nat.le_trans Z0c21 Kq0c23.1
  have O0c23 := O0c21.keep Kq0c23 (allS g_b01 (allS g_b0c2 all0))
  refine stp (fun t k => st0c23.trans k) ?_
  show W (T0c23.setTop (mkF m 139 #[.val (.long q0), .second, .val (.int p1), .val (.int p2), .val (.int p3), .val (.ref b01), .val (.int (p1 &&& (3 : Int32))), .val (.ref b04), .val (.int u0_11), .val (.ref b012), .unset, .unset] []))
  refine stp (fun t k => XS.aload X0c23.here hx rfl (hb hby at_139) rfl rfl k) ?_
  show W (T0c23.setTop (mkF m 141 #[.val (.long q0), .second, .val (.int p1), .val (.int p2), .val (.int p3), .val (.ref b01), .val (.int (p1 &&& (3 : Int32))), .val (.ref b04), .val (.int u0_11), .val (.ref b012), .unset, .unset] [(.ref b01)]))
  refine stp (fun t k => XS.lloadN X0c23.here hx rfl (hb hby at_141) rfl k) ?_
  show W (T0c23.setTop (mkF m 142 #[.val (.long q0), .second, .val (.int p1), .val (.int p2), .val (.int p3), .val (.ref b01), .val (.int (p1 &&& (3 : Int32))), .val (.ref b04), .val (.int u0_11), .val (.ref b012), .unset, .unset] [(.long q0), (.ref b01)]))
  obtain ⟨cq0c25, kq0c25, q0c25a, q0c25b, q0c25c⟩ := isOf hZ e0c23 LB0c23.1
  obtain ⟨_, _, ⟨T0c25, L0c25, k0c25, n0c25⟩, -, X0c25, ⟨Lc0c25, hQ0c25, l0c25, y0c25, z0c25⟩, st0c25⟩ := X0c23.virtualBack hx (y := (⟨"com/example/opuscule/opuscule/json/LineBuffer", "start", "(J)V"⟩ : MethodName)) (z := (⟨"com/example/opuscule/opuscule/json/LineBuffer", "start", "(J)V"⟩ : MethodName)) hown (mvT hZ (hw _ (List.mem_of_getElem? (i := 21) rfl))) (mvT hZ (hw _ (List.mem_of_getElem? (i := 22) rfl))) (notFace_of_selects (args := #[]) (mvT hZ (hw _ (List.mem_of_getElem? (i := 24) rfl)))) (mvT hZ (hw _ (List.mem_of_getElem? (i := 24) rfl))) (mvT hZ (hw _ (List.mem_of_getElem? (i := 23) rfl))) (by decide) (backOf (W := 0) (rmsa l Z aa hw [] b01 q0 wc sx b0c2 kb0c2 (p1 &&& (3 : Int32)) (((p1 &&& (3 : Int32)).toInt64) + ((((p1.toUInt32 >>> ((23 : Int32) &&& 31).toUInt32).toInt32) &&& (3 : Int32)).toInt64)) (fun j => if j < kn then own_b (og j) else (fun _ => (0 : Int32)) j) h0c23 n0 Z0c23 BW O0c23 LB0c23 g_b01) hZ (hw _ (List.mem_of_getElem? (i := 25) rfl)) (hw _ (List.mem_of_getElem? (i := 2) rfl)) (by decide) (by decide)) q0c25a q0c25c (g := (mkF m 142 #[.val (.long q0), .second, .val (.int p1), .val (.int p2), .val (.int p3), .val (.ref b01), .val (.int (p1 &&& (3 : Int32))), .val (.ref b04), .val (.int u0_11), .val (.ref b012), .unset, .unset] [(.long q0), (.ref b01)])) rfl (by rw [hml]; rfl) (Steps.refl _) (argsL := [(.long q0)]) (rest := []) (lenOf pd0_1 rfl) rfl (by show 2 * 0 + _ ≤ _; exact Nat.le_of_eq rfl) (hb hby at_142) (fun _ _ => ⟨rfl, e0c23, (by decide : 4 + 0 ≤ _), (by decide : 8204 + 0 ≤ _)⟩)
  dsimp only [Pt.U, Pt.locs, Pt.cells, Pt.slots] at X0c25 l0c25 y0c25 z0c25 st0c25 hQ0c25
  subst l0c25 y0c25 z0c25
  obtain ⟨rfl, N0c25q, Kq0c25, LB0c25⟩ := hQ0c25
  have N0c25 := Fr.app N0c23 N0c25q
  obtain ⟨lc0t26, X0c25, N0c25⟩ : ∃ lc, Stand p l e room_1 (s.setVm vm0) m #[(.long q0), (.int p1), (.int p2), (.int p3)] below meth c T0c25 lc 4 8204 ∧ Fr n0 lc := ⟨_, X0c25, N0c25⟩
  obtain ⟨h0c25, e0c25⟩ : ∃ h, T0c25.heap = h := ⟨_, rfl⟩
  rw [e0c25] at Kq0c25 LB0c25
  have SFk : ∀ x ∈ ([b01] : List Addr), Safe Z ownEL vm0 _ x := (sfS SF_b01 sf0)
  replace SF_b01 := Safe.keep Kq0c25 SFk CC.2.1 SF_b01
  replace SF_b0c2 := Safe.keep Kq0c25 SFk CC.2.1 SF_b0c2
  replace CC := CC.keep Kq0c25 SFk
  clear SFk
  replace V_b04 := V_b04.keep Kq0c25 (ninS (Ne.symm ne_b01_b04) nin0)
  replace V_b012 := V_b012.keep Kq0c25 (ninS (Ne.symm ne_b01_b012) nin0)
  have KK0c25 := Keep.trans KK0c23 Kq0c25 (allS (Or.inr sz_b01) all0)
  have Z0c25 := Nat.le_trans Z0c23 Kq0c25.1
  have O0c25 := O0c23.keep Kq0c25 (allS g_b01 all0)
  refine stp (fun t k => st0c25.trans k) ?_
  show W (T0c25.setTop (mkF m 145 #[.val (.long q0), .second, .val (.int p1), .val (.int p2), .val (.int p3), .val (.ref b01), .val (.int (p1 &&& (3 : Int32))), .val (.ref b04), .val (.int u0_11), .val (.ref b012), .unset, .unset] []))
  refine stp (fun t k => XS.aload X0c25.here hx rfl (hb hby at_145) rfl rfl k) ?_
  show W (T0c25.setTop (mkF m 147 #[.val (.long q0), .second, .val (.int p1), .val (.int p2), .val (.int p3), .val (.ref b01), .val (.int (p1 &&& (3 : Int32))), .val (.ref b04), .val (.int u0_11), .val (.ref b012), .unset, .unset] [(.ref b01)]))
  obtain ⟨cq0c27, kq0c27, q0c27a, q0c27b, q0c27c⟩ := isOf hZ e0c25 LB0c25.1
  obtain ⟨_, _, ⟨T0c27, L0c27, k0c27, n0c27⟩, -, X0c27, hS0c27, hG0c27, ⟨Lc0c27, hQ0c27, l0c27, y0c27, z0c27, hC0c27⟩, st0c27⟩ := X0c25.virtualBackS hx (y := (⟨"com/example/opuscule/opuscule/json/LineBuffer", "toString", "()Ljava/lang/String;"⟩ : MethodName)) (z := (⟨"com/example/opuscule/opuscule/json/LineBuffer", "toString", "()Ljava/lang/String;"⟩ : MethodName)) hown (mvT hZ (hw _ (List.mem_of_getElem? (i := 36) rfl))) (mvT hZ (hw _ (List.mem_of_getElem? (i := 37) rfl))) (notFace_of_selects (args := #[]) (mvT hZ (hw _ (List.mem_of_getElem? (i := 39) rfl)))) (mvT hZ (hw _ (List.mem_of_getElem? (i := 39) rfl))) (mvT hZ (hw _ (List.mem_of_getElem? (i := 38) rfl))) (by decide) (backOfSH (W := 0) (rmts l Z aa hw [] b01 wc sx kU kI kA b0c2 kb0c2 (0 : Int32) q0 (fun j => if j < kn then own_b (og j) else (fun _ => (0 : Int32)) j) 0 (fun _ => (0 : Int32)) h0c25 n0 Z0c25 BW O0c25 BC LB0c25 rfl (by decide) (fun j hj => absurd hj (Nat.not_lt_zero j)) (fun j hj => absurd hj (Nat.not_lt_zero j))) hZ (hw _ (List.mem_of_getElem? (i := 40) rfl)) (hw _ (List.mem_of_getElem? (i := 2) rfl)) (by decide) (by decide) hEL CC.2.1) q0c27a q0c27c (g := (mkF m 147 #[.val (.long q0), .second, .val (.int p1), .val (.int p2), .val (.int p3), .val (.ref b01), .val (.int (p1 &&& (3 : Int32))), .val (.ref b04), .val (.int u0_11), .val (.ref b012), .unset, .unset] [(.ref b01)])) rfl (by rw [hml]; rfl) (Steps.refl _) (argsL := []) (rest := []) (lenOf pd0_3 rfl) rfl (by show 2 * 0 + _ ≤ _; exact Nat.le_of_eq rfl) (hb hby at_147) (fun _ _ => ⟨rfl, e0c25, (by decide : 4 + 5 ≤ _), (by decide : 8204 + 12 ≤ _)⟩)
  dsimp only [Pt.U, Pt.locs, Pt.cells, Pt.slots] at X0c27 l0c27 y0c27 z0c27 st0c27 hQ0c27
  subst l0c27 y0c27 z0c27
  obtain ⟨a0c27, c0c27, rfl, N0c27q, Kq0c27, S_0c27⟩ := hQ0c27
  have N0c27 := Fr.app N0c25 N0c27q
  dsimp only [Pt.U] at hS0c27 hG0c27 hC0c27
  rw [e0c25] at hG0c27
  replace SF_b01 := CHr.safe hC0c27 LB0c25.lt0 SF_b01
  replace SF_b0c2 := CHr.safe hC0c27 LB0c25.lt1 SF_b0c2
  obtain ⟨vm0c27, ⟨lc0c27, X0c27, N0c27⟩, CC0c27, SF_b01, SF_b0c2, hZ, hown⟩ : ∃ vm, (∃ lc, Stand p l e room_1 (s.setVm vm) m #[(.long q0), (.int p1), (.int p2), (.int p3)] below meth c T0c27 lc 9 8216 ∧ Fr n0 lc) ∧ OwnC Z ownEL s vm T0c27.heap ∧ Safe Z ownEL vm T0c27.heap b01 ∧ Safe Z ownEL vm T0c27.heap b0c2 ∧ Z.Warmed39 (s.setVm vm).vm ∧ (s.setVm vm).vm.findClass "com/example/opuscule/opuscule/json/LineBufferStartPinLaw" = some m.cls := ⟨_, ⟨_, X0c27, N0c27⟩, CC.reb hS0c27 hG0c27 hC0c27, SF_b01, SF_b0c2, State.Warmed39.trans hZ hS0c27.1, (hS0c27.1.alike.findClass _ _).trans hown⟩
  replace CC := CC0c27
  obtain ⟨h0c27, e0c27⟩ : ∃ h, T0c27.heap = h := ⟨_, rfl⟩
  rw [e0c27] at Kq0c27 S_0c27 CC SF_b01 SF_b0c2
  replace V_b04 := V_b04.keep Kq0c27 nin0
  replace V_b012 := V_b012.keep Kq0c27 nin0
  replace LB0c25 := LB0c25.keep Kq0c27 nin0 nin0
  have KK0c27 := Keep.trans KK0c25 Kq0c27 all0
  have Z0c27 := Nat.le_trans Z0c25 Kq0c27.1
  have O0c27 := O0c25.keep Kq0c27 all0
  refine stp (fun t k => st0c27.trans k) ?_
  show W (T0c27.setTop (mkF m 150 #[.val (.long q0), .second, .val (.int p1), .val (.int p2), .val (.int p3), .val (.ref b01), .val (.int (p1 &&& (3 : Int32))), .val (.ref b04), .val (.int u0_11), .val (.ref b012), .unset, .unset] [(.ref a0c27)]))
  refine stp (fun t k => XS.astore X0c27.here hx rfl (hb hby at_150) rfl rfl (l' := #[.val (.long q0), .second, .val (.int p1), .val (.int p2), .val (.int p3), .val (.ref b01), .val (.int (p1 &&& (3 : Int32))), .val (.ref b04), .val (.int u0_11), .val (.ref b012), .val (.ref a0c27), .unset]) rfl k) ?_
  show W (T0c27.setTop (mkF m 152 #[.val (.long q0), .second, .val (.int p1), .val (.int p2), .val (.int p3), .val (.ref b01), .val (.int (p1 &&& (3 : Int32))), .val (.ref b04), .val (.int u0_11), .val (.ref b012), .val (.ref a0c27), .unset] []))
  refine stp (fun t k => XS.aload X0c27.here hx rfl (hb hby at_152) rfl rfl k) ?_
  show W (T0c27.setTop (mkF m 154 #[.val (.long q0), .second, .val (.int p1), .val (.int p2), .val (.int p3), .val (.ref b01), .val (.int (p1 &&& (3 : Int32))), .val (.ref b04), .val (.int u0_11), .val (.ref b012), .val (.ref a0c27), .unset] [(.ref a0c27)]))
  obtain ⟨kl28, Fl28, Vl28⟩ := own_latin S_0c27
  obtain ⟨cq0c29, kq0c29, q0c29a, q0c29b, q0c29c⟩ := isOf hZ e0c27 S_0c27.1
  obtain ⟨_, _, ⟨T0c29, L0c29, k0c29, n0c29⟩, -, X0c29, ⟨Lc0c29, hQ0c29, l0c29, y0c29, z0c29⟩, st0c29⟩ := X0c27.virtualBack hx (y := (⟨"java/lang/String", "isEmpty", "()Z"⟩ : MethodName)) (z := (⟨"java/lang/String", "isEmpty", "()Z"⟩ : MethodName)) hown (mvT hZ (hw _ (List.mem_of_getElem? (i := 75) rfl))) (mvT hZ (hw _ (List.mem_of_getElem? (i := 76) rfl))) (notFace_of_selects (args := #[]) (mvT hZ (hw _ (List.mem_of_getElem? (i := 78) rfl)))) (mvT hZ (hw _ (List.mem_of_getElem? (i := 78) rfl))) (mvT hZ (hw _ (List.mem_of_getElem? (i := 77) rfl))) (by decide) (backOf (W := 0) (rmie l Z aa hw [] a0c27 wc sx c0c27 kl28 _ _ h0c27 n0 Z0c27 BW O0c27 Fl28 Vl28) hZ (hw _ (List.mem_of_getElem? (i := 79) rfl)) (hw _ (List.mem_of_getElem? (i := 43) rfl)) (by decide) (by decide)) q0c29a q0c29c (g := (mkF m 154 #[.val (.long q0), .second, .val (.int p1), .val (.int p2), .val (.int p3), .val (.ref b01), .val (.int (p1 &&& (3 : Int32))), .val (.ref b04), .val (.int u0_11), .val (.ref b012), .val (.ref a0c27), .unset] [(.ref a0c27)])) rfl (by rw [hml]; rfl) (Steps.refl _) (argsL := []) (rest := []) (lenOf pd0_4 rfl) rfl (by show 2 * 0 + _ ≤ _; exact Nat.le_of_eq rfl) (hb hby at_154) (fun _ _ => ⟨rfl, e0c27, (by decide : 9 + 0 ≤ _), (by decide : 8216 + 0 ≤ _)⟩)
  dsimp only [Pt.U, Pt.locs, Pt.cells, Pt.slots] at X0c29 l0c29 y0c29 z0c29 st0c29 hQ0c29
  subst l0c29 y0c29 z0c29
  obtain ⟨rfl, N0c29q, e0c29⟩ := hQ0c29
  have N0c29 := Fr.app N0c27 N0c29q
  obtain ⟨lc0t30, X0c29, N0c29⟩ : ∃ lc, Stand p l e room_1 (s.setVm vm0c27) m #[(.long q0), (.int p1), (.int p2), (.int p3)] below meth c T0c29 lc 9 8216 ∧ Fr n0 lc := ⟨_, X0c29, N0c29⟩
  refine stp (fun t k => st0c29.trans k) ?_
  show W (T0c29.setTop (mkF m 157 #[.val (.long q0), .second, .val (.int p1), .val (.int p2), .val (.int p3), .val (.ref b01), .val (.int (p1 &&& (3 : Int32))), .val (.ref b04), .val (.int u0_11), .val (.ref b012), .val (.ref a0c27), .unset] [(.int (fie (Int32.ofNat 0)))]))
  refine stp (fun t k => XS.ifYes X0c29.here hx rfl (pc0 := 157) (pc' := 162) rfl (hb hby at_157) rfl ((if0 _ _).trans (feq (by decide)).2) (by decide) (by decide) k) ?_
  show W (T0c29.setTop (mkF m 162 #[.val (.long q0), .second, .val (.int p1), .val (.int p2), .val (.int p3), .val (.ref b01), .val (.int (p1 &&& (3 : Int32))), .val (.ref b04), .val (.int u0_11), .val (.ref b012), .val (.ref a0c27), .unset] []))
  refine stp (fun t k => XS.iload X0c29.here hx rfl (hb hby at_162) rfl k) ?_
  show W (T0c29.setTop (mkF m 164 #[.val (.long q0), .second, .val (.int p1), .val (.int p2), .val (.int p3), .val (.ref b01), .val (.int (p1 &&& (3 : Int32))), .val (.ref b04), .val (.int u0_11), .val (.ref b012), .val (.ref a0c27), .unset] [(.int u0_11)]))
  refine stp (fun t k => XS.i2l X0c29.here hx rfl (hb hby at_164) rfl k) ?_
  show W (T0c29.setTop (mkF m 165 #[.val (.long q0), .second, .val (.int p1), .val (.int p2), .val (.int p3), .val (.ref b01), .val (.int (p1 &&& (3 : Int32))), .val (.ref b04), .val (.int u0_11), .val (.ref b012), .val (.ref a0c27), .unset] [(.long (u0_11.toInt64))]))
  refine stp (fun t k => XS.lloadN X0c29.here hx rfl (hb hby at_165) rfl k) ?_
  show W (T0c29.setTop (mkF m 166 #[.val (.long q0), .second, .val (.int p1), .val (.int p2), .val (.int p3), .val (.ref b01), .val (.int (p1 &&& (3 : Int32))), .val (.ref b04), .val (.int u0_11), .val (.ref b012), .val (.ref a0c27), .unset] [(.long q0), (.long (u0_11.toInt64))]))
  refine stp (fun t k => XS.lcmp X0c29.here hx rfl (hb hby at_166) rfl k) ?_
  show W (T0c29.setTop (mkF m 167 #[.val (.long q0), .second, .val (.int p1), .val (.int p2), .val (.int p3), .val (.ref b01), .val (.int (p1 &&& (3 : Int32))), .val (.ref b04), .val (.int u0_11), .val (.ref b012), .val (.ref a0c27), .unset] [(.int (lcmpW (u0_11.toInt64) q0))]))
  by_cases hc0_31 : q0 < (u0_11.toInt64)
  · refine stp (fun t k => XS.ifNo X0c29.here hx rfl (hb hby at_167) rfl ((if0 _ _).trans (tlt ((lw_gt (u0_11.toInt64) q0).mpr hc0_31)).2.2.2) k) ?_
    show W (T0c29.setTop (mkF m 170 #[.val (.long q0), .second, .val (.int p1), .val (.int p2), .val (.int p3), .val (.ref b01), .val (.int (p1 &&& (3 : Int32))), .val (.ref b04), .val (.int u0_11), .val (.ref b012), .val (.ref a0c27), .unset] []))
    refine stp (fun t k => XS.iconst X0c29.here hx rfl (hb hby at_170) k) ?_
    show W (T0c29.setTop (mkF m 171 #[.val (.long q0), .second, .val (.int p1), .val (.int p2), .val (.int p3), .val (.ref b01), .val (.int (p1 &&& (3 : Int32))), .val (.ref b04), .val (.int u0_11), .val (.ref b012), .val (.ref a0c27), .unset] [(.int (1 : Int32))]))
    show W (T0c29.setTop (mkF m 171 #[.val (.long q0), .second, .val (.int p1), .val (.int p2), .val (.int p3), .val (.ref b01), .val (.int (p1 &&& (3 : Int32))), .val (.ref b04), .val (.int u0_11), .val (.ref b012), .val (.ref a0c27), .unset] [(.int (1 : Int32))]))
    rw [← hW]
    exact own_W hZ hEL CC (own_retN X0c29 hx Bd.notSynchronized Bd.returns (w := (1 : Int32)) (by simp) (hb hby at_171) rfl (by show Q0 Z q0 p1 p2 p3 wc sx kU kI kA h0 n0 _ T0c29.heap _ ∧ T0c29.heap = h0c27; rw [e0c29]; exact ⟨⟨rfl, N0c29⟩, rfl⟩) (by decide) (by decide))
  · refine stp (fun t k => XS.ifYes X0c29.here hx rfl (pc0 := 167) (pc' := 172) rfl (hb hby at_167) rfl ((if0 _ _).trans (flt (fun q => hc0_31 ((lw_gt (u0_11.toInt64) q0).mp q))).2.2.2) (by decide) (by decide) k) ?_
    show W (T0c29.setTop (mkF m 172 #[.val (.long q0), .second, .val (.int p1), .val (.int p2), .val (.int p3), .val (.ref b01), .val (.int (p1 &&& (3 : Int32))), .val (.ref b04), .val (.int u0_11), .val (.ref b012), .val (.ref a0c27), .unset] []))
    refine stp (fun t k => XS.aload X0c29.here hx rfl (hb hby at_172) rfl rfl k) ?_
    show W (T0c29.setTop (mkF m 174 #[.val (.long q0), .second, .val (.int p1), .val (.int p2), .val (.int p3), .val (.ref b01), .val (.int (p1 &&& (3 : Int32))), .val (.ref b04), .val (.int u0_11), .val (.ref b012), .val (.ref a0c27), .unset] [(.ref b01)]))
    refine stp (fun t k => XS.aload X0c29.here hx rfl (hb hby at_174) rfl rfl k) ?_
    show W (T0c29.setTop (mkF m 176 #[.val (.long q0), .second, .val (.int p1), .val (.int p2), .val (.int p3), .val (.ref b01), .val (.int (p1 &&& (3 : Int32))), .val (.ref b04), .val (.int u0_11), .val (.ref b012), .val (.ref a0c27), .unset] [(.ref b012), (.ref b01)]))
    refine stp (fun t k => XS.iconst X0c29.here hx rfl (hb hby at_176) k) ?_
    show W (T0c29.setTop (mkF m 177 #[.val (.long q0), .second, .val (.int p1), .val (.int p2), .val (.int p3), .val (.ref b01), .val (.int (p1 &&& (3 : Int32))), .val (.ref b04), .val (.int u0_11), .val (.ref b012), .val (.ref a0c27), .unset] [(.int (0 : Int32)), (.ref b012), (.ref b01)]))
    refine stp (fun t k => XS.iload X0c29.here hx rfl (hb hby at_177) rfl k) ?_
    show W (T0c29.setTop (mkF m 179 #[.val (.long q0), .second, .val (.int p1), .val (.int p2), .val (.int p3), .val (.ref b01), .val (.int (p1 &&& (3 : Int32))), .val (.ref b04), .val (.int u0_11), .val (.ref b012), .val (.ref a0c27), .unset] [(.int u0_11), (.int (0 : Int32)), (.ref b012), (.ref b01)]))
    obtain ⟨cq0c32, kq0c32, q0c32a, q0c32b, q0c32c⟩ := isOf hZ e0c29 LB0c25.1
    obtain ⟨_, _, ⟨T0c32, L0c32, k0c32, n0c32⟩, -, X0c32, ⟨Lc0c32, hQ0c32, l0c32, y0c32, z0c32⟩, st0c32⟩ := X0c29.virtualBack hx (y := (⟨"com/example/opuscule/opuscule/json/LineBuffer", "write", "([CII)V"⟩ : MethodName)) (z := (⟨"com/example/opuscule/opuscule/json/LineBuffer", "write", "([CII)V"⟩ : MethodName)) hown (mvT hZ (hw _ (List.mem_of_getElem? (i := 31) rfl))) (mvT hZ (hw _ (List.mem_of_getElem? (i := 32) rfl))) (notFace_of_selects (args := #[]) (mvT hZ (hw _ (List.mem_of_getElem? (i := 34) rfl)))) (mvT hZ (hw _ (List.mem_of_getElem? (i := 34) rfl))) (mvT hZ (hw _ (List.mem_of_getElem? (i := 33) rfl))) (by decide) (backOf (W := 0) (rmwr l Z aa hw [] b01 b012 (0 : Int32) u0_11 wc sx b0c2 kb0c2 q0 (fun j => if j < kn then own_b (og j) else (fun _ => (0 : Int32)) j) k012 4 cg cn  h0c27 n0 Z0c27 BW O0c27 LB0c25 g_b01 g_b0c2 V_b012 (Ne.symm ne_b0c2_b012) rfl hcn hcn4 (by decide) hcg (own_lim2 hc0_31)) hZ (hw _ (List.mem_of_getElem? (i := 35) rfl)) (hw _ (List.mem_of_getElem? (i := 2) rfl)) (by decide) (by decide)) q0c32a q0c32c (g := (mkF m 179 #[.val (.long q0), .second, .val (.int p1), .val (.int p2), .val (.int p3), .val (.ref b01), .val (.int (p1 &&& (3 : Int32))), .val (.ref b04), .val (.int u0_11), .val (.ref b012), .val (.ref a0c27), .unset] [(.int u0_11), (.int (0 : Int32)), (.ref b012), (.ref b01)])) rfl (by rw [hml]; rfl) (Steps.refl _) (argsL := [(.ref b012), (.int (0 : Int32)), (.int u0_11)]) (rest := []) (lenOf pd0_2 rfl) rfl (by show 2 * 0 + _ ≤ _; exact Nat.le_of_eq rfl) (hb hby at_179) (fun _ _ => ⟨rfl, e0c29, (by decide : 9 + 0 ≤ _), (by decide : 8216 + 0 ≤ _)⟩)
    dsimp only [Pt.U, Pt.locs, Pt.cells, Pt.slots] at X0c32 l0c32 y0c32 z0c32 st0c32 hQ0c32
    subst l0c32 y0c32 z0c32
    obtain ⟨rfl, N0c32q, Kq0c32, LB0c32⟩ := hQ0c32
    have N0c32 := Fr.app N0c29 N0c32q
    obtain ⟨lc0t33, X0c32, N0c32⟩ : ∃ lc, Stand p l e room_1 (s.setVm vm0c27) m #[(.long q0), (.int p1), (.int p2), (.int p3)] below meth c T0c32 lc 9 8216 ∧ Fr n0 lc := ⟨_, X0c32, N0c32⟩
    obtain ⟨h0c32, e0c32⟩ : ∃ h, T0c32.heap = h := ⟨_, rfl⟩
    rw [e0c32] at Kq0c32 LB0c32
    have SFk : ∀ x ∈ ([b01, b0c2] : List Addr), Safe Z ownEL vm0c27 _ x := (sfS SF_b01 (sfS SF_b0c2 sf0))
    replace SF_b01 := Safe.keep Kq0c32 SFk CC.2.1 SF_b01
    replace SF_b0c2 := Safe.keep Kq0c32 SFk CC.2.1 SF_b0c2
    replace CC := CC.keep Kq0c32 SFk
    clear SFk
    replace V_b04 := V_b04.keep Kq0c32 (ninS (Ne.symm ne_b01_b04) (ninS (Ne.symm ne_b0c2_b04) nin0))
    replace V_b012 := V_b012.keep Kq0c32 (ninS (Ne.symm ne_b01_b012) (ninS (Ne.symm ne_b0c2_b012) nin0))
    have KK0c32 := Keep.trans KK0c27 Kq0c32 (allS (Or.inr sz_b01) (allS (Or.inr sz_b0c2) all0))
    have Z0c32 := Nat.le_trans Z0c27 Kq0c32.1
    have O0c32 := O0c27.keep Kq0c32 (allS g_b01 (allS g_b0c2 all0))
    refine stp (fun t k => st0c32.trans k) ?_
    show W (T0c32.setTop (mkF m 182 #[.val (.long q0), .second, .val (.int p1), .val (.int p2), .val (.int p3), .val (.ref b01), .val (.int (p1 &&& (3 : Int32))), .val (.ref b04), .val (.int u0_11), .val (.ref b012), .val (.ref a0c27), .unset] []))
    refine stp (fun t k => XS.aload X0c32.here hx rfl (hb hby at_182) rfl rfl k) ?_
    show W (T0c32.setTop (mkF m 184 #[.val (.long q0), .second, .val (.int p1), .val (.int p2), .val (.int p3), .val (.ref b01), .val (.int (p1 &&& (3 : Int32))), .val (.ref b04), .val (.int u0_11), .val (.ref b012), .val (.ref a0c27), .unset] [(.ref b01)]))
    obtain ⟨cq0c34, kq0c34, q0c34a, q0c34b, q0c34c⟩ := isOf hZ e0c32 LB0c32.1
    obtain ⟨_, _, ⟨T0c34, L0c34, k0c34, n0c34⟩, -, X0c34, hS0c34, hG0c34, ⟨Lc0c34, hQ0c34, l0c34, y0c34, z0c34, hC0c34⟩, st0c34⟩ := X0c32.virtualBackS hx (y := (⟨"com/example/opuscule/opuscule/json/LineBuffer", "toString", "()Ljava/lang/String;"⟩ : MethodName)) (z := (⟨"com/example/opuscule/opuscule/json/LineBuffer", "toString", "()Ljava/lang/String;"⟩ : MethodName)) hown (mvT hZ (hw _ (List.mem_of_getElem? (i := 36) rfl))) (mvT hZ (hw _ (List.mem_of_getElem? (i := 37) rfl))) (notFace_of_selects (args := #[]) (mvT hZ (hw _ (List.mem_of_getElem? (i := 39) rfl)))) (mvT hZ (hw _ (List.mem_of_getElem? (i := 39) rfl))) (mvT hZ (hw _ (List.mem_of_getElem? (i := 38) rfl))) (by decide) (backOfSH (W := 0) (rmts l Z aa hw [] b01 wc sx kU kI kA b0c2 kb0c2 u0_11 q0 (fun j => if j < cn then own_b (cg j) else (fun j => if j < kn then own_b (og j) else (fun _ => (0 : Int32)) j) j) cn cg h0c32 n0 Z0c32 BW O0c32 BC LB0c32 hcn hcn4 (fun j hj => hcg j (Nat.lt_of_lt_of_le hj hcn4)) (fun j hj => if_pos hj)) hZ (hw _ (List.mem_of_getElem? (i := 40) rfl)) (hw _ (List.mem_of_getElem? (i := 2) rfl)) (by decide) (by decide) hEL CC.2.1) q0c34a q0c34c (g := (mkF m 184 #[.val (.long q0), .second, .val (.int p1), .val (.int p2), .val (.int p3), .val (.ref b01), .val (.int (p1 &&& (3 : Int32))), .val (.ref b04), .val (.int u0_11), .val (.ref b012), .val (.ref a0c27), .unset] [(.ref b01)])) rfl (by rw [hml]; rfl) (Steps.refl _) (argsL := []) (rest := []) (lenOf pd0_3 rfl) rfl (by show 2 * 0 + _ ≤ _; exact Nat.le_of_eq rfl) (hb hby at_184) (fun _ _ => ⟨rfl, e0c32, (by decide : 9 + 5 ≤ _), (by decide : 8216 + 12 ≤ _)⟩)
    dsimp only [Pt.U, Pt.locs, Pt.cells, Pt.slots] at X0c34 l0c34 y0c34 z0c34 st0c34 hQ0c34
    subst l0c34 y0c34 z0c34
    obtain ⟨a0c34, c0c34, rfl, N0c34q, Kq0c34, S_0c34⟩ := hQ0c34
    have N0c34 := Fr.app N0c32 N0c34q
    dsimp only [Pt.U] at hS0c34 hG0c34 hC0c34
    rw [e0c32] at hG0c34
    replace SF_b01 := CHr.safe hC0c34 LB0c32.lt0 SF_b01
    replace SF_b0c2 := CHr.safe hC0c34 LB0c32.lt1 SF_b0c2
    obtain ⟨vm0c34, ⟨lc0c34, X0c34, N0c34⟩, CC0c34, SF_b01, SF_b0c2, hZ, hown⟩ : ∃ vm, (∃ lc, Stand p l e room_1 (s.setVm vm) m #[(.long q0), (.int p1), (.int p2), (.int p3)] below meth c T0c34 lc 14 8228 ∧ Fr n0 lc) ∧ OwnC Z ownEL s vm T0c34.heap ∧ Safe Z ownEL vm T0c34.heap b01 ∧ Safe Z ownEL vm T0c34.heap b0c2 ∧ Z.Warmed39 (s.setVm vm).vm ∧ (s.setVm vm).vm.findClass "com/example/opuscule/opuscule/json/LineBufferStartPinLaw" = some m.cls := ⟨_, ⟨_, X0c34, N0c34⟩, CC.reb hS0c34 hG0c34 hC0c34, SF_b01, SF_b0c2, State.Warmed39.trans hZ hS0c34.1, (hS0c34.1.alike.findClass _ _).trans hown⟩
    replace CC := CC0c34
    obtain ⟨h0c34, e0c34⟩ : ∃ h, T0c34.heap = h := ⟨_, rfl⟩
    rw [e0c34] at Kq0c34 S_0c34 CC SF_b01 SF_b0c2
    replace V_b04 := V_b04.keep Kq0c34 nin0
    replace V_b012 := V_b012.keep Kq0c34 nin0
    replace LB0c32 := LB0c32.keep Kq0c34 nin0 nin0
    have KK0c34 := Keep.trans KK0c32 Kq0c34 all0
    have Z0c34 := Nat.le_trans Z0c32 Kq0c34.1
    have O0c34 := O0c32.keep Kq0c34 all0
    refine stp (fun t k => st0c34.trans k) ?_
    show W (T0c34.setTop (mkF m 187 #[.val (.long q0), .second, .val (.int p1), .val (.int p2), .val (.int p3), .val (.ref b01), .val (.int (p1 &&& (3 : Int32))), .val (.ref b04), .val (.int u0_11), .val (.ref b012), .val (.ref a0c27), .unset] [(.ref a0c34)]))
    refine stp (fun t k => XS.astore X0c34.here hx rfl (hb hby at_187) rfl rfl (l' := #[.val (.long q0), .second, .val (.int p1), .val (.int p2), .val (.int p3), .val (.ref b01), .val (.int (p1 &&& (3 : Int32))), .val (.ref b04), .val (.int u0_11), .val (.ref b012), .val (.ref a0c27), .val (.ref a0c34)]) rfl k) ?_
    show W (T0c34.setTop (mkF m 189 #[.val (.long q0), .second, .val (.int p1), .val (.int p2), .val (.int p3), .val (.ref b01), .val (.int (p1 &&& (3 : Int32))), .val (.ref b04), .val (.int u0_11), .val (.ref b012), .val (.ref a0c27), .val (.ref a0c34)] []))
    refine stp (fun t k => XS.aload X0c34.here hx rfl (hb hby at_189) rfl rfl k) ?_
    show W (T0c34.setTop (mkF m 191 #[.val (.long q0), .second, .val (.int p1), .val (.int p2), .val (.int p3), .val (.ref b01), .val (.int (p1 &&& (3 : Int32))), .val (.ref b04), .val (.int u0_11), .val (.ref b012), .val (.ref a0c27), .val (.ref a0c34)] [(.ref a0c34)]))
    obtain ⟨cq0c35, kq0c35, q0c35a, q0c35b, q0c35c⟩ := isOf hZ e0c34 S_0c34.1
    obtain ⟨_, _, ⟨T0c35, L0c35, k0c35, n0c35⟩, -, X0c35, ⟨Lc0c35, hQ0c35, l0c35, y0c35, z0c35⟩, st0c35⟩ := X0c34.virtualBack hx (y := (⟨"java/lang/String", "length", "()I"⟩ : MethodName)) (z := (⟨"java/lang/String", "length", "()I"⟩ : MethodName)) hown (mvT hZ (hw _ (List.mem_of_getElem? (i := 80) rfl))) (mvT hZ (hw _ (List.mem_of_getElem? (i := 81) rfl))) (notFace_of_selects (args := #[]) (mvT hZ (hw _ (List.mem_of_getElem? (i := 83) rfl)))) (mvT hZ (hw _ (List.mem_of_getElem? (i := 83) rfl))) (mvT hZ (hw _ (List.mem_of_getElem? (i := 82) rfl))) (by decide) (backOf (W := 0) (rmlA l Z aa hw [] a0c34 wc sx c0c34 cn cg h0c34 n0 Z0c34 BW O0c34 S_0c34 (Nat.le_trans hcn4 (by decide))) hZ (hw _ (List.mem_of_getElem? (i := 84) rfl)) (hw _ (List.mem_of_getElem? (i := 43) rfl)) (by decide) (by decide)) q0c35a q0c35c (g := (mkF m 191 #[.val (.long q0), .second, .val (.int p1), .val (.int p2), .val (.int p3), .val (.ref b01), .val (.int (p1 &&& (3 : Int32))), .val (.ref b04), .val (.int u0_11), .val (.ref b012), .val (.ref a0c27), .val (.ref a0c34)] [(.ref a0c34)])) rfl (by rw [hml]; rfl) (Steps.refl _) (argsL := []) (rest := []) (lenOf pd0_5 rfl) rfl (by show 2 * 0 + _ ≤ _; exact Nat.le_of_eq rfl) (hb hby at_191) (fun _ _ => ⟨rfl, e0c34, (by decide : 14 + 0 ≤ _), (by decide : 8228 + 0 ≤ _)⟩)
    dsimp only [Pt.U, Pt.locs, Pt.cells, Pt.slots] at X0c35 l0c35 y0c35 z0c35 st0c35 hQ0c35
    subst l0c35 y0c35 z0c35
    obtain ⟨rfl, N0c35q, e0c35⟩ := hQ0c35
    have N0c35 := Fr.app N0c34 N0c35q
    obtain ⟨lc0t36, X0c35, N0c35⟩ : ∃ lc, Stand p l e room_1 (s.setVm vm0c34) m #[(.long q0), (.int p1), (.int p2), (.int p3)] below meth c T0c35 lc 14 8228 ∧ Fr n0 lc := ⟨_, X0c35, N0c35⟩
    refine stp (fun t k => st0c35.trans k) ?_
    show W (T0c35.setTop (mkF m 194 #[.val (.long q0), .second, .val (.int p1), .val (.int p2), .val (.int p3), .val (.ref b01), .val (.int (p1 &&& (3 : Int32))), .val (.ref b04), .val (.int u0_11), .val (.ref b012), .val (.ref a0c27), .val (.ref a0c34)] [(.int (Int32.ofNat cn))]))
    refine stp (fun t k => XS.iload X0c35.here hx rfl (hb hby at_194) rfl k) ?_
    show W (T0c35.setTop (mkF m 196 #[.val (.long q0), .second, .val (.int p1), .val (.int p2), .val (.int p3), .val (.ref b01), .val (.int (p1 &&& (3 : Int32))), .val (.ref b04), .val (.int u0_11), .val (.ref b012), .val (.ref a0c27), .val (.ref a0c34)] [(.int u0_11), (.int (Int32.ofNat cn))]))
    refine stp (fun t k => XS.icmpNo X0c35.here hx rfl (hb hby at_196) rfl ((teq ((own_ofI hcn (by omega)).symm)).2) k) ?_
    show W (T0c35.setTop (mkF m 199 #[.val (.long q0), .second, .val (.int p1), .val (.int p2), .val (.int p3), .val (.ref b01), .val (.int (p1 &&& (3 : Int32))), .val (.ref b04), .val (.int u0_11), .val (.ref b012), .val (.ref a0c27), .val (.ref a0c34)] []))
    refine stp (fun t k => XS.aload X0c35.here hx rfl (hb hby at_199) rfl rfl k) ?_
    show W (T0c35.setTop (mkF m 201 #[.val (.long q0), .second, .val (.int p1), .val (.int p2), .val (.int p3), .val (.ref b01), .val (.int (p1 &&& (3 : Int32))), .val (.ref b04), .val (.int u0_11), .val (.ref b012), .val (.ref a0c27), .val (.ref a0c34)] [(.ref a0c34)]))
    refine stp (fun t k => XS.aload X0c35.here hx rfl (hb hby at_201) rfl rfl k) ?_
    show W (T0c35.setTop (mkF m 203 #[.val (.long q0), .second, .val (.int p1), .val (.int p2), .val (.int p3), .val (.ref b01), .val (.int (p1 &&& (3 : Int32))), .val (.ref b04), .val (.int u0_11), .val (.ref b012), .val (.ref a0c27), .val (.ref a0c34)] [(.ref b012), (.ref a0c34)]))
    refine stp (fun t k => XS.iconst X0c35.here hx rfl (hb hby at_203) k) ?_
    show W (T0c35.setTop (mkF m 204 #[.val (.long q0), .second, .val (.int p1), .val (.int p2), .val (.int p3), .val (.ref b01), .val (.int (p1 &&& (3 : Int32))), .val (.ref b04), .val (.int u0_11), .val (.ref b012), .val (.ref a0c27), .val (.ref a0c34)] [(.int (0 : Int32)), (.ref b012), (.ref a0c34)]))
    refine stp (fun t k => XS.iload X0c35.here hx rfl (hb hby at_204) rfl k) ?_
    show W (T0c35.setTop (mkF m 206 #[.val (.long q0), .second, .val (.int p1), .val (.int p2), .val (.int p3), .val (.ref b01), .val (.int (p1 &&& (3 : Int32))), .val (.ref b04), .val (.int u0_11), .val (.ref b012), .val (.ref a0c27), .val (.ref a0c34)] [(.int u0_11), (.int (0 : Int32)), (.ref b012), (.ref a0c34)]))
    obtain ⟨_, _, ⟨T0c37, L0c37, k0c37, n0c37⟩, -, X0c37, ⟨Lc0c37, hQ0c37, l0c37, y0c37, z0c37⟩, st0c37⟩ := Jvm.LawKit.callS X0c35 hx (y := (⟨"com/example/opuscule/opuscule/json/LineBufferStartPinLaw", "at", "(Ljava/lang/String;[CII)Z"⟩ : MethodName)) hown (mvT hZ (hw _ (List.mem_of_getElem? (i := 91) rfl))) (mvT hZ (hw _ (List.mem_of_getElem? (i := 92) rfl))) (mvT hZ (hw _ (List.mem_of_getElem? (i := 93) rfl))) (mvT hZ (hw _ (List.mem_of_getElem? (i := 94) rfl))) (by decide) (backOf (W := 0) (rmat l Z aa hw [] a0c34 b012 (0 : Int32) u0_11 wc sx c0c34 cn cg k012 0 h0c34 n0 Z0c34 BW O0c34 S_0c34 (Nat.le_trans hcn4 (by decide)) (own_w16 (fun j hj => hcg j (Nat.lt_of_lt_of_le hj hcn4))) V_b012 rfl (by decide) hcn) hZ (hw _ (List.mem_of_getElem? (i := 94) rfl)) (hw _ (List.mem_of_getElem? (i := 93) rfl)) (by decide) (by decide)) (g := (mkF m 206 #[.val (.long q0), .second, .val (.int p1), .val (.int p2), .val (.int p3), .val (.ref b01), .val (.int (p1 &&& (3 : Int32))), .val (.ref b04), .val (.int u0_11), .val (.ref b012), .val (.ref a0c27), .val (.ref a0c34)] [(.int u0_11), (.int (0 : Int32)), (.ref b012), (.ref a0c34)])) rfl (by rw [hml]; rfl) (argsL := [(.ref a0c34), (.ref b012), (.int (0 : Int32)), (.int u0_11)]) (rest := []) (lenOf pd0_6 rfl) rfl (by show 2 * 0 + _ ≤ _; exact Nat.le_of_eq rfl) (hb hby at_206) (fun _ _ => ⟨rfl, e0c35, (by decide : 14 + 0 ≤ _), (by decide : 8228 + 0 ≤ _)⟩)
    dsimp only [Pt.U, Pt.locs, Pt.cells, Pt.slots] at X0c37 l0c37 y0c37 z0c37 st0c37 hQ0c37
    subst l0c37 y0c37 z0c37
    obtain ⟨rfl, N0c37q, e0c37⟩ := hQ0c37
    have N0c37 := Fr.app N0c35 N0c37q
    obtain ⟨lc0t38, X0c37, N0c37⟩ : ∃ lc, Stand p l e room_1 (s.setVm vm0c34) m #[(.long q0), (.int p1), (.int p2), (.int p3)] below meth c T0c37 lc 14 8228 ∧ Fr n0 lc := ⟨_, X0c37, N0c37⟩
    refine stp (fun t k => st0c37 t k) ?_
    show W (T0c37.setTop (mkF m 209 #[.val (.long q0), .second, .val (.int p1), .val (.int p2), .val (.int p3), .val (.ref b01), .val (.int (p1 &&& (3 : Int32))), .val (.ref b04), .val (.int u0_11), .val (.ref b012), .val (.ref a0c27), .val (.ref a0c34)] [(.int (1 : Int32))]))
    refine stp (fun t k => XS.ifNo X0c37.here hx rfl (hb hby at_209) rfl ((if0 _ _).trans (feq (by decide)).1) k) ?_
    show W (T0c37.setTop (mkF m 212 #[.val (.long q0), .second, .val (.int p1), .val (.int p2), .val (.int p3), .val (.ref b01), .val (.int (p1 &&& (3 : Int32))), .val (.ref b04), .val (.int u0_11), .val (.ref b012), .val (.ref a0c27), .val (.ref a0c34)] []))
    refine stp (fun t k => XS.aload X0c37.here hx rfl (hb hby at_212) rfl rfl k) ?_
    show W (T0c37.setTop (mkF m 214 #[.val (.long q0), .second, .val (.int p1), .val (.int p2), .val (.int p3), .val (.ref b01), .val (.int (p1 &&& (3 : Int32))), .val (.ref b04), .val (.int u0_11), .val (.ref b012), .val (.ref a0c27), .val (.ref a0c34)] [(.ref a0c34)]))
    refine stp (fun t k => XS.aload X0c37.here hx rfl (hb hby at_214) rfl rfl k) ?_
    show W (T0c37.setTop (mkF m 216 #[.val (.long q0), .second, .val (.int p1), .val (.int p2), .val (.int p3), .val (.ref b01), .val (.int (p1 &&& (3 : Int32))), .val (.ref b04), .val (.int u0_11), .val (.ref b012), .val (.ref a0c27), .val (.ref a0c34)] [(.ref b012), (.ref a0c34)]))
    refine stp (fun t k => XS.iconst X0c37.here hx rfl (hb hby at_216) k) ?_
    show W (T0c37.setTop (mkF m 217 #[.val (.long q0), .second, .val (.int p1), .val (.int p2), .val (.int p3), .val (.ref b01), .val (.int (p1 &&& (3 : Int32))), .val (.ref b04), .val (.int u0_11), .val (.ref b012), .val (.ref a0c27), .val (.ref a0c34)] [(.int (1 : Int32)), (.ref b012), (.ref a0c34)]))
    refine stp (fun t k => XS.iload X0c37.here hx rfl (hb hby at_217) rfl k) ?_
    show W (T0c37.setTop (mkF m 219 #[.val (.long q0), .second, .val (.int p1), .val (.int p2), .val (.int p3), .val (.ref b01), .val (.int (p1 &&& (3 : Int32))), .val (.ref b04), .val (.int u0_11), .val (.ref b012), .val (.ref a0c27), .val (.ref a0c34)] [(.int u0_11), (.int (1 : Int32)), (.ref b012), (.ref a0c34)]))
    obtain ⟨_, _, ⟨T0c39, L0c39, k0c39, n0c39⟩, -, X0c39, ⟨Lc0c39, hQ0c39, l0c39, y0c39, z0c39⟩, st0c39⟩ := Jvm.LawKit.callS X0c37 hx (y := (⟨"com/example/opuscule/opuscule/json/LineBufferStartPinLaw", "at", "(Ljava/lang/String;[CII)Z"⟩ : MethodName)) hown (mvT hZ (hw _ (List.mem_of_getElem? (i := 91) rfl))) (mvT hZ (hw _ (List.mem_of_getElem? (i := 92) rfl))) (mvT hZ (hw _ (List.mem_of_getElem? (i := 93) rfl))) (mvT hZ (hw _ (List.mem_of_getElem? (i := 94) rfl))) (by decide) (backOf (W := 0) (rmat l Z aa hw [] a0c34 b012 (1 : Int32) u0_11 wc sx c0c34 cn cg k012 1 h0c34 n0 Z0c34 BW O0c34 S_0c34 (Nat.le_trans hcn4 (by decide)) (own_w16 (fun j hj => hcg j (Nat.lt_of_lt_of_le hj hcn4))) V_b012 rfl (by decide) hcn) hZ (hw _ (List.mem_of_getElem? (i := 94) rfl)) (hw _ (List.mem_of_getElem? (i := 93) rfl)) (by decide) (by decide)) (g := (mkF m 219 #[.val (.long q0), .second, .val (.int p1), .val (.int p2), .val (.int p3), .val (.ref b01), .val (.int (p1 &&& (3 : Int32))), .val (.ref b04), .val (.int u0_11), .val (.ref b012), .val (.ref a0c27), .val (.ref a0c34)] [(.int u0_11), (.int (1 : Int32)), (.ref b012), (.ref a0c34)])) rfl (by rw [hml]; rfl) (argsL := [(.ref a0c34), (.ref b012), (.int (1 : Int32)), (.int u0_11)]) (rest := []) (lenOf pd0_6 rfl) rfl (by show 2 * 0 + _ ≤ _; exact Nat.le_of_eq rfl) (hb hby at_219) (fun _ _ => ⟨rfl, e0c37, (by decide : 14 + 0 ≤ _), (by decide : 8228 + 0 ≤ _)⟩)
    dsimp only [Pt.U, Pt.locs, Pt.cells, Pt.slots] at X0c39 l0c39 y0c39 z0c39 st0c39 hQ0c39
    subst l0c39 y0c39 z0c39
    obtain ⟨rfl, N0c39q, e0c39⟩ := hQ0c39
    have N0c39 := Fr.app N0c37 N0c39q
    obtain ⟨lc0t40, X0c39, N0c39⟩ : ∃ lc, Stand p l e room_1 (s.setVm vm0c34) m #[(.long q0), (.int p1), (.int p2), (.int p3)] below meth c T0c39 lc 14 8228 ∧ Fr n0 lc := ⟨_, X0c39, N0c39⟩
    refine stp (fun t k => st0c39 t k) ?_
    show W (T0c39.setTop (mkF m 222 #[.val (.long q0), .second, .val (.int p1), .val (.int p2), .val (.int p3), .val (.ref b01), .val (.int (p1 &&& (3 : Int32))), .val (.ref b04), .val (.int u0_11), .val (.ref b012), .val (.ref a0c27), .val (.ref a0c34)] [(.int (1 : Int32))]))
    refine stp (fun t k => XS.ifNo X0c39.here hx rfl (hb hby at_222) rfl ((if0 _ _).trans (feq (by decide)).1) k) ?_
    show W (T0c39.setTop (mkF m 225 #[.val (.long q0), .second, .val (.int p1), .val (.int p2), .val (.int p3), .val (.ref b01), .val (.int (p1 &&& (3 : Int32))), .val (.ref b04), .val (.int u0_11), .val (.ref b012), .val (.ref a0c27), .val (.ref a0c34)] []))
    refine stp (fun t k => XS.aload X0c39.here hx rfl (hb hby at_225) rfl rfl k) ?_
    show W (T0c39.setTop (mkF m 227 #[.val (.long q0), .second, .val (.int p1), .val (.int p2), .val (.int p3), .val (.ref b01), .val (.int (p1 &&& (3 : Int32))), .val (.ref b04), .val (.int u0_11), .val (.ref b012), .val (.ref a0c27), .val (.ref a0c34)] [(.ref a0c34)]))
    refine stp (fun t k => XS.aload X0c39.here hx rfl (hb hby at_227) rfl rfl k) ?_
    show W (T0c39.setTop (mkF m 229 #[.val (.long q0), .second, .val (.int p1), .val (.int p2), .val (.int p3), .val (.ref b01), .val (.int (p1 &&& (3 : Int32))), .val (.ref b04), .val (.int u0_11), .val (.ref b012), .val (.ref a0c27), .val (.ref a0c34)] [(.ref b012), (.ref a0c34)]))
    refine stp (fun t k => XS.iconst X0c39.here hx rfl (hb hby at_229) k) ?_
    show W (T0c39.setTop (mkF m 230 #[.val (.long q0), .second, .val (.int p1), .val (.int p2), .val (.int p3), .val (.ref b01), .val (.int (p1 &&& (3 : Int32))), .val (.ref b04), .val (.int u0_11), .val (.ref b012), .val (.ref a0c27), .val (.ref a0c34)] [(.int (2 : Int32)), (.ref b012), (.ref a0c34)]))
    refine stp (fun t k => XS.iload X0c39.here hx rfl (hb hby at_230) rfl k) ?_
    show W (T0c39.setTop (mkF m 232 #[.val (.long q0), .second, .val (.int p1), .val (.int p2), .val (.int p3), .val (.ref b01), .val (.int (p1 &&& (3 : Int32))), .val (.ref b04), .val (.int u0_11), .val (.ref b012), .val (.ref a0c27), .val (.ref a0c34)] [(.int u0_11), (.int (2 : Int32)), (.ref b012), (.ref a0c34)]))
    obtain ⟨_, _, ⟨T0c41, L0c41, k0c41, n0c41⟩, -, X0c41, ⟨Lc0c41, hQ0c41, l0c41, y0c41, z0c41⟩, st0c41⟩ := Jvm.LawKit.callS X0c39 hx (y := (⟨"com/example/opuscule/opuscule/json/LineBufferStartPinLaw", "at", "(Ljava/lang/String;[CII)Z"⟩ : MethodName)) hown (mvT hZ (hw _ (List.mem_of_getElem? (i := 91) rfl))) (mvT hZ (hw _ (List.mem_of_getElem? (i := 92) rfl))) (mvT hZ (hw _ (List.mem_of_getElem? (i := 93) rfl))) (mvT hZ (hw _ (List.mem_of_getElem? (i := 94) rfl))) (by decide) (backOf (W := 0) (rmat l Z aa hw [] a0c34 b012 (2 : Int32) u0_11 wc sx c0c34 cn cg k012 2 h0c34 n0 Z0c34 BW O0c34 S_0c34 (Nat.le_trans hcn4 (by decide)) (own_w16 (fun j hj => hcg j (Nat.lt_of_lt_of_le hj hcn4))) V_b012 rfl (by decide) hcn) hZ (hw _ (List.mem_of_getElem? (i := 94) rfl)) (hw _ (List.mem_of_getElem? (i := 93) rfl)) (by decide) (by decide)) (g := (mkF m 232 #[.val (.long q0), .second, .val (.int p1), .val (.int p2), .val (.int p3), .val (.ref b01), .val (.int (p1 &&& (3 : Int32))), .val (.ref b04), .val (.int u0_11), .val (.ref b012), .val (.ref a0c27), .val (.ref a0c34)] [(.int u0_11), (.int (2 : Int32)), (.ref b012), (.ref a0c34)])) rfl (by rw [hml]; rfl) (argsL := [(.ref a0c34), (.ref b012), (.int (2 : Int32)), (.int u0_11)]) (rest := []) (lenOf pd0_6 rfl) rfl (by show 2 * 0 + _ ≤ _; exact Nat.le_of_eq rfl) (hb hby at_232) (fun _ _ => ⟨rfl, e0c39, (by decide : 14 + 0 ≤ _), (by decide : 8228 + 0 ≤ _)⟩)
    dsimp only [Pt.U, Pt.locs, Pt.cells, Pt.slots] at X0c41 l0c41 y0c41 z0c41 st0c41 hQ0c41
    subst l0c41 y0c41 z0c41
    obtain ⟨rfl, N0c41q, e0c41⟩ := hQ0c41
    have N0c41 := Fr.app N0c39 N0c41q
    obtain ⟨lc0t42, X0c41, N0c41⟩ : ∃ lc, Stand p l e room_1 (s.setVm vm0c34) m #[(.long q0), (.int p1), (.int p2), (.int p3)] below meth c T0c41 lc 14 8228 ∧ Fr n0 lc := ⟨_, X0c41, N0c41⟩
    refine stp (fun t k => st0c41 t k) ?_
    show W (T0c41.setTop (mkF m 235 #[.val (.long q0), .second, .val (.int p1), .val (.int p2), .val (.int p3), .val (.ref b01), .val (.int (p1 &&& (3 : Int32))), .val (.ref b04), .val (.int u0_11), .val (.ref b012), .val (.ref a0c27), .val (.ref a0c34)] [(.int (1 : Int32))]))
    refine stp (fun t k => XS.ifNo X0c41.here hx rfl (hb hby at_235) rfl ((if0 _ _).trans (feq (by decide)).1) k) ?_
    show W (T0c41.setTop (mkF m 238 #[.val (.long q0), .second, .val (.int p1), .val (.int p2), .val (.int p3), .val (.ref b01), .val (.int (p1 &&& (3 : Int32))), .val (.ref b04), .val (.int u0_11), .val (.ref b012), .val (.ref a0c27), .val (.ref a0c34)] []))
    refine stp (fun t k => XS.aload X0c41.here hx rfl (hb hby at_238) rfl rfl k) ?_
    show W (T0c41.setTop (mkF m 240 #[.val (.long q0), .second, .val (.int p1), .val (.int p2), .val (.int p3), .val (.ref b01), .val (.int (p1 &&& (3 : Int32))), .val (.ref b04), .val (.int u0_11), .val (.ref b012), .val (.ref a0c27), .val (.ref a0c34)] [(.ref a0c34)]))
    refine stp (fun t k => XS.aload X0c41.here hx rfl (hb hby at_240) rfl rfl k) ?_
    show W (T0c41.setTop (mkF m 242 #[.val (.long q0), .second, .val (.int p1), .val (.int p2), .val (.int p3), .val (.ref b01), .val (.int (p1 &&& (3 : Int32))), .val (.ref b04), .val (.int u0_11), .val (.ref b012), .val (.ref a0c27), .val (.ref a0c34)] [(.ref b012), (.ref a0c34)]))
    refine stp (fun t k => XS.iconst X0c41.here hx rfl (hb hby at_242) k) ?_
    show W (T0c41.setTop (mkF m 243 #[.val (.long q0), .second, .val (.int p1), .val (.int p2), .val (.int p3), .val (.ref b01), .val (.int (p1 &&& (3 : Int32))), .val (.ref b04), .val (.int u0_11), .val (.ref b012), .val (.ref a0c27), .val (.ref a0c34)] [(.int (3 : Int32)), (.ref b012), (.ref a0c34)]))
    refine stp (fun t k => XS.iload X0c41.here hx rfl (hb hby at_243) rfl k) ?_
    show W (T0c41.setTop (mkF m 245 #[.val (.long q0), .second, .val (.int p1), .val (.int p2), .val (.int p3), .val (.ref b01), .val (.int (p1 &&& (3 : Int32))), .val (.ref b04), .val (.int u0_11), .val (.ref b012), .val (.ref a0c27), .val (.ref a0c34)] [(.int u0_11), (.int (3 : Int32)), (.ref b012), (.ref a0c34)]))
    obtain ⟨_, _, ⟨T0c43, L0c43, k0c43, n0c43⟩, -, X0c43, ⟨Lc0c43, hQ0c43, l0c43, y0c43, z0c43⟩, st0c43⟩ := Jvm.LawKit.callS X0c41 hx (y := (⟨"com/example/opuscule/opuscule/json/LineBufferStartPinLaw", "at", "(Ljava/lang/String;[CII)Z"⟩ : MethodName)) hown (mvT hZ (hw _ (List.mem_of_getElem? (i := 91) rfl))) (mvT hZ (hw _ (List.mem_of_getElem? (i := 92) rfl))) (mvT hZ (hw _ (List.mem_of_getElem? (i := 93) rfl))) (mvT hZ (hw _ (List.mem_of_getElem? (i := 94) rfl))) (by decide) (backOf (W := 0) (rmat l Z aa hw [] a0c34 b012 (3 : Int32) u0_11 wc sx c0c34 cn cg k012 3 h0c34 n0 Z0c34 BW O0c34 S_0c34 (Nat.le_trans hcn4 (by decide)) (own_w16 (fun j hj => hcg j (Nat.lt_of_lt_of_le hj hcn4))) V_b012 rfl (by decide) hcn) hZ (hw _ (List.mem_of_getElem? (i := 94) rfl)) (hw _ (List.mem_of_getElem? (i := 93) rfl)) (by decide) (by decide)) (g := (mkF m 245 #[.val (.long q0), .second, .val (.int p1), .val (.int p2), .val (.int p3), .val (.ref b01), .val (.int (p1 &&& (3 : Int32))), .val (.ref b04), .val (.int u0_11), .val (.ref b012), .val (.ref a0c27), .val (.ref a0c34)] [(.int u0_11), (.int (3 : Int32)), (.ref b012), (.ref a0c34)])) rfl (by rw [hml]; rfl) (argsL := [(.ref a0c34), (.ref b012), (.int (3 : Int32)), (.int u0_11)]) (rest := []) (lenOf pd0_6 rfl) rfl (by show 2 * 0 + _ ≤ _; exact Nat.le_of_eq rfl) (hb hby at_245) (fun _ _ => ⟨rfl, e0c41, (by decide : 14 + 0 ≤ _), (by decide : 8228 + 0 ≤ _)⟩)
    dsimp only [Pt.U, Pt.locs, Pt.cells, Pt.slots] at X0c43 l0c43 y0c43 z0c43 st0c43 hQ0c43
    subst l0c43 y0c43 z0c43
    obtain ⟨rfl, N0c43q, e0c43⟩ := hQ0c43
    have N0c43 := Fr.app N0c41 N0c43q
    obtain ⟨lc0t44, X0c43, N0c43⟩ : ∃ lc, Stand p l e room_1 (s.setVm vm0c34) m #[(.long q0), (.int p1), (.int p2), (.int p3)] below meth c T0c43 lc 14 8228 ∧ Fr n0 lc := ⟨_, X0c43, N0c43⟩
    refine stp (fun t k => st0c43 t k) ?_
    show W (T0c43.setTop (mkF m 248 #[.val (.long q0), .second, .val (.int p1), .val (.int p2), .val (.int p3), .val (.ref b01), .val (.int (p1 &&& (3 : Int32))), .val (.ref b04), .val (.int u0_11), .val (.ref b012), .val (.ref a0c27), .val (.ref a0c34)] [(.int (1 : Int32))]))
    refine stp (fun t k => XS.ifNo X0c43.here hx rfl (hb hby at_248) rfl ((if0 _ _).trans (feq (by decide)).1) k) ?_
    show W (T0c43.setTop (mkF m 251 #[.val (.long q0), .second, .val (.int p1), .val (.int p2), .val (.int p3), .val (.ref b01), .val (.int (p1 &&& (3 : Int32))), .val (.ref b04), .val (.int u0_11), .val (.ref b012), .val (.ref a0c27), .val (.ref a0c34)] []))
    refine stp (fun t k => XS.iconst X0c43.here hx rfl (hb hby at_251) k) ?_
    show W (T0c43.setTop (mkF m 252 #[.val (.long q0), .second, .val (.int p1), .val (.int p2), .val (.int p3), .val (.ref b01), .val (.int (p1 &&& (3 : Int32))), .val (.ref b04), .val (.int u0_11), .val (.ref b012), .val (.ref a0c27), .val (.ref a0c34)] [(.int (1 : Int32))]))
    refine stp (fun t k => XS.goto X0c43.here hx rfl (pc0 := 252) (pc' := 256) rfl (hb hby at_252) (by decide) (by decide) k) ?_
    show W (T0c43.setTop (mkF m 256 #[.val (.long q0), .second, .val (.int p1), .val (.int p2), .val (.int p3), .val (.ref b01), .val (.int (p1 &&& (3 : Int32))), .val (.ref b04), .val (.int u0_11), .val (.ref b012), .val (.ref a0c27), .val (.ref a0c34)] [(.int (1 : Int32))]))
    show W (T0c43.setTop (mkF m 256 #[.val (.long q0), .second, .val (.int p1), .val (.int p2), .val (.int p3), .val (.ref b01), .val (.int (p1 &&& (3 : Int32))), .val (.ref b04), .val (.int u0_11), .val (.ref b012), .val (.ref a0c27), .val (.ref a0c34)] [(.int (1 : Int32))]))
    rw [← hW]
    exact own_W hZ hEL CC (own_retN X0c43 hx Bd.notSynchronized Bd.returns (w := (1 : Int32)) (by simp) (hb hby at_256) rfl (by show Q0 Z q0 p1 p2 p3 wc sx kU kI kA h0 n0 _ T0c43.heap _ ∧ T0c43.heap = h0c34; rw [e0c43]; exact ⟨⟨rfl, N0c43⟩, rfl⟩) (by decide) (by decide))
theorem own_eqI {args : Array Value} {first s : State} {o : Option Outcome} {idx : List Nat} {a b : Term} {k : Int32} (h : (Jvm.Cond.eq a b).value args first o s idx = some true) (hb : b.eval args first o idx s = some (.int k)) : a.eval args first o idx s = some (.int k) := by
  obtain ⟨x, y, e1, e2, k1, k2⟩ := cmp_v (Or.inl h)
  cases hb.symm.trans e2
  obtain ⟨z, rfl⟩ := k2
  simp only [Cond.value, e1, hb] at h
  simp at h
  rw [e1, h]
set_option maxRecDepth 65536 in
set_option maxHeartbeats 40000000 in
theorem comes_1 {Post : Tables → Env → Array Value → State → Outcome → State → Prop} (hpost : ∀ tb e args s v u, (limb_1_1.after args s (.returned v) u = true ∧ limb_1_2.after args s (.returned v) u = true ∧ True) → ReturnedEndW s (.returned v) u (Jvm.fieldLocs frame_1_writes args s ++ Jvm.arrayLocs frame_1_arrays args s ++ Jvm.staticLocs frame_1_statics s) 24 17536 → Post tb e args s (.returned v) u) :
    ArmFor flags0 classFile x code maxLocals ret World_1 tables_1 room_1 Calls_1 rest_1 Pre_1 Post := by
  intro l hfl _ _ p e ha hc hk s m args below hf hA hF happ hP
  obtain ⟨hcalls, hrest, hpre⟩ := hP
  obtain ⟨-, -, -, hnamed, -, -, -, hat⟩ := (Spec.applies_iff hf).mp happ
  obtain ⟨hg, hn⟩ := and_e (Cond.before_iff.mp (show (Jvm.Cond.and given_1 narrow_1).before args s = true from hpre))
  obtain ⟨gc, hg⟩ := and_e hg
  obtain ⟨g0, hg⟩ := and_e hg
  obtain ⟨g1, hg⟩ := and_e hg
  obtain ⟨g2, hg⟩ := and_e hg
  have g3 := hg
  obtain ⟨w0, w1, w2, w3, rfl⟩ : ∃ w0 w1 w2 w3 : Value, args = #[w0, w1, w2, w3] := by
    have hs : args.size = 4 := by simpa [Cond.value, given_1] using gc
    obtain ⟨L⟩ := args
    match L, hs with
    | [w0, w1, w2, w3], _ => exact ⟨w0, w1, w2, w3, rfl⟩
  have hw := fun d (hd : d ∈ tables_1) => atoms_spec (ws := Jvm.Cond.code x code maxLocals ret :: tables_1) hat d (List.mem_cons_of_mem _ hd)
  have hfit : Fit s := fun {y c} hc i hi => by
    obtain ⟨ha, rfl⟩ := Array.getElem?_eq_some_iff.mp hc
    have q := List.all_eq_true.mp ((Array.all_eq_true_iff_forall_mem.mp hF) _ (Array.getElem_mem ha)) i (List.mem_range.mpr hi)
    simpa [Array.getElem?_eq_getElem hi] using q
  obtain ⟨hsets, hown0⟩ := atoms_of _ (rest_1_c_eq ▸ (show rest_1_c.before _ s = true from hrest))
  have hr0 := Cond.before_iff.mp hown0
  obtain ⟨i0, ei0⟩ := isL_v g0
  obtain rfl : w0 = (.long i0) := Option.some.inj ei0
  obtain ⟨i1, ei1⟩ := is_v g1
  obtain rfl : w1 = (.int i1) := Option.some.inj ei1
  obtain ⟨i2, ei2⟩ := is_v g2
  obtain rfl : w2 = (.int i2) := Option.some.inj ei2
  obtain ⟨i3, ei3⟩ := is_v g3
  obtain rfl : w3 = (.int i3) := Option.some.inj ei3
  obtain ⟨wc, ewc⟩ := is_v (Cond.before_iff.mp (hsets _ (List.mem_of_getElem? (i := 7) rfl)))
  have S_cs := Sta.start ewc (Or.inl (hsets _ (List.mem_of_getElem? (i := 6) rfl)))
  have hcs : ¬ (wc = (0 : Int32)) := fun q => by
    have h2 := not_v (Cond.before_iff.mp (hsets _ (List.mem_of_getElem? (i := 8) rfl)))
    rw [q] at ewc
    rw [eq_i ewc (Term.int_eval 0) rfl] at h2
    cases h2
  obtain ⟨sx, esx, hr_sx⟩ := isR_v (Cond.before_iff.mp (hsets _ (List.mem_of_getElem? (i := 14) rfl)))
  have S_si := Sta.start esx (Or.inl (hsets _ (List.mem_of_getElem? (i := 13) rfl)))
  have BW : OwnW s wc sx := ⟨S_cs, hcs, S_si, hr_sx⟩
  obtain ⟨kA, x_a⟩ := own_exr (Cond.before_iff.mp (hsets _ (List.mem_of_getElem? (i := 5) rfl)))
  obtain ⟨kB, x_b⟩ := own_exr (Cond.before_iff.mp (hsets _ (List.mem_of_getElem? (i := 23) rfl)))
  obtain ⟨kU, x_u⟩ := own_exr (Cond.before_iff.mp (hsets _ (List.mem_of_getElem? (i := 17) rfl)))
  obtain ⟨kI, x_i⟩ := own_exr (Cond.before_iff.mp (hsets _ (List.mem_of_getElem? (i := 20) rfl)))
  have eAB : kA = kB := own_eqRf (Cond.before_iff.mp (hsets _ (List.mem_of_getElem? (i := 4) rfl))) x_a x_b
  rw [← eAB] at x_b
  have X_a := Exa.start x_a (Cond.before_iff.mp (hsets _ (List.mem_of_getElem? (i := 5) rfl)))
  have X_u := Exa.start x_u (Cond.before_iff.mp (hsets _ (List.mem_of_getElem? (i := 17) rfl)))
  have X_i := Exa.start x_i (Cond.before_iff.mp (hsets _ (List.mem_of_getElem? (i := 20) rfl)))
  have BC : OwnCS s kU kI kA := ⟨Sta.start x_u (Or.inl (hsets _ (List.mem_of_getElem? (i := 16) rfl))), Sta.start x_i (Or.inl (hsets _ (List.mem_of_getElem? (i := 19) rfl))), Sta.start x_b (Or.inl (hsets _ (List.mem_of_getElem? (i := 3) rfl))), Sta.start x_a (Or.inl (hsets _ (List.mem_of_getElem? (i := 1) rfl))), ne_exa X_a X_u (by decide), ne_exa X_a X_i (by decide), X_a⟩
  have HH : CHv s ownEL s.vm s.heap := CHv.start (own_EW hw) (fun p hp => hcalls.1 p hp) (hsets _ (List.mem_of_getElem? (i := 8) rfl)) (hw _ (List.mem_of_getElem? (i := 16) rfl)) (hw _ (List.mem_of_getElem? (i := 42) rfl))
  obtain ⟨n, o, h1, h2, h3, _, L, rfl, ⟨rfl, N⟩, -, hq⟩ := rm0 l s _ hw tables_1 i0 i1 i2 i3 wc sx kU kI kA s.heap s.heap.size (Nat.le_refl _) BW (Old.start s) BC p e ha hc hk s m _ below hf ((Spec.applies_iff_loose hf).mp happ).1 ⟨rfl, State.Warmed39.refl s, rfl, HH⟩ trivial
  refine ⟨n, _, h1, h2, h3, hpost _ _ _ _ _ _ ⟨Cond.after_iff.mpr rfl, Cond.after_iff.mpr (eq_i res_at (Term.int_eval (1)) rfl), trivial⟩ ⟨hq.1, hq.2.1, hq.2.2.1, (hq.2.2.2.sift fun y hy => Or.inr (N y hy)).mono (by decide) (by decide)⟩⟩
theorem main_1_1 : Claimed_1_1 := comes_1 fun _ _ _ _ _ _ h hF => ⟨h.1, hF⟩
theorem main_1_2 : Claimed_1_2 := comes_1 fun _ _ _ _ _ _ h hF => ⟨h.2.1, hF⟩
end Jvm.Pilot.@@N@@
namespace Jvm.Pilot.@@N@@
open Jvm Jvm.ClassFile Sem Op Lib Jvm.Free Jvm.Stand Jvm.Pilot.@@N@@.Jvm.D
/-! MADE BY PROGRAM (witnessworld.py) out of the Statement's table words and the real class files: 36 classes; the members and pool entries that the words name. The judged class is class 1, her method 1. -/
namespace start1
open Jvm.ClassFile
def u (s : String) : CpInfo := .utf8 (stringToUtf16 s)
/-- a pool by its gaps: so many unusable entries, then the entry; so many at the end -/
def gap : Nat → List CpInfo → List CpInfo
  | 0, r => r
  | n + 1, r => .unusable :: gap n r
def poolList (es : List (Nat × CpInfo)) (last : Nat) : List CpInfo := es.foldr (fun e r => gap e.1 (e.2 :: r)) (gap last [])
def pool (es : List (Nat × CpInfo)) (last : Nat) : Array CpInfo := ⟨poolList es last⟩
def fileOf (pool : Array CpInfo) (this : Nat) (attrs : Array Attribute := #[]) (ms : Array MethodInfo := #[]) (fl : Nat := 33) (sup : Nat := 0) (ifs : Array Nat := #[]) (fds : Array FieldInfo := #[]) : ClassFile where
  minorVersion := 0
  majorVersion := 65
  constantPool := pool
  accessFlags := fl
  thisClass := this
  superClass := sup
  interfaces := ifs
  fields := fds
  methods := ms
  attributes := attrs
def plain (name : String) (sup : Option ClassId) : Class where
  name := name
  kind := .ordinary
  loader := none
  accessFlags := 33
  super := sup
  interfaces := #[]
  cf := none
  fields := #[]
  methods := #[]
  instanceTypes := #[]
  staticTypes := #[]
  resolved := #[]
  callSites := []
  init := .initialized
  statics := none
  mirror := none

def pool0 : Array CpInfo := pool [(5, u "<init>"), (0, u "()V"), (1, .class_ 10), (1, u "java/lang/Object")] 113

def k0c0 : Code := { maxStack := 0, maxLocals := 1, code := object_method_1_code, exceptionTable := #[], attributes := #[] }
def k0m0 : Method := { name := "<init>", desc := "()V", sig := { parameters := [], returnType := none }, accessFlags := 1, code := some k0c0 }
/-- java/lang/Object -/
def k0 : Class := { plain "java/lang/Object" none with
  accessFlags := 33
  interfaces := #[]
  cf := some (fileOf pool0 8 #[] #[{ accessFlags := 1, nameIndex := 5, descriptorIndex := 6, attributes := #[] }] 33 0 #[] #[])
  fields := #[]
  methods := #[k0m0]
  instanceTypes := #[]
  staticTypes := #[]
  resolved := Array.replicate 124 none
  statics := none }

def pool1 : Array CpInfo := pool [(2, .class_ 4), (0, .nameAndType 5 6), (0, u "java/lang/Object"), (0, u "<init>"), (0, u "()V"), (0, .class_ 8), (0, u "com/example/opuscule/opuscule/json/LineBuffer"), (0, .methodref 7 3), (0, .integer 2147483647), (0, .methodref 7 12), (0, .nameAndType 13 14), (0, u "start"), (0, u "(J)V"), (0, .methodref 7 16), (0, .nameAndType 17 18), (0, u "write"), (0, u "([CII)V"), (0, .methodref 7 20), (0, .nameAndType 21 22), (0, u "toString"), (0, u "()Ljava/lang/String;"), (0, .methodref 24 25), (0, .class_ 26), (0, .nameAndType 27 28), (0, u "java/lang/String"), (0, u "isEmpty"), (0, u "()Z"), (0, .methodref 24 30), (0, .nameAndType 31 32), (0, u "length"), (0, u "()I"), (0, .methodref 34 35), (0, .class_ 36), (0, .nameAndType 37 38), (0, u "com/example/opuscule/opuscule/json/LineBufferStartPinLaw"), (0, u "at"), (0, u "(Ljava/lang/String;[CII)Z"), (0, .methodref 24 40), (0, .nameAndType 41 42), (0, u "charAt"), (0, u "(I)C"), (2, u "law"), (0, u "(JIII)Z")] 8

def k1m0 : Method := { name := "<init>", desc := "()V", sig := { parameters := [], returnType := none }, accessFlags := 1, code := none }
def k1c1 : Code := { maxStack := 5, maxLocals := 12, code := code, exceptionTable := #[], attributes := #[] }
def k1m1 : Method := { name := "law", desc := "(JIII)Z", sig := { parameters := [.long, .int, .int, .int], returnType := some .boolean }, accessFlags := 9, code := some k1c1 }
def k1c2 : Code := { maxStack := 3, maxLocals := 4, code := method_3_code, exceptionTable := #[], attributes := #[] }
def k1m2 : Method := { name := "at", desc := "(Ljava/lang/String;[CII)Z", sig := { parameters := [(.object "java/lang/String"), (.array .char), .int, .int], returnType := some .boolean }, accessFlags := 10, code := some k1c2 }
/-- com/example/opuscule/opuscule/json/LineBufferStartPinLaw -/
def k1 : Class := { plain "com/example/opuscule/opuscule/json/LineBufferStartPinLaw" (some 0) with
  accessFlags := 49
  interfaces := #[]
  cf := some (fileOf pool1 34 #[] #[{ accessFlags := 1, nameIndex := 5, descriptorIndex := 6, attributes := #[] }, { accessFlags := 9, nameIndex := 45, descriptorIndex := 46, attributes := #[] }, { accessFlags := 10, nameIndex := 37, descriptorIndex := 38, attributes := #[] }] 49 2 #[] #[])
  fields := #[]
  methods := #[k1m0, k1m1, k1m2]
  instanceTypes := #[]
  staticTypes := #[]
  resolved := Array.replicate 55 none
  statics := none }

def pool2 : Array CpInfo := pool [(1, .class_ 2), (0, u "java/lang/Appendable"), (0, .class_ 4), (0, u "java/lang/Object")] 9

/-- java/lang/Appendable -/
def k2 : Class := { plain "java/lang/Appendable" (some 0) with
  accessFlags := 1537
  interfaces := #[]
  cf := some (fileOf pool2 1 #[] #[] 1537 3 #[] #[])
  fields := #[]
  methods := #[]
  instanceTypes := #[]
  staticTypes := #[]
  resolved := Array.replicate 14 none
  statics := none }

def pool3 : Array CpInfo := pool [(1, .class_ 2), (0, u "java/lang/AutoCloseable"), (0, .class_ 4), (0, u "java/lang/Object")] 7

/-- java/lang/AutoCloseable -/
def k3 : Class := { plain "java/lang/AutoCloseable" (some 0) with
  accessFlags := 1537
  interfaces := #[]
  cf := some (fileOf pool3 1 #[] #[] 1537 3 #[] #[])
  fields := #[]
  methods := #[]
  instanceTypes := #[]
  staticTypes := #[]
  resolved := Array.replicate 12 none
  statics := none }

def pool4 : Array CpInfo := pool [(1, .class_ 2), (0, u "java/io/Closeable"), (0, .class_ 4), (0, u "java/lang/Object"), (0, .class_ 6), (0, u "java/lang/AutoCloseable")] 7

/-- java/io/Closeable -/
def k4 : Class := { plain "java/io/Closeable" (some 0) with
  accessFlags := 1537
  interfaces := #[3]
  cf := some (fileOf pool4 1 #[] #[] 1537 3 #[5] #[])
  fields := #[]
  methods := #[]
  instanceTypes := #[]
  staticTypes := #[]
  resolved := Array.replicate 14 none
  statics := none }

def pool5 : Array CpInfo := pool [(1, .class_ 2), (0, u "java/io/Flushable"), (0, .class_ 4), (0, u "java/lang/Object")] 7

/-- java/io/Flushable -/
def k5 : Class := { plain "java/io/Flushable" (some 0) with
  accessFlags := 1537
  interfaces := #[]
  cf := some (fileOf pool5 1 #[] #[] 1537 3 #[] #[])
  fields := #[]
  methods := #[]
  instanceTypes := #[]
  staticTypes := #[]
  resolved := Array.replicate 12 none
  statics := none }

def pool6 : Array CpInfo := pool [(1, .class_ 2), (0, u "java/io/Writer$1"), (1, .nameAndType 5 6), (0, u "<init>"), (0, u "()V"), (0, .methodref 8 4), (0, .class_ 9), (0, u "java/lang/Object"), (0, .fieldref 11 12), (0, .class_ 13), (0, .nameAndType 14 15), (0, u "java/io/Writer"), (0, u "lock"), (0, u "Ljava/lang/Object;"), (30, u "writeBuffer"), (0, u "[C"), (46, .class_ 95), (0, u "java/lang/Appendable"), (0, .class_ 97), (0, u "java/io/Closeable"), (0, .class_ 99), (0, u "java/io/Flushable"), (0, u "WRITE_BUFFER_SIZE"), (0, u "I")] 49

def k6c0 : Code := { maxStack := 2, maxLocals := 1, code := jdk_2052_method_2_code, exceptionTable := #[], attributes := #[] }
def k6m0 : Method := { name := "<init>", desc := "()V", sig := { parameters := [], returnType := none }, accessFlags := 4, code := some k6c0 }
/-- java/io/Writer -/
def k6 : Class := { plain "java/io/Writer" (some 0) with
  accessFlags := 1057
  interfaces := #[2, 4, 5]
  cf := some (fileOf pool6 11 #[.nestMembers #[1]] #[{ accessFlags := 4, nameIndex := 5, descriptorIndex := 6, attributes := #[] }] 1057 8 #[94, 96, 98] #[{ accessFlags := 2, nameIndex := 46, descriptorIndex := 47, attributes := #[] }, { accessFlags := 26, nameIndex := 100, descriptorIndex := 101, attributes := #[] }, { accessFlags := 4, nameIndex := 14, descriptorIndex := 15, attributes := #[] }])
  fields := #[{ name := "writeBuffer", type := (.array .char), accessFlags := 2, slot := 0, constantValue := 0 }, { name := "WRITE_BUFFER_SIZE", type := .int, accessFlags := 26, slot := 0, constantValue := 0 }, { name := "lock", type := (.object "java/lang/Object"), accessFlags := 4, slot := 1, constantValue := 0 }]
  methods := #[k6m0]
  instanceTypes := #[(.array .char), (.object "java/lang/Object")]
  staticTypes := #[.int]
  resolved := Array.replicate 151 none
  statics := none }

def pool7 : Array CpInfo := pool [(1, .methodref 2 3), (0, .class_ 4), (0, .nameAndType 5 6), (0, u "java/io/Writer"), (0, u "<init>"), (0, u "()V"), (0, .class_ 8), (0, u "com/example/opuscule/opuscule/json/LineBuffer"), (0, .fieldref 7 10), (0, .nameAndType 11 12), (0, u "bytes"), (0, u "[B"), (0, .integer 65536), (0, .fieldref 7 15), (0, .nameAndType 16 17), (0, u "length"), (0, u "I"), (0, .fieldref 7 19), (0, .nameAndType 20 21), (0, u "limit"), (0, u "J"), (0, .class_ 23), (0, u "com/example/opuscule/opuscule/json/LineBuffer$Full"), (1, .long 2), (29, .class_ 57), (1, u "java/lang/String"), (5, .fieldref 64 65), (0, .class_ 66), (0, .nameAndType 67 68), (0, u "java/nio/charset/StandardCharsets"), (0, u "US_ASCII"), (0, u "Ljava/nio/charset/Charset;"), (0, .methodref 55 70), (0, .nameAndType 5 71), (0, u "([BIILjava/nio/charset/Charset;)V"), (0, u "INITIAL"), (2, u "KEPT"), (2, u "start"), (0, u "(J)V"), (1, u "write"), (0, u "([CII)V"), (3, u "toString"), (0, u "()Ljava/lang/String;")] 5

def k7c0 : Code := { maxStack := 2, maxLocals := 1, code := prog_31_method_1_code, exceptionTable := #[], attributes := #[] }
def k7m0 : Method := { name := "<init>", desc := "()V", sig := { parameters := [], returnType := none }, accessFlags := 0, code := some k7c0 }
def k7c1 : Code := { maxStack := 3, maxLocals := 3, code := prog_31_method_2_code, exceptionTable := #[], attributes := #[] }
def k7m1 : Method := { name := "start", desc := "(J)V", sig := { parameters := [.long], returnType := none }, accessFlags := 0, code := some k7c1 }
def k7c2 : Code := { maxStack := 8, maxLocals := 8, code := prog_31_method_3_code, exceptionTable := #[], attributes := #[] }
def k7m2 : Method := { name := "write", desc := "([CII)V", sig := { parameters := [(.array .char), .int, .int], returnType := none }, accessFlags := 1, code := some k7c2 }
def k7c3 : Code := { maxStack := 6, maxLocals := 1, code := prog_31_method_6_code, exceptionTable := #[], attributes := #[] }
def k7m3 : Method := { name := "toString", desc := "()Ljava/lang/String;", sig := { parameters := [], returnType := some (.object "java/lang/String") }, accessFlags := 1, code := some k7c3 }
/-- com/example/opuscule/opuscule/json/LineBuffer -/
def k7 : Class := { plain "com/example/opuscule/opuscule/json/LineBuffer" (some 6) with
  accessFlags := 48
  interfaces := #[]
  cf := some (fileOf pool7 7 #[.nestMembers #[22]] #[{ accessFlags := 0, nameIndex := 5, descriptorIndex := 6, attributes := #[] }, { accessFlags := 0, nameIndex := 78, descriptorIndex := 79, attributes := #[] }, { accessFlags := 1, nameIndex := 81, descriptorIndex := 82, attributes := #[] }, { accessFlags := 1, nameIndex := 86, descriptorIndex := 87, attributes := #[] }] 48 2 #[] #[{ accessFlags := 26, nameIndex := 72, descriptorIndex := 17, attributes := #[] }, { accessFlags := 26, nameIndex := 75, descriptorIndex := 17, attributes := #[] }, { accessFlags := 2, nameIndex := 11, descriptorIndex := 12, attributes := #[] }, { accessFlags := 2, nameIndex := 16, descriptorIndex := 17, attributes := #[] }, { accessFlags := 2, nameIndex := 20, descriptorIndex := 21, attributes := #[] }])
  fields := #[{ name := "INITIAL", type := .int, accessFlags := 26, slot := 0, constantValue := 0 }, { name := "KEPT", type := .int, accessFlags := 26, slot := 1, constantValue := 0 }, { name := "bytes", type := (.array .byte), accessFlags := 2, slot := 2, constantValue := 0 }, { name := "length", type := .int, accessFlags := 2, slot := 3, constantValue := 0 }, { name := "limit", type := .long, accessFlags := 2, slot := 4, constantValue := 0 }]
  methods := #[k7m0, k7m1, k7m2, k7m3]
  instanceTypes := #[(.array .char), (.object "java/lang/Object"), (.array .byte), .int, .long]
  staticTypes := #[.int, .int]
  resolved := Array.replicate 93 none
  statics := none }

def pool8 : Array CpInfo := pool [(1, .class_ 2), (0, u "java/io/Serializable"), (0, .class_ 4), (0, u "java/lang/Object")] 2

/-- java/io/Serializable -/
def k8 : Class := { plain "java/io/Serializable" (some 0) with
  accessFlags := 1537
  interfaces := #[]
  cf := some (fileOf pool8 1 #[] #[] 1537 3 #[] #[])
  fields := #[]
  methods := #[]
  instanceTypes := #[]
  staticTypes := #[]
  resolved := Array.replicate 7 none
  statics := none }

def pool9 : Array CpInfo := pool [(1, .class_ 2), (0, u "java/lang/Comparable"), (0, .class_ 4), (0, u "java/lang/Object")] 7

/-- java/lang/Comparable -/
def k9 : Class := { plain "java/lang/Comparable" (some 0) with
  accessFlags := 1537
  interfaces := #[]
  cf := some (fileOf pool9 1 #[] #[] 1537 3 #[] #[])
  fields := #[]
  methods := #[]
  instanceTypes := #[]
  staticTypes := #[]
  resolved := Array.replicate 12 none
  statics := none }

def pool10 : Array CpInfo := pool [(2, .class_ 4), (1, u "java/lang/CharSequence"), (42, .class_ 48), (0, u "java/lang/CharSequence$1CodePointIterator"), (10, .class_ 60), (0, u "java/lang/CharSequence$1CharIterator"), (5, .class_ 67), (0, u "java/lang/Object")] 63

/-- java/lang/CharSequence -/
def k10 : Class := { plain "java/lang/CharSequence" (some 0) with
  accessFlags := 1537
  interfaces := #[]
  cf := some (fileOf pool10 2 #[.nestMembers #[47, 59]] #[] 1537 66 #[] #[])
  fields := #[]
  methods := #[]
  instanceTypes := #[]
  staticTypes := #[]
  resolved := Array.replicate 131 none
  statics := none }

def pool11 : Array CpInfo := pool [(1, .class_ 2), (0, u "java/lang/constant/Constable"), (0, .class_ 4), (0, u "java/lang/Object")] 6

/-- java/lang/constant/Constable -/
def k11 : Class := { plain "java/lang/constant/Constable" (some 0) with
  accessFlags := 1537
  interfaces := #[]
  cf := some (fileOf pool11 1 #[] #[] 1537 3 #[] #[])
  fields := #[]
  methods := #[]
  instanceTypes := #[]
  staticTypes := #[]
  resolved := Array.replicate 11 none
  statics := none }

def pool12 : Array CpInfo := pool [(1, .class_ 2), (0, u "java/lang/constant/ConstantDesc"), (0, .class_ 4), (0, u "java/lang/Object")] 32

/-- java/lang/constant/ConstantDesc -/
def k12 : Class := { plain "java/lang/constant/ConstantDesc" (some 0) with
  accessFlags := 1537
  interfaces := #[]
  cf := some (fileOf pool12 1 #[] #[] 1537 3 #[] #[])
  fields := #[]
  methods := #[]
  instanceTypes := #[]
  staticTypes := #[]
  resolved := Array.replicate 37 none
  statics := none }

def pool13 : Array CpInfo := pool [(1, .methodref 2 3), (0, .class_ 4), (0, .nameAndType 5 6), (0, u "java/lang/Object"), (0, u "<init>"), (0, u "()V"), (0, .string 8), (0, u ""), (0, .fieldref 10 11), (0, .class_ 12), (0, .nameAndType 13 14), (0, u "java/lang/String"), (0, u "value"), (0, u "[B"), (0, .fieldref 10 16), (0, .nameAndType 17 18), (0, u "coder"), (0, u "B"), (2, u "hash"), (0, u "I"), (2, u "hashIsZero"), (0, u "Z"), (7, .methodref 10 35), (0, .nameAndType 36 37), (0, u "checkBoundsOffCount"), (0, u "(III)I"), (0, .fieldref 10 39), (0, .nameAndType 40 26), (0, u "COMPACT_STRINGS"), (13, .methodref 55 56), (0, .class_ 57), (0, .nameAndType 58 59), (0, u "java/util/Arrays"), (0, u "copyOfRange"), (0, u "([BII)[B"), (15, .methodref 10 76), (0, .nameAndType 5 77), (0, u "(Ljava/nio/charset/Charset;[BII)V"), (0, .methodref 79 80), (0, .class_ 81), (0, .nameAndType 82 83), (0, u "java/util/Objects"), (0, u "requireNonNull"), (0, u "(Ljava/lang/Object;)Ljava/lang/Object;"), (0, .class_ 85), (0, u "java/nio/charset/Charset"), (0, .fieldref 87 88), (0, .class_ 89), (0, .nameAndType 90 91), (0, u "sun/nio/cs/UTF_8"), (0, u "INSTANCE"), (0, u "Lsun/nio/cs/UTF_8;"), (1, .class_ 95), (1, u "java/lang/StringCoding"), (11, .class_ 109), (1, u "java/lang/StringLatin1"), (6, .fieldref 117 118), (0, .class_ 119), (0, .nameAndType 90 120), (0, u "sun/nio/cs/ISO_8859_1"), (0, u "Lsun/nio/cs/ISO_8859_1;"), (2, .fieldref 124 125), (0, .class_ 126), (0, .nameAndType 90 127), (0, u "sun/nio/cs/US_ASCII"), (0, u "Lsun/nio/cs/US_ASCII;"), (0, .methodref 93 129), (0, .nameAndType 130 131), (0, u "hasNegatives"), (0, u "([BII)Z"), (10, u "()Z"), (95, u "([BIILjava/nio/charset/Charset;)V"), (95, u "()I"), (0, .methodref 10 336), (0, .nameAndType 17 337), (0, u "()B"), (25, u "([BI)C"), (27, u "(II)V"), (35, u "(I)C"), (64, .methodref 10 493), (0, .nameAndType 494 142), (0, u "isLatin1"), (0, .methodref 107 496), (0, .nameAndType 497 363), (0, u "charAt"), (3, u "checkIndex"), (5, u "length"), (67, .class_ 576), (0, u "java/lang/CharSequence"), (22, u "CASE_INSENSITIVE_ORDER"), (0, u "Ljava/util/Comparator;"), (91, u "isEmpty"), (360, .fieldref 1054 1055), (0, .class_ 1056), (0, .nameAndType 1057 1058), (0, u "jdk/internal/util/Preconditions"), (0, u "SIOOBE_FORMATTER"), (0, u "Ljava/util/function/BiFunction;"), (0, .methodref 1054 1060), (0, .nameAndType 501 1061), (0, u "(IILjava/util/function/BiFunction;)I"), (2, u "(IIILjava/util/function/BiFunction;)I"), (0, .methodref 1054 1066), (0, .nameAndType 1067 1064), (0, u "checkFromIndexSize"), (33, u "serialPersistentFields"), (0, u "[Ljava/io/ObjectStreamField;"), (0, .class_ 1104), (0, u "java/lang/String$CaseInsensitiveComparator"), (1, .class_ 1107), (0, u "java/io/Serializable"), (0, .class_ 1109), (0, u "java/lang/Comparable"), (0, .class_ 1111), (0, u "java/lang/constant/Constable"), (0, .class_ 1113), (0, u "java/lang/constant/ConstantDesc"), (2, u "serialVersionUID"), (0, u "J"), (3, u "REPL"), (0, u "C"), (2, u "LATIN1"), (1, u "UTF16")] 323

def k13m0 : Method := { name := "<init>", desc := "()V", sig := { parameters := [], returnType := none }, accessFlags := 1, code := none }
def k13c1 : Code := { maxStack := 6, maxLocals := 5, code := jdk_42_method_10_code, exceptionTable := #[], attributes := #[] }
def k13m1 : Method := { name := "<init>", desc := "([BIILjava/nio/charset/Charset;)V", sig := { parameters := [(.array .byte), .int, .int, (.object "java/nio/charset/Charset")], returnType := none }, accessFlags := 1, code := some k13c1 }
def k13c2 : Code := { maxStack := 6, maxLocals := 11, code := jdk_42_method_11_code, exceptionTable := #[{ startPc := 800, endPc := 813, handlerPc := 816, catchType := 202 }], attributes := #[] }
def k13m2 : Method := { name := "<init>", desc := "(Ljava/nio/charset/Charset;[BII)V", sig := { parameters := [(.object "java/nio/charset/Charset"), (.array .byte), .int, .int], returnType := none }, accessFlags := 2, code := some k13c2 }
def k13c3 : Code := { maxStack := 2, maxLocals := 1, code := jdk_42_method_54_code, exceptionTable := #[], attributes := #[] }
def k13m3 : Method := { name := "length", desc := "()I", sig := { parameters := [], returnType := some .int }, accessFlags := 1, code := some k13c3 }
def k13c4 : Code := { maxStack := 1, maxLocals := 1, code := jdk_42_method_55_code, exceptionTable := #[], attributes := #[] }
def k13m4 : Method := { name := "isEmpty", desc := "()Z", sig := { parameters := [], returnType := some .boolean }, accessFlags := 1, code := some k13c4 }
def k13c5 : Code := { maxStack := 2, maxLocals := 2, code := jdk_42_method_56_code, exceptionTable := #[], attributes := #[] }
def k13m5 : Method := { name := "charAt", desc := "(I)C", sig := { parameters := [.int], returnType := some .char }, accessFlags := 1, code := some k13c5 }
def k13c6 : Code := { maxStack := 1, maxLocals := 1, code := jdk_42_method_152_code, exceptionTable := #[], attributes := #[] }
def k13m6 : Method := { name := "coder", desc := "()B", sig := { parameters := [], returnType := some .byte }, accessFlags := 0, code := some k13c6 }
def k13c7 : Code := { maxStack := 1, maxLocals := 1, code := jdk_42_method_154_code, exceptionTable := #[], attributes := #[] }
def k13m7 : Method := { name := "isLatin1", desc := "()Z", sig := { parameters := [], returnType := some .boolean }, accessFlags := 0, code := some k13c7 }
def k13c8 : Code := { maxStack := 3, maxLocals := 2, code := jdk_42_method_155_code, exceptionTable := #[], attributes := #[] }
def k13m8 : Method := { name := "checkIndex", desc := "(II)V", sig := { parameters := [.int, .int], returnType := none }, accessFlags := 8, code := some k13c8 }
def k13c9 : Code := { maxStack := 4, maxLocals := 3, code := jdk_42_method_157_code, exceptionTable := #[], attributes := #[] }
def k13m9 : Method := { name := "checkBoundsOffCount", desc := "(III)I", sig := { parameters := [.int, .int, .int], returnType := some .int }, accessFlags := 8, code := some k13c9 }
/-- java/lang/String -/
def k13 : Class := { plain "java/lang/String" (some 0) with
  accessFlags := 49
  interfaces := #[8, 9, 10, 11, 12]
  cf := some (fileOf pool13 10 #[.nestMembers #[1103]] #[{ accessFlags := 1, nameIndex := 5, descriptorIndex := 6, attributes := #[] }, { accessFlags := 1, nameIndex := 5, descriptorIndex := 238, attributes := #[] }, { accessFlags := 2, nameIndex := 5, descriptorIndex := 77, attributes := #[] }, { accessFlags := 1, nameIndex := 507, descriptorIndex := 334, attributes := #[] }, { accessFlags := 1, nameIndex := 692, descriptorIndex := 142, attributes := #[] }, { accessFlags := 1, nameIndex := 497, descriptorIndex := 427, attributes := #[] }, { accessFlags := 0, nameIndex := 17, descriptorIndex := 337, attributes := #[] }, { accessFlags := 0, nameIndex := 494, descriptorIndex := 142, attributes := #[] }, { accessFlags := 8, nameIndex := 501, descriptorIndex := 391, attributes := #[] }, { accessFlags := 8, nameIndex := 36, descriptorIndex := 37, attributes := #[] }] 49 2 #[1106, 1108, 575, 1110, 1112] #[{ accessFlags := 18, nameIndex := 13, descriptorIndex := 14, attributes := #[] }, { accessFlags := 18, nameIndex := 17, descriptorIndex := 18, attributes := #[] }, { accessFlags := 2, nameIndex := 21, descriptorIndex := 22, attributes := #[] }, { accessFlags := 2, nameIndex := 25, descriptorIndex := 26, attributes := #[] }, { accessFlags := 26, nameIndex := 1116, descriptorIndex := 1117, attributes := #[] }, { accessFlags := 24, nameIndex := 40, descriptorIndex := 26, attributes := #[] }, { accessFlags := 26, nameIndex := 1101, descriptorIndex := 1102, attributes := #[] }, { accessFlags := 26, nameIndex := 1121, descriptorIndex := 1122, attributes := #[] }, { accessFlags := 25, nameIndex := 599, descriptorIndex := 600, attributes := #[] }, { accessFlags := 24, nameIndex := 1125, descriptorIndex := 18, attributes := #[] }, { accessFlags := 24, nameIndex := 1127, descriptorIndex := 18, attributes := #[] }])
  fields := #[{ name := "value", type := (.array .byte), accessFlags := 18, slot := 0, constantValue := 0 }, { name := "coder", type := .byte, accessFlags := 18, slot := 1, constantValue := 0 }, { name := "hash", type := .int, accessFlags := 2, slot := 2, constantValue := 0 }, { name := "hashIsZero", type := .boolean, accessFlags := 2, slot := 3, constantValue := 0 }, { name := "serialVersionUID", type := .long, accessFlags := 26, slot := 0, constantValue := 0 }, { name := "COMPACT_STRINGS", type := .boolean, accessFlags := 24, slot := 1, constantValue := 0 }, { name := "serialPersistentFields", type := (.array (.object "java/io/ObjectStreamField")), accessFlags := 26, slot := 2, constantValue := 0 }, { name := "REPL", type := .char, accessFlags := 26, slot := 3, constantValue := 0 }, { name := "CASE_INSENSITIVE_ORDER", type := (.object "java/util/Comparator"), accessFlags := 25, slot := 4, constantValue := 0 }, { name := "LATIN1", type := .byte, accessFlags := 24, slot := 5, constantValue := 0 }, { name := "UTF16", type := .byte, accessFlags := 24, slot := 6, constantValue := 0 }]
  methods := #[k13m0, k13m1, k13m2, k13m3, k13m4, k13m5, k13m6, k13m7, k13m8, k13m9]
  instanceTypes := #[(.array .byte), .byte, .int, .boolean]
  staticTypes := #[.long, .boolean, (.array (.object "java/io/ObjectStreamField")), .char, (.object "java/util/Comparator"), .byte, .byte]
  resolved := Array.replicate 1451 none
  statics := some 0 }

def pool14 : Array CpInfo := pool [(2, .class_ 4), (1, u "java/lang/Object"), (0, u "<init>"), (0, u "()V"), (14, .class_ 23), (1, u "java/nio/charset/StandardCharsets"), (0, u "US_ASCII"), (0, u "Ljava/nio/charset/Charset;"), (7, u "ISO_8859_1"), (7, u "UTF_8"), (5, u "UTF_16BE"), (5, u "UTF_16LE"), (5, u "UTF_16")] 8

def k14m0 : Method := { name := "<init>", desc := "()V", sig := { parameters := [], returnType := none }, accessFlags := 2, code := none }
/-- java/nio/charset/StandardCharsets -/
def k14 : Class := { plain "java/nio/charset/StandardCharsets" (some 0) with
  accessFlags := 49
  interfaces := #[]
  cf := some (fileOf pool14 21 #[] #[{ accessFlags := 2, nameIndex := 5, descriptorIndex := 6, attributes := #[] }] 49 2 #[] #[{ accessFlags := 25, nameIndex := 24, descriptorIndex := 25, attributes := #[] }, { accessFlags := 25, nameIndex := 33, descriptorIndex := 25, attributes := #[] }, { accessFlags := 25, nameIndex := 41, descriptorIndex := 25, attributes := #[] }, { accessFlags := 25, nameIndex := 47, descriptorIndex := 25, attributes := #[] }, { accessFlags := 25, nameIndex := 53, descriptorIndex := 25, attributes := #[] }, { accessFlags := 25, nameIndex := 59, descriptorIndex := 25, attributes := #[] }])
  fields := #[{ name := "US_ASCII", type := (.object "java/nio/charset/Charset"), accessFlags := 25, slot := 0, constantValue := 0 }, { name := "ISO_8859_1", type := (.object "java/nio/charset/Charset"), accessFlags := 25, slot := 1, constantValue := 0 }, { name := "UTF_8", type := (.object "java/nio/charset/Charset"), accessFlags := 25, slot := 2, constantValue := 0 }, { name := "UTF_16BE", type := (.object "java/nio/charset/Charset"), accessFlags := 25, slot := 3, constantValue := 0 }, { name := "UTF_16LE", type := (.object "java/nio/charset/Charset"), accessFlags := 25, slot := 4, constantValue := 0 }, { name := "UTF_16", type := (.object "java/nio/charset/Charset"), accessFlags := 25, slot := 5, constantValue := 0 }]
  methods := #[k14m0]
  instanceTypes := #[]
  staticTypes := #[(.object "java/nio/charset/Charset"), (.object "java/nio/charset/Charset"), (.object "java/nio/charset/Charset"), (.object "java/nio/charset/Charset"), (.object "java/nio/charset/Charset"), (.object "java/nio/charset/Charset")]
  resolved := Array.replicate 68 none
  statics := some 1 }

def pool15 : Array CpInfo := pool [(2, .class_ 4), (1, u "java/lang/Object"), (0, u "<init>"), (0, u "()V"), (35, .class_ 44), (1, u "java/util/Objects"), (0, u "requireNonNull"), (0, u "(Ljava/lang/Object;)Ljava/lang/Object;")] 137

def k15m0 : Method := { name := "<init>", desc := "()V", sig := { parameters := [], returnType := none }, accessFlags := 2, code := none }
def k15c1 : Code := { maxStack := 2, maxLocals := 1, code := jdk_31_method_10_code, exceptionTable := #[], attributes := #[] }
def k15m1 : Method := { name := "requireNonNull", desc := "(Ljava/lang/Object;)Ljava/lang/Object;", sig := { parameters := [(.object "java/lang/Object")], returnType := some (.object "java/lang/Object") }, accessFlags := 9, code := some k15c1 }
/-- java/util/Objects -/
def k15 : Class := { plain "java/util/Objects" (some 0) with
  accessFlags := 49
  interfaces := #[]
  cf := some (fileOf pool15 42 #[] #[{ accessFlags := 2, nameIndex := 5, descriptorIndex := 6, attributes := #[] }, { accessFlags := 9, nameIndex := 45, descriptorIndex := 46, attributes := #[] }] 49 2 #[] #[])
  fields := #[]
  methods := #[k15m0, k15m1]
  instanceTypes := #[]
  staticTypes := #[]
  resolved := Array.replicate 184 none
  statics := none }

def pool16 : Array CpInfo := pool [(18, .class_ 20), (1, u "java/nio/charset/Charset"), (0, u "cache1"), (0, u "[Ljava/lang/Object;"), (2, u "cache2"), (0, .class_ 27), (0, u "java/lang/Object"), (0, .class_ 29), (0, u "java/nio/charset/Charset$1"), (4, .class_ 36), (1, u "java/nio/charset/Charset$ThreadTrackHolder"), (21, .class_ 59), (0, u "java/nio/charset/Charset$2"), (11, .class_ 73), (1, u "java/nio/charset/Charset$ExtendedProviderHolder"), (22, u "standardProvider"), (0, u "Ljava/nio/charset/spi/CharsetProvider;"), (29, u "name"), (7, .class_ 136), (0, u "java/nio/charset/Charset$3"), (5, u "defaultCharset"), (0, u "Ljava/nio/charset/Charset;"), (14, u "zeroAliases"), (0, u "[Ljava/lang/String;"), (29, u "Ljava/lang/String;"), (2, u "aliases"), (2, u "aliasSet"), (0, u "Ljava/util/Set;"), (82, .class_ 280), (0, u "java/lang/Comparable"), (84, .class_ 366), (0, u "java/nio/charset/Charset$ExtendedProviderHolder$1")] 3

/-- java/nio/charset/Charset -/
def k16 : Class := { plain "java/nio/charset/Charset" (some 0) with
  accessFlags := 1057
  interfaces := #[9]
  cf := some (fileOf pool16 18 #[.nestMembers #[71, 365, 34, 135, 58, 28]] #[] 1057 26 #[279] #[{ accessFlags := 26, nameIndex := 96, descriptorIndex := 97, attributes := #[] }, { accessFlags := 26, nameIndex := 158, descriptorIndex := 159, attributes := #[] }, { accessFlags := 74, nameIndex := 21, descriptorIndex := 22, attributes := #[] }, { accessFlags := 74, nameIndex := 25, descriptorIndex := 22, attributes := #[] }, { accessFlags := 10, nameIndex := 142, descriptorIndex := 143, attributes := #[] }, { accessFlags := 18, nameIndex := 127, descriptorIndex := 189, attributes := #[] }, { accessFlags := 18, nameIndex := 192, descriptorIndex := 159, attributes := #[] }, { accessFlags := 2, nameIndex := 195, descriptorIndex := 196, attributes := #[] }])
  fields := #[{ name := "standardProvider", type := (.object "java/nio/charset/spi/CharsetProvider"), accessFlags := 26, slot := 0, constantValue := 0 }, { name := "zeroAliases", type := (.array (.object "java/lang/String")), accessFlags := 26, slot := 1, constantValue := 0 }, { name := "cache1", type := (.array (.object "java/lang/Object")), accessFlags := 74, slot := 2, constantValue := 0 }, { name := "cache2", type := (.array (.object "java/lang/Object")), accessFlags := 74, slot := 3, constantValue := 0 }, { name := "defaultCharset", type := (.object "java/nio/charset/Charset"), accessFlags := 10, slot := 4, constantValue := 0 }, { name := "name", type := (.object "java/lang/String"), accessFlags := 18, slot := 0, constantValue := 0 }, { name := "aliases", type := (.array (.object "java/lang/String")), accessFlags := 18, slot := 1, constantValue := 0 }, { name := "aliasSet", type := (.object "java/util/Set"), accessFlags := 2, slot := 2, constantValue := 0 }]
  methods := #[]
  instanceTypes := #[(.object "java/lang/String"), (.array (.object "java/lang/String")), (.object "java/util/Set")]
  staticTypes := #[(.object "java/nio/charset/spi/CharsetProvider"), (.array (.object "java/lang/String")), (.array (.object "java/lang/Object")), (.array (.object "java/lang/Object")), (.object "java/nio/charset/Charset")]
  resolved := Array.replicate 370 none
  statics := none }

def pool17 : Array CpInfo := pool [(1, .class_ 2), (0, u "sun/nio/cs/HistoricallyNamedCharset"), (0, .class_ 4), (0, u "java/lang/Object")] 4

/-- sun/nio/cs/HistoricallyNamedCharset -/
def k17 : Class := { plain "sun/nio/cs/HistoricallyNamedCharset" (some 0) with
  accessFlags := 1537
  interfaces := #[]
  cf := some (fileOf pool17 1 #[] #[] 1537 3 #[] #[])
  fields := #[]
  methods := #[]
  instanceTypes := #[]
  staticTypes := #[]
  resolved := Array.replicate 9 none
  statics := none }

def pool18 : Array CpInfo := pool [(10, .class_ 12), (1, u "java/nio/charset/Charset"), (0, u "<init>"), (3, .class_ 18), (0, u "sun/nio/cs/US_ASCII"), (0, .class_ 20), (0, u "sun/nio/cs/US_ASCII$Decoder"), (3, .class_ 25), (0, u "sun/nio/cs/US_ASCII$Encoder"), (3, u "()V"), (2, u "INSTANCE"), (0, u "Lsun/nio/cs/US_ASCII;"), (8, u "JLA"), (0, u "Ljdk/internal/access/JavaLangAccess;"), (0, .class_ 45), (0, u "sun/nio/cs/HistoricallyNamedCharset")] 21

def k18m0 : Method := { name := "<init>", desc := "()V", sig := { parameters := [], returnType := none }, accessFlags := 1, code := none }
/-- sun/nio/cs/US_ASCII -/
def k18 : Class := { plain "sun/nio/cs/US_ASCII" (some 16) with
  accessFlags := 33
  interfaces := #[17]
  cf := some (fileOf pool18 17 #[.nestMembers #[24, 19]] #[{ accessFlags := 1, nameIndex := 13, descriptorIndex := 29, attributes := #[] }] 33 10 #[44] #[{ accessFlags := 25, nameIndex := 32, descriptorIndex := 33, attributes := #[] }, { accessFlags := 26, nameIndex := 42, descriptorIndex := 43, attributes := #[] }])
  fields := #[{ name := "INSTANCE", type := (.object "sun/nio/cs/US_ASCII"), accessFlags := 25, slot := 0, constantValue := 0 }, { name := "JLA", type := (.object "jdk/internal/access/JavaLangAccess"), accessFlags := 26, slot := 1, constantValue := 0 }]
  methods := #[k18m0]
  instanceTypes := #[(.object "java/lang/String"), (.array (.object "java/lang/String")), (.object "java/util/Set")]
  staticTypes := #[(.object "sun/nio/cs/US_ASCII"), (.object "jdk/internal/access/JavaLangAccess")]
  resolved := Array.replicate 67 none
  statics := some 2 }

def pool19 : Array CpInfo := pool [(2, .class_ 4), (1, u "java/lang/Object"), (0, u "<init>"), (0, u "()V"), (17, .class_ 26), (1, u "jdk/internal/util/Preconditions"), (6, u "checkIndex"), (15, u "checkFromIndexSize"), (5, .class_ 56), (0, u "jdk/internal/util/Preconditions$4"), (57, .class_ 115), (0, u "jdk/internal/util/Preconditions$1"), (7, u "SIOOBE_FORMATTER"), (0, u "Ljava/util/function/BiFunction;"), (0, .class_ 126), (0, u "jdk/internal/util/Preconditions$2"), (3, u "AIOOBE_FORMATTER"), (0, .class_ 132), (0, u "jdk/internal/util/Preconditions$3"), (3, u "IOOBE_FORMATTER"), (41, u "(IILjava/util/function/BiFunction;)I"), (4, u "(IIILjava/util/function/BiFunction;)I")] 10

def k19m0 : Method := { name := "<init>", desc := "()V", sig := { parameters := [], returnType := none }, accessFlags := 1, code := none }
def k19c1 : Code := { maxStack := 3, maxLocals := 3, code := jdk_41_method_11_code, exceptionTable := #[], attributes := #[] }
def k19m1 : Method := { name := "checkIndex", desc := "(IILjava/util/function/BiFunction;)I", sig := { parameters := [.int, .int, (.object "java/util/function/BiFunction")], returnType := some .int }, accessFlags := 9, code := some k19c1 }
def k19c2 : Code := { maxStack := 4, maxLocals := 4, code := jdk_41_method_13_code, exceptionTable := #[], attributes := #[] }
def k19m2 : Method := { name := "checkFromIndexSize", desc := "(IIILjava/util/function/BiFunction;)I", sig := { parameters := [.int, .int, .int, (.object "java/util/function/BiFunction")], returnType := some .int }, accessFlags := 9, code := some k19c2 }
/-- jdk/internal/util/Preconditions -/
def k19 : Class := { plain "jdk/internal/util/Preconditions" (some 0) with
  accessFlags := 33
  interfaces := #[]
  cf := some (fileOf pool19 24 #[.nestMembers #[55, 131, 125, 114]] #[{ accessFlags := 1, nameIndex := 5, descriptorIndex := 6, attributes := #[] }, { accessFlags := 9, nameIndex := 33, descriptorIndex := 178, attributes := #[] }, { accessFlags := 9, nameIndex := 49, descriptorIndex := 183, attributes := #[] }] 33 2 #[] #[{ accessFlags := 25, nameIndex := 123, descriptorIndex := 124, attributes := #[] }, { accessFlags := 25, nameIndex := 130, descriptorIndex := 124, attributes := #[] }, { accessFlags := 25, nameIndex := 136, descriptorIndex := 124, attributes := #[] }])
  fields := #[{ name := "SIOOBE_FORMATTER", type := (.object "java/util/function/BiFunction"), accessFlags := 25, slot := 0, constantValue := 0 }, { name := "AIOOBE_FORMATTER", type := (.object "java/util/function/BiFunction"), accessFlags := 25, slot := 1, constantValue := 0 }, { name := "IOOBE_FORMATTER", type := (.object "java/util/function/BiFunction"), accessFlags := 25, slot := 2, constantValue := 0 }]
  methods := #[k19m0, k19m1, k19m2]
  instanceTypes := #[]
  staticTypes := #[(.object "java/util/function/BiFunction"), (.object "java/util/function/BiFunction"), (.object "java/util/function/BiFunction")]
  resolved := Array.replicate 194 none
  statics := some 3 }

def pool20 : Array CpInfo := pool [(2, .class_ 4), (1, u "java/nio/charset/Charset"), (130, .class_ 136), (0, u "sun/nio/cs/Unicode"), (0, .class_ 138), (0, u "sun/nio/cs/HistoricallyNamedCharset")] 15

/-- sun/nio/cs/Unicode -/
def k20 : Class := { plain "sun/nio/cs/Unicode" (some 16) with
  accessFlags := 1056
  interfaces := #[17]
  cf := some (fileOf pool20 135 #[] #[] 1056 2 #[137] #[])
  fields := #[]
  methods := #[]
  instanceTypes := #[(.object "java/lang/String"), (.array (.object "java/lang/String")), (.object "java/util/Set")]
  staticTypes := #[]
  resolved := Array.replicate 154 none
  statics := none }

def pool21 : Array CpInfo := pool [(10, .class_ 12), (1, u "sun/nio/cs/Unicode"), (0, u "<init>"), (3, .class_ 18), (0, u "sun/nio/cs/UTF_8$Decoder"), (3, .class_ 23), (0, u "sun/nio/cs/UTF_8$Encoder"), (15, .class_ 40), (0, u "sun/nio/cs/UTF_8"), (2, u "()V"), (2, u "INSTANCE"), (0, u "Lsun/nio/cs/UTF_8;"), (8, u "JLA"), (0, u "Ljdk/internal/access/JavaLangAccess;")] 26

def k21m0 : Method := { name := "<init>", desc := "()V", sig := { parameters := [], returnType := none }, accessFlags := 1, code := none }
/-- sun/nio/cs/UTF_8 -/
def k21 : Class := { plain "sun/nio/cs/UTF_8" (some 20) with
  accessFlags := 49
  interfaces := #[]
  cf := some (fileOf pool21 39 #[.nestMembers #[22, 17]] #[{ accessFlags := 1, nameIndex := 13, descriptorIndex := 43, attributes := #[] }] 49 10 #[] #[{ accessFlags := 25, nameIndex := 46, descriptorIndex := 47, attributes := #[] }, { accessFlags := 26, nameIndex := 56, descriptorIndex := 57, attributes := #[] }])
  fields := #[{ name := "INSTANCE", type := (.object "sun/nio/cs/UTF_8"), accessFlags := 25, slot := 0, constantValue := 0 }, { name := "JLA", type := (.object "jdk/internal/access/JavaLangAccess"), accessFlags := 26, slot := 1, constantValue := 0 }]
  methods := #[k21m0]
  instanceTypes := #[(.object "java/lang/String"), (.array (.object "java/lang/String")), (.object "java/util/Set")]
  staticTypes := #[(.object "sun/nio/cs/UTF_8"), (.object "jdk/internal/access/JavaLangAccess")]
  resolved := Array.replicate 84 none
  statics := some 4 }

def pool22 : Array CpInfo := pool [(10, .class_ 12), (1, u "java/nio/charset/Charset"), (0, u "<init>"), (5, .class_ 20), (0, u "sun/nio/cs/ISO_8859_1"), (0, .class_ 22), (0, u "sun/nio/cs/ISO_8859_1$Decoder"), (3, .class_ 27), (0, u "sun/nio/cs/ISO_8859_1$Encoder"), (3, u "()V"), (2, u "INSTANCE"), (0, u "Lsun/nio/cs/ISO_8859_1;"), (0, .class_ 37), (0, u "sun/nio/cs/HistoricallyNamedCharset")] 22

def k22m0 : Method := { name := "<init>", desc := "()V", sig := { parameters := [], returnType := none }, accessFlags := 1, code := none }
/-- sun/nio/cs/ISO_8859_1 -/
def k22 : Class := { plain "sun/nio/cs/ISO_8859_1" (some 16) with
  accessFlags := 33
  interfaces := #[17]
  cf := some (fileOf pool22 19 #[.nestMembers #[26, 21]] #[{ accessFlags := 1, nameIndex := 13, descriptorIndex := 31, attributes := #[] }] 33 10 #[36] #[{ accessFlags := 25, nameIndex := 34, descriptorIndex := 35, attributes := #[] }])
  fields := #[{ name := "INSTANCE", type := (.object "sun/nio/cs/ISO_8859_1"), accessFlags := 25, slot := 0, constantValue := 0 }]
  methods := #[k22m0]
  instanceTypes := #[(.object "java/lang/String"), (.array (.object "java/lang/String")), (.object "java/util/Set")]
  staticTypes := #[(.object "sun/nio/cs/ISO_8859_1")]
  resolved := Array.replicate 60 none
  statics := some 5 }

def pool23 : Array CpInfo := pool [(2, .class_ 4), (1, u "java/lang/Object"), (0, u "<init>"), (0, u "()V"), (0, .methodref 8 9), (0, .class_ 10), (0, .nameAndType 11 12), (0, u "java/lang/StringCoding"), (0, u "countPositives"), (0, u "([BII)I"), (11, u "hasNegatives"), (0, u "([BII)Z")] 23

def k23m0 : Method := { name := "<init>", desc := "()V", sig := { parameters := [], returnType := none }, accessFlags := 2, code := none }
def k23c1 : Code := { maxStack := 3, maxLocals := 3, code := jdk_123_method_2_code, exceptionTable := #[], attributes := #[] }
def k23m1 : Method := { name := "hasNegatives", desc := "([BII)Z", sig := { parameters := [(.array .byte), .int, .int], returnType := some .boolean }, accessFlags := 9, code := some k23c1 }
def k23c2 : Code := { maxStack := 2, maxLocals := 5, code := jdk_123_method_3_code, exceptionTable := #[], attributes := #[] }
def k23m2 : Method := { name := "countPositives", desc := "([BII)I", sig := { parameters := [(.array .byte), .int, .int], returnType := some .int }, accessFlags := 9, code := some k23c2 }
/-- java/lang/StringCoding -/
def k23 : Class := { plain "java/lang/StringCoding" (some 0) with
  accessFlags := 32
  interfaces := #[]
  cf := some (fileOf pool23 8 #[] #[{ accessFlags := 2, nameIndex := 5, descriptorIndex := 6, attributes := #[] }, { accessFlags := 9, nameIndex := 24, descriptorIndex := 25, attributes := #[] }, { accessFlags := 9, nameIndex := 11, descriptorIndex := 12, attributes := #[] }] 32 2 #[] #[])
  fields := #[]
  methods := #[k23m0, k23m1, k23m2]
  instanceTypes := #[]
  staticTypes := #[]
  resolved := Array.replicate 49 none
  statics := none }

def pool24 : Array CpInfo := pool [(2, .class_ 4), (1, u "java/lang/Object"), (0, u "<init>"), (0, u "()V"), (7, .class_ 16), (1, u "java/util/Arrays"), (57, .class_ 76), (1, u "java/util/Arrays$NaturalOrder"), (36, .class_ 115), (1, u "java/util/Arrays$LegacyMergeSort"), (1, u "Z"), (21, u "copyOfRange"), (10, .methodref 151 152), (0, .class_ 153), (0, .nameAndType 154 155), (0, u "java/lang/System"), (0, u "arraycopy"), (0, u "(Ljava/lang/Object;ILjava/lang/Object;II)V"), (148, .methodref 305 306), (0, .class_ 307), (0, .nameAndType 308 309), (0, u "java/lang/Math"), (0, u "min"), (0, u "(II)I"), (29, .methodref 14 340), (0, .nameAndType 341 342), (0, u "copyOfRangeByte"), (0, u "([BII)[B"), (0, .methodref 14 344), (0, .nameAndType 345 346), (0, u "checkLength"), (0, u "(II)V"), (28, .class_ 376), (0, u "java/util/Arrays$ArrayList"), (68, u "$assertionsDisabled"), (269, u "MIN_ARRAY_SORT_GRAN"), (0, u "I"), (2, u "INSERTIONSORT_THRESHOLD"), (255, .class_ 976), (0, u "java/util/Arrays$ArrayItr")] 52

def k24m0 : Method := { name := "<init>", desc := "()V", sig := { parameters := [], returnType := none }, accessFlags := 2, code := none }
def k24c1 : Code := { maxStack := 4, maxLocals := 2, code := jdk_65_method_131_code, exceptionTable := #[], attributes := #[] }
def k24m1 : Method := { name := "checkLength", desc := "(II)V", sig := { parameters := [.int, .int], returnType := none }, accessFlags := 10, code := some k24c1 }
def k24c2 : Code := { maxStack := 3, maxLocals := 3, code := jdk_65_method_132_code, exceptionTable := #[], attributes := #[] }
def k24m2 : Method := { name := "copyOfRange", desc := "([BII)[B", sig := { parameters := [(.array .byte), .int, .int], returnType := some (.array .byte) }, accessFlags := 9, code := some k24c2 }
def k24c3 : Code := { maxStack := 6, maxLocals := 5, code := jdk_65_method_133_code, exceptionTable := #[], attributes := #[] }
def k24m3 : Method := { name := "copyOfRangeByte", desc := "([BII)[B", sig := { parameters := [(.array .byte), .int, .int], returnType := some (.array .byte) }, accessFlags := 10, code := some k24c3 }
/-- java/util/Arrays -/
def k24 : Class := { plain "java/util/Arrays" (some 0) with
  accessFlags := 49
  interfaces := #[]
  cf := some (fileOf pool24 14 #[.nestMembers #[975, 375, 113, 74]] #[{ accessFlags := 2, nameIndex := 5, descriptorIndex := 6, attributes := #[] }, { accessFlags := 10, nameIndex := 345, descriptorIndex := 346, attributes := #[] }, { accessFlags := 9, nameIndex := 139, descriptorIndex := 342, attributes := #[] }, { accessFlags := 10, nameIndex := 341, descriptorIndex := 342, attributes := #[] }] 49 2 #[] #[{ accessFlags := 26, nameIndex := 715, descriptorIndex := 716, attributes := #[] }, { accessFlags := 26, nameIndex := 719, descriptorIndex := 716, attributes := #[] }, { accessFlags := 4120, nameIndex := 445, descriptorIndex := 117, attributes := #[] }])
  fields := #[{ name := "MIN_ARRAY_SORT_GRAN", type := .int, accessFlags := 26, slot := 0, constantValue := 0 }, { name := "INSERTIONSORT_THRESHOLD", type := .int, accessFlags := 26, slot := 1, constantValue := 0 }, { name := "$assertionsDisabled", type := .boolean, accessFlags := 4120, slot := 2, constantValue := 0 }]
  methods := #[k24m0, k24m1, k24m2, k24m3]
  instanceTypes := #[]
  staticTypes := #[.int, .int, .boolean]
  resolved := Array.replicate 1029 none
  statics := none }

def pool25 : Array CpInfo := pool [(1, .class_ 2), (0, u "java/lang/Math"), (1, .class_ 6), (1, u "java/lang/Object"), (0, u "<init>"), (0, u "()V"), (89, .class_ 100), (1, u "java/lang/Math$RandomNumberGeneratorHolder"), (71, u "negativeZeroFloatBits"), (0, u "J"), (2, u "negativeZeroDoubleBits"), (24, u "min"), (43, u "$assertionsDisabled"), (0, u "Z"), (88, u "(II)I"), (2, u "twoToTheDoubleScaleDown"), (0, u "D"), (4, u "twoToTheDoubleScaleUp"), (9, u "E"), (3, u "PI"), (2, u "TAU"), (2, u "DEGREES_TO_RADIANS"), (0, u "RADIANS_TO_DEGREES")] 94

def k25m0 : Method := { name := "<init>", desc := "()V", sig := { parameters := [], returnType := none }, accessFlags := 2, code := none }
def k25c1 : Code := { maxStack := 2, maxLocals := 2, code := jdk_29_method_69_code, exceptionTable := #[], attributes := #[] }
def k25m1 : Method := { name := "min", desc := "(II)I", sig := { parameters := [.int, .int], returnType := some .int }, accessFlags := 9, code := some k25c1 }
/-- java/lang/Math -/
def k25 : Class := { plain "java/lang/Math" (some 0) with
  accessFlags := 49
  interfaces := #[]
  cf := some (fileOf pool25 1 #[.nestMembers #[98]] #[{ accessFlags := 2, nameIndex := 7, descriptorIndex := 8, attributes := #[] }, { accessFlags := 9, nameIndex := 201, descriptorIndex := 335, attributes := #[] }] 49 4 #[] #[{ accessFlags := 25, nameIndex := 354, descriptorIndex := 339, attributes := #[] }, { accessFlags := 25, nameIndex := 358, descriptorIndex := 339, attributes := #[] }, { accessFlags := 25, nameIndex := 361, descriptorIndex := 339, attributes := #[] }, { accessFlags := 26, nameIndex := 364, descriptorIndex := 339, attributes := #[] }, { accessFlags := 26, nameIndex := 365, descriptorIndex := 339, attributes := #[] }, { accessFlags := 26, nameIndex := 172, descriptorIndex := 173, attributes := #[] }, { accessFlags := 26, nameIndex := 176, descriptorIndex := 173, attributes := #[] }, { accessFlags := 8, nameIndex := 344, descriptorIndex := 339, attributes := #[] }, { accessFlags := 8, nameIndex := 338, descriptorIndex := 339, attributes := #[] }, { accessFlags := 4120, nameIndex := 245, descriptorIndex := 246, attributes := #[] }])
  fields := #[{ name := "E", type := .double, accessFlags := 25, slot := 0, constantValue := 0 }, { name := "PI", type := .double, accessFlags := 25, slot := 1, constantValue := 0 }, { name := "TAU", type := .double, accessFlags := 25, slot := 2, constantValue := 0 }, { name := "DEGREES_TO_RADIANS", type := .double, accessFlags := 26, slot := 3, constantValue := 0 }, { name := "RADIANS_TO_DEGREES", type := .double, accessFlags := 26, slot := 4, constantValue := 0 }, { name := "negativeZeroFloatBits", type := .long, accessFlags := 26, slot := 5, constantValue := 0 }, { name := "negativeZeroDoubleBits", type := .long, accessFlags := 26, slot := 6, constantValue := 0 }, { name := "twoToTheDoubleScaleUp", type := .double, accessFlags := 8, slot := 7, constantValue := 0 }, { name := "twoToTheDoubleScaleDown", type := .double, accessFlags := 8, slot := 8, constantValue := 0 }, { name := "$assertionsDisabled", type := .boolean, accessFlags := 4120, slot := 9, constantValue := 0 }]
  methods := #[k25m0, k25m1]
  instanceTypes := #[]
  staticTypes := #[.double, .double, .double, .double, .double, .long, .long, .double, .double, .boolean]
  resolved := Array.replicate 460 none
  statics := none }

def pool26 : Array CpInfo := pool [(2, .class_ 4), (1, u "java/lang/Object"), (0, u "<init>"), (0, u "()V"), (1, .class_ 10), (1, u "java/lang/System"), (0, u "allowSecurityManager"), (0, u "I"), (16, u "cons"), (0, u "Ljava/io/Console;"), (77, .class_ 110), (1, u "java/lang/System$CallersHolder"), (43, u "initialErrStream"), (0, u "Ljava/io/PrintStream;"), (19, u "security"), (0, u "Ljava/lang/SecurityManager;"), (31, .class_ 209), (0, u "java/lang/System$1"), (7, u "props"), (0, u "Ljava/util/Properties;"), (2, u "lineSeparator"), (0, u "Ljava/lang/String;"), (96, .class_ 321), (1, u "java/lang/System$LoggerFinder"), (5, .class_ 328), (0, u "java/lang/System$Logger"), (67, u "err"), (2, u "out"), (91, u "notSupportedJnuEncoding"), (15, u "in"), (17, u "initialIn"), (0, u "Ljava/io/InputStream;"), (35, u "bootLayer"), (0, u "Ljava/lang/ModuleLayer;"), (99, .class_ 664), (0, u "java/lang/System$2"), (9, u "NEVER"), (2, u "MAYBE"), (49, u "arraycopy"), (0, u "(Ljava/lang/Object;ILjava/lang/Object;II)V"), (72, .class_ 802), (0, u "java/lang/System$Logger$Level")] 31

def k26m0 : Method := { name := "<init>", desc := "()V", sig := { parameters := [], returnType := none }, accessFlags := 2, code := none }
def k26m1 : Method := { name := "arraycopy", desc := "(Ljava/lang/Object;ILjava/lang/Object;II)V", sig := { parameters := [(.object "java/lang/Object"), .int, (.object "java/lang/Object"), .int, .int], returnType := none }, accessFlags := 265, code := none }
/-- java/lang/System -/
def k26 : Class := { plain "java/lang/System" (some 0) with
  accessFlags := 49
  interfaces := #[]
  cf := some (fileOf pool26 8 #[.nestMembers #[319, 327, 801, 108, 663, 208]] #[{ accessFlags := 2, nameIndex := 5, descriptorIndex := 6, attributes := #[] }, { accessFlags := 265, nameIndex := 727, descriptorIndex := 728, attributes := #[] }] 49 2 #[] #[{ accessFlags := 25, nameIndex := 507, descriptorIndex := 526, attributes := #[] }, { accessFlags := 25, nameIndex := 399, descriptorIndex := 155, attributes := #[] }, { accessFlags := 25, nameIndex := 396, descriptorIndex := 155, attributes := #[] }, { accessFlags := 10, nameIndex := 525, descriptorIndex := 526, attributes := #[] }, { accessFlags := 26, nameIndex := 674, descriptorIndex := 12, attributes := #[] }, { accessFlags := 26, nameIndex := 677, descriptorIndex := 12, attributes := #[] }, { accessFlags := 10, nameIndex := 11, descriptorIndex := 12, attributes := #[] }, { accessFlags := 74, nameIndex := 175, descriptorIndex := 176, attributes := #[] }, { accessFlags := 10, nameIndex := 491, descriptorIndex := 222, attributes := #[] }, { accessFlags := 74, nameIndex := 29, descriptorIndex := 30, attributes := #[] }, { accessFlags := 74, nameIndex := 154, descriptorIndex := 155, attributes := #[] }, { accessFlags := 10, nameIndex := 217, descriptorIndex := 218, attributes := #[] }, { accessFlags := 10, nameIndex := 221, descriptorIndex := 222, attributes := #[] }, { accessFlags := 8, nameIndex := 562, descriptorIndex := 563, attributes := #[] }])
  fields := #[{ name := "in", type := (.object "java/io/InputStream"), accessFlags := 25, slot := 0, constantValue := 0 }, { name := "out", type := (.object "java/io/PrintStream"), accessFlags := 25, slot := 1, constantValue := 0 }, { name := "err", type := (.object "java/io/PrintStream"), accessFlags := 25, slot := 2, constantValue := 0 }, { name := "initialIn", type := (.object "java/io/InputStream"), accessFlags := 10, slot := 3, constantValue := 0 }, { name := "NEVER", type := .int, accessFlags := 26, slot := 4, constantValue := 0 }, { name := "MAYBE", type := .int, accessFlags := 26, slot := 5, constantValue := 0 }, { name := "allowSecurityManager", type := .int, accessFlags := 10, slot := 6, constantValue := 0 }, { name := "security", type := (.object "java/lang/SecurityManager"), accessFlags := 74, slot := 7, constantValue := 0 }, { name := "notSupportedJnuEncoding", type := (.object "java/lang/String"), accessFlags := 10, slot := 8, constantValue := 0 }, { name := "cons", type := (.object "java/io/Console"), accessFlags := 74, slot := 9, constantValue := 0 }, { name := "initialErrStream", type := (.object "java/io/PrintStream"), accessFlags := 74, slot := 10, constantValue := 0 }, { name := "props", type := (.object "java/util/Properties"), accessFlags := 10, slot := 11, constantValue := 0 }, { name := "lineSeparator", type := (.object "java/lang/String"), accessFlags := 10, slot := 12, constantValue := 0 }, { name := "bootLayer", type := (.object "java/lang/ModuleLayer"), accessFlags := 8, slot := 13, constantValue := 0 }]
  methods := #[k26m0, k26m1]
  instanceTypes := #[]
  staticTypes := #[(.object "java/io/InputStream"), (.object "java/io/PrintStream"), (.object "java/io/PrintStream"), (.object "java/io/InputStream"), .int, .int, .int, (.object "java/lang/SecurityManager"), (.object "java/lang/String"), (.object "java/io/Console"), (.object "java/io/PrintStream"), (.object "java/util/Properties"), (.object "java/lang/String"), (.object "java/lang/ModuleLayer")]
  resolved := Array.replicate 834 none
  statics := none }

def pool27 : Array CpInfo := pool [(1, .class_ 2), (0, u "java/lang/String"), (1, .class_ 6), (1, u "java/lang/Object"), (0, u "<init>"), (0, u "()V"), (0, .methodref 1 10), (0, .nameAndType 11 12), (0, u "checkIndex"), (0, u "(II)V"), (1, .class_ 16), (1, u "java/lang/StringLatin1"), (36, u "([BI)C"), (67, u "$assertionsDisabled"), (0, u "Z"), (98, .class_ 223), (1, u "java/lang/StringLatin1$LinesSpliterator"), (28, u "charAt"), (137, .class_ 391), (0, u "java/lang/StringLatin1$CharsSpliterator")] 3

def k27m0 : Method := { name := "<init>", desc := "()V", sig := { parameters := [], returnType := none }, accessFlags := 0, code := none }
def k27c1 : Code := { maxStack := 2, maxLocals := 2, code := jdk_43_method_2_code, exceptionTable := #[], attributes := #[] }
def k27m1 : Method := { name := "charAt", desc := "([BI)C", sig := { parameters := [(.array .byte), .int], returnType := some .char }, accessFlags := 9, code := some k27c1 }
/-- java/lang/StringLatin1 -/
def k27 : Class := { plain "java/lang/StringLatin1" (some 0) with
  accessFlags := 48
  interfaces := #[]
  cf := some (fileOf pool27 14 #[.nestMembers #[390, 221]] #[{ accessFlags := 0, nameIndex := 7, descriptorIndex := 8, attributes := #[] }, { accessFlags := 9, nameIndex := 252, descriptorIndex := 53, attributes := #[] }] 48 4 #[] #[{ accessFlags := 4120, nameIndex := 121, descriptorIndex := 122, attributes := #[] }])
  fields := #[{ name := "$assertionsDisabled", type := .boolean, accessFlags := 4120, slot := 0, constantValue := 0 }]
  methods := #[k27m0, k27m1]
  instanceTypes := #[]
  staticTypes := #[.boolean]
  resolved := Array.replicate 395 none
  statics := none }

def pool28 : Array CpInfo := pool [(9, u "<init>"), (6, .class_ 18), (1, u "java/lang/Object"), (0, u "()V"), (1, .class_ 23), (1, u "jdk/internal/util/ArraysSupport"), (0, u "LOG2_ARRAY_LONG_INDEX_SCALE"), (0, u "I"), (2, u "U"), (0, u "Ljdk/internal/misc/Unsafe;"), (8, u "BIG_ENDIAN"), (0, u "Z"), (8, u "LOG2_BYTE_BIT_SIZE"), (4, u "LOG2_ARRAY_INT_INDEX_SCALE"), (54, u "JLA"), (0, u "Ljdk/internal/access/JavaLangAccess;"), (11, u "LOG2_ARRAY_BOOLEAN_INDEX_SCALE"), (9, u "LOG2_ARRAY_BYTE_INDEX_SCALE"), (5, u "LOG2_ARRAY_CHAR_INDEX_SCALE"), (5, u "LOG2_ARRAY_SHORT_INDEX_SCALE"), (18, u "LOG2_ARRAY_FLOAT_INDEX_SCALE"), (24, u "LOG2_ARRAY_DOUBLE_INDEX_SCALE"), (89, u "T_BOOLEAN"), (2, u "T_CHAR"), (1, u "T_FLOAT"), (1, u "T_DOUBLE"), (1, u "T_BYTE"), (1, u "T_SHORT"), (1, u "T_INT"), (1, u "T_LONG"), (1, u "SOFT_MAX_ARRAY_LENGTH")] 83

def k28m0 : Method := { name := "<init>", desc := "()V", sig := { parameters := [], returnType := none }, accessFlags := 2, code := none }
/-- jdk/internal/util/ArraysSupport -/
def k28 : Class := { plain "jdk/internal/util/ArraysSupport" (some 0) with
  accessFlags := 33
  interfaces := #[]
  cf := some (fileOf pool28 21 #[] #[{ accessFlags := 2, nameIndex := 9, descriptorIndex := 19, attributes := #[] }] 33 16 #[] #[{ accessFlags := 24, nameIndex := 28, descriptorIndex := 29, attributes := #[] }, { accessFlags := 26, nameIndex := 38, descriptorIndex := 39, attributes := #[] }, { accessFlags := 25, nameIndex := 121, descriptorIndex := 25, attributes := #[] }, { accessFlags := 25, nameIndex := 131, descriptorIndex := 25, attributes := #[] }, { accessFlags := 25, nameIndex := 137, descriptorIndex := 25, attributes := #[] }, { accessFlags := 25, nameIndex := 143, descriptorIndex := 25, attributes := #[] }, { accessFlags := 25, nameIndex := 53, descriptorIndex := 25, attributes := #[] }, { accessFlags := 25, nameIndex := 24, descriptorIndex := 25, attributes := #[] }, { accessFlags := 25, nameIndex := 162, descriptorIndex := 25, attributes := #[] }, { accessFlags := 25, nameIndex := 187, descriptorIndex := 25, attributes := #[] }, { accessFlags := 26, nameIndex := 48, descriptorIndex := 25, attributes := #[] }, { accessFlags := 25, nameIndex := 277, descriptorIndex := 25, attributes := #[] }, { accessFlags := 25, nameIndex := 280, descriptorIndex := 25, attributes := #[] }, { accessFlags := 25, nameIndex := 282, descriptorIndex := 25, attributes := #[] }, { accessFlags := 25, nameIndex := 284, descriptorIndex := 25, attributes := #[] }, { accessFlags := 25, nameIndex := 286, descriptorIndex := 25, attributes := #[] }, { accessFlags := 25, nameIndex := 288, descriptorIndex := 25, attributes := #[] }, { accessFlags := 25, nameIndex := 290, descriptorIndex := 25, attributes := #[] }, { accessFlags := 25, nameIndex := 292, descriptorIndex := 25, attributes := #[] }, { accessFlags := 26, nameIndex := 108, descriptorIndex := 109, attributes := #[] }, { accessFlags := 25, nameIndex := 294, descriptorIndex := 25, attributes := #[] }])
  fields := #[{ name := "U", type := (.object "jdk/internal/misc/Unsafe"), accessFlags := 24, slot := 0, constantValue := 0 }, { name := "BIG_ENDIAN", type := .boolean, accessFlags := 26, slot := 1, constantValue := 0 }, { name := "LOG2_ARRAY_BOOLEAN_INDEX_SCALE", type := .int, accessFlags := 25, slot := 2, constantValue := 0 }, { name := "LOG2_ARRAY_BYTE_INDEX_SCALE", type := .int, accessFlags := 25, slot := 3, constantValue := 0 }, { name := "LOG2_ARRAY_CHAR_INDEX_SCALE", type := .int, accessFlags := 25, slot := 4, constantValue := 0 }, { name := "LOG2_ARRAY_SHORT_INDEX_SCALE", type := .int, accessFlags := 25, slot := 5, constantValue := 0 }, { name := "LOG2_ARRAY_INT_INDEX_SCALE", type := .int, accessFlags := 25, slot := 6, constantValue := 0 }, { name := "LOG2_ARRAY_LONG_INDEX_SCALE", type := .int, accessFlags := 25, slot := 7, constantValue := 0 }, { name := "LOG2_ARRAY_FLOAT_INDEX_SCALE", type := .int, accessFlags := 25, slot := 8, constantValue := 0 }, { name := "LOG2_ARRAY_DOUBLE_INDEX_SCALE", type := .int, accessFlags := 25, slot := 9, constantValue := 0 }, { name := "LOG2_BYTE_BIT_SIZE", type := .int, accessFlags := 26, slot := 10, constantValue := 0 }, { name := "T_BOOLEAN", type := .int, accessFlags := 25, slot := 11, constantValue := 0 }, { name := "T_CHAR", type := .int, accessFlags := 25, slot := 12, constantValue := 0 }, { name := "T_FLOAT", type := .int, accessFlags := 25, slot := 13, constantValue := 0 }, { name := "T_DOUBLE", type := .int, accessFlags := 25, slot := 14, constantValue := 0 }, { name := "T_BYTE", type := .int, accessFlags := 25, slot := 15, constantValue := 0 }, { name := "T_SHORT", type := .int, accessFlags := 25, slot := 16, constantValue := 0 }, { name := "T_INT", type := .int, accessFlags := 25, slot := 17, constantValue := 0 }, { name := "T_LONG", type := .int, accessFlags := 25, slot := 18, constantValue := 0 }, { name := "JLA", type := (.object "jdk/internal/access/JavaLangAccess"), accessFlags := 26, slot := 19, constantValue := 0 }, { name := "SOFT_MAX_ARRAY_LENGTH", type := .int, accessFlags := 25, slot := 20, constantValue := 0 }]
  methods := #[k28m0]
  instanceTypes := #[]
  staticTypes := #[(.object "jdk/internal/misc/Unsafe"), .boolean, .int, .int, .int, .int, .int, .int, .int, .int, .int, .int, .int, .int, .int, .int, .int, .int, .int, (.object "jdk/internal/access/JavaLangAccess"), .int]
  resolved := Array.replicate 378 none
  statics := none }

def pool29 : Array CpInfo := pool [(1, u "java/lang/Cloneable"), (0, .class_ 1), (0, u "java/lang/Object"), (0, .class_ 3)] 3

/-- java/lang/Cloneable -/
def k29 : Class := { plain "java/lang/Cloneable" (some 0) with
  accessFlags := 1537
  interfaces := #[]
  cf := some (fileOf pool29 2 #[] #[] 1537 4 #[] #[])
  fields := #[]
  methods := #[]
  instanceTypes := #[]
  staticTypes := #[]
  resolved := Array.replicate 8 none
  statics := none }

/-- the primitive byte -/
def k30 : Class := { plain "byte" none with kind := .primitive 'B', accessFlags := 0x411 }
/-- [B -/
def k31 : Class := { plain "[B" (some 0) with kind := .array 30 .byte, interfaces := #[29, 8], accessFlags := 1041 }

/-- the primitive char -/
def k32 : Class := { plain "char" none with kind := .primitive 'C', accessFlags := 0x411 }
/-- [C -/
def k33 : Class := { plain "[C" (some 0) with kind := .array 32 .char, interfaces := #[29, 8], accessFlags := 1041 }

/-- the primitive int -/
def k34 : Class := { plain "int" none with kind := .primitive 'I', accessFlags := 0x411 }
/-- [I -/
def k35 : Class := { plain "[I" (some 0) with kind := .array 34 .int, interfaces := #[29, 8], accessFlags := 1041 }

def heap : Heap := #[{ cls := 13, slots := #[.long 0, .int 1, .null, .int 0, .null, .int 0, .int 0], vm := .statics 13 },
  { cls := 14, slots := #[.ref 6, .null, .null, .null, .null, .null], vm := .statics 14 },
  { cls := 18, slots := #[.ref 6, .null], vm := .statics 18 },
  { cls := 19, slots := #[.null, .null, .null], vm := .statics 19 },
  { cls := 21, slots := #[.ref 7, .null], vm := .statics 21 },
  { cls := 22, slots := #[.ref 8], vm := .statics 22 },
  { cls := 18, slots := #[.null, .null, .null], vm := .none },
  { cls := 21, slots := #[.null, .null, .null], vm := .none },
  { cls := 22, slots := #[.null, .null, .null], vm := .none }]
def classes : Array Class := #[k0, k1, k2, k3, k4, k5, k6, k7, k8, k9, k10, k11, k12, k13, k14, k15, k16, k17, k18, k19, k20, k21, k22, k23, k24, k25, k26, k27, k28, k29, k30, k31, k32, k33, k34, k35]
def interned : List (Array UInt16 × Addr) := []
def slotsUsed : Nat := 30
def theMethod : MethodId := ⟨1, 1⟩
def args0 : Array Value := #[.long 3, .int 5, .int 66, .int 2]
def aboutOver (below : List Frame) : State where
  vm := { classes := classes, interned := interned.toArray }
  heap := heap
  slotsUsed := slotsUsed
  threads := #[{ frames := .invoking theMethod args0 :: below }]
def below0 : List Frame := [.native { method := ⟨0, 0⟩, args := #[] }]
def about1 : State := aboutOver below0
def p0 : Program := .bare "" "" ""
def e0 : Env := launch0.env 0 0 0
theorem w_frames : about1.frames = Frame.invoking theMethod args0 :: below0 := rfl
set_option maxRecDepth 65536 in
theorem w_args : argsFit about1.vm theMethod args0 = true := by decide +kernel
set_option maxRecDepth 65536 in
theorem w_heap : heapFits about1 = true := by decide +kernel
set_option maxRecDepth 65536 in
theorem w_runnable : about1.curStatus? = some .runnable := by decide +kernel
set_option maxRecDepth 65536 in
theorem w_alone : about1.alone = true := by decide +kernel
set_option maxRecDepth 65536 in
theorem w_named : about1.methodNamed? x = some theMethod := by decide +kernel
set_option maxRecDepth 65536 in
theorem w_hears : about1.hears theMethod below0 = true := by decide +kernel
set_option maxRecDepth 65536 in
theorem w_ripe : about1.ripe theMethod args0 below0 = true := by decide +kernel
theorem w_running : about1.status = .running := rfl
set_option maxRecDepth 65536 in
theorem w_room : about1.hasRoom e0.platform room_1 = true :=
  launch0.hasRoom_least _ room_1 (by decide +kernel) (by decide +kernel) (by decide +kernel) (by decide +kernel) (by decide +kernel) (by decide +kernel)
theorem allAtoms_all (ts : List Jvm.Cond) (a : Array Jvm.Value) (st : Jvm.State) : (allAtoms ts).before a st = ts.all (fun c => c.before a st) := by
  induction ts with
  | nil => rfl
  | cons c t ih =>
    show (Jvm.Cond.and c (allAtoms t)).before a st = _
    rw [Jvm.Cond.before_and, ih, List.all_cons]
def words1 : List Jvm.Cond := Jvm.Cond.code x code maxLocals ret :: tables_1
/-- a 'code' word, met by the world's own term for the bytes: nothing is compared byte by byte -/
theorem code_word {y : MethodName} {bytes : ByteArray} {mx : Nat} {rt : Option FieldType} {a : Array Value} {s : State} {m : MethodId} {meth : Method} {c : Code} (h1 : s.methodNamed? y = some m) (h2 : s.vm.method? m = some meth) (h3 : meth.code = some c) (h4 : c.code = bytes)
    (h5 : (c.maxLocals == mx && c.exceptionTable.isEmpty && decide (c.maxStack ≤ mostOperands) && decide (meth.sig.returnType = rt) && !meth.locks && decide (parseMethodDescriptor y.desc = some meth.sig)) = true) : (Jvm.Cond.code y bytes mx rt).before a s = true := by
  simp only [Bool.and_eq_true, beq_iff_eq, Bool.not_eq_true', decide_eq_true_eq] at h5
  obtain ⟨⟨⟨⟨⟨g1, g2⟩, g3⟩, g4⟩, g5⟩, g6⟩ := h5
  simp [Cond.before, Cond.holds, Cond.value, h1, h2, h3, h4, g1, g2, g3, g4, g5, g6]
theorem code_wordW {y : MethodName} {bytes : ByteArray} {mx : Nat} {rt : Option FieldType} {hs : List (Nat × Nat × Nat × Nat)} {a : Array Value} {s : State} {m : MethodId} {meth : Method} {c : Code} (h1 : s.methodNamed? y = some m) (h2 : s.vm.method? m = some meth) (h3 : meth.code = some c) (h4 : c.code = bytes)
    (h5 : (c.maxLocals == mx && decide (c.exceptionTable.toList.map (fun h => (h.startPc, h.endPc, h.handlerPc, h.catchType)) = hs) && decide (c.maxStack ≤ mostOperands) && decide (meth.sig.returnType = rt) && !meth.locks && decide (parseMethodDescriptor y.desc = some meth.sig)) = true) : (Jvm.Cond.codeWith y bytes mx rt hs).before a s = true := by
  simp only [Bool.and_eq_true, beq_iff_eq, Bool.not_eq_true', decide_eq_true_eq] at h5
  obtain ⟨⟨⟨⟨⟨g1, g2⟩, g3⟩, g4⟩, g5⟩, g6⟩ := h5
  simp [Cond.before, Cond.holds, Cond.value, h1, h2, h3, h4, g1, g2, g3, g4, g5, g6]
def isCode : Jvm.Cond → Bool
  | .code _ _ _ _ => true
  | .codeWith _ _ _ _ _ => true
  | _ => false
theorem all_split {L : List Jvm.Cond} {P : Jvm.Cond → Bool} (h1 : L.all (fun c => isCode c || P c) = true) (h2 : ∀ c ∈ L.filter isCode, P c = true) : L.all P = true := by
  refine List.all_eq_true.mpr fun c hc => ?_
  have h := List.all_eq_true.mp h1 c hc
  rcases Bool.eq_false_or_eq_true (isCode c) with hi | hi
  · exact h2 c (List.mem_filter.mpr ⟨hc, hi⟩)
  · simpa [hi] using h
set_option maxRecDepth 65536 in
theorem w_c0 : (Jvm.Cond.code x code maxLocals ret).before args0 about1 = true := code_word (m := ⟨1, 1⟩) (meth := k1m1) (c := k1c1) (by decide +kernel) rfl rfl rfl (by decide +kernel)
set_option maxRecDepth 65536 in
theorem w_c1 : (Jvm.Cond.code ({ cls := "com/example/opuscule/opuscule/json/LineBuffer", name := "<init>", desc := "()V" } : Jvm.MethodName) prog_31_method_1_code (1 : Nat) (Option.none : Option Jvm.ClassFile.FieldType)).before args0 about1 = true := code_word (m := ⟨7, 0⟩) (meth := k7m0) (c := k7c0) (by decide +kernel) rfl rfl rfl (by decide +kernel)
set_option maxRecDepth 65536 in
theorem w_c2 : (Jvm.Cond.code ({ cls := "java/io/Writer", name := "<init>", desc := "()V" } : Jvm.MethodName) jdk_2052_method_2_code (1 : Nat) (Option.none : Option Jvm.ClassFile.FieldType)).before args0 about1 = true := code_word (m := ⟨6, 0⟩) (meth := k6m0) (c := k6c0) (by decide +kernel) rfl rfl rfl (by decide +kernel)
set_option maxRecDepth 65536 in
theorem w_c3 : (Jvm.Cond.code ({ cls := "java/lang/Object", name := "<init>", desc := "()V" } : Jvm.MethodName) object_method_1_code (1 : Nat) (Option.none : Option Jvm.ClassFile.FieldType)).before args0 about1 = true := code_word (m := ⟨0, 0⟩) (meth := k0m0) (c := k0c0) (by decide +kernel) rfl rfl rfl (by decide +kernel)
set_option maxRecDepth 65536 in
theorem w_c4 : (Jvm.Cond.code ({ cls := "com/example/opuscule/opuscule/json/LineBuffer", name := "start", desc := "(J)V" } : Jvm.MethodName) prog_31_method_2_code (3 : Nat) (Option.none : Option Jvm.ClassFile.FieldType)).before args0 about1 = true := code_word (m := ⟨7, 1⟩) (meth := k7m1) (c := k7c1) (by decide +kernel) rfl rfl rfl (by decide +kernel)
set_option maxRecDepth 65536 in
theorem w_c5 : (Jvm.Cond.code ({ cls := "com/example/opuscule/opuscule/json/LineBuffer", name := "write", desc := "([CII)V" } : Jvm.MethodName) prog_31_method_3_code (8 : Nat) (Option.none : Option Jvm.ClassFile.FieldType)).before args0 about1 = true := code_word (m := ⟨7, 2⟩) (meth := k7m2) (c := k7c2) (by decide +kernel) rfl rfl rfl (by decide +kernel)
set_option maxRecDepth 65536 in
theorem w_c6 : (Jvm.Cond.code ({ cls := "com/example/opuscule/opuscule/json/LineBuffer", name := "toString", desc := "()Ljava/lang/String;" } : Jvm.MethodName) prog_31_method_6_code (1 : Nat) (Option.some (Jvm.ClassFile.FieldType.object "java/lang/String"))).before args0 about1 = true := code_word (m := ⟨7, 3⟩) (meth := k7m3) (c := k7c3) (by decide +kernel) rfl rfl rfl (by decide +kernel)
set_option maxRecDepth 65536 in
theorem w_c7 : (Jvm.Cond.code ({ cls := "java/lang/String", name := "<init>", desc := "([BIILjava/nio/charset/Charset;)V" } : Jvm.MethodName) jdk_42_method_10_code (5 : Nat) (Option.none : Option Jvm.ClassFile.FieldType)).before args0 about1 = true := code_word (m := ⟨13, 1⟩) (meth := k13m1) (c := k13c1) (by decide +kernel) rfl rfl rfl (by decide +kernel)
set_option maxRecDepth 65536 in
theorem w_c8 : (Jvm.Cond.code ({ cls := "java/util/Objects", name := "requireNonNull", desc := "(Ljava/lang/Object;)Ljava/lang/Object;" } : Jvm.MethodName) jdk_31_method_10_code (1 : Nat) (Option.some (Jvm.ClassFile.FieldType.object "java/lang/Object"))).before args0 about1 = true := code_word (m := ⟨15, 1⟩) (meth := k15m1) (c := k15c1) (by decide +kernel) rfl rfl rfl (by decide +kernel)
set_option maxRecDepth 65536 in
theorem w_c9 : (Jvm.Cond.code ({ cls := "java/lang/String", name := "checkBoundsOffCount", desc := "(III)I" } : Jvm.MethodName) jdk_42_method_157_code (3 : Nat) (Option.some Jvm.ClassFile.FieldType.int)).before args0 about1 = true := code_word (m := ⟨13, 9⟩) (meth := k13m9) (c := k13c9) (by decide +kernel) rfl rfl rfl (by decide +kernel)
set_option maxRecDepth 65536 in
theorem w_c10 : (Jvm.Cond.code ({ cls := "jdk/internal/util/Preconditions", name := "checkFromIndexSize", desc := "(IIILjava/util/function/BiFunction;)I" } : Jvm.MethodName) jdk_41_method_13_code (4 : Nat) (Option.some Jvm.ClassFile.FieldType.int)).before args0 about1 = true := code_word (m := ⟨19, 2⟩) (meth := k19m2) (c := k19c2) (by decide +kernel) rfl rfl rfl (by decide +kernel)
set_option maxRecDepth 65536 in
theorem w_c11 : (Jvm.Cond.code ({ cls := "java/lang/String", name := "isEmpty", desc := "()Z" } : Jvm.MethodName) jdk_42_method_55_code (1 : Nat) (Option.some Jvm.ClassFile.FieldType.boolean)).before args0 about1 = true := code_word (m := ⟨13, 4⟩) (meth := k13m4) (c := k13c4) (by decide +kernel) rfl rfl rfl (by decide +kernel)
set_option maxRecDepth 65536 in
theorem w_c12 : (Jvm.Cond.code ({ cls := "java/lang/String", name := "length", desc := "()I" } : Jvm.MethodName) jdk_42_method_54_code (1 : Nat) (Option.some Jvm.ClassFile.FieldType.int)).before args0 about1 = true := code_word (m := ⟨13, 3⟩) (meth := k13m3) (c := k13c3) (by decide +kernel) rfl rfl rfl (by decide +kernel)
set_option maxRecDepth 65536 in
theorem w_c13 : (Jvm.Cond.code ({ cls := "java/lang/String", name := "coder", desc := "()B" } : Jvm.MethodName) jdk_42_method_152_code (1 : Nat) (Option.some Jvm.ClassFile.FieldType.byte)).before args0 about1 = true := code_word (m := ⟨13, 6⟩) (meth := k13m6) (c := k13c6) (by decide +kernel) rfl rfl rfl (by decide +kernel)
set_option maxRecDepth 65536 in
theorem w_c14 : (Jvm.Cond.code ({ cls := "com/example/opuscule/opuscule/json/LineBufferStartPinLaw", name := "at", desc := "(Ljava/lang/String;[CII)Z" } : Jvm.MethodName) method_3_code (4 : Nat) (Option.some Jvm.ClassFile.FieldType.boolean)).before args0 about1 = true := code_word (m := ⟨1, 2⟩) (meth := k1m2) (c := k1c2) (by decide +kernel) rfl rfl rfl (by decide +kernel)
set_option maxRecDepth 65536 in
theorem w_c15 : (Jvm.Cond.code ({ cls := "java/lang/StringCoding", name := "hasNegatives", desc := "([BII)Z" } : Jvm.MethodName) jdk_123_method_2_code (3 : Nat) (Option.some Jvm.ClassFile.FieldType.boolean)).before args0 about1 = true := code_word (m := ⟨23, 1⟩) (meth := k23m1) (c := k23c1) (by decide +kernel) rfl rfl rfl (by decide +kernel)
set_option maxRecDepth 65536 in
theorem w_c16 : (Jvm.Cond.code ({ cls := "java/lang/StringCoding", name := "countPositives", desc := "([BII)I" } : Jvm.MethodName) jdk_123_method_3_code (5 : Nat) (Option.some Jvm.ClassFile.FieldType.int)).before args0 about1 = true := code_word (m := ⟨23, 2⟩) (meth := k23m2) (c := k23c2) (by decide +kernel) rfl rfl rfl (by decide +kernel)
set_option maxRecDepth 65536 in
theorem w_c17 : (Jvm.Cond.code ({ cls := "java/util/Arrays", name := "copyOfRange", desc := "([BII)[B" } : Jvm.MethodName) jdk_65_method_132_code (3 : Nat) (Option.some (Jvm.ClassFile.FieldType.array Jvm.ClassFile.FieldType.byte))).before args0 about1 = true := code_word (m := ⟨24, 2⟩) (meth := k24m2) (c := k24c2) (by decide +kernel) rfl rfl rfl (by decide +kernel)
set_option maxRecDepth 65536 in
theorem w_c18 : (Jvm.Cond.code ({ cls := "java/util/Arrays", name := "copyOfRangeByte", desc := "([BII)[B" } : Jvm.MethodName) jdk_65_method_133_code (5 : Nat) (Option.some (Jvm.ClassFile.FieldType.array Jvm.ClassFile.FieldType.byte))).before args0 about1 = true := code_word (m := ⟨24, 3⟩) (meth := k24m3) (c := k24c3) (by decide +kernel) rfl rfl rfl (by decide +kernel)
set_option maxRecDepth 65536 in
theorem w_c19 : (Jvm.Cond.code ({ cls := "java/util/Arrays", name := "checkLength", desc := "(II)V" } : Jvm.MethodName) jdk_65_method_131_code (2 : Nat) (Option.none : Option Jvm.ClassFile.FieldType)).before args0 about1 = true := code_word (m := ⟨24, 1⟩) (meth := k24m1) (c := k24c1) (by decide +kernel) rfl rfl rfl (by decide +kernel)
set_option maxRecDepth 65536 in
theorem w_c20 : (Jvm.Cond.code ({ cls := "java/lang/Math", name := "min", desc := "(II)I" } : Jvm.MethodName) jdk_29_method_69_code (2 : Nat) (Option.some Jvm.ClassFile.FieldType.int)).before args0 about1 = true := code_word (m := ⟨25, 1⟩) (meth := k25m1) (c := k25c1) (by decide +kernel) rfl rfl rfl (by decide +kernel)
set_option maxRecDepth 65536 in
theorem w_c21 : (Jvm.Cond.code ({ cls := "java/lang/String", name := "charAt", desc := "(I)C" } : Jvm.MethodName) jdk_42_method_56_code (2 : Nat) (Option.some Jvm.ClassFile.FieldType.char)).before args0 about1 = true := code_word (m := ⟨13, 5⟩) (meth := k13m5) (c := k13c5) (by decide +kernel) rfl rfl rfl (by decide +kernel)
set_option maxRecDepth 65536 in
theorem w_c22 : (Jvm.Cond.code ({ cls := "java/lang/String", name := "isLatin1", desc := "()Z" } : Jvm.MethodName) jdk_42_method_154_code (1 : Nat) (Option.some Jvm.ClassFile.FieldType.boolean)).before args0 about1 = true := code_word (m := ⟨13, 7⟩) (meth := k13m7) (c := k13c7) (by decide +kernel) rfl rfl rfl (by decide +kernel)
set_option maxRecDepth 65536 in
theorem w_c23 : (Jvm.Cond.code ({ cls := "java/lang/StringLatin1", name := "charAt", desc := "([BI)C" } : Jvm.MethodName) jdk_43_method_2_code (2 : Nat) (Option.some Jvm.ClassFile.FieldType.char)).before args0 about1 = true := code_word (m := ⟨27, 1⟩) (meth := k27m1) (c := k27c1) (by decide +kernel) rfl rfl rfl (by decide +kernel)
set_option maxRecDepth 65536 in
theorem w_c24 : (Jvm.Cond.code ({ cls := "java/lang/String", name := "checkIndex", desc := "(II)V" } : Jvm.MethodName) jdk_42_method_155_code (2 : Nat) (Option.none : Option Jvm.ClassFile.FieldType)).before args0 about1 = true := code_word (m := ⟨13, 8⟩) (meth := k13m8) (c := k13c8) (by decide +kernel) rfl rfl rfl (by decide +kernel)
set_option maxRecDepth 65536 in
theorem w_c25 : (Jvm.Cond.code ({ cls := "jdk/internal/util/Preconditions", name := "checkIndex", desc := "(IILjava/util/function/BiFunction;)I" } : Jvm.MethodName) jdk_41_method_11_code (3 : Nat) (Option.some Jvm.ClassFile.FieldType.int)).before args0 about1 = true := code_word (m := ⟨19, 1⟩) (meth := k19m1) (c := k19c1) (by decide +kernel) rfl rfl rfl (by decide +kernel)
set_option maxRecDepth 65536 in
theorem w_cw66 : (Jvm.Cond.codeWith ({ cls := "java/lang/String", name := "<init>", desc := "(Ljava/nio/charset/Charset;[BII)V" } : Jvm.MethodName) jdk_42_method_11_code (11 : Nat) (Option.none : Option Jvm.ClassFile.FieldType) [((800 : Nat), (813 : Nat), (816 : Nat), (202 : Nat))]).before args0 about1 = true := code_wordW (m := ⟨13, 2⟩) (meth := k13m2) (c := k13c2) (by decide +kernel) rfl rfl rfl (by decide +kernel)
def codes1 : List Jvm.Cond := [Jvm.Cond.code x code maxLocals ret, Jvm.Cond.code ({ cls := "com/example/opuscule/opuscule/json/LineBuffer", name := "<init>", desc := "()V" } : Jvm.MethodName) prog_31_method_1_code (1 : Nat) (Option.none : Option Jvm.ClassFile.FieldType), Jvm.Cond.code ({ cls := "java/io/Writer", name := "<init>", desc := "()V" } : Jvm.MethodName) jdk_2052_method_2_code (1 : Nat) (Option.none : Option Jvm.ClassFile.FieldType), Jvm.Cond.code ({ cls := "java/lang/Object", name := "<init>", desc := "()V" } : Jvm.MethodName) object_method_1_code (1 : Nat) (Option.none : Option Jvm.ClassFile.FieldType), Jvm.Cond.code ({ cls := "com/example/opuscule/opuscule/json/LineBuffer", name := "start", desc := "(J)V" } : Jvm.MethodName) prog_31_method_2_code (3 : Nat) (Option.none : Option Jvm.ClassFile.FieldType), Jvm.Cond.code ({ cls := "com/example/opuscule/opuscule/json/LineBuffer", name := "write", desc := "([CII)V" } : Jvm.MethodName) prog_31_method_3_code (8 : Nat) (Option.none : Option Jvm.ClassFile.FieldType), Jvm.Cond.code ({ cls := "com/example/opuscule/opuscule/json/LineBuffer", name := "toString", desc := "()Ljava/lang/String;" } : Jvm.MethodName) prog_31_method_6_code (1 : Nat) (Option.some (Jvm.ClassFile.FieldType.object "java/lang/String")), Jvm.Cond.code ({ cls := "java/lang/String", name := "<init>", desc := "([BIILjava/nio/charset/Charset;)V" } : Jvm.MethodName) jdk_42_method_10_code (5 : Nat) (Option.none : Option Jvm.ClassFile.FieldType), Jvm.Cond.code ({ cls := "java/util/Objects", name := "requireNonNull", desc := "(Ljava/lang/Object;)Ljava/lang/Object;" } : Jvm.MethodName) jdk_31_method_10_code (1 : Nat) (Option.some (Jvm.ClassFile.FieldType.object "java/lang/Object")), Jvm.Cond.code ({ cls := "java/lang/String", name := "checkBoundsOffCount", desc := "(III)I" } : Jvm.MethodName) jdk_42_method_157_code (3 : Nat) (Option.some Jvm.ClassFile.FieldType.int), Jvm.Cond.code ({ cls := "jdk/internal/util/Preconditions", name := "checkFromIndexSize", desc := "(IIILjava/util/function/BiFunction;)I" } : Jvm.MethodName) jdk_41_method_13_code (4 : Nat) (Option.some Jvm.ClassFile.FieldType.int), Jvm.Cond.codeWith ({ cls := "java/lang/String", name := "<init>", desc := "(Ljava/nio/charset/Charset;[BII)V" } : Jvm.MethodName) jdk_42_method_11_code (11 : Nat) (Option.none : Option Jvm.ClassFile.FieldType) [((800 : Nat), (813 : Nat), (816 : Nat), (202 : Nat))], Jvm.Cond.code ({ cls := "java/lang/String", name := "isEmpty", desc := "()Z" } : Jvm.MethodName) jdk_42_method_55_code (1 : Nat) (Option.some Jvm.ClassFile.FieldType.boolean), Jvm.Cond.code ({ cls := "java/lang/String", name := "length", desc := "()I" } : Jvm.MethodName) jdk_42_method_54_code (1 : Nat) (Option.some Jvm.ClassFile.FieldType.int), Jvm.Cond.code ({ cls := "java/lang/String", name := "coder", desc := "()B" } : Jvm.MethodName) jdk_42_method_152_code (1 : Nat) (Option.some Jvm.ClassFile.FieldType.byte), Jvm.Cond.code ({ cls := "com/example/opuscule/opuscule/json/LineBufferStartPinLaw", name := "at", desc := "(Ljava/lang/String;[CII)Z" } : Jvm.MethodName) method_3_code (4 : Nat) (Option.some Jvm.ClassFile.FieldType.boolean), Jvm.Cond.code ({ cls := "java/lang/StringCoding", name := "hasNegatives", desc := "([BII)Z" } : Jvm.MethodName) jdk_123_method_2_code (3 : Nat) (Option.some Jvm.ClassFile.FieldType.boolean), Jvm.Cond.code ({ cls := "java/lang/StringCoding", name := "countPositives", desc := "([BII)I" } : Jvm.MethodName) jdk_123_method_3_code (5 : Nat) (Option.some Jvm.ClassFile.FieldType.int), Jvm.Cond.code ({ cls := "java/util/Arrays", name := "copyOfRange", desc := "([BII)[B" } : Jvm.MethodName) jdk_65_method_132_code (3 : Nat) (Option.some (Jvm.ClassFile.FieldType.array Jvm.ClassFile.FieldType.byte)), Jvm.Cond.code ({ cls := "java/util/Arrays", name := "copyOfRangeByte", desc := "([BII)[B" } : Jvm.MethodName) jdk_65_method_133_code (5 : Nat) (Option.some (Jvm.ClassFile.FieldType.array Jvm.ClassFile.FieldType.byte)), Jvm.Cond.code ({ cls := "java/util/Arrays", name := "checkLength", desc := "(II)V" } : Jvm.MethodName) jdk_65_method_131_code (2 : Nat) (Option.none : Option Jvm.ClassFile.FieldType), Jvm.Cond.code ({ cls := "java/lang/Math", name := "min", desc := "(II)I" } : Jvm.MethodName) jdk_29_method_69_code (2 : Nat) (Option.some Jvm.ClassFile.FieldType.int), Jvm.Cond.code ({ cls := "java/lang/String", name := "charAt", desc := "(I)C" } : Jvm.MethodName) jdk_42_method_56_code (2 : Nat) (Option.some Jvm.ClassFile.FieldType.char), Jvm.Cond.code ({ cls := "java/lang/String", name := "isLatin1", desc := "()Z" } : Jvm.MethodName) jdk_42_method_154_code (1 : Nat) (Option.some Jvm.ClassFile.FieldType.boolean), Jvm.Cond.code ({ cls := "java/lang/StringLatin1", name := "charAt", desc := "([BI)C" } : Jvm.MethodName) jdk_43_method_2_code (2 : Nat) (Option.some Jvm.ClassFile.FieldType.char), Jvm.Cond.code ({ cls := "java/lang/String", name := "checkIndex", desc := "(II)V" } : Jvm.MethodName) jdk_42_method_155_code (2 : Nat) (Option.none : Option Jvm.ClassFile.FieldType), Jvm.Cond.code ({ cls := "jdk/internal/util/Preconditions", name := "checkIndex", desc := "(IILjava/util/function/BiFunction;)I" } : Jvm.MethodName) jdk_41_method_11_code (3 : Nat) (Option.some Jvm.ClassFile.FieldType.int)]
set_option maxRecDepth 65536 in
theorem codes_eq : words1.filter isCode = codes1 := rfl
theorem w_codes : ∀ c ∈ words1.filter isCode, c.before args0 about1 = true := by
  rw [codes_eq]
  intro c hc
  simp only [codes1, List.mem_cons, List.not_mem_nil, or_false] at hc
  rcases hc with rfl | rfl | rfl | rfl | rfl | rfl | rfl | rfl | rfl | rfl | rfl | rfl | rfl | rfl | rfl | rfl | rfl | rfl | rfl | rfl | rfl | rfl | rfl | rfl | rfl | rfl | rfl
  · exact w_c0
  · exact w_c1
  · exact w_c2
  · exact w_c3
  · exact w_c4
  · exact w_c5
  · exact w_c6
  · exact w_c7
  · exact w_c8
  · exact w_c9
  · exact w_c10
  · exact w_cw66
  · exact w_c11
  · exact w_c12
  · exact w_c13
  · exact w_c14
  · exact w_c15
  · exact w_c16
  · exact w_c17
  · exact w_c18
  · exact w_c19
  · exact w_c20
  · exact w_c21
  · exact w_c22
  · exact w_c23
  · exact w_c24
  · exact w_c25
set_option maxRecDepth 65536 in
theorem w_t1 : (words1.take 24).all (fun c => isCode c || c.before args0 about1) = true := by decide +kernel
set_option maxRecDepth 65536 in
theorem w_t2 : ((words1.drop 24).take 24).all (fun c => isCode c || c.before args0 about1) = true := by decide +kernel
set_option maxRecDepth 65536 in
theorem w_t3 : (((words1.drop 24).drop 24).take 24).all (fun c => isCode c || c.before args0 about1) = true := by decide +kernel
set_option maxRecDepth 65536 in
theorem w_t4 : ((((words1.drop 24).drop 24).drop 24).take 24).all (fun c => isCode c || c.before args0 about1) = true := by decide +kernel
set_option maxRecDepth 65536 in
theorem w_t5 : (((((words1.drop 24).drop 24).drop 24).drop 24).take 24).all (fun c => isCode c || c.before args0 about1) = true := by decide +kernel
set_option maxRecDepth 65536 in
theorem w_t6 : ((((((words1.drop 24).drop 24).drop 24).drop 24).drop 24).take 24).all (fun c => isCode c || c.before args0 about1) = true := by decide +kernel
set_option maxRecDepth 65536 in
theorem w_t7 : ((((((words1.drop 24).drop 24).drop 24).drop 24).drop 24).drop 24).all (fun c => isCode c || c.before args0 about1) = true := by decide +kernel
theorem w_tables : (allAtoms (Jvm.Cond.code x code maxLocals ret :: tables_1)).before args0 about1 = true := by
  rw [allAtoms_all]
  show words1.all (fun c => c.before args0 about1) = true
  refine all_split ?_ w_codes
  rw [← List.take_append_drop 24 words1, List.all_append, w_t1, ← List.take_append_drop 24 (words1.drop 24), List.all_append, w_t2, ← List.take_append_drop 24 ((words1.drop 24).drop 24), List.all_append, w_t3, ← List.take_append_drop 24 (((words1.drop 24).drop 24).drop 24), List.all_append, w_t4, ← List.take_append_drop 24 ((((words1.drop 24).drop 24).drop 24).drop 24), List.all_append, w_t5, ← List.take_append_drop 24 (((((words1.drop 24).drop 24).drop 24).drop 24).drop 24), List.all_append, w_t6, w_t7]
  rfl
set_option maxRecDepth 65536 in
theorem w_rest : rest_1_c.before args0 about1 = true := by decide +kernel
set_option maxRecDepth 65536 in
theorem w_case : (Jvm.Cond.and given_1 narrow_1).before args0 about1 = true := by decide +kernel
set_option maxRecDepth 65536 in
theorem w_consts : constsHeld consts_1 about1 := Jvm.Lit.constsHeldB_iff.mp (by decide +kernel)
theorem w_applies : (headSpec (Jvm.Cond.code x code maxLocals ret :: tables_1) room_1).applies x e0.platform about1 = true :=
  (Spec.applies_iff w_frames).mpr ⟨w_running, w_runnable, w_alone, w_named, w_hears, w_ripe, w_room, w_tables⟩
theorem atStart : AtStart classFile x code maxLocals ret World_1 tables_1 room_1 Calls_1 rest_1 Pre_1 launch0 p0 e0 about1 theMethod args0 below0 :=
  ⟨lists_1, trivial, launch0.admits_env _ _ _, launch0.least_env, fairChoices_fair.cas, fairChoices_fair.clock, w_frames, w_args, w_heap, w_applies, ⟨w_consts, trivial⟩, w_rest, w_case⟩
end start1
theorem witness_1 : WitnessClaimed_1 := ⟨start1.p0, start1.e0, start1.about1, start1.theMethod, start1.args0, start1.below0, start1.atStart⟩
end Jvm.Pilot.@@N@@
