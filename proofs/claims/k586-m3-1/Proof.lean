import JvmDerived
import JvmDerived.Pilot.@@N@@Statement
import JvmDerived.Pilot.@@N@@Code
set_option linter.unusedVariables false
set_option linter.unusedSimpArgs false
namespace Jvm.Pilot.@@N@@
open Jvm Jvm.ClassFile Sem Op Lib Jvm.Free Jvm.Stand Jvm.LawKit Jvm.RoadKit Bundle Jvm.Pilot.@@N@@.Jvm.D
/-! the walk's goal: from the state A the run ends, returning what Qv says -/
def OwnEnd (p : Program) (e : Env) (below : List Frame) (s : State) (Qv : Option Value → Heap → List Loc → Prop) (k n : Nat) (A : State) : Prop :=
  ∃ s₂ o, Steps p.tables e below A s₂ ∧ s₂.status = .running ∧ Ended s₂ below o ∧ ∃ v L, o = .returned v ∧ Qv v s₂.heap L ∧ FrameEnd s o s₂ L k n
theorem own_step {p : Program} {e : Env} {below : List Frame} {s : State} {Qv : Option Value → Heap → List Loc → Prop} {k n : Nat} {A B : State} (h : ∀ t, Steps p.tables e below B t → Steps p.tables e below A t) (q : OwnEnd p e below s Qv k n B) : OwnEnd p e below s Qv k n A := by
  obtain ⟨s₂, o, h1, h2⟩ := q
  exact ⟨s₂, o, h _ h1, h2⟩
theorem own_arvEq {Z : State} {h : Heap} {a : Addr} {k : ClassId} {ty : FieldType} {z : Int32} {vs vs' : List Value} {d : Value} (e : vs = vs') (F : Arv Z h a k ty z vs d) : Arv Z h a k ty z vs' d := by subst e; exact F
theorem own_fldEq {Z : State} {h : Heap} {a : Addr} {C n d : String} {x y : Int32} (e : x = y) (F : Fld Z h a C n d (.int x)) : Fld Z h a C n d (.int y) := by subst e; exact F
section OwnRet
variable {p : Program} {l : Launch} {e : Env} {R : Room} {s : State} {m : MethodId} {args : Array Value} {below : List Frame} {meth : Method} {c : Code} {T : State} {locs : List Loc} {cells slots k n : Nat} {Qv : Option Value → Heap → List Loc → Prop}
theorem own_retN (X : Stand p l e R s m args below meth c T locs cells slots) (hx : p.tables.exec = Jvm.exec) (hlocks : meth.locks = false) {pc : Nat} {Ls : Array Slot} {z w : Int32} {t : FieldType} {rest : List Value} (hret : meth.sig.returnType = some t) (ht : t = .boolean ∨ t = .byte ∨ t = .char ∨ t = .short) (hd : decode c.code pc = .ok (.ireturn, 1)) (hz : nar t z = w) (hq : Qv (some (.int w)) T.heap locs) (hk : cells ≤ k) (hn : slots ≤ n) :
    OwnEnd p e below s Qv k n (T.setTop (mkF m pc Ls (.int z :: rest))) := by
  obtain ⟨fs, hr, hrun, hended, hW, hsame⟩ := X.leave (v := some (.int w)) (fun h => by rw [hret] at h; cases h) hlocks
  exact ⟨_, _, retN X hx hret ht hd (fs := fs) (by rw [hz]; exact hr), hrun, hended, _, _, rfl, hq, ⟨_, rfl⟩, hW, hsame.mono hk hn⟩
theorem own_retI (X : Stand p l e R s m args below meth c T locs cells slots) (hx : p.tables.exec = Jvm.exec) (hlocks : meth.locks = false) {pc : Nat} {Ls : Array Slot} {z : Int32} {rest : List Value} (hret : meth.sig.returnType = some .int) (hd : decode c.code pc = .ok (.ireturn, 1)) (hq : Qv (some (.int z)) T.heap locs) (hk : cells ≤ k) (hn : slots ≤ n) :
    OwnEnd p e below s Qv k n (T.setTop (mkF m pc Ls (.int z :: rest))) := by
  obtain ⟨fs, hr, hrun, hended, hW, hsame⟩ := X.leave (v := some (.int z)) (fun h => by rw [hret] at h; cases h) hlocks
  refine ⟨T.setFrames fs, _, ?_, hrun, hended, _, _, rfl, hq, ⟨_, rfl⟩, hW, hsame.mono hk hn⟩
  have hm' : T.vm.method? m = some meth := X.method'
  have hn' : narrow .int (.int z) = .int z := rfl
  show Steps p.tables e below (T.setTop { method := m, pc := pc, locals := Ls, stack := _ :: rest, locked := none }) _
  jvm_step X.here [X.here.top, hx, hd, hm', hret, hn']
  first | (intro acts; rw [hr _ acts rfl rfl rfl]) | rw [hr _ _ rfl rfl rfl]
  exact Steps.refl _
theorem own_retJ (X : Stand p l e R s m args below meth c T locs cells slots) (hx : p.tables.exec = Jvm.exec) (hlocks : meth.locks = false) {pc : Nat} {Ls : Array Slot} {z : Int64} {rest : List Value} (hret : meth.sig.returnType = some .long) (hd : decode c.code pc = .ok (.lreturn, 1)) (hq : Qv (some (.long z)) T.heap locs) (hk : cells ≤ k) (hn : slots ≤ n) :
    OwnEnd p e below s Qv k n (T.setTop (mkF m pc Ls (.long z :: rest))) := by
  obtain ⟨fs, hr, hrun, hended, hW, hsame⟩ := X.leave (v := some (.long z)) (fun h => by rw [hret] at h; cases h) hlocks
  refine ⟨T.setFrames fs, _, ?_, hrun, hended, _, _, rfl, hq, ⟨_, rfl⟩, hW, hsame.mono hk hn⟩
  have hm' : T.vm.method? m = some meth := X.method'
  have hn' : narrow .long (.long z) = .long z := rfl
  show Steps p.tables e below (T.setTop { method := m, pc := pc, locals := Ls, stack := _ :: rest, locked := none }) _
  jvm_step X.here [X.here.top, hx, hd, hm', hret, hn']
  first | (intro acts; rw [hr _ acts rfl rfl rfl]) | rw [hr _ _ rfl rfl rfl]
  exact Steps.refl _
theorem own_retD (X : Stand p l e R s m args below meth c T locs cells slots) (hx : p.tables.exec = Jvm.exec) (hlocks : meth.locks = false) {pc : Nat} {Ls : Array Slot} {z : UInt64} {rest : List Value} (hret : meth.sig.returnType = some .double) (hd : decode c.code pc = .ok (.dreturn, 1)) (hq : Qv (some (.double z)) T.heap locs) (hk : cells ≤ k) (hn : slots ≤ n) :
    OwnEnd p e below s Qv k n (T.setTop (mkF m pc Ls (.double z :: rest))) := by
  obtain ⟨fs, hr, hrun, hended, hW, hsame⟩ := X.leave (v := some (.double z)) (fun h => by rw [hret] at h; cases h) hlocks
  refine ⟨T.setFrames fs, _, ?_, hrun, hended, _, _, rfl, hq, ⟨_, rfl⟩, hW, hsame.mono hk hn⟩
  have hm' : T.vm.method? m = some meth := X.method'
  have hn' : narrow .double (.double z) = .double z := rfl
  show Steps p.tables e below (T.setTop { method := m, pc := pc, locals := Ls, stack := _ :: rest, locked := none }) _
  jvm_step X.here [X.here.top, hx, hd, hm', hret, hn']
  first | (intro acts; rw [hr _ acts rfl rfl rfl]) | rw [hr _ _ rfl rfl rfl]
  exact Steps.refl _
theorem own_retR (X : Stand p l e R s m args below meth c T locs cells slots) (hx : p.tables.exec = Jvm.exec) (hlocks : meth.locks = false) {pc : Nat} {Ls : Array Slot} {z : Addr} {t : FieldType} {rest : List Value} (hret : meth.sig.returnType = some t) (ht : t.isReference = true) (hd : decode c.code pc = .ok (.areturn, 1)) (hq : Qv (some (.ref z)) T.heap locs) (hk : cells ≤ k) (hn : slots ≤ n) :
    OwnEnd p e below s Qv k n (T.setTop (mkF m pc Ls (.ref z :: rest))) := by
  obtain ⟨fs, hr, hrun, hended, hW, hsame⟩ := X.leave (v := some (.ref z)) (fun h => by rw [hret] at h; cases h) hlocks
  refine ⟨T.setFrames fs, _, ?_, hrun, hended, _, _, rfl, hq, ⟨_, rfl⟩, hW, hsame.mono hk hn⟩
  have hm' : T.vm.method? m = some meth := X.method'
  show Steps p.tables e below (T.setTop { method := m, pc := pc, locals := Ls, stack := _ :: rest, locked := none }) _
  jvm_step X.here [X.here.top, hx, hd, hm', hret, ht, Value.isRef]
  first | (intro acts; rw [hr _ acts rfl rfl rfl]) | rw [hr _ _ rfl rfl rfl]
  exact Steps.refl _
theorem own_ret0 (X : Stand p l e R s m args below meth c T locs cells slots) (hx : p.tables.exec = Jvm.exec) (hlocks : meth.locks = false) {pc : Nat} {Ls : Array Slot} (hret : meth.sig.returnType = none) (hd : decode c.code pc = .ok (.return_, 1)) (hq : Qv none T.heap locs) (hk : cells ≤ k) (hn : slots ≤ n) :
    OwnEnd p e below s Qv k n (T.setTop (mkF m pc Ls [])) := by
  obtain ⟨fs, hr, hrun, hended, hW, hsame⟩ := X.leave (v := none) (fun _ => rfl) hlocks
  exact ⟨_, _, X.returnOut hx hret hd hr, hrun, hended, _, _, rfl, hq, ⟨_, rfl⟩, hW, hsame.mono hk hn⟩
end OwnRet
/-! lists of ints by a function of the place -/
def own_vs (n : Nat) (F : Nat → Int32) : List Value := (List.range n).map fun j => Value.int (F j)
theorem own_vsLen (n : Nat) (F : Nat → Int32) : (own_vs n F).length = n := by simp [own_vs]
theorem own_vsGet {n : Nat} {F : Nat → Int32} {j : Nat} {d : Value} (h : j < n) : (own_vs n F).getD j d = .int (F j) := by
  simp [own_vs, List.getD_eq_getElem?_getD, h]
theorem own_vsCongr {n : Nat} {F G : Nat → Int32} (h : ∀ j, j < n → F j = G j) : own_vs n F = own_vs n G := by
  apply List.map_congr_left
  intro j hj
  rw [h j (List.mem_range.mp hj)]
theorem own_vsSet {n : Nat} {F : Nat → Int32} {i : Nat} {x : Int32} : (own_vs n F).set i (.int x) = own_vs n (fun j => if j = i then x else F j) := by
  apply List.ext_getElem?
  intro j
  rw [List.getElem?_set]
  by_cases hj : j < n
  · by_cases hi : i = j
    · subst hi; simp [own_vs, hj]
    · have hi' : ¬ j = i := fun q => hi q.symm
      simp [own_vs, hj, hi, hi']
  · by_cases hi : i = j
    · subst hi; simp [own_vs, hj]
    · simp [own_vs, hj, hi]
theorem own_vsPad (n : Nat) : ∀ i, (own_vs n fun _ => (0 : Int32)).getD i (.int (0 : Int32)) = ([] : List Value).getD i (.int (0 : Int32)) := by
  intro i
  by_cases h : i < n
  · rw [own_vsGet h]; rfl
  · simp [own_vs, List.getD_eq_getElem?_getD, h]
theorem own_clamp {p : Int32} {i : Nat} (h : p.toInt = i) : p.toNatClampNeg = i := by
  simp only [Int32.toNatClampNeg, h]; rfl
theorem own_inc {p : Int32} {i : Nat} (h : p.toInt = i) (hi : i < 2147483647) : (p + 1).toInt = ((i + 1 : Nat) : Int) := by
  have h1 := c_iadd p 1
  have h2 := rng32 (p + 1)
  have h3 : (1 : Int32).toInt = 1 := by decide
  omega
theorem own_lt32 {p q : Int32} {i j : Nat} (hp : p.toInt = i) (hq : q.toInt = j) : p < q ↔ i < j := by
  rw [Int32.lt_iff_toInt_lt, hp, hq]; omega
theorem own_nn {p : Int32} {i : Nat} (hp : p.toInt = i) : ¬ p < 0 := by
  rw [Int32.lt_iff_toInt_lt, hp, show (0 : Int32).toInt = 0 from by decide]; omega
theorem own_ofNat {n : Nat} (h : n < 2147483648) : (Int32.ofNat n).toInt = n := Int32.toInt_ofNat_of_lt h
/-! the bytes of a char -/
def own_b (c : Int32) : Int32 := (c.toInt8.toInt32).toInt8.toInt32
def own_lo (c : Int32) : Int32 := own_b (c >>> ((0 : Int32) &&& 31))
def own_hi (c : Int32) : Int32 := own_b (c >>> ((8 : Int32) &&& 31))
def own_u (g : Nat → Int32) (j : Nat) : Int32 := if j % 2 = 0 then own_lo (g (j / 2)) else own_hi (g (j / 2))
def own_cL (x : Int32) : Int32 := ((x &&& (255 : Int32)).toUInt32.toUInt16.toUInt32.toInt32)
def own_cU (x y : Int32) : Int32 := ((((x &&& (255 : Int32)) <<< ((0 : Int32) &&& 31)) ||| ((y &&& (255 : Int32)) <<< ((8 : Int32) &&& 31))).toUInt32.toUInt16.toUInt32.toInt32)
theorem own_bInt (c : Int32) : ((own_b c).toInt - c.toInt) % 256 = 0 := by
  have h1 := c_i2b (c.toInt8.toInt32)
  have h2 := c_i2b c
  unfold own_b
  omega
theorem own_i2c {x : Int32} (h0 : 0 ≤ x.toInt) (h1 : x.toInt < 65536) : x.toUInt32.toUInt16.toUInt32.toInt32 = x := by
  have h := c_i2c x
  apply Int32.toInt_inj.mp
  omega
theorem own_shr0 (c : Int32) : c >>> ((0 : Int32) &&& 31) = c := by
  have h := c_ishr c 0 0 (by decide)
  apply Int32.toInt_inj.mp
  rw [h]; simp
theorem own_shl0 (c : Int32) : c <<< ((0 : Int32) &&& 31) = c := by
  have h := c_ishl c 0 0 (by decide)
  have h2 := rng32 c
  have h3 := rng32 (c <<< ((0 : Int32) &&& 31))
  apply Int32.toInt_inj.mp
  simp only [Nat.pow_zero] at h
  omega
theorem own_decL {c : Int32} (h0 : 0 ≤ c.toInt) (h1 : c.toInt < 256) : own_cL (own_b c) = c := by
  have h2 := c_mask (own_b c) 255 8 (by decide) (by decide)
  have h3 := own_bInt c
  have e : own_b c &&& 255 = c := by apply Int32.toInt_inj.mp; rw [h2]; omega
  unfold own_cL
  rw [e]
  exact own_i2c h0 (by omega)
theorem own_decU {c : Int32} (h0 : 0 ≤ c.toInt) (h1 : c.toInt < 65536) : own_cU (own_lo c) (own_hi c) = c := by
  have a1 := c_mask (own_lo c) 255 8 (by decide) (by decide)
  have a2 := c_mask (own_hi c) 255 8 (by decide) (by decide)
  have a3 : ((own_lo c).toInt - c.toInt) % 256 = 0 := by
    have := own_bInt (c >>> ((0 : Int32) &&& 31)); rw [own_shr0] at this
    unfold own_lo; rw [own_shr0]; exact this
  have a4 : ((own_hi c).toInt - c.toInt / 256) % 256 = 0 := by
    have := own_bInt (c >>> ((8 : Int32) &&& 31)); rw [c_ishr c 8 8 (by decide)] at this
    exact this
  unfold own_cU
  rw [own_shl0]
  generalize own_lo c &&& 255 = x at *
  generalize own_hi c &&& 255 = y at *
  have b1 := c_ishl y 8 8 (by decide)
  have b2 := rng32 (y <<< ((8 : Int32) &&& 31))
  have b3 := c_or' x (y <<< ((8 : Int32) &&& 31)) 8 (by decide) 256 (by decide) (by omega) (by omega) (by omega)
  have b4 := rng32 (x ||| y <<< ((8 : Int32) &&& 31))
  have e : x ||| y <<< ((8 : Int32) &&& 31) = c := by apply Int32.toInt_inj.mp; omega
  rw [e]
  exact own_i2c h0 h1
/-! the statics on which the String bodies rest -/
def OwnW (Z : State) (wc : Int32) (sx : Value) : Prop := Sta Z Z.heap "java/lang/String" "COMPACT_STRINGS" "Z" (.int wc) ∧ ¬ (wc = (0 : Int32)) ∧ Sta Z Z.heap "jdk/internal/util/Preconditions" "SIOOBE_FORMATTER" "Ljava/util/function/BiFunction;" sx ∧ sx.isRef = true ∧ Sta Z Z.heap "java/lang/StringUTF16" "$assertionsDisabled" "Z" (.int (1 : Int32)) ∧ Sta Z Z.heap "java/lang/StringUTF16" "HI_BYTE_SHIFT" "I" (.int (0 : Int32)) ∧ Sta Z Z.heap "java/lang/StringUTF16" "LO_BYTE_SHIFT" "I" (.int (8 : Int32))
theorem own_mono {l : Launch} {x : MethodName} {S : Spec} {P : Array Value → State → Prop} {K : Program → Env → List Frame → State → Array Value → Prop} {Q Q' : Array Value → State → Outcome → State → Prop} (h : MetFree l x S P K Q) (hq : ∀ a s o t, Q a s o t → Q' a s o t) : MetFree l x S P K Q' := by
  intro p e ha hc hk s m args below hf happ hP hK
  obtain ⟨n, o, h1, h2, h3, h4⟩ := h p e ha hc hk s m args below hf happ hP hK
  exact ⟨n, o, h1, h2, h3, hq _ _ _ _ h4⟩
/-! a String object and its chars -/
def OwnStr (Z : State) (h : Heap) (a b : Addr) (n : Nat) (g : Nat → Int32) : Prop :=
  Exa Z h a "java/lang/String" ∧ Fld Z h a "java/lang/String" "value" "[B" (.ref b) ∧
  ((Fld Z h a "java/lang/String" "coder" "B" (.int (0 : Int32)) ∧ (∀ j, j < n → (g j).toInt < 256) ∧ ∃ k, Arv Z h b k .byte (Int32.ofNat n) (own_vs n fun j => own_b (g j)) (.int (0 : Int32))) ∨
   (Fld Z h a "java/lang/String" "coder" "B" (.int (1 : Int32)) ∧ ∃ k, Arv Z h b k .byte (Int32.ofNat (2 * n)) (own_vs (2 * n) (own_u g)) (.int (0 : Int32))))
section OwnStrLaws
variable {Z : State} {h h' : Heap} {a b o : Addr} {n : Nat} {g : Nat → Int32} {sl : Nat} {v : Value} {ws : List Addr}
theorem OwnStr.ext (S : OwnStr Z h a b n g) (E : Ext h h') : OwnStr Z h' a b n g := by
  obtain ⟨A, F, C⟩ := S
  refine ⟨A.ext E, F.ext E, ?_⟩
  rcases C with ⟨C, q, k, V⟩ | ⟨C, k, V⟩
  · exact Or.inl ⟨C.ext E, q, k, V.ext E⟩
  · exact Or.inr ⟨C.ext E, k, V.ext E⟩
theorem OwnStr.other (S : OwnStr Z h a b n g) (W : Wr h h' o sl v) (ha : a ≠ o) (hb : b ≠ o) : OwnStr Z h' a b n g := by
  obtain ⟨A, F, C⟩ := S
  refine ⟨A.wr W, F.other W (Or.inl ha), ?_⟩
  rcases C with ⟨C, q, k, V⟩ | ⟨C, k, V⟩
  · exact Or.inl ⟨C.other W (Or.inl ha), q, k, V.other W hb⟩
  · exact Or.inr ⟨C.other W (Or.inl ha), k, V.other W hb⟩
theorem OwnStr.keep (S : OwnStr Z h a b n g) (K : Keep h h' ws) (ha : a ∉ ws) (hb : b ∉ ws) : OwnStr Z h' a b n g := by
  obtain ⟨A, F, C⟩ := S
  refine ⟨A.keep K, F.keep K ha, ?_⟩
  rcases C with ⟨C, q, k, V⟩ | ⟨C, k, V⟩
  · exact Or.inl ⟨C.keep K ha, q, k, V.keep K hb⟩
  · exact Or.inr ⟨C.keep K ha, k, V.keep K hb⟩
theorem OwnStr.lt0 (S : OwnStr Z h a b n g) : a < h.size := S.1.lt
theorem OwnStr.lt1 (S : OwnStr Z h a b n g) : b < h.size := by
  rcases S.2.2 with ⟨-, -, k, V⟩ | ⟨-, k, V⟩ <;> exact V.lt
end OwnStrLaws
theorem own_len2 {p : Int32} {n : Nat} (hp : p.toInt = n) (hn : n ≤ 1000000) : p <<< ((1 : Int32) &&& 31) = Int32.ofNat (2 * n) := by
  apply Int32.toInt_inj.mp
  rw [own_ofNat (by omega)]
  have h := c_ishl p 1 1 (by decide)
  have h2 := rng32 (p <<< ((1 : Int32) &&& 31))
  omega
theorem own_shl1 {p : Int32} {i : Nat} (hp : p.toInt = i) (hn : i ≤ 1000000) : (p <<< ((1 : Int32) &&& 31)).toInt = ((2 * i : Nat) : Int) := by
  rw [own_len2 hp hn, own_ofNat (by omega)]
theorem own_shr1 {n : Nat} (hn : n ≤ 1000000) : (Int32.ofNat (2 * n) >>> ((1 : Int32) &&& 31)) = Int32.ofNat n := by
  apply Int32.toInt_inj.mp
  rw [c_ishr _ 1 1 (by decide), own_ofNat (by omega), own_ofNat (by omega)]
  omega
def ownEL : List (String × Nat) := [("java/lang/String", 7)]
theorem own_EW {Z : State} {aa : Array Value} (hw : ∀ d ∈ tables_1, d.before aa Z = true) : EW Z aa ownEL := EW.cons (text := "") (hw _ (List.mem_of_getElem? (i := 18) rfl)) (by decide) EW.nil
theorem own_wS {Z : State} {aa : Array Value} (hw : ∀ d ∈ tables_1, d.before aa Z = true) : ∀ a ∈ Bundle.stringAtoms, a.before aa Z = true := fun d hd => by
  simp only [Bundle.stringAtoms, List.mem_cons, List.not_mem_nil, or_false] at hd
  rcases hd with rfl | rfl | rfl | rfl | rfl | rfl | rfl
  · exact hw _ (List.mem_of_getElem? (i := 6) rfl)
  · exact hw _ (List.mem_of_getElem? (i := 5) rfl)
  · exact hw _ (List.mem_of_getElem? (i := 19) rfl)
  · exact hw _ (List.mem_of_getElem? (i := 20) rfl)
  · exact hw _ (List.mem_of_getElem? (i := 21) rfl)
  · exact hw _ (List.mem_of_getElem? (i := 22) rfl)
  · exact hw _ (List.mem_of_getElem? (i := 23) rfl)
/-! walks that may load String constants cold: the invariant of RW14 beside the Stand over the start with the tables at hand -/
def OwnC (Z : State) (EL : List (String × Nat)) (s : State) (vm : Vm) (h : Heap) : Prop := (∃ k0, s.Since vm k0 ∧ k0 ≤ h.size) ∧ CHr Z EL s.vm s.heap vm h
section OwnCold
variable {Z : State} {EL : List (String × Nat)} {s : State} {vm vm1 : Vm} {h h' : Heap} {aa : Array Value}
theorem OwnC.start (hh : s.heap = h) (H : CHv Z EL s.vm h) : OwnC Z EL s s.vm h := by
  subst hh
  exact ⟨⟨s.heap.size, ((State.WarmedH.refl s).since _), Nat.le_refl _⟩, CHr.refl H⟩
theorem OwnC.ext (C : OwnC Z EL s vm h) (E : Ext h h') : OwnC Z EL s vm h' := by
  obtain ⟨⟨k, a, b⟩, c⟩ := C
  exact ⟨⟨k, a, Nat.le_trans b E.1⟩, c.trans (CHr.ext E c.1)⟩
theorem OwnC.wr {a : Addr} {sl : Nat} {v : Value} (C : OwnC Z EL s vm h) (W : Wr h h' a sl v) (S : Safe Z EL vm h a) : OwnC Z EL s vm h' := by
  obtain ⟨⟨k, a, b⟩, c⟩ := C
  exact ⟨⟨k, a, Nat.le_trans b (Keep.of_wr W).1⟩, c.trans (CHr.wr W S c.1)⟩
theorem OwnC.keep {ws : List Addr} (C : OwnC Z EL s vm h) (K : Keep h h' ws) (S : ∀ x ∈ ws, Safe Z EL vm h x) : OwnC Z EL s vm h' := by
  obtain ⟨⟨k, a, b⟩, c⟩ := C
  exact ⟨⟨k, a, Nat.le_trans b K.1⟩, c.trans (CHr.keep K S c.1)⟩
theorem OwnC.reb (C : OwnC Z EL s vm h) (h2 : (s.setVm vm).Since vm1 h'.size) (g : h.size ≤ h'.size) (q : CHr Z EL vm h vm1 h') : OwnC Z EL s vm1 h' := by
  obtain ⟨⟨k, a, b⟩, c⟩ := C
  exact ⟨⟨h'.size, a.trans h2 (Nat.le_trans b g), Nat.le_refl _⟩, c.trans q⟩
theorem own_safeNull {x : Addr} (hal : Z.vm.Alike vm) (E : Exa Z h x "java/lang/String") (F : Fld Z h x "java/lang/String" "value" "[B" .null) : Safe Z EL vm h x := fun B => by
  obtain ⟨cell, k, e1, e2, e3, -, -⟩ := E
  obtain ⟨p, -, u, a, -, q, -, FB, rfl | rfl⟩ := B
  · obtain ⟨cS, ⟨⟨s1, s2, s3, ⟨cv, kv, iv, s4, s4'⟩, -, s6, s7, s8, -⟩, -⟩, -⟩ := FB
    obtain ⟨cell1, cf1, kf1, i1, fc, g1, g2, g3, g4, g5, g6, g7⟩ := F
    obtain ⟨kv', z4⟩ := ff_back (U := Wst Z vm h) hal s4
    cases (show h[q.sa]? = some q.sC from s1).symm.trans g1
    have e4 := z4.symm.trans g2
    simp only [Option.some.injEq, Prod.mk.injEq] at e4
    rw [← e4.2.2.2, s8] at g7
    cases g7
  · cases (show h[q.sd]? = some q.SA from FB.hd).symm.trans e1
    obtain ⟨cS, -, -, f, -⟩ := FB
    have f' : vm.findClass "[B" = some q.SA.cls := f
    rw [hal.findClass] at f'
    obtain ⟨k1, q1, q2⟩ := Vm.findClass_spec f'
    obtain ⟨k2, q3, q4⟩ := Vm.findClass_spec e2
    cases q1.symm.trans q3
    have := q2.symm.trans q4
    exact absurd this (by decide)
/-- the walk's goal: it ends, returning what Qv says; what is booked says its units -/
def OwnEndW (Z : State) (EL : List (String × Nat)) (p : Program) (e : Env) (below : List Frame) (s : State) (Qv : Option Value → Heap → List Loc → Prop) (k n : Nat) (A : State) : Prop :=
  ∃ s₂ o, Steps p.tables e below A s₂ ∧ s₂.status = .running ∧ Ended s₂ below o ∧ ∃ v L, o = .returned v ∧ Qv v s₂.heap L ∧ CHr Z EL s.vm s.heap s₂.vm s₂.heap ∧ ReturnedEndW s o s₂ L k n
theorem own_stepW {p : Program} {e : Env} {below : List Frame} {Qv : Option Value → Heap → List Loc → Prop} {k n : Nat} {A B : State} (h : ∀ t, Steps p.tables e below B t → Steps p.tables e below A t) (q : OwnEndW Z EL p e below s Qv k n B) : OwnEndW Z EL p e below s Qv k n A := by
  obtain ⟨s₂, o, h1, h2⟩ := q
  exact ⟨s₂, o, h _ h1, h2⟩
theorem own_W {p : Program} {e : Env} {below : List Frame} {Qv : Option Value → Heap → List Loc → Prop} {k n : Nat} {A : State} (hZ : Z.Warmed39 (s.setVm vm).vm) (w : EW Z aa EL) (C : OwnC Z EL s vm h) (q : OwnEnd p e below (s.setVm vm) (fun v g L => Qv v g L ∧ g = h) k n A) : OwnEndW Z EL p e below s Qv k n A := by
  obtain ⟨s₂, o, st, run, en, v, L, rfl, ⟨hq, hg⟩, hr, hW, hs⟩ := q
  obtain ⟨⟨k0, hS, hk⟩, hC⟩ := C
  obtain ⟨a, b, c⟩ := hS.ended (U := s₂) hW (by rw [hg]; exact hk) hs
  have z := CHv.later (h' := h) hZ (hW := (show (Wst Z vm h).Warmed39 s₂.vm from hW.wide)) w ⟨Nat.le_refl _, fun _ _ q => q⟩ (Or.inl hW.interned_eq) hC.1
  refine ⟨s₂, _, st, run, en, v, L, rfl, hq, ?_, ⟨v, rfl⟩, a, b, c⟩
  rw [hg]
  exact hC.trans ⟨z.1, Nat.le_refl _, z.2⟩
end OwnCold
theorem dci_0 : decode jdk_41_method_11_code 0 = .ok (.iload_n 0, 1) := by decide +kernel
theorem dci_1 : decode jdk_41_method_11_code 1 = .ok (.ifCond .lt 8, 3) := by decide +kernel
theorem dci_4 : decode jdk_41_method_11_code 4 = .ok (.iload_n 0, 1) := by decide +kernel
theorem dci_5 : decode jdk_41_method_11_code 5 = .ok (.iload_n 1, 1) := by decide +kernel
theorem dci_6 : decode jdk_41_method_11_code 6 = .ok (.if_icmp .lt 10, 3) := by decide +kernel
theorem dci_16 : decode jdk_41_method_11_code 16 = .ok (.iload_n 0, 1) := by decide +kernel
theorem dci_17 : decode jdk_41_method_11_code 17 = .ok (.ireturn, 1) := by decide +kernel
theorem pnci : plainName "jdk/internal/util/Preconditions" = true := by first | (simp [plainName, overriddenIn]; done) | decide +kernel
theorem efci (m : MethodId) (p0 : Int32) (p1 : Int32) (x2 : Value) (hr_x2 : x2.isRef = true) : entryFrame m #[(.int p0), (.int p1), x2] 3 = mkF m 0 #[.val (.int p0), .val (.int p1), .val x2] [] := by
  rcases ref_cases hr_x2 with rfl | ⟨_, rfl⟩
  · rfl
  rfl
def fci (p0 : Int32) : Int32 := p0
def Qci (Z : State) (p0 : Int32) (p1 : Int32) (x2 : Value) (h0 : Heap) (n0 : Nat) (v : Option Value) (h : Heap) (L : List Loc) : Prop := v = some (.int (fci p0)) ∧ Fr n0 L ∧ h = h0
set_option maxRecDepth 65536 in
set_option maxHeartbeats 40000000 in
theorem rmci (l : Launch) (Z : State) (aa : Array Value) (hw : ∀ d ∈ tables_1, d.before aa Z = true) (ws : List Jvm.Cond) (p0 : Int32) (p1 : Int32) (x2 : Value) (h0 : Heap) (n0 : Nat) (Z0 : n0 ≤ h0.size) (hr_x2 : x2.isRef = true) (hlo : ¬ p0 < (0 : Int32)) (hhi : p0 < p1) :
    MetFree l (⟨"jdk/internal/util/Preconditions", "checkIndex", "(IILjava/util/function/BiFunction;)I"⟩ : MethodName) (head1 (Jvm.Cond.code (⟨"jdk/internal/util/Preconditions", "checkIndex", "(IILjava/util/function/BiFunction;)I"⟩ : MethodName) jdk_41_method_11_code 3 (some .int) :: ws) ({ frames := 0, cells := 0, slots := 0, locals := 0 } : Room)) (fun a U => a = #[(.int p0), (.int p1), x2] ∧ Z.Warmed39 U.vm ∧ U.heap = h0) (fun _ _ _ _ _ => True) (fun _ U o U' => ∃ v L, o = .returned v ∧ Qci Z p0 p1 x2 h0 n0 v U'.heap L ∧ FrameEnd U o U' L ({ frames := 0, cells := 0, slots := 0, locals := 0 } : Room).cells ({ frames := 0, cells := 0, slots := 0, locals := 0 } : Room).slots) := by
  refine MetFree.of_bodySF (plainFor_of_name pnci) hisR ?_
  intro p e s m args below meth c s₁ Bd hml0 hP hK
  obtain ⟨rfl, hZ, hh⟩ := hP
  have hx := Bd.exec
  have hby := Bd.bytes
  have hml : c.maxLocals = 3 := hml0
  have hown : s.vm.findClass "jdk/internal/util/Preconditions" = some m.cls := findClass_of_methodNamed Bd.named
  have hnm := (name_of_methodNamed Bd.named Bd.method).1
  have X0 : Stand p l e ({ frames := 0, cells := 0, slots := 0, locals := 0 } : Room) s m #[(.int p0), (.int p1), x2] below meth c s₁ [] 0 0 := Stand.of_body Bd
  have e0 : s₁.heap = h0 := by rw [← hh, Bd.state]; rfl
  have N0 := Fr.nil n0
  show OwnEnd p e below s (fun v h L => Qci Z p0 p1 x2 h0 n0 v h L) ({ frames := 0, cells := 0, slots := 0, locals := 0 } : Room).cells ({ frames := 0, cells := 0, slots := 0, locals := 0 } : Room).slots (s₁.setTop (entryFrame m #[(.int p0), (.int p1), x2] 3))
  rw [efci m p0 p1 x2 hr_x2]
  generalize hW : OwnEnd p e below s (fun v h L => Qci Z p0 p1 x2 h0 n0 v h L) ({ frames := 0, cells := 0, slots := 0, locals := 0 } : Room).cells ({ frames := 0, cells := 0, slots := 0, locals := 0 } : Room).slots = W
  have stp : ∀ {A B : State}, (∀ t, Steps p.tables e below B t → Steps p.tables e below A t) → W B → W A := by subst hW; exact own_step
  show W (s₁.setTop (mkF m 0 #[.val (.int p0), .val (.int p1), .val x2] []))
  refine stp (fun t k => XS.iloadN X0.here hx rfl (hb hby dci_0) rfl k) ?_
  show W (s₁.setTop (mkF m 1 #[.val (.int p0), .val (.int p1), .val x2] [(.int p0)]))
  refine stp (fun t k => XS.ifNo X0.here hx rfl (hb hby dci_1) rfl ((if0 _ _).trans (flt (hlo)).1) k) ?_
  show W (s₁.setTop (mkF m 4 #[.val (.int p0), .val (.int p1), .val x2] []))
  refine stp (fun t k => XS.iloadN X0.here hx rfl (hb hby dci_4) rfl k) ?_
  show W (s₁.setTop (mkF m 5 #[.val (.int p0), .val (.int p1), .val x2] [(.int p0)]))
  refine stp (fun t k => XS.iloadN X0.here hx rfl (hb hby dci_5) rfl k) ?_
  show W (s₁.setTop (mkF m 6 #[.val (.int p0), .val (.int p1), .val x2] [(.int p1), (.int p0)]))
  refine stp (fun t k => XS.icmpYes X0.here hx rfl (pc0 := 6) (pc' := 16) rfl (hb hby dci_6) rfl ((tlt (hhi)).1) (by decide) (by decide) k) ?_
  show W (s₁.setTop (mkF m 16 #[.val (.int p0), .val (.int p1), .val x2] []))
  refine stp (fun t k => XS.iloadN X0.here hx rfl (hb hby dci_16) rfl k) ?_
  show W (s₁.setTop (mkF m 17 #[.val (.int p0), .val (.int p1), .val x2] [(.int p0)]))
  show W (s₁.setTop (mkF m 17 #[.val (.int p0), .val (.int p1), .val x2] [(.int p0)]))
  rw [← hW]
  exact own_retI X0 hx Bd.notSynchronized Bd.returns (hb hby dci_17) (by show Qci Z p0 p1 x2 h0 n0 _ s₁.heap _; rw [e0]; exact ⟨rfl, N0, rfl⟩) (by decide) (by decide)
theorem dsc_0 : decode jdk_42_method_155_code 0 = .ok (.iload_n 0, 1) := by decide +kernel
theorem dsc_1 : decode jdk_42_method_155_code 1 = .ok (.iload_n 1, 1) := by decide +kernel
theorem dsc_2 : decode jdk_42_method_155_code 2 = .ok (.getstatic 1053, 3) := by decide +kernel
theorem dsc_5 : decode jdk_42_method_155_code 5 = .ok (.invokestatic 1059, 3) := by decide +kernel
theorem dsc_8 : decode jdk_42_method_155_code 8 = .ok (.pop, 1) := by decide +kernel
theorem dsc_9 : decode jdk_42_method_155_code 9 = .ok (.return_, 1) := by decide +kernel
theorem pnsc : plainName "java/lang/String" = true := by first | (simp [plainName, overriddenIn]; done) | decide +kernel
theorem pdsc_0 : parseMethodDescriptor "(IILjava/util/function/BiFunction;)I" = some ⟨[.int, .int, (.object "java/util/function/BiFunction")], some .int⟩ := by decide +kernel
theorem efsc (m : MethodId) (p0 : Int32) (p1 : Int32) : entryFrame m #[(.int p0), (.int p1)] 2 = mkF m 0 #[.val (.int p0), .val (.int p1)] [] := by first | (simp [entryFrame, mkF, argsToLocals, Value.category]; done) | rfl
def Qsc (Z : State) (p0 : Int32) (p1 : Int32) (wc : Int32) (sx : Value) (h0 : Heap) (n0 : Nat) (v : Option Value) (h : Heap) (L : List Loc) : Prop := v = none ∧ Fr n0 L ∧ h = h0
set_option maxRecDepth 65536 in
set_option maxHeartbeats 40000000 in
theorem rmsc (l : Launch) (Z : State) (aa : Array Value) (hw : ∀ d ∈ tables_1, d.before aa Z = true) (ws : List Jvm.Cond) (p0 : Int32) (p1 : Int32) (wc : Int32) (sx : Value) (h0 : Heap) (n0 : Nat) (Z0 : n0 ≤ h0.size) (BW : OwnW Z wc sx) (O0 : Old Z n0 h0) (hlo : ¬ p0 < (0 : Int32)) (hhi : p0 < p1) :
    MetFree l (⟨"java/lang/String", "checkIndex", "(II)V"⟩ : MethodName) (head1 (Jvm.Cond.code (⟨"java/lang/String", "checkIndex", "(II)V"⟩ : MethodName) jdk_42_method_155_code 2 none :: ws) ({ frames := 1, cells := 0, slots := 0, locals := 14 } : Room)) (fun a U => a = #[(.int p0), (.int p1)] ∧ Z.Warmed39 U.vm ∧ U.heap = h0) (fun _ _ _ _ _ => True) (fun _ U o U' => ∃ v L, o = .returned v ∧ Qsc Z p0 p1 wc sx h0 n0 v U'.heap L ∧ FrameEnd U o U' L ({ frames := 1, cells := 0, slots := 0, locals := 14 } : Room).cells ({ frames := 1, cells := 0, slots := 0, locals := 14 } : Room).slots) := by
  refine MetFree.of_bodySF (plainFor_of_name pnsc) hisR ?_
  intro p e s m args below meth c s₁ Bd hml0 hP hK
  obtain ⟨rfl, hZ, hh⟩ := hP
  have hx := Bd.exec
  have hby := Bd.bytes
  have hml : c.maxLocals = 2 := hml0
  have hown : s.vm.findClass "java/lang/String" = some m.cls := findClass_of_methodNamed Bd.named
  have hnm := (name_of_methodNamed Bd.named Bd.method).1
  have X0 : Stand p l e ({ frames := 1, cells := 0, slots := 0, locals := 14 } : Room) s m #[(.int p0), (.int p1)] below meth c s₁ [] 0 0 := Stand.of_body Bd
  have e0 : s₁.heap = h0 := by rw [← hh, Bd.state]; rfl
  have N0 := Fr.nil n0
  show OwnEnd p e below s (fun v h L => Qsc Z p0 p1 wc sx h0 n0 v h L) ({ frames := 1, cells := 0, slots := 0, locals := 14 } : Room).cells ({ frames := 1, cells := 0, slots := 0, locals := 14 } : Room).slots (s₁.setTop (entryFrame m #[(.int p0), (.int p1)] 2))
  rw [efsc m p0 p1]
  generalize hW : OwnEnd p e below s (fun v h L => Qsc Z p0 p1 wc sx h0 n0 v h L) ({ frames := 1, cells := 0, slots := 0, locals := 14 } : Room).cells ({ frames := 1, cells := 0, slots := 0, locals := 14 } : Room).slots = W
  have stp : ∀ {A B : State}, (∀ t, Steps p.tables e below B t → Steps p.tables e below A t) → W B → W A := by subst hW; exact own_step
  obtain ⟨S_cs, hcs, S_si, hr_sx, S_ad, S_hi, S_lo⟩ := id BW
  show W (s₁.setTop (mkF m 0 #[.val (.int p0), .val (.int p1)] []))
  refine stp (fun t k => XS.iloadN X0.here hx rfl (hb hby dsc_0) rfl k) ?_
  show W (s₁.setTop (mkF m 1 #[.val (.int p0), .val (.int p1)] [(.int p0)]))
  refine stp (fun t k => XS.iloadN X0.here hx rfl (hb hby dsc_1) rfl k) ?_
  show W (s₁.setTop (mkF m 2 #[.val (.int p0), .val (.int p1)] [(.int p1), (.int p0)]))
  obtain ⟨Tsc1, Xsc1, esc1, stsc1⟩ := getS2 X0 hx hZ hown (host := "") (Or.inl (hw _ (List.mem_of_getElem? (i := 114) rfl))) Via.refl e0 (S_si.ext O0.2) (g := (mkF m 2 #[.val (.int p0), .val (.int p1)] [(.int p1), (.int p0)])) rfl (hb hby dsc_2)
  refine stp (fun t k => stsc1 t k) ?_
  show W (Tsc1.setTop (mkF m 5 #[.val (.int p0), .val (.int p1)] [sx, (.int p1), (.int p0)]))
  obtain ⟨_, _, ⟨Tscc2, Lscc2, kscc2, nscc2⟩, -, Xscc2, ⟨Lcscc2, hQscc2, lscc2, yscc2, zscc2⟩, stscc2⟩ := Jvm.LawKit.callS Xsc1 hx (y := (⟨"jdk/internal/util/Preconditions", "checkIndex", "(IILjava/util/function/BiFunction;)I"⟩ : MethodName)) hown (mvT hZ (hw _ (List.mem_of_getElem? (i := 116) rfl))) (mvT hZ (hw _ (List.mem_of_getElem? (i := 117) rfl))) (mvT hZ (hw _ (List.mem_of_getElem? (i := 115) rfl))) (mvT hZ (hw _ (List.mem_of_getElem? (i := 118) rfl))) (by decide) (backOf (W := 0) (rmci l Z aa hw [] p0 p1 sx  h0 n0 Z0 hr_sx hlo hhi) hZ (hw _ (List.mem_of_getElem? (i := 118) rfl)) (hw _ (List.mem_of_getElem? (i := 115) rfl)) (by decide) (by decide)) (g := (mkF m 5 #[.val (.int p0), .val (.int p1)] [sx, (.int p1), (.int p0)])) rfl (by rw [hml]; rfl) (argsL := [(.int p0), (.int p1), sx]) (rest := []) (lenOf pdsc_0 rfl) rfl (by show 2 * 0 + _ ≤ _; exact Nat.le_of_eq rfl) (hb hby dsc_5) (fun _ _ => ⟨rfl, esc1, (by decide : 0 + 0 ≤ _), (by decide : 0 + 0 ≤ _)⟩)
  dsimp only [Pt.U, Pt.locs, Pt.cells, Pt.slots] at Xscc2 lscc2 yscc2 zscc2 stscc2 hQscc2
  subst lscc2 yscc2 zscc2
  obtain ⟨rfl, Nscc2q, escc2⟩ := hQscc2
  have Nscc2 := Fr.app N0 Nscc2q
  obtain ⟨lcsct3, Xscc2, Nscc2⟩ : ∃ lc, Stand p l e ({ frames := 1, cells := 0, slots := 0, locals := 14 } : Room) s m #[(.int p0), (.int p1)] below meth c Tscc2 lc 0 0 ∧ Fr n0 lc := ⟨_, Xscc2, Nscc2⟩
  refine stp (fun t k => stscc2 t k) ?_
  show W (Tscc2.setTop (mkF m 8 #[.val (.int p0), .val (.int p1)] [(.int (fci p0))]))
  refine stp (fun t k => XS.pop Xscc2.here hx rfl (hb hby dsc_8) rfl rfl k) ?_
  show W (Tscc2.setTop (mkF m 9 #[.val (.int p0), .val (.int p1)] []))
  show W (Tscc2.setTop (mkF m 9 #[.val (.int p0), .val (.int p1)] []))
  rw [← hW]
  exact own_ret0 Xscc2 hx Bd.notSynchronized Bd.returns (hb hby dsc_9) (by show Qsc Z p0 p1 wc sx h0 n0 _ Tscc2.heap _; rw [escc2]; exact ⟨rfl, Nscc2, rfl⟩) (by decide) (by decide)
theorem dlc_0 : decode jdk_43_method_2_code 0 = .ok (.iload_n 1, 1) := by decide +kernel
theorem dlc_1 : decode jdk_43_method_2_code 1 = .ok (.aload_n 0, 1) := by decide +kernel
theorem dlc_2 : decode jdk_43_method_2_code 2 = .ok (.arraylength, 1) := by decide +kernel
theorem dlc_3 : decode jdk_43_method_2_code 3 = .ok (.invokestatic 9, 3) := by decide +kernel
theorem dlc_6 : decode jdk_43_method_2_code 6 = .ok (.aload_n 0, 1) := by decide +kernel
theorem dlc_7 : decode jdk_43_method_2_code 7 = .ok (.iload_n 1, 1) := by decide +kernel
theorem dlc_8 : decode jdk_43_method_2_code 8 = .ok (.baload, 1) := by decide +kernel
theorem dlc_9 : decode jdk_43_method_2_code 9 = .ok (.sipush 255, 3) := by decide +kernel
theorem dlc_12 : decode jdk_43_method_2_code 12 = .ok (.iand, 1) := by decide +kernel
theorem dlc_13 : decode jdk_43_method_2_code 13 = .ok (.i2c, 1) := by decide +kernel
theorem dlc_14 : decode jdk_43_method_2_code 14 = .ok (.ireturn, 1) := by decide +kernel
theorem pnlc : plainName "java/lang/StringLatin1" = true := by first | (simp [plainName, overriddenIn]; done) | decide +kernel
theorem pdlc_0 : parseMethodDescriptor "(II)V" = some ⟨[.int, .int], none⟩ := by decide +kernel
theorem eflc (m : MethodId) (a0 : Addr) (p1 : Int32) : entryFrame m #[(.ref a0), (.int p1)] 2 = mkF m 0 #[.val (.ref a0), .val (.int p1)] [] := by first | (simp [entryFrame, mkF, argsToLocals, Value.category]; done) | rfl
def flc (x : Int32) : Int32 := (nar .char ((x &&& (255 : Int32)).toUInt32.toUInt16.toUInt32.toInt32))
def Qlc (Z : State) (a0 : Addr) (p1 : Int32) (wc : Int32) (sx : Value) (kb : ClassId) (z : Int32) (vs : List Value) (x : Int32) (h0 : Heap) (n0 : Nat) (v : Option Value) (h : Heap) (L : List Loc) : Prop := v = some (.int (flc x)) ∧ Fr n0 L ∧ h = h0
set_option maxRecDepth 65536 in
set_option maxHeartbeats 40000000 in
theorem rmlc (l : Launch) (Z : State) (aa : Array Value) (hw : ∀ d ∈ tables_1, d.before aa Z = true) (ws : List Jvm.Cond) (a0 : Addr) (p1 : Int32) (wc : Int32) (sx : Value) (kb : ClassId) (z : Int32) (vs : List Value) (x : Int32) (h0 : Heap) (n0 : Nat) (Z0 : n0 ≤ h0.size) (BW : OwnW Z wc sx) (O0 : Old Z n0 h0) (V_a0 : Arv Z h0 a0 kb .byte z vs (.int (0 : Int32))) (hlo : ¬ p1 < (0 : Int32)) (hhi : p1 < z) (hgx : vs.getD p1.toNatClampNeg (.int (0 : Int32)) = .int x) :
    MetFree l (⟨"java/lang/StringLatin1", "charAt", "([BI)C"⟩ : MethodName) (head1 (Jvm.Cond.code (⟨"java/lang/StringLatin1", "charAt", "([BI)C"⟩ : MethodName) jdk_43_method_2_code 2 (some .char) :: ws) ({ frames := 2, cells := 0, slots := 0, locals := 27 } : Room)) (fun a U => a = #[(.ref a0), (.int p1)] ∧ Z.Warmed39 U.vm ∧ U.heap = h0) (fun _ _ _ _ _ => True) (fun _ U o U' => ∃ v L, o = .returned v ∧ Qlc Z a0 p1 wc sx kb z vs x h0 n0 v U'.heap L ∧ FrameEnd U o U' L ({ frames := 2, cells := 0, slots := 0, locals := 27 } : Room).cells ({ frames := 2, cells := 0, slots := 0, locals := 27 } : Room).slots) := by
  refine MetFree.of_bodySF (plainFor_of_name pnlc) hisR ?_
  intro p e s m args below meth c s₁ Bd hml0 hP hK
  obtain ⟨rfl, hZ, hh⟩ := hP
  have hx := Bd.exec
  have hby := Bd.bytes
  have hml : c.maxLocals = 2 := hml0
  have hown : s.vm.findClass "java/lang/StringLatin1" = some m.cls := findClass_of_methodNamed Bd.named
  have hnm := (name_of_methodNamed Bd.named Bd.method).1
  have X0 : Stand p l e ({ frames := 2, cells := 0, slots := 0, locals := 27 } : Room) s m #[(.ref a0), (.int p1)] below meth c s₁ [] 0 0 := Stand.of_body Bd
  have e0 : s₁.heap = h0 := by rw [← hh, Bd.state]; rfl
  have N0 := Fr.nil n0
  show OwnEnd p e below s (fun v h L => Qlc Z a0 p1 wc sx kb z vs x h0 n0 v h L) ({ frames := 2, cells := 0, slots := 0, locals := 27 } : Room).cells ({ frames := 2, cells := 0, slots := 0, locals := 27 } : Room).slots (s₁.setTop (entryFrame m #[(.ref a0), (.int p1)] 2))
  rw [eflc m a0 p1]
  generalize hW : OwnEnd p e below s (fun v h L => Qlc Z a0 p1 wc sx kb z vs x h0 n0 v h L) ({ frames := 2, cells := 0, slots := 0, locals := 27 } : Room).cells ({ frames := 2, cells := 0, slots := 0, locals := 27 } : Room).slots = W
  have stp : ∀ {A B : State}, (∀ t, Steps p.tables e below B t → Steps p.tables e below A t) → W B → W A := by subst hW; exact own_step
  obtain ⟨S_cs, hcs, S_si, hr_sx, S_ad, S_hi, S_lo⟩ := id BW
  show W (s₁.setTop (mkF m 0 #[.val (.ref a0), .val (.int p1)] []))
  refine stp (fun t k => XS.iloadN X0.here hx rfl (hb hby dlc_0) rfl k) ?_
  show W (s₁.setTop (mkF m 1 #[.val (.ref a0), .val (.int p1)] [(.int p1)]))
  refine stp (fun t k => XS.aloadN X0.here hx rfl (hb hby dlc_1) rfl rfl k) ?_
  show W (s₁.setTop (mkF m 2 #[.val (.ref a0), .val (.int p1)] [(.ref a0), (.int p1)]))
  obtain ⟨cllc1, Arlc1, qklc1, qslc1, qnlc1, qhlc1, qglc1⟩ := id V_a0
  refine stp (fun t k => X0.arraylength hx (by rw [e0]; exact Arlc1.1) (State.isArrayOf_alike hZ.alike Arlc1.2.1) (g := (mkF m 2 #[.val (.ref a0), .val (.int p1)] [(.ref a0), (.int p1)])) rfl rfl (hb hby dlc_2) _ k) ?_
  rw [len_of qslc1 qnlc1]
  show W (s₁.setTop (mkF m 3 #[.val (.ref a0), .val (.int p1)] [(.int z), (.int p1)]))
  obtain ⟨_, _, ⟨Tlcc2, Llcc2, klcc2, nlcc2⟩, -, Xlcc2, ⟨Lclcc2, hQlcc2, llcc2, ylcc2, zlcc2⟩, stlcc2⟩ := Jvm.LawKit.callS X0 hx (y := (⟨"java/lang/String", "checkIndex", "(II)V"⟩ : MethodName)) hown (mvT hZ (hw _ (List.mem_of_getElem? (i := 111) rfl))) (mvT hZ (hw _ (List.mem_of_getElem? (i := 112) rfl))) (mvT hZ (hw _ (List.mem_of_getElem? (i := 6) rfl))) (mvT hZ (hw _ (List.mem_of_getElem? (i := 113) rfl))) (by decide) (backOf (W := 0) (rmsc l Z aa hw [] p1 z wc sx h0 n0 Z0 BW O0 hlo hhi) hZ (hw _ (List.mem_of_getElem? (i := 113) rfl)) (hw _ (List.mem_of_getElem? (i := 6) rfl)) (by decide) (by decide)) (g := (mkF m 3 #[.val (.ref a0), .val (.int p1)] [(.int z), (.int p1)])) rfl (by rw [hml]; rfl) (argsL := [(.int p1), (.int z)]) (rest := []) (lenOf pdlc_0 rfl) rfl (by show 2 * 0 + _ ≤ _; exact Nat.le_of_eq rfl) (hb hby dlc_3) (fun _ _ => ⟨rfl, e0, (by decide : 0 + 0 ≤ _), (by decide : 0 + 0 ≤ _)⟩)
  dsimp only [Pt.U, Pt.locs, Pt.cells, Pt.slots] at Xlcc2 llcc2 ylcc2 zlcc2 stlcc2 hQlcc2
  subst llcc2 ylcc2 zlcc2
  obtain ⟨rfl, Nlcc2q, elcc2⟩ := hQlcc2
  have Nlcc2 := Fr.app N0 Nlcc2q
  obtain ⟨lclct3, Xlcc2, Nlcc2⟩ : ∃ lc, Stand p l e ({ frames := 2, cells := 0, slots := 0, locals := 27 } : Room) s m #[(.ref a0), (.int p1)] below meth c Tlcc2 lc 0 0 ∧ Fr n0 lc := ⟨_, Xlcc2, Nlcc2⟩
  refine stp (fun t k => stlcc2 t k) ?_
  show W (Tlcc2.setTop (mkF m 6 #[.val (.ref a0), .val (.int p1)] []))
  refine stp (fun t k => XS.aloadN Xlcc2.here hx rfl (hb hby dlc_6) rfl rfl k) ?_
  show W (Tlcc2.setTop (mkF m 7 #[.val (.ref a0), .val (.int p1)] [(.ref a0)]))
  refine stp (fun t k => XS.iloadN Xlcc2.here hx rfl (hb hby dlc_7) rfl k) ?_
  show W (Tlcc2.setTop (mkF m 8 #[.val (.ref a0), .val (.int p1)] [(.int p1), (.ref a0)]))
  obtain ⟨cllc4, Arlc4, qklc4, qslc4, qnlc4, qhlc4, qglc4⟩ := id V_a0
  have hinlc4 : ¬ (p1 < 0 ∨ cllc4.slots.size ≤ (p1).toNatClampNeg) := inb_of qslc4 ⟨hlo, hhi⟩
  have hatlc4 : cllc4.slots[(p1).toNatClampNeg]? = some (.int x) := qhlc4.at hinlc4 hgx
  refine stp (fun t k => Xlcc2.baloadBytes hx (j := p1) (v := (.int x)) (by rw [elcc2]; exact Arlc4.1) (State.isArrayOf_alike hZ.alike Arlc4.2.1) Arlc4.2.2 hinlc4 hatlc4 (g := (mkF m 8 #[.val (.ref a0), .val (.int p1)] [(.int p1), (.ref a0)])) rfl rfl (hb hby dlc_8) _ k) ?_
  show W (Tlcc2.setTop (mkF m 9 #[.val (.ref a0), .val (.int p1)] [(.int x)]))
  refine stp (fun t k => XS.sipush Xlcc2.here hx rfl (hb hby dlc_9) k) ?_
  show W (Tlcc2.setTop (mkF m 12 #[.val (.ref a0), .val (.int p1)] [(.int (255 : Int32)), (.int x)]))
  refine stp (fun t k => XS.iand Xlcc2.here hx rfl (hb hby dlc_12) rfl k) ?_
  show W (Tlcc2.setTop (mkF m 13 #[.val (.ref a0), .val (.int p1)] [(.int (x &&& (255 : Int32)))]))
  refine stp (fun t k => XS.i2c Xlcc2.here hx rfl (hb hby dlc_13) rfl k) ?_
  show W (Tlcc2.setTop (mkF m 14 #[.val (.ref a0), .val (.int p1)] [(.int ((x &&& (255 : Int32)).toUInt32.toUInt16.toUInt32.toInt32))]))
  show W (Tlcc2.setTop (mkF m 14 #[.val (.ref a0), .val (.int p1)] [(.int ((x &&& (255 : Int32)).toUInt32.toUInt16.toUInt32.toInt32))]))
  rw [← hW]
  exact own_retN Xlcc2 hx Bd.notSynchronized Bd.returns (w := (nar .char ((x &&& (255 : Int32)).toUInt32.toUInt16.toUInt32.toInt32))) (by simp) (hb hby dlc_14) rfl (by show Qlc Z a0 p1 wc sx kb z vs x h0 n0 _ Tlcc2.heap _; rw [elcc2]; exact ⟨rfl, Nlcc2, rfl⟩) (by decide) (by decide)
theorem dil_0 : decode jdk_42_method_154_code 0 = .ok (.getstatic 38, 3) := by decide +kernel
theorem dil_3 : decode jdk_42_method_154_code 3 = .ok (.ifCond .eq 14, 3) := by decide +kernel
theorem dil_6 : decode jdk_42_method_154_code 6 = .ok (.aload_n 0, 1) := by decide +kernel
theorem dil_7 : decode jdk_42_method_154_code 7 = .ok (.getfield 15, 3) := by decide +kernel
theorem dil_10 : decode jdk_42_method_154_code 10 = .ok (.ifCond .ne 7, 3) := by decide +kernel
theorem dil_13 : decode jdk_42_method_154_code 13 = .ok (.iconst 1, 1) := by decide +kernel
theorem dil_14 : decode jdk_42_method_154_code 14 = .ok (.goto 4, 3) := by decide +kernel
theorem dil_17 : decode jdk_42_method_154_code 17 = .ok (.iconst 0, 1) := by decide +kernel
theorem dil_18 : decode jdk_42_method_154_code 18 = .ok (.ireturn, 1) := by decide +kernel
theorem pnil : plainName "java/lang/String" = true := by first | (simp [plainName, overriddenIn]; done) | decide +kernel
theorem efil (m : MethodId) (a0 : Addr) : entryFrame m #[(.ref a0)] 1 = mkF m 0 #[.val (.ref a0)] [] := by first | (simp [entryFrame, mkF, argsToLocals, Value.category]; done) | rfl
def fil (cd : Int32) : Int32 := (if cd = (0 : Int32) then (1 : Int32) else (0 : Int32))
def Qil (Z : State) (a0 : Addr) (wc : Int32) (sx : Value) (cd : Int32) (h0 : Heap) (n0 : Nat) (v : Option Value) (h : Heap) (L : List Loc) : Prop := v = some (.int (fil cd)) ∧ Fr n0 L ∧ h = h0
set_option maxRecDepth 65536 in
set_option maxHeartbeats 40000000 in
theorem rmil (l : Launch) (Z : State) (aa : Array Value) (hw : ∀ d ∈ tables_1, d.before aa Z = true) (ws : List Jvm.Cond) (a0 : Addr) (wc : Int32) (sx : Value) (cd : Int32) (h0 : Heap) (n0 : Nat) (Z0 : n0 ≤ h0.size) (BW : OwnW Z wc sx) (O0 : Old Z n0 h0) (F_coder_a0 : Fld Z h0 a0 "java/lang/String" "coder" "B" (.int cd)) :
    MetFree l (⟨"java/lang/String", "isLatin1", "()Z"⟩ : MethodName) (head1 (Jvm.Cond.code (⟨"java/lang/String", "isLatin1", "()Z"⟩ : MethodName) jdk_42_method_154_code 1 (some .boolean) :: ws) ({ frames := 0, cells := 0, slots := 0, locals := 0 } : Room)) (fun a U => a = #[(.ref a0)] ∧ Z.Warmed39 U.vm ∧ U.heap = h0) (fun _ _ _ _ _ => True) (fun _ U o U' => ∃ v L, o = .returned v ∧ Qil Z a0 wc sx cd h0 n0 v U'.heap L ∧ FrameEnd U o U' L ({ frames := 0, cells := 0, slots := 0, locals := 0 } : Room).cells ({ frames := 0, cells := 0, slots := 0, locals := 0 } : Room).slots) := by
  refine MetFree.of_bodySF (plainFor_of_name pnil) hisR ?_
  intro p e s m args below meth c s₁ Bd hml0 hP hK
  obtain ⟨rfl, hZ, hh⟩ := hP
  have hx := Bd.exec
  have hby := Bd.bytes
  have hml : c.maxLocals = 1 := hml0
  have hown : s.vm.findClass "java/lang/String" = some m.cls := findClass_of_methodNamed Bd.named
  have hnm := (name_of_methodNamed Bd.named Bd.method).1
  have X0 : Stand p l e ({ frames := 0, cells := 0, slots := 0, locals := 0 } : Room) s m #[(.ref a0)] below meth c s₁ [] 0 0 := Stand.of_body Bd
  have e0 : s₁.heap = h0 := by rw [← hh, Bd.state]; rfl
  have N0 := Fr.nil n0
  show OwnEnd p e below s (fun v h L => Qil Z a0 wc sx cd h0 n0 v h L) ({ frames := 0, cells := 0, slots := 0, locals := 0 } : Room).cells ({ frames := 0, cells := 0, slots := 0, locals := 0 } : Room).slots (s₁.setTop (entryFrame m #[(.ref a0)] 1))
  rw [efil m a0]
  generalize hW : OwnEnd p e below s (fun v h L => Qil Z a0 wc sx cd h0 n0 v h L) ({ frames := 0, cells := 0, slots := 0, locals := 0 } : Room).cells ({ frames := 0, cells := 0, slots := 0, locals := 0 } : Room).slots = W
  have stp : ∀ {A B : State}, (∀ t, Steps p.tables e below B t → Steps p.tables e below A t) → W B → W A := by subst hW; exact own_step
  obtain ⟨S_cs, hcs, S_si, hr_sx, S_ad, S_hi, S_lo⟩ := id BW
  show W (s₁.setTop (mkF m 0 #[.val (.ref a0)] []))
  obtain ⟨Til1, Xil1, eil1, stil1⟩ := getS2 X0 hx hZ hown (host := "") (Or.inl (hw _ (List.mem_of_getElem? (i := 43) rfl))) Via.refl e0 (S_cs.ext O0.2) (g := (mkF m 0 #[.val (.ref a0)] [])) rfl (hb hby dil_0)
  refine stp (fun t k => stil1 t k) ?_
  show W (Til1.setTop (mkF m 3 #[.val (.ref a0)] [(.int wc)]))
  refine stp (fun t k => XS.ifNo Xil1.here hx rfl (hb hby dil_3) rfl ((if0 _ _).trans (feq (hcs)).1) k) ?_
  show W (Til1.setTop (mkF m 6 #[.val (.ref a0)] []))
  refine stp (fun t k => XS.aloadN Xil1.here hx rfl (hb hby dil_6) rfl rfl k) ?_
  show W (Til1.setTop (mkF m 7 #[.val (.ref a0)] [(.ref a0)]))
  obtain ⟨Til2, Xil2, eil2, stil2⟩ := getF Xil1 hx hZ hown (host := "") (Or.inl (hw _ (List.mem_of_getElem? (i := 25) rfl))) Via.refl eil1 F_coder_a0 (g := (mkF m 7 #[.val (.ref a0)] [(.ref a0)])) rfl rfl (hb hby dil_7)
  refine stp (fun t k => stil2 t k) ?_
  show W (Til2.setTop (mkF m 10 #[.val (.ref a0)] [(.int cd)]))
  by_cases hcil_3 : cd = (0 : Int32)
  · refine stp (fun t k => XS.ifNo Xil2.here hx rfl (hb hby dil_10) rfl ((if0 _ _).trans (teq hcil_3).2) k) ?_
    show W (Til2.setTop (mkF m 13 #[.val (.ref a0)] []))
    refine stp (fun t k => XS.iconst Xil2.here hx rfl (hb hby dil_13) k) ?_
    show W (Til2.setTop (mkF m 14 #[.val (.ref a0)] [(.int (1 : Int32))]))
    refine stp (fun t k => XS.goto Xil2.here hx rfl (pc0 := 14) (pc' := 18) rfl (hb hby dil_14) (by decide) (by decide) k) ?_
    show W (Til2.setTop (mkF m 18 #[.val (.ref a0)] [(.int (1 : Int32))]))
    show W (Til2.setTop (mkF m 18 #[.val (.ref a0)] [(.int (1 : Int32))]))
    rw [← hW]
    exact own_retN Xil2 hx Bd.notSynchronized Bd.returns (w := (1 : Int32)) (by simp) (hb hby dil_18) rfl (by show Qil Z a0 wc sx cd h0 n0 _ Til2.heap _; rw [eil2]; exact ⟨(by rw [fil, if_pos hcil_3]), N0, rfl⟩) (by decide) (by decide)
  · refine stp (fun t k => XS.ifYes Xil2.here hx rfl (pc0 := 10) (pc' := 17) rfl (hb hby dil_10) rfl ((if0 _ _).trans (feq hcil_3).2) (by decide) (by decide) k) ?_
    show W (Til2.setTop (mkF m 17 #[.val (.ref a0)] []))
    refine stp (fun t k => XS.iconst Xil2.here hx rfl (hb hby dil_17) k) ?_
    show W (Til2.setTop (mkF m 18 #[.val (.ref a0)] [(.int (0 : Int32))]))
    show W (Til2.setTop (mkF m 18 #[.val (.ref a0)] [(.int (0 : Int32))]))
    rw [← hW]
    exact own_retN Xil2 hx Bd.notSynchronized Bd.returns (w := (0 : Int32)) (by simp) (hb hby dil_18) rfl (by show Qil Z a0 wc sx cd h0 n0 _ Til2.heap _; rw [eil2]; exact ⟨(by rw [fil, if_neg hcil_3]), N0, rfl⟩) (by decide) (by decide)
theorem dco_0 : decode jdk_42_method_152_code 0 = .ok (.getstatic 38, 3) := by decide +kernel
theorem dco_3 : decode jdk_42_method_152_code 3 = .ok (.ifCond .eq 10, 3) := by decide +kernel
theorem dco_6 : decode jdk_42_method_152_code 6 = .ok (.aload_n 0, 1) := by decide +kernel
theorem dco_7 : decode jdk_42_method_152_code 7 = .ok (.getfield 15, 3) := by decide +kernel
theorem dco_10 : decode jdk_42_method_152_code 10 = .ok (.goto 4, 3) := by decide +kernel
theorem dco_14 : decode jdk_42_method_152_code 14 = .ok (.ireturn, 1) := by decide +kernel
theorem pnco : plainName "java/lang/String" = true := by first | (simp [plainName, overriddenIn]; done) | decide +kernel
theorem efco (m : MethodId) (a0 : Addr) : entryFrame m #[(.ref a0)] 1 = mkF m 0 #[.val (.ref a0)] [] := by first | (simp [entryFrame, mkF, argsToLocals, Value.category]; done) | rfl
def fco (cd : Int32) : Int32 := (nar .byte cd)
def Qco (Z : State) (a0 : Addr) (wc : Int32) (sx : Value) (cd : Int32) (h0 : Heap) (n0 : Nat) (v : Option Value) (h : Heap) (L : List Loc) : Prop := v = some (.int (fco cd)) ∧ Fr n0 L ∧ h = h0
set_option maxRecDepth 65536 in
set_option maxHeartbeats 40000000 in
theorem rmco (l : Launch) (Z : State) (aa : Array Value) (hw : ∀ d ∈ tables_1, d.before aa Z = true) (ws : List Jvm.Cond) (a0 : Addr) (wc : Int32) (sx : Value) (cd : Int32) (h0 : Heap) (n0 : Nat) (Z0 : n0 ≤ h0.size) (BW : OwnW Z wc sx) (O0 : Old Z n0 h0) (F_coder_a0 : Fld Z h0 a0 "java/lang/String" "coder" "B" (.int cd)) :
    MetFree l (⟨"java/lang/String", "coder", "()B"⟩ : MethodName) (head1 (Jvm.Cond.code (⟨"java/lang/String", "coder", "()B"⟩ : MethodName) jdk_42_method_152_code 1 (some .byte) :: ws) ({ frames := 0, cells := 0, slots := 0, locals := 0 } : Room)) (fun a U => a = #[(.ref a0)] ∧ Z.Warmed39 U.vm ∧ U.heap = h0) (fun _ _ _ _ _ => True) (fun _ U o U' => ∃ v L, o = .returned v ∧ Qco Z a0 wc sx cd h0 n0 v U'.heap L ∧ FrameEnd U o U' L ({ frames := 0, cells := 0, slots := 0, locals := 0 } : Room).cells ({ frames := 0, cells := 0, slots := 0, locals := 0 } : Room).slots) := by
  refine MetFree.of_bodySF (plainFor_of_name pnco) hisR ?_
  intro p e s m args below meth c s₁ Bd hml0 hP hK
  obtain ⟨rfl, hZ, hh⟩ := hP
  have hx := Bd.exec
  have hby := Bd.bytes
  have hml : c.maxLocals = 1 := hml0
  have hown : s.vm.findClass "java/lang/String" = some m.cls := findClass_of_methodNamed Bd.named
  have hnm := (name_of_methodNamed Bd.named Bd.method).1
  have X0 : Stand p l e ({ frames := 0, cells := 0, slots := 0, locals := 0 } : Room) s m #[(.ref a0)] below meth c s₁ [] 0 0 := Stand.of_body Bd
  have e0 : s₁.heap = h0 := by rw [← hh, Bd.state]; rfl
  have N0 := Fr.nil n0
  show OwnEnd p e below s (fun v h L => Qco Z a0 wc sx cd h0 n0 v h L) ({ frames := 0, cells := 0, slots := 0, locals := 0 } : Room).cells ({ frames := 0, cells := 0, slots := 0, locals := 0 } : Room).slots (s₁.setTop (entryFrame m #[(.ref a0)] 1))
  rw [efco m a0]
  generalize hW : OwnEnd p e below s (fun v h L => Qco Z a0 wc sx cd h0 n0 v h L) ({ frames := 0, cells := 0, slots := 0, locals := 0 } : Room).cells ({ frames := 0, cells := 0, slots := 0, locals := 0 } : Room).slots = W
  have stp : ∀ {A B : State}, (∀ t, Steps p.tables e below B t → Steps p.tables e below A t) → W B → W A := by subst hW; exact own_step
  obtain ⟨S_cs, hcs, S_si, hr_sx, S_ad, S_hi, S_lo⟩ := id BW
  show W (s₁.setTop (mkF m 0 #[.val (.ref a0)] []))
  obtain ⟨Tco1, Xco1, eco1, stco1⟩ := getS2 X0 hx hZ hown (host := "") (Or.inl (hw _ (List.mem_of_getElem? (i := 43) rfl))) Via.refl e0 (S_cs.ext O0.2) (g := (mkF m 0 #[.val (.ref a0)] [])) rfl (hb hby dco_0)
  refine stp (fun t k => stco1 t k) ?_
  show W (Tco1.setTop (mkF m 3 #[.val (.ref a0)] [(.int wc)]))
  refine stp (fun t k => XS.ifNo Xco1.here hx rfl (hb hby dco_3) rfl ((if0 _ _).trans (feq (hcs)).1) k) ?_
  show W (Tco1.setTop (mkF m 6 #[.val (.ref a0)] []))
  refine stp (fun t k => XS.aloadN Xco1.here hx rfl (hb hby dco_6) rfl rfl k) ?_
  show W (Tco1.setTop (mkF m 7 #[.val (.ref a0)] [(.ref a0)]))
  obtain ⟨Tco2, Xco2, eco2, stco2⟩ := getF Xco1 hx hZ hown (host := "") (Or.inl (hw _ (List.mem_of_getElem? (i := 25) rfl))) Via.refl eco1 F_coder_a0 (g := (mkF m 7 #[.val (.ref a0)] [(.ref a0)])) rfl rfl (hb hby dco_7)
  refine stp (fun t k => stco2 t k) ?_
  show W (Tco2.setTop (mkF m 10 #[.val (.ref a0)] [(.int cd)]))
  refine stp (fun t k => XS.goto Xco2.here hx rfl (pc0 := 10) (pc' := 14) rfl (hb hby dco_10) (by decide) (by decide) k) ?_
  show W (Tco2.setTop (mkF m 14 #[.val (.ref a0)] [(.int cd)]))
  show W (Tco2.setTop (mkF m 14 #[.val (.ref a0)] [(.int cd)]))
  rw [← hW]
  exact own_retN Xco2 hx Bd.notSynchronized Bd.returns (w := (nar .byte cd)) (by simp) (hb hby dco_14) rfl (by show Qco Z a0 wc sx cd h0 n0 _ Tco2.heap _; rw [eco2]; exact ⟨rfl, N0, rfl⟩) (by decide) (by decide)
theorem dul_0 : decode jdk_52_method_6_code 0 = .ok (.aload_n 0, 1) := by decide +kernel
theorem dul_1 : decode jdk_52_method_6_code 1 = .ok (.arraylength, 1) := by decide +kernel
theorem dul_2 : decode jdk_52_method_6_code 2 = .ok (.iconst 1, 1) := by decide +kernel
theorem dul_3 : decode jdk_52_method_6_code 3 = .ok (.ishr, 1) := by decide +kernel
theorem dul_4 : decode jdk_52_method_6_code 4 = .ok (.ireturn, 1) := by decide +kernel
theorem pnul : plainName "java/lang/StringUTF16" = true := by first | (simp [plainName, overriddenIn]; done) | decide +kernel
theorem eful (m : MethodId) (a0 : Addr) : entryFrame m #[(.ref a0)] 1 = mkF m 0 #[.val (.ref a0)] [] := by first | (simp [entryFrame, mkF, argsToLocals, Value.category]; done) | rfl
def ful (z : Int32) : Int32 := (z >>> ((1 : Int32) &&& 31))
def Qul (Z : State) (a0 : Addr) (wc : Int32) (sx : Value) (kb : ClassId) (z : Int32) (vs : List Value) (h0 : Heap) (n0 : Nat) (v : Option Value) (h : Heap) (L : List Loc) : Prop := v = some (.int (ful z)) ∧ Fr n0 L ∧ h = h0
set_option maxRecDepth 65536 in
set_option maxHeartbeats 40000000 in
theorem rmul (l : Launch) (Z : State) (aa : Array Value) (hw : ∀ d ∈ tables_1, d.before aa Z = true) (ws : List Jvm.Cond) (a0 : Addr) (wc : Int32) (sx : Value) (kb : ClassId) (z : Int32) (vs : List Value) (h0 : Heap) (n0 : Nat) (Z0 : n0 ≤ h0.size) (BW : OwnW Z wc sx) (O0 : Old Z n0 h0) (V_a0 : Arv Z h0 a0 kb .byte z vs (.int (0 : Int32))) :
    MetFree l (⟨"java/lang/StringUTF16", "length", "([B)I"⟩ : MethodName) (head1 (Jvm.Cond.code (⟨"java/lang/StringUTF16", "length", "([B)I"⟩ : MethodName) jdk_52_method_6_code 1 (some .int) :: ws) ({ frames := 0, cells := 0, slots := 0, locals := 0 } : Room)) (fun a U => a = #[(.ref a0)] ∧ Z.Warmed39 U.vm ∧ U.heap = h0) (fun _ _ _ _ _ => True) (fun _ U o U' => ∃ v L, o = .returned v ∧ Qul Z a0 wc sx kb z vs h0 n0 v U'.heap L ∧ FrameEnd U o U' L ({ frames := 0, cells := 0, slots := 0, locals := 0 } : Room).cells ({ frames := 0, cells := 0, slots := 0, locals := 0 } : Room).slots) := by
  refine MetFree.of_bodySF (plainFor_of_name pnul) hisR ?_
  intro p e s m args below meth c s₁ Bd hml0 hP hK
  obtain ⟨rfl, hZ, hh⟩ := hP
  have hx := Bd.exec
  have hby := Bd.bytes
  have hml : c.maxLocals = 1 := hml0
  have hown : s.vm.findClass "java/lang/StringUTF16" = some m.cls := findClass_of_methodNamed Bd.named
  have hnm := (name_of_methodNamed Bd.named Bd.method).1
  have X0 : Stand p l e ({ frames := 0, cells := 0, slots := 0, locals := 0 } : Room) s m #[(.ref a0)] below meth c s₁ [] 0 0 := Stand.of_body Bd
  have e0 : s₁.heap = h0 := by rw [← hh, Bd.state]; rfl
  have N0 := Fr.nil n0
  show OwnEnd p e below s (fun v h L => Qul Z a0 wc sx kb z vs h0 n0 v h L) ({ frames := 0, cells := 0, slots := 0, locals := 0 } : Room).cells ({ frames := 0, cells := 0, slots := 0, locals := 0 } : Room).slots (s₁.setTop (entryFrame m #[(.ref a0)] 1))
  rw [eful m a0]
  generalize hW : OwnEnd p e below s (fun v h L => Qul Z a0 wc sx kb z vs h0 n0 v h L) ({ frames := 0, cells := 0, slots := 0, locals := 0 } : Room).cells ({ frames := 0, cells := 0, slots := 0, locals := 0 } : Room).slots = W
  have stp : ∀ {A B : State}, (∀ t, Steps p.tables e below B t → Steps p.tables e below A t) → W B → W A := by subst hW; exact own_step
  obtain ⟨S_cs, hcs, S_si, hr_sx, S_ad, S_hi, S_lo⟩ := id BW
  show W (s₁.setTop (mkF m 0 #[.val (.ref a0)] []))
  refine stp (fun t k => XS.aloadN X0.here hx rfl (hb hby dul_0) rfl rfl k) ?_
  show W (s₁.setTop (mkF m 1 #[.val (.ref a0)] [(.ref a0)]))
  obtain ⟨clul1, Arul1, qkul1, qsul1, qnul1, qhul1, qgul1⟩ := id V_a0
  refine stp (fun t k => X0.arraylength hx (by rw [e0]; exact Arul1.1) (State.isArrayOf_alike hZ.alike Arul1.2.1) (g := (mkF m 1 #[.val (.ref a0)] [(.ref a0)])) rfl rfl (hb hby dul_1) _ k) ?_
  rw [len_of qsul1 qnul1]
  show W (s₁.setTop (mkF m 2 #[.val (.ref a0)] [(.int z)]))
  refine stp (fun t k => XS.iconst X0.here hx rfl (hb hby dul_2) k) ?_
  show W (s₁.setTop (mkF m 3 #[.val (.ref a0)] [(.int (1 : Int32)), (.int z)]))
  refine stp (fun t k => XS.ishr X0.here hx rfl (hb hby dul_3) rfl k) ?_
  show W (s₁.setTop (mkF m 4 #[.val (.ref a0)] [(.int (z >>> ((1 : Int32) &&& 31)))]))
  show W (s₁.setTop (mkF m 4 #[.val (.ref a0)] [(.int (z >>> ((1 : Int32) &&& 31)))]))
  rw [← hW]
  exact own_retI X0 hx Bd.notSynchronized Bd.returns (hb hby dul_4) (by show Qul Z a0 wc sx kb z vs h0 n0 _ s₁.heap _; rw [e0]; exact ⟨rfl, N0, rfl⟩) (by decide) (by decide)
theorem duc_0 : decode jdk_52_method_91_code 0 = .ok (.iload_n 0, 1) := by decide +kernel
theorem duc_1 : decode jdk_52_method_91_code 1 = .ok (.aload_n 1, 1) := by decide +kernel
theorem duc_2 : decode jdk_52_method_91_code 2 = .ok (.invokestatic 48, 3) := by decide +kernel
theorem duc_5 : decode jdk_52_method_91_code 5 = .ok (.invokestatic 414, 3) := by decide +kernel
theorem duc_8 : decode jdk_52_method_91_code 8 = .ok (.return_, 1) := by decide +kernel
theorem pnuc : plainName "java/lang/StringUTF16" = true := by first | (simp [plainName, overriddenIn]; done) | decide +kernel
theorem pduc_0 : parseMethodDescriptor "([B)I" = some ⟨[(.array .byte)], some .int⟩ := by decide +kernel
theorem pduc_1 : parseMethodDescriptor "(II)V" = some ⟨[.int, .int], none⟩ := by decide +kernel
theorem efuc (m : MethodId) (p0 : Int32) (a1 : Addr) : entryFrame m #[(.int p0), (.ref a1)] 2 = mkF m 0 #[.val (.int p0), .val (.ref a1)] [] := by first | (simp [entryFrame, mkF, argsToLocals, Value.category]; done) | rfl
def Quc (Z : State) (p0 : Int32) (a1 : Addr) (wc : Int32) (sx : Value) (kb : ClassId) (z : Int32) (vs : List Value) (h0 : Heap) (n0 : Nat) (v : Option Value) (h : Heap) (L : List Loc) : Prop := v = none ∧ Fr n0 L ∧ h = h0
set_option maxRecDepth 65536 in
set_option maxHeartbeats 40000000 in
theorem rmuc (l : Launch) (Z : State) (aa : Array Value) (hw : ∀ d ∈ tables_1, d.before aa Z = true) (ws : List Jvm.Cond) (p0 : Int32) (a1 : Addr) (wc : Int32) (sx : Value) (kb : ClassId) (z : Int32) (vs : List Value) (h0 : Heap) (n0 : Nat) (Z0 : n0 ≤ h0.size) (BW : OwnW Z wc sx) (O0 : Old Z n0 h0) (V_a1 : Arv Z h0 a1 kb .byte z vs (.int (0 : Int32))) (hlo : ¬ p0 < (0 : Int32)) (hhi : p0 < (ful z)) :
    MetFree l (⟨"java/lang/StringUTF16", "checkIndex", "(I[B)V"⟩ : MethodName) (head1 (Jvm.Cond.code (⟨"java/lang/StringUTF16", "checkIndex", "(I[B)V"⟩ : MethodName) jdk_52_method_91_code 2 none :: ws) ({ frames := 2, cells := 0, slots := 0, locals := 27 } : Room)) (fun a U => a = #[(.int p0), (.ref a1)] ∧ Z.Warmed39 U.vm ∧ U.heap = h0) (fun _ _ _ _ _ => True) (fun _ U o U' => ∃ v L, o = .returned v ∧ Quc Z p0 a1 wc sx kb z vs h0 n0 v U'.heap L ∧ FrameEnd U o U' L ({ frames := 2, cells := 0, slots := 0, locals := 27 } : Room).cells ({ frames := 2, cells := 0, slots := 0, locals := 27 } : Room).slots) := by
  refine MetFree.of_bodySF (plainFor_of_name pnuc) hisR ?_
  intro p e s m args below meth c s₁ Bd hml0 hP hK
  obtain ⟨rfl, hZ, hh⟩ := hP
  have hx := Bd.exec
  have hby := Bd.bytes
  have hml : c.maxLocals = 2 := hml0
  have hown : s.vm.findClass "java/lang/StringUTF16" = some m.cls := findClass_of_methodNamed Bd.named
  have hnm := (name_of_methodNamed Bd.named Bd.method).1
  have X0 : Stand p l e ({ frames := 2, cells := 0, slots := 0, locals := 27 } : Room) s m #[(.int p0), (.ref a1)] below meth c s₁ [] 0 0 := Stand.of_body Bd
  have e0 : s₁.heap = h0 := by rw [← hh, Bd.state]; rfl
  have N0 := Fr.nil n0
  show OwnEnd p e below s (fun v h L => Quc Z p0 a1 wc sx kb z vs h0 n0 v h L) ({ frames := 2, cells := 0, slots := 0, locals := 27 } : Room).cells ({ frames := 2, cells := 0, slots := 0, locals := 27 } : Room).slots (s₁.setTop (entryFrame m #[(.int p0), (.ref a1)] 2))
  rw [efuc m p0 a1]
  generalize hW : OwnEnd p e below s (fun v h L => Quc Z p0 a1 wc sx kb z vs h0 n0 v h L) ({ frames := 2, cells := 0, slots := 0, locals := 27 } : Room).cells ({ frames := 2, cells := 0, slots := 0, locals := 27 } : Room).slots = W
  have stp : ∀ {A B : State}, (∀ t, Steps p.tables e below B t → Steps p.tables e below A t) → W B → W A := by subst hW; exact own_step
  obtain ⟨S_cs, hcs, S_si, hr_sx, S_ad, S_hi, S_lo⟩ := id BW
  show W (s₁.setTop (mkF m 0 #[.val (.int p0), .val (.ref a1)] []))
  refine stp (fun t k => XS.iloadN X0.here hx rfl (hb hby duc_0) rfl k) ?_
  show W (s₁.setTop (mkF m 1 #[.val (.int p0), .val (.ref a1)] [(.int p0)]))
  refine stp (fun t k => XS.aloadN X0.here hx rfl (hb hby duc_1) rfl rfl k) ?_
  show W (s₁.setTop (mkF m 2 #[.val (.int p0), .val (.ref a1)] [(.ref a1), (.int p0)]))
  obtain ⟨_, _, ⟨Tucc1, Lucc1, kucc1, nucc1⟩, -, Xucc1, ⟨Lcucc1, hQucc1, lucc1, yucc1, zucc1⟩, stucc1⟩ := Jvm.LawKit.callS X0 hx (y := (⟨"java/lang/StringUTF16", "length", "([B)I"⟩ : MethodName)) hown (mvT hZ (hw _ (List.mem_of_getElem? (i := 134) rfl))) (mvT hZ (hw _ (List.mem_of_getElem? (i := 135) rfl))) (mvT hZ (hw _ (List.mem_of_getElem? (i := 64) rfl))) (mvT hZ (hw _ (List.mem_of_getElem? (i := 136) rfl))) (by decide) (backOf (W := 1) (rmul l Z aa hw [] a1 wc sx kb z vs h0 n0 Z0 BW O0 V_a1) hZ (hw _ (List.mem_of_getElem? (i := 136) rfl)) (hw _ (List.mem_of_getElem? (i := 64) rfl)) (by decide) (by decide)) (g := (mkF m 2 #[.val (.int p0), .val (.ref a1)] [(.ref a1), (.int p0)])) rfl (by rw [hml]; rfl) (argsL := [(.ref a1)]) (rest := [(.int p0)]) (lenOf pduc_0 rfl) rfl (by show 2 * 0 + _ ≤ _; exact Nat.le_of_eq rfl) (hb hby duc_2) (fun _ _ => ⟨rfl, e0, (by decide : 0 + 0 ≤ _), (by decide : 0 + 0 ≤ _)⟩)
  dsimp only [Pt.U, Pt.locs, Pt.cells, Pt.slots] at Xucc1 lucc1 yucc1 zucc1 stucc1 hQucc1
  subst lucc1 yucc1 zucc1
  obtain ⟨rfl, Nucc1q, eucc1⟩ := hQucc1
  have Nucc1 := Fr.app N0 Nucc1q
  obtain ⟨lcuct2, Xucc1, Nucc1⟩ : ∃ lc, Stand p l e ({ frames := 2, cells := 0, slots := 0, locals := 27 } : Room) s m #[(.int p0), (.ref a1)] below meth c Tucc1 lc 0 0 ∧ Fr n0 lc := ⟨_, Xucc1, Nucc1⟩
  refine stp (fun t k => stucc1 t k) ?_
  show W (Tucc1.setTop (mkF m 5 #[.val (.int p0), .val (.ref a1)] [(.int (ful z)), (.int p0)]))
  obtain ⟨_, _, ⟨Tucc3, Lucc3, kucc3, nucc3⟩, -, Xucc3, ⟨Lcucc3, hQucc3, lucc3, yucc3, zucc3⟩, stucc3⟩ := Jvm.LawKit.callS Xucc1 hx (y := (⟨"java/lang/String", "checkIndex", "(II)V"⟩ : MethodName)) hown (mvT hZ (hw _ (List.mem_of_getElem? (i := 137) rfl))) (mvT hZ (hw _ (List.mem_of_getElem? (i := 112) rfl))) (mvT hZ (hw _ (List.mem_of_getElem? (i := 6) rfl))) (mvT hZ (hw _ (List.mem_of_getElem? (i := 113) rfl))) (by decide) (backOf (W := 0) (rmsc l Z aa hw [] p0 (ful z) wc sx h0 n0 Z0 BW O0 hlo hhi) hZ (hw _ (List.mem_of_getElem? (i := 113) rfl)) (hw _ (List.mem_of_getElem? (i := 6) rfl)) (by decide) (by decide)) (g := (mkF m 5 #[.val (.int p0), .val (.ref a1)] [(.int (ful z)), (.int p0)])) rfl (by rw [hml]; rfl) (argsL := [(.int p0), (.int (ful z))]) (rest := []) (lenOf pduc_1 rfl) rfl (by show 2 * 0 + _ ≤ _; exact Nat.le_of_eq rfl) (hb hby duc_5) (fun _ _ => ⟨rfl, eucc1, (by decide : 0 + 0 ≤ _), (by decide : 0 + 0 ≤ _)⟩)
  dsimp only [Pt.U, Pt.locs, Pt.cells, Pt.slots] at Xucc3 lucc3 yucc3 zucc3 stucc3 hQucc3
  subst lucc3 yucc3 zucc3
  obtain ⟨rfl, Nucc3q, eucc3⟩ := hQucc3
  have Nucc3 := Fr.app Nucc1 Nucc3q
  obtain ⟨lcuct4, Xucc3, Nucc3⟩ : ∃ lc, Stand p l e ({ frames := 2, cells := 0, slots := 0, locals := 27 } : Room) s m #[(.int p0), (.ref a1)] below meth c Tucc3 lc 0 0 ∧ Fr n0 lc := ⟨_, Xucc3, Nucc3⟩
  refine stp (fun t k => stucc3 t k) ?_
  show W (Tucc3.setTop (mkF m 8 #[.val (.int p0), .val (.ref a1)] []))
  show W (Tucc3.setTop (mkF m 8 #[.val (.int p0), .val (.ref a1)] []))
  rw [← hW]
  exact own_ret0 Xucc3 hx Bd.notSynchronized Bd.returns (hb hby duc_8) (by show Quc Z p0 a1 wc sx kb z vs h0 n0 _ Tucc3.heap _; rw [eucc3]; exact ⟨rfl, Nucc3, rfl⟩) (by decide) (by decide)
theorem dgc_0 : decode jdk_52_method_5_code 0 = .ok (.getstatic 44, 3) := by decide +kernel
theorem dgc_3 : decode jdk_52_method_5_code 3 = .ok (.ifCond .ne 25, 3) := by decide +kernel
theorem dgc_28 : decode jdk_52_method_5_code 28 = .ok (.iload_n 1, 1) := by decide +kernel
theorem dgc_29 : decode jdk_52_method_5_code 29 = .ok (.iconst 1, 1) := by decide +kernel
theorem dgc_30 : decode jdk_52_method_5_code 30 = .ok (.ishl, 1) := by decide +kernel
theorem dgc_31 : decode jdk_52_method_5_code 31 = .ok (.istore_n 1, 1) := by decide +kernel
theorem dgc_32 : decode jdk_52_method_5_code 32 = .ok (.aload_n 0, 1) := by decide +kernel
theorem dgc_33 : decode jdk_52_method_5_code 33 = .ok (.iload_n 1, 1) := by decide +kernel
theorem dgc_34 : decode jdk_52_method_5_code 34 = .ok (.iinc 1 1, 3) := by decide +kernel
theorem dgc_37 : decode jdk_52_method_5_code 37 = .ok (.baload, 1) := by decide +kernel
theorem dgc_38 : decode jdk_52_method_5_code 38 = .ok (.sipush 255, 3) := by decide +kernel
theorem dgc_41 : decode jdk_52_method_5_code 41 = .ok (.iand, 1) := by decide +kernel
theorem dgc_42 : decode jdk_52_method_5_code 42 = .ok (.getstatic 59, 3) := by decide +kernel
theorem dgc_45 : decode jdk_52_method_5_code 45 = .ok (.ishl, 1) := by decide +kernel
theorem dgc_46 : decode jdk_52_method_5_code 46 = .ok (.aload_n 0, 1) := by decide +kernel
theorem dgc_47 : decode jdk_52_method_5_code 47 = .ok (.iload_n 1, 1) := by decide +kernel
theorem dgc_48 : decode jdk_52_method_5_code 48 = .ok (.baload, 1) := by decide +kernel
theorem dgc_49 : decode jdk_52_method_5_code 49 = .ok (.sipush 255, 3) := by decide +kernel
theorem dgc_52 : decode jdk_52_method_5_code 52 = .ok (.iand, 1) := by decide +kernel
theorem dgc_53 : decode jdk_52_method_5_code 53 = .ok (.getstatic 63, 3) := by decide +kernel
theorem dgc_56 : decode jdk_52_method_5_code 56 = .ok (.ishl, 1) := by decide +kernel
theorem dgc_57 : decode jdk_52_method_5_code 57 = .ok (.ior, 1) := by decide +kernel
theorem dgc_58 : decode jdk_52_method_5_code 58 = .ok (.i2c, 1) := by decide +kernel
theorem dgc_59 : decode jdk_52_method_5_code 59 = .ok (.ireturn, 1) := by decide +kernel
theorem pngc : plainName "java/lang/StringUTF16" = true := by first | (simp [plainName, overriddenIn]; done) | decide +kernel
theorem efgc (m : MethodId) (a0 : Addr) (p1 : Int32) : entryFrame m #[(.ref a0), (.int p1)] 2 = mkF m 0 #[.val (.ref a0), .val (.int p1)] [] := by first | (simp [entryFrame, mkF, argsToLocals, Value.category]; done) | rfl
def fgc (x : Int32) (y : Int32) : Int32 := (nar .char ((((x &&& (255 : Int32)) <<< ((0 : Int32) &&& 31)) ||| ((y &&& (255 : Int32)) <<< ((8 : Int32) &&& 31))).toUInt32.toUInt16.toUInt32.toInt32))
def Qgc (Z : State) (a0 : Addr) (p1 : Int32) (wc : Int32) (sx : Value) (kb : ClassId) (z : Int32) (vs : List Value) (x : Int32) (y : Int32) (h0 : Heap) (n0 : Nat) (v : Option Value) (h : Heap) (L : List Loc) : Prop := v = some (.int (fgc x y)) ∧ Fr n0 L ∧ h = h0
set_option maxRecDepth 65536 in
set_option maxHeartbeats 40000000 in
theorem rmgc (l : Launch) (Z : State) (aa : Array Value) (hw : ∀ d ∈ tables_1, d.before aa Z = true) (ws : List Jvm.Cond) (a0 : Addr) (p1 : Int32) (wc : Int32) (sx : Value) (kb : ClassId) (z : Int32) (vs : List Value) (x : Int32) (y : Int32) (h0 : Heap) (n0 : Nat) (Z0 : n0 ≤ h0.size) (BW : OwnW Z wc sx) (O0 : Old Z n0 h0) (V_a0 : Arv Z h0 a0 kb .byte z vs (.int (0 : Int32))) (hi0 : ¬ (p1 <<< ((1 : Int32) &&& 31)) < 0 ∧ (p1 <<< ((1 : Int32) &&& 31)) < z) (hi1 : ¬ ((p1 <<< ((1 : Int32) &&& 31)) + (1 : Int32)) < 0 ∧ ((p1 <<< ((1 : Int32) &&& 31)) + (1 : Int32)) < z) (hg0 : vs.getD (p1 <<< ((1 : Int32) &&& 31)).toNatClampNeg (.int (0 : Int32)) = .int x) (hg1 : vs.getD ((p1 <<< ((1 : Int32) &&& 31)) + (1 : Int32)).toNatClampNeg (.int (0 : Int32)) = .int y) :
    MetFree l (⟨"java/lang/StringUTF16", "getChar", "([BI)C"⟩ : MethodName) (head1 (Jvm.Cond.code (⟨"java/lang/StringUTF16", "getChar", "([BI)C"⟩ : MethodName) jdk_52_method_5_code 2 (some .char) :: ws) ({ frames := 0, cells := 0, slots := 0, locals := 0 } : Room)) (fun a U => a = #[(.ref a0), (.int p1)] ∧ Z.Warmed39 U.vm ∧ U.heap = h0) (fun _ _ _ _ _ => True) (fun _ U o U' => ∃ v L, o = .returned v ∧ Qgc Z a0 p1 wc sx kb z vs x y h0 n0 v U'.heap L ∧ FrameEnd U o U' L ({ frames := 0, cells := 0, slots := 0, locals := 0 } : Room).cells ({ frames := 0, cells := 0, slots := 0, locals := 0 } : Room).slots) := by
  refine MetFree.of_bodySF (plainFor_of_name pngc) hisR ?_
  intro p e s m args below meth c s₁ Bd hml0 hP hK
  obtain ⟨rfl, hZ, hh⟩ := hP
  have hx := Bd.exec
  have hby := Bd.bytes
  have hml : c.maxLocals = 2 := hml0
  have hown : s.vm.findClass "java/lang/StringUTF16" = some m.cls := findClass_of_methodNamed Bd.named
  have hnm := (name_of_methodNamed Bd.named Bd.method).1
  have X0 : Stand p l e ({ frames := 0, cells := 0, slots := 0, locals := 0 } : Room) s m #[(.ref a0), (.int p1)] below meth c s₁ [] 0 0 := Stand.of_body Bd
  have e0 : s₁.heap = h0 := by rw [← hh, Bd.state]; rfl
  have N0 := Fr.nil n0
  show OwnEnd p e below s (fun v h L => Qgc Z a0 p1 wc sx kb z vs x y h0 n0 v h L) ({ frames := 0, cells := 0, slots := 0, locals := 0 } : Room).cells ({ frames := 0, cells := 0, slots := 0, locals := 0 } : Room).slots (s₁.setTop (entryFrame m #[(.ref a0), (.int p1)] 2))
  rw [efgc m a0 p1]
  generalize hW : OwnEnd p e below s (fun v h L => Qgc Z a0 p1 wc sx kb z vs x y h0 n0 v h L) ({ frames := 0, cells := 0, slots := 0, locals := 0 } : Room).cells ({ frames := 0, cells := 0, slots := 0, locals := 0 } : Room).slots = W
  have stp : ∀ {A B : State}, (∀ t, Steps p.tables e below B t → Steps p.tables e below A t) → W B → W A := by subst hW; exact own_step
  obtain ⟨S_cs, hcs, S_si, hr_sx, S_ad, S_hi, S_lo⟩ := id BW
  show W (s₁.setTop (mkF m 0 #[.val (.ref a0), .val (.int p1)] []))
  obtain ⟨Tgc1, Xgc1, egc1, stgc1⟩ := getS2 X0 hx hZ hown (host := "") (Or.inl (hw _ (List.mem_of_getElem? (i := 82) rfl))) Via.refl e0 (S_ad.ext O0.2) (g := (mkF m 0 #[.val (.ref a0), .val (.int p1)] [])) rfl (hb hby dgc_0)
  refine stp (fun t k => stgc1 t k) ?_
  show W (Tgc1.setTop (mkF m 3 #[.val (.ref a0), .val (.int p1)] [(.int (1 : Int32))]))
  refine stp (fun t k => XS.ifYes Xgc1.here hx rfl (pc0 := 3) (pc' := 28) rfl (hb hby dgc_3) rfl ((if0 _ _).trans (feq (by decide)).2) (by decide) (by decide) k) ?_
  show W (Tgc1.setTop (mkF m 28 #[.val (.ref a0), .val (.int p1)] []))
  refine stp (fun t k => XS.iloadN Xgc1.here hx rfl (hb hby dgc_28) rfl k) ?_
  show W (Tgc1.setTop (mkF m 29 #[.val (.ref a0), .val (.int p1)] [(.int p1)]))
  refine stp (fun t k => XS.iconst Xgc1.here hx rfl (hb hby dgc_29) k) ?_
  show W (Tgc1.setTop (mkF m 30 #[.val (.ref a0), .val (.int p1)] [(.int (1 : Int32)), (.int p1)]))
  refine stp (fun t k => XS.ishl Xgc1.here hx rfl (hb hby dgc_30) rfl k) ?_
  show W (Tgc1.setTop (mkF m 31 #[.val (.ref a0), .val (.int p1)] [(.int (p1 <<< ((1 : Int32) &&& 31)))]))
  refine stp (fun t k => XS.istoreN Xgc1.here hx rfl (hb hby dgc_31) rfl (l' := #[.val (.ref a0), .val (.int (p1 <<< ((1 : Int32) &&& 31)))]) rfl k) ?_
  show W (Tgc1.setTop (mkF m 32 #[.val (.ref a0), .val (.int (p1 <<< ((1 : Int32) &&& 31)))] []))
  refine stp (fun t k => XS.aloadN Xgc1.here hx rfl (hb hby dgc_32) rfl rfl k) ?_
  show W (Tgc1.setTop (mkF m 33 #[.val (.ref a0), .val (.int (p1 <<< ((1 : Int32) &&& 31)))] [(.ref a0)]))
  refine stp (fun t k => XS.iloadN Xgc1.here hx rfl (hb hby dgc_33) rfl k) ?_
  show W (Tgc1.setTop (mkF m 34 #[.val (.ref a0), .val (.int (p1 <<< ((1 : Int32) &&& 31)))] [(.int (p1 <<< ((1 : Int32) &&& 31))), (.ref a0)]))
  refine stp (fun t k => XS.iinc Xgc1.here hx rfl (hb hby dgc_34) rfl (l' := #[.val (.ref a0), .val (.int ((p1 <<< ((1 : Int32) &&& 31)) + (1 : Int32)))]) rfl k) ?_
  show W (Tgc1.setTop (mkF m 37 #[.val (.ref a0), .val (.int ((p1 <<< ((1 : Int32) &&& 31)) + (1 : Int32)))] [(.int (p1 <<< ((1 : Int32) &&& 31))), (.ref a0)]))
  obtain ⟨clgc2, Argc2, qkgc2, qsgc2, qngc2, qhgc2, qggc2⟩ := id V_a0
  have hingc2 : ¬ ((p1 <<< ((1 : Int32) &&& 31)) < 0 ∨ clgc2.slots.size ≤ ((p1 <<< ((1 : Int32) &&& 31))).toNatClampNeg) := inb_of qsgc2 hi0
  have hatgc2 : clgc2.slots[((p1 <<< ((1 : Int32) &&& 31))).toNatClampNeg]? = some (.int x) := qhgc2.at hingc2 hg0
  refine stp (fun t k => Xgc1.baloadBytes hx (j := (p1 <<< ((1 : Int32) &&& 31))) (v := (.int x)) (by rw [egc1]; exact Argc2.1) (State.isArrayOf_alike hZ.alike Argc2.2.1) Argc2.2.2 hingc2 hatgc2 (g := (mkF m 37 #[.val (.ref a0), .val (.int ((p1 <<< ((1 : Int32) &&& 31)) + (1 : Int32)))] [(.int (p1 <<< ((1 : Int32) &&& 31))), (.ref a0)])) rfl rfl (hb hby dgc_37) _ k) ?_
  show W (Tgc1.setTop (mkF m 38 #[.val (.ref a0), .val (.int ((p1 <<< ((1 : Int32) &&& 31)) + (1 : Int32)))] [(.int x)]))
  refine stp (fun t k => XS.sipush Xgc1.here hx rfl (hb hby dgc_38) k) ?_
  show W (Tgc1.setTop (mkF m 41 #[.val (.ref a0), .val (.int ((p1 <<< ((1 : Int32) &&& 31)) + (1 : Int32)))] [(.int (255 : Int32)), (.int x)]))
  refine stp (fun t k => XS.iand Xgc1.here hx rfl (hb hby dgc_41) rfl k) ?_
  show W (Tgc1.setTop (mkF m 42 #[.val (.ref a0), .val (.int ((p1 <<< ((1 : Int32) &&& 31)) + (1 : Int32)))] [(.int (x &&& (255 : Int32)))]))
  obtain ⟨Tgc3, Xgc3, egc3, stgc3⟩ := getS2 Xgc1 hx hZ hown (host := "") (Or.inl (hw _ (List.mem_of_getElem? (i := 83) rfl))) Via.refl egc1 (S_hi.ext O0.2) (g := (mkF m 42 #[.val (.ref a0), .val (.int ((p1 <<< ((1 : Int32) &&& 31)) + (1 : Int32)))] [(.int (x &&& (255 : Int32)))])) rfl (hb hby dgc_42)
  refine stp (fun t k => stgc3 t k) ?_
  show W (Tgc3.setTop (mkF m 45 #[.val (.ref a0), .val (.int ((p1 <<< ((1 : Int32) &&& 31)) + (1 : Int32)))] [(.int (0 : Int32)), (.int (x &&& (255 : Int32)))]))
  refine stp (fun t k => XS.ishl Xgc3.here hx rfl (hb hby dgc_45) rfl k) ?_
  show W (Tgc3.setTop (mkF m 46 #[.val (.ref a0), .val (.int ((p1 <<< ((1 : Int32) &&& 31)) + (1 : Int32)))] [(.int ((x &&& (255 : Int32)) <<< ((0 : Int32) &&& 31)))]))
  refine stp (fun t k => XS.aloadN Xgc3.here hx rfl (hb hby dgc_46) rfl rfl k) ?_
  show W (Tgc3.setTop (mkF m 47 #[.val (.ref a0), .val (.int ((p1 <<< ((1 : Int32) &&& 31)) + (1 : Int32)))] [(.ref a0), (.int ((x &&& (255 : Int32)) <<< ((0 : Int32) &&& 31)))]))
  refine stp (fun t k => XS.iloadN Xgc3.here hx rfl (hb hby dgc_47) rfl k) ?_
  show W (Tgc3.setTop (mkF m 48 #[.val (.ref a0), .val (.int ((p1 <<< ((1 : Int32) &&& 31)) + (1 : Int32)))] [(.int ((p1 <<< ((1 : Int32) &&& 31)) + (1 : Int32))), (.ref a0), (.int ((x &&& (255 : Int32)) <<< ((0 : Int32) &&& 31)))]))
  obtain ⟨clgc4, Argc4, qkgc4, qsgc4, qngc4, qhgc4, qggc4⟩ := id V_a0
  have hingc4 : ¬ (((p1 <<< ((1 : Int32) &&& 31)) + (1 : Int32)) < 0 ∨ clgc4.slots.size ≤ (((p1 <<< ((1 : Int32) &&& 31)) + (1 : Int32))).toNatClampNeg) := inb_of qsgc4 hi1
  have hatgc4 : clgc4.slots[(((p1 <<< ((1 : Int32) &&& 31)) + (1 : Int32))).toNatClampNeg]? = some (.int y) := qhgc4.at hingc4 hg1
  refine stp (fun t k => Xgc3.baloadBytes hx (j := ((p1 <<< ((1 : Int32) &&& 31)) + (1 : Int32))) (v := (.int y)) (by rw [egc3]; exact Argc4.1) (State.isArrayOf_alike hZ.alike Argc4.2.1) Argc4.2.2 hingc4 hatgc4 (g := (mkF m 48 #[.val (.ref a0), .val (.int ((p1 <<< ((1 : Int32) &&& 31)) + (1 : Int32)))] [(.int ((p1 <<< ((1 : Int32) &&& 31)) + (1 : Int32))), (.ref a0), (.int ((x &&& (255 : Int32)) <<< ((0 : Int32) &&& 31)))])) rfl rfl (hb hby dgc_48) _ k) ?_
  show W (Tgc3.setTop (mkF m 49 #[.val (.ref a0), .val (.int ((p1 <<< ((1 : Int32) &&& 31)) + (1 : Int32)))] [(.int y), (.int ((x &&& (255 : Int32)) <<< ((0 : Int32) &&& 31)))]))
  refine stp (fun t k => XS.sipush Xgc3.here hx rfl (hb hby dgc_49) k) ?_
  show W (Tgc3.setTop (mkF m 52 #[.val (.ref a0), .val (.int ((p1 <<< ((1 : Int32) &&& 31)) + (1 : Int32)))] [(.int (255 : Int32)), (.int y), (.int ((x &&& (255 : Int32)) <<< ((0 : Int32) &&& 31)))]))
  refine stp (fun t k => XS.iand Xgc3.here hx rfl (hb hby dgc_52) rfl k) ?_
  show W (Tgc3.setTop (mkF m 53 #[.val (.ref a0), .val (.int ((p1 <<< ((1 : Int32) &&& 31)) + (1 : Int32)))] [(.int (y &&& (255 : Int32))), (.int ((x &&& (255 : Int32)) <<< ((0 : Int32) &&& 31)))]))
  obtain ⟨Tgc5, Xgc5, egc5, stgc5⟩ := getS2 Xgc3 hx hZ hown (host := "") (Or.inl (hw _ (List.mem_of_getElem? (i := 84) rfl))) Via.refl egc3 (S_lo.ext O0.2) (g := (mkF m 53 #[.val (.ref a0), .val (.int ((p1 <<< ((1 : Int32) &&& 31)) + (1 : Int32)))] [(.int (y &&& (255 : Int32))), (.int ((x &&& (255 : Int32)) <<< ((0 : Int32) &&& 31)))])) rfl (hb hby dgc_53)
  refine stp (fun t k => stgc5 t k) ?_
  show W (Tgc5.setTop (mkF m 56 #[.val (.ref a0), .val (.int ((p1 <<< ((1 : Int32) &&& 31)) + (1 : Int32)))] [(.int (8 : Int32)), (.int (y &&& (255 : Int32))), (.int ((x &&& (255 : Int32)) <<< ((0 : Int32) &&& 31)))]))
  refine stp (fun t k => XS.ishl Xgc5.here hx rfl (hb hby dgc_56) rfl k) ?_
  show W (Tgc5.setTop (mkF m 57 #[.val (.ref a0), .val (.int ((p1 <<< ((1 : Int32) &&& 31)) + (1 : Int32)))] [(.int ((y &&& (255 : Int32)) <<< ((8 : Int32) &&& 31))), (.int ((x &&& (255 : Int32)) <<< ((0 : Int32) &&& 31)))]))
  refine stp (fun t k => XS.ior Xgc5.here hx rfl (hb hby dgc_57) rfl k) ?_
  show W (Tgc5.setTop (mkF m 58 #[.val (.ref a0), .val (.int ((p1 <<< ((1 : Int32) &&& 31)) + (1 : Int32)))] [(.int (((x &&& (255 : Int32)) <<< ((0 : Int32) &&& 31)) ||| ((y &&& (255 : Int32)) <<< ((8 : Int32) &&& 31))))]))
  refine stp (fun t k => XS.i2c Xgc5.here hx rfl (hb hby dgc_58) rfl k) ?_
  show W (Tgc5.setTop (mkF m 59 #[.val (.ref a0), .val (.int ((p1 <<< ((1 : Int32) &&& 31)) + (1 : Int32)))] [(.int ((((x &&& (255 : Int32)) <<< ((0 : Int32) &&& 31)) ||| ((y &&& (255 : Int32)) <<< ((8 : Int32) &&& 31))).toUInt32.toUInt16.toUInt32.toInt32))]))
  show W (Tgc5.setTop (mkF m 59 #[.val (.ref a0), .val (.int ((p1 <<< ((1 : Int32) &&& 31)) + (1 : Int32)))] [(.int ((((x &&& (255 : Int32)) <<< ((0 : Int32) &&& 31)) ||| ((y &&& (255 : Int32)) <<< ((8 : Int32) &&& 31))).toUInt32.toUInt16.toUInt32.toInt32))]))
  rw [← hW]
  exact own_retN Xgc5 hx Bd.notSynchronized Bd.returns (w := (nar .char ((((x &&& (255 : Int32)) <<< ((0 : Int32) &&& 31)) ||| ((y &&& (255 : Int32)) <<< ((8 : Int32) &&& 31))).toUInt32.toUInt16.toUInt32.toInt32))) (by simp) (hb hby dgc_59) rfl (by show Qgc Z a0 p1 wc sx kb z vs x y h0 n0 _ Tgc5.heap _; rw [egc5]; exact ⟨rfl, N0, rfl⟩) (by decide) (by decide)
theorem dua_0 : decode jdk_52_method_83_code 0 = .ok (.iload_n 1, 1) := by decide +kernel
theorem dua_1 : decode jdk_52_method_83_code 1 = .ok (.aload_n 0, 1) := by decide +kernel
theorem dua_2 : decode jdk_52_method_83_code 2 = .ok (.invokestatic 67, 3) := by decide +kernel
theorem dua_5 : decode jdk_52_method_83_code 5 = .ok (.aload_n 0, 1) := by decide +kernel
theorem dua_6 : decode jdk_52_method_83_code 6 = .ok (.iload_n 1, 1) := by decide +kernel
theorem dua_7 : decode jdk_52_method_83_code 7 = .ok (.invokestatic 71, 3) := by decide +kernel
theorem dua_10 : decode jdk_52_method_83_code 10 = .ok (.ireturn, 1) := by decide +kernel
theorem pnua : plainName "java/lang/StringUTF16" = true := by first | (simp [plainName, overriddenIn]; done) | decide +kernel
theorem pdua_0 : parseMethodDescriptor "(I[B)V" = some ⟨[.int, (.array .byte)], none⟩ := by decide +kernel
theorem pdua_1 : parseMethodDescriptor "([BI)C" = some ⟨[(.array .byte), .int], some .char⟩ := by decide +kernel
theorem efua (m : MethodId) (a0 : Addr) (p1 : Int32) : entryFrame m #[(.ref a0), (.int p1)] 2 = mkF m 0 #[.val (.ref a0), .val (.int p1)] [] := by first | (simp [entryFrame, mkF, argsToLocals, Value.category]; done) | rfl
def fua (x : Int32) (y : Int32) : Int32 := (nar .char (fgc x y))
def Qua (Z : State) (a0 : Addr) (p1 : Int32) (wc : Int32) (sx : Value) (kb : ClassId) (z : Int32) (vs : List Value) (x : Int32) (y : Int32) (h0 : Heap) (n0 : Nat) (v : Option Value) (h : Heap) (L : List Loc) : Prop := v = some (.int (fua x y)) ∧ Fr n0 L ∧ h = h0
set_option maxRecDepth 65536 in
set_option maxHeartbeats 40000000 in
theorem rmua (l : Launch) (Z : State) (aa : Array Value) (hw : ∀ d ∈ tables_1, d.before aa Z = true) (ws : List Jvm.Cond) (a0 : Addr) (p1 : Int32) (wc : Int32) (sx : Value) (kb : ClassId) (z : Int32) (vs : List Value) (x : Int32) (y : Int32) (h0 : Heap) (n0 : Nat) (Z0 : n0 ≤ h0.size) (BW : OwnW Z wc sx) (O0 : Old Z n0 h0) (V_a0 : Arv Z h0 a0 kb .byte z vs (.int (0 : Int32))) (hlo : ¬ p1 < (0 : Int32)) (hhi : p1 < (ful z)) (hi0 : ¬ (p1 <<< ((1 : Int32) &&& 31)) < 0 ∧ (p1 <<< ((1 : Int32) &&& 31)) < z) (hi1 : ¬ ((p1 <<< ((1 : Int32) &&& 31)) + (1 : Int32)) < 0 ∧ ((p1 <<< ((1 : Int32) &&& 31)) + (1 : Int32)) < z) (hg0 : vs.getD (p1 <<< ((1 : Int32) &&& 31)).toNatClampNeg (.int (0 : Int32)) = .int x) (hg1 : vs.getD ((p1 <<< ((1 : Int32) &&& 31)) + (1 : Int32)).toNatClampNeg (.int (0 : Int32)) = .int y) :
    MetFree l (⟨"java/lang/StringUTF16", "charAt", "([BI)C"⟩ : MethodName) (head1 (Jvm.Cond.code (⟨"java/lang/StringUTF16", "charAt", "([BI)C"⟩ : MethodName) jdk_52_method_83_code 2 (some .char) :: ws) ({ frames := 3, cells := 0, slots := 0, locals := 40 } : Room)) (fun a U => a = #[(.ref a0), (.int p1)] ∧ Z.Warmed39 U.vm ∧ U.heap = h0) (fun _ _ _ _ _ => True) (fun _ U o U' => ∃ v L, o = .returned v ∧ Qua Z a0 p1 wc sx kb z vs x y h0 n0 v U'.heap L ∧ FrameEnd U o U' L ({ frames := 3, cells := 0, slots := 0, locals := 40 } : Room).cells ({ frames := 3, cells := 0, slots := 0, locals := 40 } : Room).slots) := by
  refine MetFree.of_bodySF (plainFor_of_name pnua) hisR ?_
  intro p e s m args below meth c s₁ Bd hml0 hP hK
  obtain ⟨rfl, hZ, hh⟩ := hP
  have hx := Bd.exec
  have hby := Bd.bytes
  have hml : c.maxLocals = 2 := hml0
  have hown : s.vm.findClass "java/lang/StringUTF16" = some m.cls := findClass_of_methodNamed Bd.named
  have hnm := (name_of_methodNamed Bd.named Bd.method).1
  have X0 : Stand p l e ({ frames := 3, cells := 0, slots := 0, locals := 40 } : Room) s m #[(.ref a0), (.int p1)] below meth c s₁ [] 0 0 := Stand.of_body Bd
  have e0 : s₁.heap = h0 := by rw [← hh, Bd.state]; rfl
  have N0 := Fr.nil n0
  show OwnEnd p e below s (fun v h L => Qua Z a0 p1 wc sx kb z vs x y h0 n0 v h L) ({ frames := 3, cells := 0, slots := 0, locals := 40 } : Room).cells ({ frames := 3, cells := 0, slots := 0, locals := 40 } : Room).slots (s₁.setTop (entryFrame m #[(.ref a0), (.int p1)] 2))
  rw [efua m a0 p1]
  generalize hW : OwnEnd p e below s (fun v h L => Qua Z a0 p1 wc sx kb z vs x y h0 n0 v h L) ({ frames := 3, cells := 0, slots := 0, locals := 40 } : Room).cells ({ frames := 3, cells := 0, slots := 0, locals := 40 } : Room).slots = W
  have stp : ∀ {A B : State}, (∀ t, Steps p.tables e below B t → Steps p.tables e below A t) → W B → W A := by subst hW; exact own_step
  obtain ⟨S_cs, hcs, S_si, hr_sx, S_ad, S_hi, S_lo⟩ := id BW
  show W (s₁.setTop (mkF m 0 #[.val (.ref a0), .val (.int p1)] []))
  refine stp (fun t k => XS.iloadN X0.here hx rfl (hb hby dua_0) rfl k) ?_
  show W (s₁.setTop (mkF m 1 #[.val (.ref a0), .val (.int p1)] [(.int p1)]))
  refine stp (fun t k => XS.aloadN X0.here hx rfl (hb hby dua_1) rfl rfl k) ?_
  show W (s₁.setTop (mkF m 2 #[.val (.ref a0), .val (.int p1)] [(.ref a0), (.int p1)]))
  obtain ⟨_, _, ⟨Tuac1, Luac1, kuac1, nuac1⟩, -, Xuac1, ⟨Lcuac1, hQuac1, luac1, yuac1, zuac1⟩, stuac1⟩ := Jvm.LawKit.callS X0 hx (y := (⟨"java/lang/StringUTF16", "checkIndex", "(I[B)V"⟩ : MethodName)) hown (mvT hZ (hw _ (List.mem_of_getElem? (i := 131) rfl))) (mvT hZ (hw _ (List.mem_of_getElem? (i := 132) rfl))) (mvT hZ (hw _ (List.mem_of_getElem? (i := 64) rfl))) (mvT hZ (hw _ (List.mem_of_getElem? (i := 133) rfl))) (by decide) (backOf (W := 0) (rmuc l Z aa hw [] p1 a0 wc sx kb z vs h0 n0 Z0 BW O0 V_a0 hlo hhi) hZ (hw _ (List.mem_of_getElem? (i := 133) rfl)) (hw _ (List.mem_of_getElem? (i := 64) rfl)) (by decide) (by decide)) (g := (mkF m 2 #[.val (.ref a0), .val (.int p1)] [(.ref a0), (.int p1)])) rfl (by rw [hml]; rfl) (argsL := [(.int p1), (.ref a0)]) (rest := []) (lenOf pdua_0 rfl) rfl (by show 2 * 0 + _ ≤ _; exact Nat.le_of_eq rfl) (hb hby dua_2) (fun _ _ => ⟨rfl, e0, (by decide : 0 + 0 ≤ _), (by decide : 0 + 0 ≤ _)⟩)
  dsimp only [Pt.U, Pt.locs, Pt.cells, Pt.slots] at Xuac1 luac1 yuac1 zuac1 stuac1 hQuac1
  subst luac1 yuac1 zuac1
  obtain ⟨rfl, Nuac1q, euac1⟩ := hQuac1
  have Nuac1 := Fr.app N0 Nuac1q
  obtain ⟨lcuat2, Xuac1, Nuac1⟩ : ∃ lc, Stand p l e ({ frames := 3, cells := 0, slots := 0, locals := 40 } : Room) s m #[(.ref a0), (.int p1)] below meth c Tuac1 lc 0 0 ∧ Fr n0 lc := ⟨_, Xuac1, Nuac1⟩
  refine stp (fun t k => stuac1 t k) ?_
  show W (Tuac1.setTop (mkF m 5 #[.val (.ref a0), .val (.int p1)] []))
  refine stp (fun t k => XS.aloadN Xuac1.here hx rfl (hb hby dua_5) rfl rfl k) ?_
  show W (Tuac1.setTop (mkF m 6 #[.val (.ref a0), .val (.int p1)] [(.ref a0)]))
  refine stp (fun t k => XS.iloadN Xuac1.here hx rfl (hb hby dua_6) rfl k) ?_
  show W (Tuac1.setTop (mkF m 7 #[.val (.ref a0), .val (.int p1)] [(.int p1), (.ref a0)]))
  obtain ⟨_, _, ⟨Tuac3, Luac3, kuac3, nuac3⟩, -, Xuac3, ⟨Lcuac3, hQuac3, luac3, yuac3, zuac3⟩, stuac3⟩ := Jvm.LawKit.callS Xuac1 hx (y := (⟨"java/lang/StringUTF16", "getChar", "([BI)C"⟩ : MethodName)) hown (mvT hZ (hw _ (List.mem_of_getElem? (i := 85) rfl))) (mvT hZ (hw _ (List.mem_of_getElem? (i := 86) rfl))) (mvT hZ (hw _ (List.mem_of_getElem? (i := 64) rfl))) (mvT hZ (hw _ (List.mem_of_getElem? (i := 87) rfl))) (by decide) (backOf (W := 0) (rmgc l Z aa hw [] a0 p1 wc sx kb z vs x y h0 n0 Z0 BW O0 V_a0 hi0 hi1 hg0 hg1) hZ (hw _ (List.mem_of_getElem? (i := 87) rfl)) (hw _ (List.mem_of_getElem? (i := 64) rfl)) (by decide) (by decide)) (g := (mkF m 7 #[.val (.ref a0), .val (.int p1)] [(.int p1), (.ref a0)])) rfl (by rw [hml]; rfl) (argsL := [(.ref a0), (.int p1)]) (rest := []) (lenOf pdua_1 rfl) rfl (by show 2 * 0 + _ ≤ _; exact Nat.le_of_eq rfl) (hb hby dua_7) (fun _ _ => ⟨rfl, euac1, (by decide : 0 + 0 ≤ _), (by decide : 0 + 0 ≤ _)⟩)
  dsimp only [Pt.U, Pt.locs, Pt.cells, Pt.slots] at Xuac3 luac3 yuac3 zuac3 stuac3 hQuac3
  subst luac3 yuac3 zuac3
  obtain ⟨rfl, Nuac3q, euac3⟩ := hQuac3
  have Nuac3 := Fr.app Nuac1 Nuac3q
  obtain ⟨lcuat4, Xuac3, Nuac3⟩ : ∃ lc, Stand p l e ({ frames := 3, cells := 0, slots := 0, locals := 40 } : Room) s m #[(.ref a0), (.int p1)] below meth c Tuac3 lc 0 0 ∧ Fr n0 lc := ⟨_, Xuac3, Nuac3⟩
  refine stp (fun t k => stuac3 t k) ?_
  show W (Tuac3.setTop (mkF m 10 #[.val (.ref a0), .val (.int p1)] [(.int (fgc x y))]))
  show W (Tuac3.setTop (mkF m 10 #[.val (.ref a0), .val (.int p1)] [(.int (fgc x y))]))
  rw [← hW]
  exact own_retN Xuac3 hx Bd.notSynchronized Bd.returns (w := (nar .char (fgc x y))) (by simp) (hb hby dua_10) rfl (by show Qua Z a0 p1 wc sx kb z vs x y h0 n0 _ Tuac3.heap _; rw [euac3]; exact ⟨rfl, Nuac3, rfl⟩) (by decide) (by decide)
theorem dcL_0 : decode jdk_42_method_56_code 0 = .ok (.aload_n 0, 1) := by decide +kernel
theorem dcL_1 : decode jdk_42_method_56_code 1 = .ok (.invokevirtual 492, 3) := by decide +kernel
theorem dcL_4 : decode jdk_42_method_56_code 4 = .ok (.ifCond .eq 12, 3) := by decide +kernel
theorem dcL_7 : decode jdk_42_method_56_code 7 = .ok (.aload_n 0, 1) := by decide +kernel
theorem dcL_8 : decode jdk_42_method_56_code 8 = .ok (.getfield 9, 3) := by decide +kernel
theorem dcL_11 : decode jdk_42_method_56_code 11 = .ok (.iload_n 1, 1) := by decide +kernel
theorem dcL_12 : decode jdk_42_method_56_code 12 = .ok (.invokestatic 495, 3) := by decide +kernel
theorem dcL_15 : decode jdk_42_method_56_code 15 = .ok (.ireturn, 1) := by decide +kernel
theorem pncL : plainName "java/lang/String" = true := by first | (simp [plainName, overriddenIn]; done) | decide +kernel
theorem pdcL_0 : parseMethodDescriptor "()Z" = some ⟨[], some .boolean⟩ := by decide +kernel
theorem pdcL_1 : parseMethodDescriptor "([BI)C" = some ⟨[(.array .byte), .int], some .char⟩ := by decide +kernel
theorem efcL (m : MethodId) (a0 : Addr) (p1 : Int32) : entryFrame m #[(.ref a0), (.int p1)] 2 = mkF m 0 #[.val (.ref a0), .val (.int p1)] [] := by first | (simp [entryFrame, mkF, argsToLocals, Value.category]; done) | rfl
def fcL (x : Int32) : Int32 := (nar .char (flc x))
def QcL (Z : State) (a0 : Addr) (p1 : Int32) (wc : Int32) (sx : Value) (b : Addr) (kb : ClassId) (z : Int32) (vs : List Value) (x : Int32) (h0 : Heap) (n0 : Nat) (v : Option Value) (h : Heap) (L : List Loc) : Prop := v = some (.int (fcL x)) ∧ Fr n0 L ∧ h = h0
set_option maxRecDepth 65536 in
set_option maxHeartbeats 40000000 in
theorem rmcL (l : Launch) (Z : State) (aa : Array Value) (hw : ∀ d ∈ tables_1, d.before aa Z = true) (ws : List Jvm.Cond) (a0 : Addr) (p1 : Int32) (wc : Int32) (sx : Value) (b : Addr) (kb : ClassId) (z : Int32) (vs : List Value) (x : Int32) (h0 : Heap) (n0 : Nat) (Z0 : n0 ≤ h0.size) (BW : OwnW Z wc sx) (O0 : Old Z n0 h0) (E_a0 : Exa Z h0 a0 "java/lang/String") (F_value_a0 : Fld Z h0 a0 "java/lang/String" "value" "[B" (.ref b)) (F_coder_a0 : Fld Z h0 a0 "java/lang/String" "coder" "B" (.int (0 : Int32))) (V_b : Arv Z h0 b kb .byte z vs (.int (0 : Int32))) (hlo : ¬ p1 < (0 : Int32)) (hhi : p1 < z) (hgx : vs.getD p1.toNatClampNeg (.int (0 : Int32)) = .int x) :
    MetFree l (⟨"java/lang/String", "charAt", "(I)C"⟩ : MethodName) (head1 (Jvm.Cond.code (⟨"java/lang/String", "charAt", "(I)C"⟩ : MethodName) jdk_42_method_56_code 2 (some .char) :: ws) ({ frames := 4, cells := 0, slots := 0, locals := 53 } : Room)) (fun a U => a = #[(.ref a0), (.int p1)] ∧ Z.Warmed39 U.vm ∧ U.heap = h0) (fun _ _ _ _ _ => True) (fun _ U o U' => ∃ v L, o = .returned v ∧ QcL Z a0 p1 wc sx b kb z vs x h0 n0 v U'.heap L ∧ FrameEnd U o U' L ({ frames := 4, cells := 0, slots := 0, locals := 53 } : Room).cells ({ frames := 4, cells := 0, slots := 0, locals := 53 } : Room).slots) := by
  refine MetFree.of_bodySF (plainFor_of_name pncL) hisR ?_
  intro p e s m args below meth c s₁ Bd hml0 hP hK
  obtain ⟨rfl, hZ, hh⟩ := hP
  have hx := Bd.exec
  have hby := Bd.bytes
  have hml : c.maxLocals = 2 := hml0
  have hown : s.vm.findClass "java/lang/String" = some m.cls := findClass_of_methodNamed Bd.named
  have hnm := (name_of_methodNamed Bd.named Bd.method).1
  have X0 : Stand p l e ({ frames := 4, cells := 0, slots := 0, locals := 53 } : Room) s m #[(.ref a0), (.int p1)] below meth c s₁ [] 0 0 := Stand.of_body Bd
  have e0 : s₁.heap = h0 := by rw [← hh, Bd.state]; rfl
  have N0 := Fr.nil n0
  show OwnEnd p e below s (fun v h L => QcL Z a0 p1 wc sx b kb z vs x h0 n0 v h L) ({ frames := 4, cells := 0, slots := 0, locals := 53 } : Room).cells ({ frames := 4, cells := 0, slots := 0, locals := 53 } : Room).slots (s₁.setTop (entryFrame m #[(.ref a0), (.int p1)] 2))
  rw [efcL m a0 p1]
  generalize hW : OwnEnd p e below s (fun v h L => QcL Z a0 p1 wc sx b kb z vs x h0 n0 v h L) ({ frames := 4, cells := 0, slots := 0, locals := 53 } : Room).cells ({ frames := 4, cells := 0, slots := 0, locals := 53 } : Room).slots = W
  have stp : ∀ {A B : State}, (∀ t, Steps p.tables e below B t → Steps p.tables e below A t) → W B → W A := by subst hW; exact own_step
  obtain ⟨S_cs, hcs, S_si, hr_sx, S_ad, S_hi, S_lo⟩ := id BW
  show W (s₁.setTop (mkF m 0 #[.val (.ref a0), .val (.int p1)] []))
  refine stp (fun t k => XS.aloadN X0.here hx rfl (hb hby dcL_0) rfl rfl k) ?_
  show W (s₁.setTop (mkF m 1 #[.val (.ref a0), .val (.int p1)] [(.ref a0)]))
  obtain ⟨cqcLc1, kqcLc1, qcLc1a, qcLc1b, qcLc1c⟩ := isOf hZ e0 E_a0
  obtain ⟨_, _, ⟨TcLc1, LcLc1, kcLc1, ncLc1⟩, -, XcLc1, ⟨LccLc1, hQcLc1, lcLc1, ycLc1, zcLc1⟩, stcLc1⟩ := X0.virtualBack hx (y := (⟨"java/lang/String", "isLatin1", "()Z"⟩ : MethodName)) (z := (⟨"java/lang/String", "isLatin1", "()Z"⟩ : MethodName)) hown (mvT hZ (hw _ (List.mem_of_getElem? (i := 103) rfl))) (mvT hZ (hw _ (List.mem_of_getElem? (i := 104) rfl))) (notFace_of_selects (args := #[]) (mvT hZ (hw _ (List.mem_of_getElem? (i := 106) rfl)))) (mvT hZ (hw _ (List.mem_of_getElem? (i := 106) rfl))) (mvT hZ (hw _ (List.mem_of_getElem? (i := 105) rfl))) (by decide) (backOf (W := 0) (rmil l Z aa hw [] a0 wc sx (0 : Int32) h0 n0 Z0 BW O0 F_coder_a0) hZ (hw _ (List.mem_of_getElem? (i := 107) rfl)) (hw _ (List.mem_of_getElem? (i := 6) rfl)) (by decide) (by decide)) qcLc1a qcLc1c (g := (mkF m 1 #[.val (.ref a0), .val (.int p1)] [(.ref a0)])) rfl (by rw [hml]; rfl) (Steps.refl _) (argsL := []) (rest := []) (lenOf pdcL_0 rfl) rfl (by show 2 * 0 + _ ≤ _; exact Nat.le_of_eq rfl) (hb hby dcL_1) (fun _ _ => ⟨rfl, e0, (by decide : 0 + 0 ≤ _), (by decide : 0 + 0 ≤ _)⟩)
  dsimp only [Pt.U, Pt.locs, Pt.cells, Pt.slots] at XcLc1 lcLc1 ycLc1 zcLc1 stcLc1 hQcLc1
  subst lcLc1 ycLc1 zcLc1
  obtain ⟨rfl, NcLc1q, ecLc1⟩ := hQcLc1
  have NcLc1 := Fr.app N0 NcLc1q
  obtain ⟨lccLt2, XcLc1, NcLc1⟩ : ∃ lc, Stand p l e ({ frames := 4, cells := 0, slots := 0, locals := 53 } : Room) s m #[(.ref a0), (.int p1)] below meth c TcLc1 lc 0 0 ∧ Fr n0 lc := ⟨_, XcLc1, NcLc1⟩
  refine stp (fun t k => stcLc1.trans k) ?_
  show W (TcLc1.setTop (mkF m 4 #[.val (.ref a0), .val (.int p1)] [(.int (fil (0 : Int32)))]))
  refine stp (fun t k => XS.ifNo XcLc1.here hx rfl (hb hby dcL_4) rfl ((if0 _ _).trans (feq (by decide)).1) k) ?_
  show W (TcLc1.setTop (mkF m 7 #[.val (.ref a0), .val (.int p1)] []))
  refine stp (fun t k => XS.aloadN XcLc1.here hx rfl (hb hby dcL_7) rfl rfl k) ?_
  show W (TcLc1.setTop (mkF m 8 #[.val (.ref a0), .val (.int p1)] [(.ref a0)]))
  obtain ⟨TcL3, XcL3, ecL3, stcL3⟩ := getF XcLc1 hx hZ hown (host := "") (Or.inl (hw _ (List.mem_of_getElem? (i := 24) rfl))) Via.refl ecLc1 F_value_a0 (g := (mkF m 8 #[.val (.ref a0), .val (.int p1)] [(.ref a0)])) rfl rfl (hb hby dcL_8)
  refine stp (fun t k => stcL3 t k) ?_
  show W (TcL3.setTop (mkF m 11 #[.val (.ref a0), .val (.int p1)] [(.ref b)]))
  refine stp (fun t k => XS.iloadN XcL3.here hx rfl (hb hby dcL_11) rfl k) ?_
  show W (TcL3.setTop (mkF m 12 #[.val (.ref a0), .val (.int p1)] [(.int p1), (.ref b)]))
  obtain ⟨_, _, ⟨TcLc4, LcLc4, kcLc4, ncLc4⟩, -, XcLc4, ⟨LccLc4, hQcLc4, lcLc4, ycLc4, zcLc4⟩, stcLc4⟩ := Jvm.LawKit.callS XcL3 hx (y := (⟨"java/lang/StringLatin1", "charAt", "([BI)C"⟩ : MethodName)) hown (mvT hZ (hw _ (List.mem_of_getElem? (i := 108) rfl))) (mvT hZ (hw _ (List.mem_of_getElem? (i := 109) rfl))) (mvT hZ (hw _ (List.mem_of_getElem? (i := 53) rfl))) (mvT hZ (hw _ (List.mem_of_getElem? (i := 110) rfl))) (by decide) (backOf (W := 0) (rmlc l Z aa hw [] b p1 wc sx kb z vs x h0 n0 Z0 BW O0 V_b hlo hhi hgx) hZ (hw _ (List.mem_of_getElem? (i := 110) rfl)) (hw _ (List.mem_of_getElem? (i := 53) rfl)) (by decide) (by decide)) (g := (mkF m 12 #[.val (.ref a0), .val (.int p1)] [(.int p1), (.ref b)])) rfl (by rw [hml]; rfl) (argsL := [(.ref b), (.int p1)]) (rest := []) (lenOf pdcL_1 rfl) rfl (by show 2 * 0 + _ ≤ _; exact Nat.le_of_eq rfl) (hb hby dcL_12) (fun _ _ => ⟨rfl, ecL3, (by decide : 0 + 0 ≤ _), (by decide : 0 + 0 ≤ _)⟩)
  dsimp only [Pt.U, Pt.locs, Pt.cells, Pt.slots] at XcLc4 lcLc4 ycLc4 zcLc4 stcLc4 hQcLc4
  subst lcLc4 ycLc4 zcLc4
  obtain ⟨rfl, NcLc4q, ecLc4⟩ := hQcLc4
  have NcLc4 := Fr.app NcLc1 NcLc4q
  obtain ⟨lccLt5, XcLc4, NcLc4⟩ : ∃ lc, Stand p l e ({ frames := 4, cells := 0, slots := 0, locals := 53 } : Room) s m #[(.ref a0), (.int p1)] below meth c TcLc4 lc 0 0 ∧ Fr n0 lc := ⟨_, XcLc4, NcLc4⟩
  refine stp (fun t k => stcLc4 t k) ?_
  show W (TcLc4.setTop (mkF m 15 #[.val (.ref a0), .val (.int p1)] [(.int (flc x))]))
  show W (TcLc4.setTop (mkF m 15 #[.val (.ref a0), .val (.int p1)] [(.int (flc x))]))
  rw [← hW]
  exact own_retN XcLc4 hx Bd.notSynchronized Bd.returns (w := (nar .char (flc x))) (by simp) (hb hby dcL_15) rfl (by show QcL Z a0 p1 wc sx b kb z vs x h0 n0 _ TcLc4.heap _; rw [ecLc4]; exact ⟨rfl, NcLc4, rfl⟩) (by decide) (by decide)
theorem dcU_0 : decode jdk_42_method_56_code 0 = .ok (.aload_n 0, 1) := by decide +kernel
theorem dcU_1 : decode jdk_42_method_56_code 1 = .ok (.invokevirtual 492, 3) := by decide +kernel
theorem dcU_4 : decode jdk_42_method_56_code 4 = .ok (.ifCond .eq 12, 3) := by decide +kernel
theorem dcU_16 : decode jdk_42_method_56_code 16 = .ok (.aload_n 0, 1) := by decide +kernel
theorem dcU_17 : decode jdk_42_method_56_code 17 = .ok (.getfield 9, 3) := by decide +kernel
theorem dcU_20 : decode jdk_42_method_56_code 20 = .ok (.iload_n 1, 1) := by decide +kernel
theorem dcU_21 : decode jdk_42_method_56_code 21 = .ok (.invokestatic 498, 3) := by decide +kernel
theorem dcU_24 : decode jdk_42_method_56_code 24 = .ok (.ireturn, 1) := by decide +kernel
theorem pncU : plainName "java/lang/String" = true := by first | (simp [plainName, overriddenIn]; done) | decide +kernel
theorem pdcU_0 : parseMethodDescriptor "()Z" = some ⟨[], some .boolean⟩ := by decide +kernel
theorem pdcU_1 : parseMethodDescriptor "([BI)C" = some ⟨[(.array .byte), .int], some .char⟩ := by decide +kernel
theorem efcU (m : MethodId) (a0 : Addr) (p1 : Int32) : entryFrame m #[(.ref a0), (.int p1)] 2 = mkF m 0 #[.val (.ref a0), .val (.int p1)] [] := by first | (simp [entryFrame, mkF, argsToLocals, Value.category]; done) | rfl
def fcU (x : Int32) (y : Int32) : Int32 := (nar .char (fua x y))
def QcU (Z : State) (a0 : Addr) (p1 : Int32) (wc : Int32) (sx : Value) (b : Addr) (kb : ClassId) (z : Int32) (vs : List Value) (x : Int32) (y : Int32) (h0 : Heap) (n0 : Nat) (v : Option Value) (h : Heap) (L : List Loc) : Prop := v = some (.int (fcU x y)) ∧ Fr n0 L ∧ h = h0
set_option maxRecDepth 65536 in
set_option maxHeartbeats 40000000 in
theorem rmcU (l : Launch) (Z : State) (aa : Array Value) (hw : ∀ d ∈ tables_1, d.before aa Z = true) (ws : List Jvm.Cond) (a0 : Addr) (p1 : Int32) (wc : Int32) (sx : Value) (b : Addr) (kb : ClassId) (z : Int32) (vs : List Value) (x : Int32) (y : Int32) (h0 : Heap) (n0 : Nat) (Z0 : n0 ≤ h0.size) (BW : OwnW Z wc sx) (O0 : Old Z n0 h0) (E_a0 : Exa Z h0 a0 "java/lang/String") (F_value_a0 : Fld Z h0 a0 "java/lang/String" "value" "[B" (.ref b)) (F_coder_a0 : Fld Z h0 a0 "java/lang/String" "coder" "B" (.int (1 : Int32))) (V_b : Arv Z h0 b kb .byte z vs (.int (0 : Int32))) (hlo : ¬ p1 < (0 : Int32)) (hhi : p1 < (ful z)) (hi0 : ¬ (p1 <<< ((1 : Int32) &&& 31)) < 0 ∧ (p1 <<< ((1 : Int32) &&& 31)) < z) (hi1 : ¬ ((p1 <<< ((1 : Int32) &&& 31)) + (1 : Int32)) < 0 ∧ ((p1 <<< ((1 : Int32) &&& 31)) + (1 : Int32)) < z) (hg0 : vs.getD (p1 <<< ((1 : Int32) &&& 31)).toNatClampNeg (.int (0 : Int32)) = .int x) (hg1 : vs.getD ((p1 <<< ((1 : Int32) &&& 31)) + (1 : Int32)).toNatClampNeg (.int (0 : Int32)) = .int y) :
    MetFree l (⟨"java/lang/String", "charAt", "(I)C"⟩ : MethodName) (head1 (Jvm.Cond.code (⟨"java/lang/String", "charAt", "(I)C"⟩ : MethodName) jdk_42_method_56_code 2 (some .char) :: ws) ({ frames := 4, cells := 0, slots := 0, locals := 53 } : Room)) (fun a U => a = #[(.ref a0), (.int p1)] ∧ Z.Warmed39 U.vm ∧ U.heap = h0) (fun _ _ _ _ _ => True) (fun _ U o U' => ∃ v L, o = .returned v ∧ QcU Z a0 p1 wc sx b kb z vs x y h0 n0 v U'.heap L ∧ FrameEnd U o U' L ({ frames := 4, cells := 0, slots := 0, locals := 53 } : Room).cells ({ frames := 4, cells := 0, slots := 0, locals := 53 } : Room).slots) := by
  refine MetFree.of_bodySF (plainFor_of_name pncU) hisR ?_
  intro p e s m args below meth c s₁ Bd hml0 hP hK
  obtain ⟨rfl, hZ, hh⟩ := hP
  have hx := Bd.exec
  have hby := Bd.bytes
  have hml : c.maxLocals = 2 := hml0
  have hown : s.vm.findClass "java/lang/String" = some m.cls := findClass_of_methodNamed Bd.named
  have hnm := (name_of_methodNamed Bd.named Bd.method).1
  have X0 : Stand p l e ({ frames := 4, cells := 0, slots := 0, locals := 53 } : Room) s m #[(.ref a0), (.int p1)] below meth c s₁ [] 0 0 := Stand.of_body Bd
  have e0 : s₁.heap = h0 := by rw [← hh, Bd.state]; rfl
  have N0 := Fr.nil n0
  show OwnEnd p e below s (fun v h L => QcU Z a0 p1 wc sx b kb z vs x y h0 n0 v h L) ({ frames := 4, cells := 0, slots := 0, locals := 53 } : Room).cells ({ frames := 4, cells := 0, slots := 0, locals := 53 } : Room).slots (s₁.setTop (entryFrame m #[(.ref a0), (.int p1)] 2))
  rw [efcU m a0 p1]
  generalize hW : OwnEnd p e below s (fun v h L => QcU Z a0 p1 wc sx b kb z vs x y h0 n0 v h L) ({ frames := 4, cells := 0, slots := 0, locals := 53 } : Room).cells ({ frames := 4, cells := 0, slots := 0, locals := 53 } : Room).slots = W
  have stp : ∀ {A B : State}, (∀ t, Steps p.tables e below B t → Steps p.tables e below A t) → W B → W A := by subst hW; exact own_step
  obtain ⟨S_cs, hcs, S_si, hr_sx, S_ad, S_hi, S_lo⟩ := id BW
  show W (s₁.setTop (mkF m 0 #[.val (.ref a0), .val (.int p1)] []))
  refine stp (fun t k => XS.aloadN X0.here hx rfl (hb hby dcU_0) rfl rfl k) ?_
  show W (s₁.setTop (mkF m 1 #[.val (.ref a0), .val (.int p1)] [(.ref a0)]))
  obtain ⟨cqcUc1, kqcUc1, qcUc1a, qcUc1b, qcUc1c⟩ := isOf hZ e0 E_a0
  obtain ⟨_, _, ⟨TcUc1, LcUc1, kcUc1, ncUc1⟩, -, XcUc1, ⟨LccUc1, hQcUc1, lcUc1, ycUc1, zcUc1⟩, stcUc1⟩ := X0.virtualBack hx (y := (⟨"java/lang/String", "isLatin1", "()Z"⟩ : MethodName)) (z := (⟨"java/lang/String", "isLatin1", "()Z"⟩ : MethodName)) hown (mvT hZ (hw _ (List.mem_of_getElem? (i := 103) rfl))) (mvT hZ (hw _ (List.mem_of_getElem? (i := 104) rfl))) (notFace_of_selects (args := #[]) (mvT hZ (hw _ (List.mem_of_getElem? (i := 106) rfl)))) (mvT hZ (hw _ (List.mem_of_getElem? (i := 106) rfl))) (mvT hZ (hw _ (List.mem_of_getElem? (i := 105) rfl))) (by decide) (backOf (W := 0) (rmil l Z aa hw [] a0 wc sx (1 : Int32) h0 n0 Z0 BW O0 F_coder_a0) hZ (hw _ (List.mem_of_getElem? (i := 107) rfl)) (hw _ (List.mem_of_getElem? (i := 6) rfl)) (by decide) (by decide)) qcUc1a qcUc1c (g := (mkF m 1 #[.val (.ref a0), .val (.int p1)] [(.ref a0)])) rfl (by rw [hml]; rfl) (Steps.refl _) (argsL := []) (rest := []) (lenOf pdcU_0 rfl) rfl (by show 2 * 0 + _ ≤ _; exact Nat.le_of_eq rfl) (hb hby dcU_1) (fun _ _ => ⟨rfl, e0, (by decide : 0 + 0 ≤ _), (by decide : 0 + 0 ≤ _)⟩)
  dsimp only [Pt.U, Pt.locs, Pt.cells, Pt.slots] at XcUc1 lcUc1 ycUc1 zcUc1 stcUc1 hQcUc1
  subst lcUc1 ycUc1 zcUc1
  obtain ⟨rfl, NcUc1q, ecUc1⟩ := hQcUc1
  have NcUc1 := Fr.app N0 NcUc1q
  obtain ⟨lccUt2, XcUc1, NcUc1⟩ : ∃ lc, Stand p l e ({ frames := 4, cells := 0, slots := 0, locals := 53 } : Room) s m #[(.ref a0), (.int p1)] below meth c TcUc1 lc 0 0 ∧ Fr n0 lc := ⟨_, XcUc1, NcUc1⟩
  refine stp (fun t k => stcUc1.trans k) ?_
  show W (TcUc1.setTop (mkF m 4 #[.val (.ref a0), .val (.int p1)] [(.int (fil (1 : Int32)))]))
  refine stp (fun t k => XS.ifYes XcUc1.here hx rfl (pc0 := 4) (pc' := 16) rfl (hb hby dcU_4) rfl ((if0 _ _).trans (teq (by decide)).1) (by decide) (by decide) k) ?_
  show W (TcUc1.setTop (mkF m 16 #[.val (.ref a0), .val (.int p1)] []))
  refine stp (fun t k => XS.aloadN XcUc1.here hx rfl (hb hby dcU_16) rfl rfl k) ?_
  show W (TcUc1.setTop (mkF m 17 #[.val (.ref a0), .val (.int p1)] [(.ref a0)]))
  obtain ⟨TcU3, XcU3, ecU3, stcU3⟩ := getF XcUc1 hx hZ hown (host := "") (Or.inl (hw _ (List.mem_of_getElem? (i := 24) rfl))) Via.refl ecUc1 F_value_a0 (g := (mkF m 17 #[.val (.ref a0), .val (.int p1)] [(.ref a0)])) rfl rfl (hb hby dcU_17)
  refine stp (fun t k => stcU3 t k) ?_
  show W (TcU3.setTop (mkF m 20 #[.val (.ref a0), .val (.int p1)] [(.ref b)]))
  refine stp (fun t k => XS.iloadN XcU3.here hx rfl (hb hby dcU_20) rfl k) ?_
  show W (TcU3.setTop (mkF m 21 #[.val (.ref a0), .val (.int p1)] [(.int p1), (.ref b)]))
  obtain ⟨_, _, ⟨TcUc4, LcUc4, kcUc4, ncUc4⟩, -, XcUc4, ⟨LccUc4, hQcUc4, lcUc4, ycUc4, zcUc4⟩, stcUc4⟩ := Jvm.LawKit.callS XcU3 hx (y := (⟨"java/lang/StringUTF16", "charAt", "([BI)C"⟩ : MethodName)) hown (mvT hZ (hw _ (List.mem_of_getElem? (i := 128) rfl))) (mvT hZ (hw _ (List.mem_of_getElem? (i := 129) rfl))) (mvT hZ (hw _ (List.mem_of_getElem? (i := 64) rfl))) (mvT hZ (hw _ (List.mem_of_getElem? (i := 130) rfl))) (by decide) (backOf (W := 0) (rmua l Z aa hw [] b p1 wc sx kb z vs x y h0 n0 Z0 BW O0 V_b hlo hhi hi0 hi1 hg0 hg1) hZ (hw _ (List.mem_of_getElem? (i := 130) rfl)) (hw _ (List.mem_of_getElem? (i := 64) rfl)) (by decide) (by decide)) (g := (mkF m 21 #[.val (.ref a0), .val (.int p1)] [(.int p1), (.ref b)])) rfl (by rw [hml]; rfl) (argsL := [(.ref b), (.int p1)]) (rest := []) (lenOf pdcU_1 rfl) rfl (by show 2 * 0 + _ ≤ _; exact Nat.le_of_eq rfl) (hb hby dcU_21) (fun _ _ => ⟨rfl, ecU3, (by decide : 0 + 0 ≤ _), (by decide : 0 + 0 ≤ _)⟩)
  dsimp only [Pt.U, Pt.locs, Pt.cells, Pt.slots] at XcUc4 lcUc4 ycUc4 zcUc4 stcUc4 hQcUc4
  subst lcUc4 ycUc4 zcUc4
  obtain ⟨rfl, NcUc4q, ecUc4⟩ := hQcUc4
  have NcUc4 := Fr.app NcUc1 NcUc4q
  obtain ⟨lccUt5, XcUc4, NcUc4⟩ : ∃ lc, Stand p l e ({ frames := 4, cells := 0, slots := 0, locals := 53 } : Room) s m #[(.ref a0), (.int p1)] below meth c TcUc4 lc 0 0 ∧ Fr n0 lc := ⟨_, XcUc4, NcUc4⟩
  refine stp (fun t k => stcUc4 t k) ?_
  show W (TcUc4.setTop (mkF m 24 #[.val (.ref a0), .val (.int p1)] [(.int (fua x y))]))
  show W (TcUc4.setTop (mkF m 24 #[.val (.ref a0), .val (.int p1)] [(.int (fua x y))]))
  rw [← hW]
  exact own_retN XcUc4 hx Bd.notSynchronized Bd.returns (w := (nar .char (fua x y))) (by simp) (hb hby dcU_24) rfl (by show QcU Z a0 p1 wc sx b kb z vs x y h0 n0 _ TcUc4.heap _; rw [ecUc4]; exact ⟨rfl, NcUc4, rfl⟩) (by decide) (by decide)
theorem own_narC {c : Int32} (h0 : 0 ≤ c.toInt) (h1 : c.toInt < 65536) : nar .char c = c := own_i2c h0 h1
theorem own_fcL {c : Int32} (h0 : 0 ≤ c.toInt) (h1 : c.toInt < 256) : fcL (own_b c) = c := by
  have e : flc (own_b c) = c := by
    show nar .char (own_cL (own_b c)) = c
    rw [own_decL h0 h1, own_narC h0 (by omega)]
  show nar .char (flc (own_b c)) = c
  rw [e, own_narC h0 (by omega)]
theorem own_fgc {c : Int32} (h0 : 0 ≤ c.toInt) (h1 : c.toInt < 65536) : fgc (own_lo c) (own_hi c) = c := by
  show nar .char (own_cU (own_lo c) (own_hi c)) = c
  rw [own_decU h0 h1, own_narC h0 h1]
theorem own_fcU {c : Int32} (h0 : 0 ≤ c.toInt) (h1 : c.toInt < 65536) : fcU (own_lo c) (own_hi c) = c := by
  have e : fua (own_lo c) (own_hi c) = c := by
    show nar .char (fgc (own_lo c) (own_hi c)) = c
    rw [own_fgc h0 h1, own_narC h0 h1]
  show nar .char (fua (own_lo c) (own_hi c)) = c
  rw [e, own_narC h0 h1]
theorem own_u0 (g : Nat → Int32) (i : Nat) : own_u g (2 * i) = own_lo (g i) := by
  unfold own_u
  rw [if_pos (by omega), show 2 * i / 2 = i from by omega]
theorem own_u1 (g : Nat → Int32) (i : Nat) : own_u g (2 * i + 1) = own_hi (g i) := by
  unfold own_u
  rw [if_neg (by omega), show (2 * i + 1) / 2 = i from by omega]
/-- charAt on a String whose chars are known -/
def QcA (Z : State) (a0_ : Addr) (p1 : Int32) (g : Nat → Int32) (i : Nat) (h0 : Heap) (n0 : Nat) (v : Option Value) (h : Heap) (L : List Loc) : Prop := v = some (.int (g i)) ∧ Fr n0 L ∧ h = h0
theorem rmcA (l : Launch) (Z : State) (aa : Array Value) (hw : ∀ d ∈ tables_1, d.before aa Z = true) (ws : List Jvm.Cond) (a0_ : Addr) (p1 : Int32) (wc : Int32) (sx : Value) (b : Addr) (n : Nat) (g : Nat → Int32) (i : Nat) (h0 : Heap) (n0 : Nat) (Z0 : n0 ≤ h0.size) (BW : OwnW Z wc sx) (O0 : Old Z n0 h0) (S : OwnStr Z h0 a0_ b n g) (hn : n ≤ 4000) (hch : ∀ j, j < n → 0 ≤ (g j).toInt ∧ (g j).toInt < 65536) (hi : p1.toInt = i) (hlt : i < n) :
    MetFree l (⟨"java/lang/String", "charAt", "(I)C"⟩ : MethodName) (head1 (Jvm.Cond.code (⟨"java/lang/String", "charAt", "(I)C"⟩ : MethodName) jdk_42_method_56_code 2 (some .char) :: ws) ({ frames := 4, cells := 0, slots := 0, locals := 53 } : Room)) (fun a U => a = #[(.ref a0_), (.int p1)] ∧ Z.Warmed39 U.vm ∧ U.heap = h0) (fun _ _ _ _ _ => True) (fun _ U o U' => ∃ v L, o = .returned v ∧ QcA Z a0_ p1 g i h0 n0 v U'.heap L ∧ FrameEnd U o U' L ({ frames := 4, cells := 0, slots := 0, locals := 53 } : Room).cells ({ frames := 4, cells := 0, slots := 0, locals := 53 } : Room).slots) := by
  obtain ⟨E, F, ⟨C, q, k, V⟩ | ⟨C, k, V⟩⟩ := S
  · have hz := own_ofNat (n := n) (by omega)
    refine own_mono (rmcL l Z aa hw ws a0_ p1 wc sx b k (Int32.ofNat n) (own_vs n fun j => own_b (g j)) (own_b (g i)) h0 n0 Z0 BW O0 E F C V (own_nn hi) ((own_lt32 hi hz).mpr hlt) (by rw [own_clamp hi, own_vsGet hlt])) ?_
    rintro a s o t ⟨v, L, ho, ⟨hv, N, hh⟩, hF⟩
    exact ⟨v, L, ho, ⟨by rw [hv, own_fcL (hch i hlt).1 (q i hlt)], N, hh⟩, hF⟩
  · have e0 := own_shl1 hi (by omega)
    have e1 := own_inc e0 (by omega)
    have hz := own_ofNat (n := 2 * n) (by omega)
    refine own_mono (rmcU l Z aa hw ws a0_ p1 wc sx b k (Int32.ofNat (2 * n)) (own_vs (2 * n) (own_u g)) (own_lo (g i)) (own_hi (g i)) h0 n0 Z0 BW O0 E F C V (own_nn hi) (by show p1 < Int32.ofNat (2 * n) >>> ((1 : Int32) &&& 31); rw [own_shr1 (by omega)]; exact (own_lt32 hi (own_ofNat (by omega))).mpr hlt) ⟨own_nn e0, (own_lt32 e0 hz).mpr (by omega)⟩ ⟨own_nn e1, (own_lt32 e1 hz).mpr (by omega)⟩ (by rw [own_clamp e0, own_vsGet (by omega), own_u0]) (by rw [own_clamp e1, own_vsGet (by omega), own_u1])) ?_
    rintro a s o t ⟨v, L, ho, ⟨hv, N, hh⟩, hF⟩
    exact ⟨v, L, ho, ⟨by rw [hv, own_fcU (hch i hlt).1 (hch i hlt).2], N, hh⟩, hF⟩
theorem dln_0 : decode jdk_42_method_54_code 0 = .ok (.aload_n 0, 1) := by decide +kernel
theorem dln_1 : decode jdk_42_method_54_code 1 = .ok (.getfield 9, 3) := by decide +kernel
theorem dln_4 : decode jdk_42_method_54_code 4 = .ok (.arraylength, 1) := by decide +kernel
theorem dln_5 : decode jdk_42_method_54_code 5 = .ok (.aload_n 0, 1) := by decide +kernel
theorem dln_6 : decode jdk_42_method_54_code 6 = .ok (.invokevirtual 335, 3) := by decide +kernel
theorem dln_9 : decode jdk_42_method_54_code 9 = .ok (.ishr, 1) := by decide +kernel
theorem dln_10 : decode jdk_42_method_54_code 10 = .ok (.ireturn, 1) := by decide +kernel
theorem pnln : plainName "java/lang/String" = true := by first | (simp [plainName, overriddenIn]; done) | decide +kernel
theorem pdln_0 : parseMethodDescriptor "()B" = some ⟨[], some .byte⟩ := by decide +kernel
theorem efln (m : MethodId) (a0 : Addr) : entryFrame m #[(.ref a0)] 1 = mkF m 0 #[.val (.ref a0)] [] := by first | (simp [entryFrame, mkF, argsToLocals, Value.category]; done) | rfl
def fln (z : Int32) (cd : Int32) : Int32 := (z >>> ((fco cd) &&& 31))
def Qln (Z : State) (a0 : Addr) (wc : Int32) (sx : Value) (cd : Int32) (b : Addr) (kb : ClassId) (z : Int32) (vs : List Value) (h0 : Heap) (n0 : Nat) (v : Option Value) (h : Heap) (L : List Loc) : Prop := v = some (.int (fln z cd)) ∧ Fr n0 L ∧ h = h0
set_option maxRecDepth 65536 in
set_option maxHeartbeats 40000000 in
theorem rmln (l : Launch) (Z : State) (aa : Array Value) (hw : ∀ d ∈ tables_1, d.before aa Z = true) (ws : List Jvm.Cond) (a0 : Addr) (wc : Int32) (sx : Value) (cd : Int32) (b : Addr) (kb : ClassId) (z : Int32) (vs : List Value) (h0 : Heap) (n0 : Nat) (Z0 : n0 ≤ h0.size) (BW : OwnW Z wc sx) (O0 : Old Z n0 h0) (E_a0 : Exa Z h0 a0 "java/lang/String") (F_value_a0 : Fld Z h0 a0 "java/lang/String" "value" "[B" (.ref b)) (F_coder_a0 : Fld Z h0 a0 "java/lang/String" "coder" "B" (.int cd)) (V_b : Arv Z h0 b kb .byte z vs (.int (0 : Int32))) :
    MetFree l (⟨"java/lang/String", "length", "()I"⟩ : MethodName) (head1 (Jvm.Cond.code (⟨"java/lang/String", "length", "()I"⟩ : MethodName) jdk_42_method_54_code 1 (some .int) :: ws) ({ frames := 1, cells := 0, slots := 0, locals := 13 } : Room)) (fun a U => a = #[(.ref a0)] ∧ Z.Warmed39 U.vm ∧ U.heap = h0) (fun _ _ _ _ _ => True) (fun _ U o U' => ∃ v L, o = .returned v ∧ Qln Z a0 wc sx cd b kb z vs h0 n0 v U'.heap L ∧ FrameEnd U o U' L ({ frames := 1, cells := 0, slots := 0, locals := 13 } : Room).cells ({ frames := 1, cells := 0, slots := 0, locals := 13 } : Room).slots) := by
  refine MetFree.of_bodySF (plainFor_of_name pnln) hisR ?_
  intro p e s m args below meth c s₁ Bd hml0 hP hK
  obtain ⟨rfl, hZ, hh⟩ := hP
  have hx := Bd.exec
  have hby := Bd.bytes
  have hml : c.maxLocals = 1 := hml0
  have hown : s.vm.findClass "java/lang/String" = some m.cls := findClass_of_methodNamed Bd.named
  have hnm := (name_of_methodNamed Bd.named Bd.method).1
  have X0 : Stand p l e ({ frames := 1, cells := 0, slots := 0, locals := 13 } : Room) s m #[(.ref a0)] below meth c s₁ [] 0 0 := Stand.of_body Bd
  have e0 : s₁.heap = h0 := by rw [← hh, Bd.state]; rfl
  have N0 := Fr.nil n0
  show OwnEnd p e below s (fun v h L => Qln Z a0 wc sx cd b kb z vs h0 n0 v h L) ({ frames := 1, cells := 0, slots := 0, locals := 13 } : Room).cells ({ frames := 1, cells := 0, slots := 0, locals := 13 } : Room).slots (s₁.setTop (entryFrame m #[(.ref a0)] 1))
  rw [efln m a0]
  generalize hW : OwnEnd p e below s (fun v h L => Qln Z a0 wc sx cd b kb z vs h0 n0 v h L) ({ frames := 1, cells := 0, slots := 0, locals := 13 } : Room).cells ({ frames := 1, cells := 0, slots := 0, locals := 13 } : Room).slots = W
  have stp : ∀ {A B : State}, (∀ t, Steps p.tables e below B t → Steps p.tables e below A t) → W B → W A := by subst hW; exact own_step
  obtain ⟨S_cs, hcs, S_si, hr_sx, S_ad, S_hi, S_lo⟩ := id BW
  show W (s₁.setTop (mkF m 0 #[.val (.ref a0)] []))
  refine stp (fun t k => XS.aloadN X0.here hx rfl (hb hby dln_0) rfl rfl k) ?_
  show W (s₁.setTop (mkF m 1 #[.val (.ref a0)] [(.ref a0)]))
  obtain ⟨Tln1, Xln1, eln1, stln1⟩ := getF X0 hx hZ hown (host := "") (Or.inl (hw _ (List.mem_of_getElem? (i := 24) rfl))) Via.refl e0 F_value_a0 (g := (mkF m 1 #[.val (.ref a0)] [(.ref a0)])) rfl rfl (hb hby dln_1)
  refine stp (fun t k => stln1 t k) ?_
  show W (Tln1.setTop (mkF m 4 #[.val (.ref a0)] [(.ref b)]))
  obtain ⟨clln2, Arln2, qkln2, qsln2, qnln2, qhln2, qgln2⟩ := id V_b
  refine stp (fun t k => Xln1.arraylength hx (by rw [eln1]; exact Arln2.1) (State.isArrayOf_alike hZ.alike Arln2.2.1) (g := (mkF m 4 #[.val (.ref a0)] [(.ref b)])) rfl rfl (hb hby dln_4) _ k) ?_
  rw [len_of qsln2 qnln2]
  show W (Tln1.setTop (mkF m 5 #[.val (.ref a0)] [(.int z)]))
  refine stp (fun t k => XS.aloadN Xln1.here hx rfl (hb hby dln_5) rfl rfl k) ?_
  show W (Tln1.setTop (mkF m 6 #[.val (.ref a0)] [(.ref a0), (.int z)]))
  obtain ⟨cqlnc3, kqlnc3, qlnc3a, qlnc3b, qlnc3c⟩ := isOf hZ eln1 E_a0
  obtain ⟨_, _, ⟨Tlnc3, Llnc3, klnc3, nlnc3⟩, -, Xlnc3, ⟨Lclnc3, hQlnc3, llnc3, ylnc3, zlnc3⟩, stlnc3⟩ := Xln1.virtualBack hx (y := (⟨"java/lang/String", "coder", "()B"⟩ : MethodName)) (z := (⟨"java/lang/String", "coder", "()B"⟩ : MethodName)) hown (mvT hZ (hw _ (List.mem_of_getElem? (i := 38) rfl))) (mvT hZ (hw _ (List.mem_of_getElem? (i := 39) rfl))) (notFace_of_selects (args := #[]) (mvT hZ (hw _ (List.mem_of_getElem? (i := 41) rfl)))) (mvT hZ (hw _ (List.mem_of_getElem? (i := 41) rfl))) (mvT hZ (hw _ (List.mem_of_getElem? (i := 40) rfl))) (by decide) (backOf (W := 1) (rmco l Z aa hw [] a0 wc sx cd h0 n0 Z0 BW O0 F_coder_a0) hZ (hw _ (List.mem_of_getElem? (i := 42) rfl)) (hw _ (List.mem_of_getElem? (i := 6) rfl)) (by decide) (by decide)) qlnc3a qlnc3c (g := (mkF m 6 #[.val (.ref a0)] [(.ref a0), (.int z)])) rfl (by rw [hml]; rfl) (Steps.refl _) (argsL := []) (rest := [(.int z)]) (lenOf pdln_0 rfl) rfl (by show 2 * 0 + _ ≤ _; exact Nat.le_of_eq rfl) (hb hby dln_6) (fun _ _ => ⟨rfl, eln1, (by decide : 0 + 0 ≤ _), (by decide : 0 + 0 ≤ _)⟩)
  dsimp only [Pt.U, Pt.locs, Pt.cells, Pt.slots] at Xlnc3 llnc3 ylnc3 zlnc3 stlnc3 hQlnc3
  subst llnc3 ylnc3 zlnc3
  obtain ⟨rfl, Nlnc3q, elnc3⟩ := hQlnc3
  have Nlnc3 := Fr.app N0 Nlnc3q
  obtain ⟨lclnt4, Xlnc3, Nlnc3⟩ : ∃ lc, Stand p l e ({ frames := 1, cells := 0, slots := 0, locals := 13 } : Room) s m #[(.ref a0)] below meth c Tlnc3 lc 0 0 ∧ Fr n0 lc := ⟨_, Xlnc3, Nlnc3⟩
  refine stp (fun t k => stlnc3.trans k) ?_
  show W (Tlnc3.setTop (mkF m 9 #[.val (.ref a0)] [(.int (fco cd)), (.int z)]))
  refine stp (fun t k => XS.ishr Xlnc3.here hx rfl (hb hby dln_9) rfl k) ?_
  show W (Tlnc3.setTop (mkF m 10 #[.val (.ref a0)] [(.int (z >>> ((fco cd) &&& 31)))]))
  show W (Tlnc3.setTop (mkF m 10 #[.val (.ref a0)] [(.int (z >>> ((fco cd) &&& 31)))]))
  rw [← hW]
  exact own_retI Xlnc3 hx Bd.notSynchronized Bd.returns (hb hby dln_10) (by show Qln Z a0 wc sx cd b kb z vs h0 n0 _ Tlnc3.heap _; rw [elnc3]; exact ⟨rfl, Nlnc3, rfl⟩) (by decide) (by decide)
theorem own_fln0 (z : Int32) : fln z (0 : Int32) = z := by
  show z >>> (nar .byte (0 : Int32) &&& 31) = z
  exact own_shr0 z
theorem own_fln1 {n : Nat} (hn : n ≤ 1000000) : fln (Int32.ofNat (2 * n)) (1 : Int32) = Int32.ofNat n := by
  show Int32.ofNat (2 * n) >>> (nar .byte (1 : Int32) &&& 31) = Int32.ofNat n
  exact own_shr1 hn
def QlA (Z : State) (a0_ : Addr) (n : Nat) (h0 : Heap) (n0 : Nat) (v : Option Value) (h : Heap) (L : List Loc) : Prop := v = some (.int (Int32.ofNat n)) ∧ Fr n0 L ∧ h = h0
theorem rmlA (l : Launch) (Z : State) (aa : Array Value) (hw : ∀ d ∈ tables_1, d.before aa Z = true) (ws : List Jvm.Cond) (a0_ : Addr) (wc : Int32) (sx : Value) (b : Addr) (n : Nat) (g : Nat → Int32) (h0 : Heap) (n0 : Nat) (Z0 : n0 ≤ h0.size) (BW : OwnW Z wc sx) (O0 : Old Z n0 h0) (S : OwnStr Z h0 a0_ b n g) (hn : n ≤ 4000) :
    MetFree l (⟨"java/lang/String", "length", "()I"⟩ : MethodName) (head1 (Jvm.Cond.code (⟨"java/lang/String", "length", "()I"⟩ : MethodName) jdk_42_method_54_code 1 (some .int) :: ws) ({ frames := 1, cells := 0, slots := 0, locals := 13 } : Room)) (fun a U => a = #[(.ref a0_)] ∧ Z.Warmed39 U.vm ∧ U.heap = h0) (fun _ _ _ _ _ => True) (fun _ U o U' => ∃ v L, o = .returned v ∧ QlA Z a0_ n h0 n0 v U'.heap L ∧ FrameEnd U o U' L ({ frames := 1, cells := 0, slots := 0, locals := 13 } : Room).cells ({ frames := 1, cells := 0, slots := 0, locals := 13 } : Room).slots) := by
  obtain ⟨E, F, ⟨C, q, k, V⟩ | ⟨C, k, V⟩⟩ := S
  · refine own_mono (rmln l Z aa hw ws a0_ wc sx (0 : Int32) b k (Int32.ofNat n) (own_vs n fun j => own_b (g j)) h0 n0 Z0 BW O0 E F C V) ?_
    rintro a s o t ⟨v, L, ho, ⟨hv, N, hh⟩, hF⟩
    exact ⟨v, L, ho, ⟨by rw [hv, own_fln0], N, hh⟩, hF⟩
  · refine own_mono (rmln l Z aa hw ws a0_ wc sx (1 : Int32) b k (Int32.ofNat (2 * n)) (own_vs (2 * n) (own_u g)) h0 n0 Z0 BW O0 E F C V) ?_
    rintro a s o t ⟨v, L, ho, ⟨hv, N, hh⟩, hF⟩
    exact ⟨v, L, ho, ⟨by rw [hv, own_fln1 (by omega)], N, hh⟩, hF⟩
theorem own_c256 {c : Int32} (h : ¬ ((255 : Int32) < c)) : c.toInt < 256 := by
  rw [Int32.lt_iff_toInt_lt, show (255 : Int32).toInt = 255 from by decide] at h; omega
theorem own_c255 {c : Int32} (h : (255 : Int32) < c) : 256 ≤ c.toInt := by
  rw [Int32.lt_iff_toInt_lt, show (255 : Int32).toInt = 255 from by decide] at h; omega
theorem own_step1 (n i : Nat) (g : Nat → Int32) : (own_vs n fun j => if j < i then own_b (g j) else (0 : Int32)).set i (.int (own_b (g i))) = own_vs n fun j => if j < i + 1 then own_b (g j) else (0 : Int32) := by
  rw [own_vsSet]
  apply own_vsCongr
  intro j _
  by_cases h : j = i
  · subst h; simp
  · by_cases h2 : j < i
    · simp [h, h2, Nat.lt_succ_of_lt h2]
    · have h3 : ¬ j < i + 1 := by omega
      simp [h, h2, h3]
theorem dk1_0 : decode jdk_52_method_21_code 0 = .ok (.iconst 0, 1) := by decide +kernel
theorem dk1_1 : decode jdk_52_method_21_code 1 = .ok (.istore 5, 2) := by decide +kernel
theorem dk1_3 : decode jdk_52_method_21_code 3 = .ok (.iload 5, 2) := by decide +kernel
theorem dk1_5 : decode jdk_52_method_21_code 5 = .ok (.iload 4, 2) := by decide +kernel
theorem dk1_7 : decode jdk_52_method_21_code 7 = .ok (.if_icmp .ge 37, 3) := by decide +kernel
theorem dk1_10 : decode jdk_52_method_21_code 10 = .ok (.aload_n 0, 1) := by decide +kernel
theorem dk1_11 : decode jdk_52_method_21_code 11 = .ok (.iload_n 1, 1) := by decide +kernel
theorem dk1_12 : decode jdk_52_method_21_code 12 = .ok (.caload, 1) := by decide +kernel
theorem dk1_13 : decode jdk_52_method_21_code 13 = .ok (.istore 6, 2) := by decide +kernel
theorem dk1_15 : decode jdk_52_method_21_code 15 = .ok (.iload 6, 2) := by decide +kernel
theorem dk1_17 : decode jdk_52_method_21_code 17 = .ok (.sipush 255, 3) := by decide +kernel
theorem dk1_20 : decode jdk_52_method_21_code 20 = .ok (.if_icmp .le 6, 3) := by decide +kernel
theorem dk1_23 : decode jdk_52_method_21_code 23 = .ok (.iload 5, 2) := by decide +kernel
theorem dk1_25 : decode jdk_52_method_21_code 25 = .ok (.ireturn, 1) := by decide +kernel
theorem dk1_26 : decode jdk_52_method_21_code 26 = .ok (.aload_n 2, 1) := by decide +kernel
theorem dk1_27 : decode jdk_52_method_21_code 27 = .ok (.iload_n 3, 1) := by decide +kernel
theorem dk1_28 : decode jdk_52_method_21_code 28 = .ok (.iload 6, 2) := by decide +kernel
theorem dk1_30 : decode jdk_52_method_21_code 30 = .ok (.i2b, 1) := by decide +kernel
theorem dk1_31 : decode jdk_52_method_21_code 31 = .ok (.bastore, 1) := by decide +kernel
theorem dk1_32 : decode jdk_52_method_21_code 32 = .ok (.iinc 1 1, 3) := by decide +kernel
theorem dk1_35 : decode jdk_52_method_21_code 35 = .ok (.iinc 3 1, 3) := by decide +kernel
theorem dk1_38 : decode jdk_52_method_21_code 38 = .ok (.iinc 5 1, 3) := by decide +kernel
theorem dk1_41 : decode jdk_52_method_21_code 41 = .ok (.goto (-38), 3) := by decide +kernel
theorem dk1_44 : decode jdk_52_method_21_code 44 = .ok (.iload 4, 2) := by decide +kernel
theorem dk1_46 : decode jdk_52_method_21_code 46 = .ok (.ireturn, 1) := by decide +kernel
theorem pnk1 : plainName "java/lang/StringUTF16" = true := by first | (simp [plainName, overriddenIn]; done) | decide +kernel
theorem efk1 (m : MethodId) (a0 : Addr) (p1 : Int32) (a2 : Addr) (p3 : Int32) (p4 : Int32) : entryFrame m #[(.ref a0), (.int p1), (.ref a2), (.int p3), (.int p4)] 7 = mkF m 0 #[.val (.ref a0), .val (.int p1), .val (.ref a2), .val (.int p3), .val (.int p4), .unset, .unset] [] := by first | (simp [entryFrame, mkF, argsToLocals, Value.category]; done) | rfl
def Qk1 (Z : State) (a0 : Addr) (p1 : Int32) (a2 : Addr) (p3 : Int32) (p4 : Int32) (wc : Int32) (sx : Value) (n : Nat) (g : Nat → Int32) (ka : ClassId) (kb : ClassId) (h0 : Heap) (n0 : Nat) (v : Option Value) (h : Heap) (L : List Loc) : Prop := ∃ r : Int32, v = some (.int r) ∧ Fr n0 L ∧ Keep h0 h [a2] ∧ ((r = (Int32.ofNat n) ∧ (∀ j, j < n → (g j).toInt < 256) ∧ Arv Z h a2 kb .byte (Int32.ofNat n) (own_vs n fun j => own_b (g j)) (.int (0 : Int32))) ∨ ∃ i, i < n ∧ r.toInt = (i : Int) ∧ 256 ≤ (g i).toInt)
set_option maxRecDepth 65536 in
set_option maxHeartbeats 40000000 in
theorem rmk1 (l : Launch) (Z : State) (aa : Array Value) (hw : ∀ d ∈ tables_1, d.before aa Z = true) (ws : List Jvm.Cond) (a0 : Addr) (p1 : Int32) (a2 : Addr) (p3 : Int32) (p4 : Int32) (wc : Int32) (sx : Value) (n : Nat) (g : Nat → Int32) (ka : ClassId) (kb : ClassId) (h0 : Heap) (n0 : Nat) (Z0 : n0 ≤ h0.size) (BW : OwnW Z wc sx) (O0 : Old Z n0 h0) (hn : n ≤ 2) (hch : ∀ j, j < n → 0 ≤ (g j).toInt ∧ (g j).toInt < 65536) (V_a0 : Arv Z h0 a0 ka .char (Int32.ofNat n) (own_vs n g) (.int (0 : Int32))) (V_a2 : Arv Z h0 a2 kb .byte (Int32.ofNat n) (own_vs n fun _ => (0 : Int32)) (.int (0 : Int32))) (ne_a0_a2 : a0 ≠ a2) (g_a2 : n0 ≤ a2) (hp1 : p1 = (0 : Int32)) (hp3 : p3 = (0 : Int32)) (hp4 : p4 = (Int32.ofNat n)) :
    MetFree l (⟨"java/lang/StringUTF16", "compress", "([CI[BII)I"⟩ : MethodName) (head1 (Jvm.Cond.code (⟨"java/lang/StringUTF16", "compress", "([CI[BII)I"⟩ : MethodName) jdk_52_method_21_code 7 (some .int) :: ws) ({ frames := 0, cells := 0, slots := 0, locals := 0 } : Room)) (fun a U => a = #[(.ref a0), (.int p1), (.ref a2), (.int p3), (.int p4)] ∧ Z.Warmed39 U.vm ∧ U.heap = h0) (fun _ _ _ _ _ => True) (fun _ U o U' => ∃ v L, o = .returned v ∧ Qk1 Z a0 p1 a2 p3 p4 wc sx n g ka kb h0 n0 v U'.heap L ∧ FrameEnd U o U' L ({ frames := 0, cells := 0, slots := 0, locals := 0 } : Room).cells ({ frames := 0, cells := 0, slots := 0, locals := 0 } : Room).slots) := by
  refine MetFree.of_bodySF (plainFor_of_name pnk1) hisR ?_
  intro p e s m args below meth c s₁ Bd hml0 hP hK
  obtain ⟨rfl, hZ, hh⟩ := hP
  have hx := Bd.exec
  have hby := Bd.bytes
  have hml : c.maxLocals = 7 := hml0
  have hown : s.vm.findClass "java/lang/StringUTF16" = some m.cls := findClass_of_methodNamed Bd.named
  have hnm := (name_of_methodNamed Bd.named Bd.method).1
  have X0 : Stand p l e ({ frames := 0, cells := 0, slots := 0, locals := 0 } : Room) s m #[(.ref a0), (.int p1), (.ref a2), (.int p3), (.int p4)] below meth c s₁ [] 0 0 := Stand.of_body Bd
  have e0 : s₁.heap = h0 := by rw [← hh, Bd.state]; rfl
  have N0 := Fr.nil n0
  show OwnEnd p e below s (fun v h L => Qk1 Z a0 p1 a2 p3 p4 wc sx n g ka kb h0 n0 v h L) ({ frames := 0, cells := 0, slots := 0, locals := 0 } : Room).cells ({ frames := 0, cells := 0, slots := 0, locals := 0 } : Room).slots (s₁.setTop (entryFrame m #[(.ref a0), (.int p1), (.ref a2), (.int p3), (.int p4)] 7))
  rw [efk1 m a0 p1 a2 p3 p4]
  generalize hW : OwnEnd p e below s (fun v h L => Qk1 Z a0 p1 a2 p3 p4 wc sx n g ka kb h0 n0 v h L) ({ frames := 0, cells := 0, slots := 0, locals := 0 } : Room).cells ({ frames := 0, cells := 0, slots := 0, locals := 0 } : Room).slots = W
  have stp : ∀ {A B : State}, (∀ t, Steps p.tables e below B t → Steps p.tables e below A t) → W B → W A := by subst hW; exact own_step
  obtain ⟨S_cs, hcs, S_si, hr_sx, S_ad, S_hi, S_lo⟩ := id BW
  have hz := own_ofNat (n := n) (by omega)
  subst hp1 hp3 hp4
  show W (s₁.setTop (mkF m 0 #[.val (.ref a0), .val (.int (0 : Int32)), .val (.ref a2), .val (.int (0 : Int32)), .val (.int (Int32.ofNat n)), .unset, .unset] []))
  refine stp (fun t k => XS.iconst X0.here hx rfl (hb hby dk1_0) k) ?_
  show W (s₁.setTop (mkF m 1 #[.val (.ref a0), .val (.int (0 : Int32)), .val (.ref a2), .val (.int (0 : Int32)), .val (.int (Int32.ofNat n)), .unset, .unset] [(.int (0 : Int32))]))
  refine stp (fun t k => XS.istore X0.here hx rfl (hb hby dk1_1) rfl (l' := #[.val (.ref a0), .val (.int (0 : Int32)), .val (.ref a2), .val (.int (0 : Int32)), .val (.int (Int32.ofNat n)), .val (.int (0 : Int32)), .unset]) rfl k) ?_
  have LP : ∀ (r i : Nat) (x1 : Int32) (x3 : Int32) (x5 : Int32) (s6 : Slot) (T' : State) (lc : List Loc) (h' : Heap) (hir : i + r = n) (hx1 : x1.toInt = (i : Int)) (hx3 : x3.toInt = (i : Int)) (hx5 : x5.toInt = (i : Int)) (hs6 : One s6) (hlat : ∀ j, j < i → (g j).toInt < 256) (XL : Stand p l e ({ frames := 0, cells := 0, slots := 0, locals := 0 } : Room) s m #[(.ref a0), (.int (0 : Int32)), (.ref a2), (.int (0 : Int32)), (.int (Int32.ofNat n))] below meth c T' lc 0 0) (eL : T'.heap = h') (NL : Fr n0 lc) (KL : Keep h0 h' [a2]) (OL : Old Z n0 h') (V_a0 : Arv Z h' a0 ka .char (Int32.ofNat n) (own_vs n g) (.int (0 : Int32))) (V_a2 : Arv Z h' a2 kb .byte (Int32.ofNat n) (own_vs n fun j => if j < i then own_b (g j) else (0 : Int32)) (.int (0 : Int32))), W (T'.setTop (mkF m 3 #[.val (.ref a0), .val (.int x1), .val (.ref a2), .val (.int x3), .val (.int (Int32.ofNat n)), .val (.int x5), s6] [])) := by
    intro r
    induction r with
    | zero =>
      intro i x1 x3 x5 s6 T' lc h' hir hx1 hx3 hx5 hs6 hlat XL eL NL KL OL V_a0 V_a2
      have ZL : n0 ≤ h'.size := Nat.le_trans Z0 KL.1
      show W (T'.setTop (mkF m 3 #[.val (.ref a0), .val (.int x1), .val (.ref a2), .val (.int x3), .val (.int (Int32.ofNat n)), .val (.int x5), s6] []))
      refine stp (fun t k => XS.iload XL.here hx rfl (hb hby dk1_3) rfl k) ?_
      show W (T'.setTop (mkF m 5 #[.val (.ref a0), .val (.int x1), .val (.ref a2), .val (.int x3), .val (.int (Int32.ofNat n)), .val (.int x5), s6] [(.int x5)]))
      refine stp (fun t k => XS.iload XL.here hx rfl (hb hby dk1_5) rfl k) ?_
      show W (T'.setTop (mkF m 7 #[.val (.ref a0), .val (.int x1), .val (.ref a2), .val (.int x3), .val (.int (Int32.ofNat n)), .val (.int x5), s6] [(.int (Int32.ofNat n)), (.int x5)]))
      refine stp (fun t k => XS.icmpYes XL.here hx rfl (pc0 := 7) (pc' := 44) rfl (hb hby dk1_7) rfl ((flt (fun q => by have := (own_lt32 hx5 hz).mp q; omega)).2.1) (by decide) (by decide) k) ?_
      show W (T'.setTop (mkF m 44 #[.val (.ref a0), .val (.int x1), .val (.ref a2), .val (.int x3), .val (.int (Int32.ofNat n)), .val (.int x5), s6] []))
      refine stp (fun t k => XS.iload XL.here hx rfl (hb hby dk1_44) rfl k) ?_
      show W (T'.setTop (mkF m 46 #[.val (.ref a0), .val (.int x1), .val (.ref a2), .val (.int x3), .val (.int (Int32.ofNat n)), .val (.int x5), s6] [(.int (Int32.ofNat n))]))
      show W (T'.setTop (mkF m 46 #[.val (.ref a0), .val (.int x1), .val (.ref a2), .val (.int x3), .val (.int (Int32.ofNat n)), .val (.int x5), s6] [(.int (Int32.ofNat n))]))
      rw [← hW]
      exact own_retI XL hx Bd.notSynchronized Bd.returns (hb hby dk1_46) (by show Qk1 Z a0 (0 : Int32) a2 (0 : Int32) (Int32.ofNat n) wc sx n g ka kb h0 n0 _ T'.heap _; rw [eL]; exact ⟨(Int32.ofNat n), rfl, NL, KL, Or.inl ⟨rfl, (by obtain rfl : i = n := (by omega); exact hlat), (by obtain rfl : i = n := (by omega); exact own_arvEq (own_vsCongr (fun j hj => if_pos hj)) V_a2)⟩⟩) (by decide) (by decide)
    | succ r ih =>
      intro i x1 x3 x5 s6 T' lc h' hir hx1 hx3 hx5 hs6 hlat XL eL NL KL OL V_a0 V_a2
      have ZL : n0 ≤ h'.size := Nat.le_trans Z0 KL.1
      show W (T'.setTop (mkF m 3 #[.val (.ref a0), .val (.int x1), .val (.ref a2), .val (.int x3), .val (.int (Int32.ofNat n)), .val (.int x5), s6] []))
      refine stp (fun t k => XS.iload XL.here hx rfl (hb hby dk1_3) rfl k) ?_
      show W (T'.setTop (mkF m 5 #[.val (.ref a0), .val (.int x1), .val (.ref a2), .val (.int x3), .val (.int (Int32.ofNat n)), .val (.int x5), s6] [(.int x5)]))
      refine stp (fun t k => XS.iload XL.here hx rfl (hb hby dk1_5) rfl k) ?_
      show W (T'.setTop (mkF m 7 #[.val (.ref a0), .val (.int x1), .val (.ref a2), .val (.int x3), .val (.int (Int32.ofNat n)), .val (.int x5), s6] [(.int (Int32.ofNat n)), (.int x5)]))
      refine stp (fun t k => XS.icmpNo XL.here hx rfl (hb hby dk1_7) rfl ((tlt ((own_lt32 hx5 hz).mpr (by omega))).2.1) k) ?_
      show W (T'.setTop (mkF m 10 #[.val (.ref a0), .val (.int x1), .val (.ref a2), .val (.int x3), .val (.int (Int32.ofNat n)), .val (.int x5), s6] []))
      refine stp (fun t k => XS.aloadN XL.here hx rfl (hb hby dk1_10) rfl rfl k) ?_
      show W (T'.setTop (mkF m 11 #[.val (.ref a0), .val (.int x1), .val (.ref a2), .val (.int x3), .val (.int (Int32.ofNat n)), .val (.int x5), s6] [(.ref a0)]))
      refine stp (fun t k => XS.iloadN XL.here hx rfl (hb hby dk1_11) rfl k) ?_
      show W (T'.setTop (mkF m 12 #[.val (.ref a0), .val (.int x1), .val (.ref a2), .val (.int x3), .val (.int (Int32.ofNat n)), .val (.int x5), s6] [(.int x1), (.ref a0)]))
      obtain ⟨clk11, Ark11, qkk11, qsk11, qnk11, qhk11, qgk11⟩ := id V_a0
      have hink11 : ¬ (x1 < 0 ∨ clk11.slots.size ≤ (x1).toNatClampNeg) := inb_of qsk11 ⟨own_nn hx1, (own_lt32 hx1 hz).mpr (by omega)⟩
      have hatk11 : clk11.slots[(x1).toNatClampNeg]? = some (.int (g i)) := qhk11.at hink11 (by rw [own_clamp hx1, own_vsGet (by omega)])
      refine stp (fun t k => XL.caload hx (j := x1) (v := (.int (g i))) (by rw [eL]; exact Ark11.1) (State.isArrayOf_alike hZ.alike Ark11.2.1) Ark11.2.2 hink11 hatk11 (g := (mkF m 12 #[.val (.ref a0), .val (.int x1), .val (.ref a2), .val (.int x3), .val (.int (Int32.ofNat n)), .val (.int x5), s6] [(.int x1), (.ref a0)])) rfl rfl (hb hby dk1_12) _ k) ?_
      show W (T'.setTop (mkF m 13 #[.val (.ref a0), .val (.int x1), .val (.ref a2), .val (.int x3), .val (.int (Int32.ofNat n)), .val (.int x5), s6] [(.int (g i))]))
      refine stp (fun t k => XS.istoreS XL.here hx rfl (hb hby dk1_13) rfl rfl hs6 k) ?_
      show W (T'.setTop (mkF m 15 #[.val (.ref a0), .val (.int x1), .val (.ref a2), .val (.int x3), .val (.int (Int32.ofNat n)), .val (.int x5), .val (.int (g i))] []))
      show W (T'.setTop (mkF m 15 #[.val (.ref a0), .val (.int x1), .val (.ref a2), .val (.int x3), .val (.int (Int32.ofNat n)), .val (.int x5), .val (.int (g i))] []))
      refine stp (fun t k => XS.iload XL.here hx rfl (hb hby dk1_15) rfl k) ?_
      show W (T'.setTop (mkF m 17 #[.val (.ref a0), .val (.int x1), .val (.ref a2), .val (.int x3), .val (.int (Int32.ofNat n)), .val (.int x5), .val (.int (g i))] [(.int (g i))]))
      refine stp (fun t k => XS.sipush XL.here hx rfl (hb hby dk1_17) k) ?_
      show W (T'.setTop (mkF m 20 #[.val (.ref a0), .val (.int x1), .val (.ref a2), .val (.int x3), .val (.int (Int32.ofNat n)), .val (.int x5), .val (.int (g i))] [(.int (255 : Int32)), (.int (g i))]))
      by_cases hck1_2 : (255 : Int32) < (g i)
      · refine stp (fun t k => XS.icmpNo XL.here hx rfl (hb hby dk1_20) rfl ((tlt hck1_2).2.2.2) k) ?_
        show W (T'.setTop (mkF m 23 #[.val (.ref a0), .val (.int x1), .val (.ref a2), .val (.int x3), .val (.int (Int32.ofNat n)), .val (.int x5), .val (.int (g i))] []))
        refine stp (fun t k => XS.iload XL.here hx rfl (hb hby dk1_23) rfl k) ?_
        show W (T'.setTop (mkF m 25 #[.val (.ref a0), .val (.int x1), .val (.ref a2), .val (.int x3), .val (.int (Int32.ofNat n)), .val (.int x5), .val (.int (g i))] [(.int x5)]))
        show W (T'.setTop (mkF m 25 #[.val (.ref a0), .val (.int x1), .val (.ref a2), .val (.int x3), .val (.int (Int32.ofNat n)), .val (.int x5), .val (.int (g i))] [(.int x5)]))
        rw [← hW]
        exact own_retI XL hx Bd.notSynchronized Bd.returns (hb hby dk1_25) (by show Qk1 Z a0 (0 : Int32) a2 (0 : Int32) (Int32.ofNat n) wc sx n g ka kb h0 n0 _ T'.heap _; rw [eL]; exact ⟨x5, rfl, NL, KL, Or.inr ⟨i, by omega, hx5, own_c255 hck1_2⟩⟩) (by decide) (by decide)
      · refine stp (fun t k => XS.icmpYes XL.here hx rfl (pc0 := 20) (pc' := 26) rfl (hb hby dk1_20) rfl ((flt hck1_2).2.2.2) (by decide) (by decide) k) ?_
        show W (T'.setTop (mkF m 26 #[.val (.ref a0), .val (.int x1), .val (.ref a2), .val (.int x3), .val (.int (Int32.ofNat n)), .val (.int x5), .val (.int (g i))] []))
        refine stp (fun t k => XS.aloadN XL.here hx rfl (hb hby dk1_26) rfl rfl k) ?_
        show W (T'.setTop (mkF m 27 #[.val (.ref a0), .val (.int x1), .val (.ref a2), .val (.int x3), .val (.int (Int32.ofNat n)), .val (.int x5), .val (.int (g i))] [(.ref a2)]))
        refine stp (fun t k => XS.iloadN XL.here hx rfl (hb hby dk1_27) rfl k) ?_
        show W (T'.setTop (mkF m 28 #[.val (.ref a0), .val (.int x1), .val (.ref a2), .val (.int x3), .val (.int (Int32.ofNat n)), .val (.int x5), .val (.int (g i))] [(.int x3), (.ref a2)]))
        refine stp (fun t k => XS.iload XL.here hx rfl (hb hby dk1_28) rfl k) ?_
        show W (T'.setTop (mkF m 30 #[.val (.ref a0), .val (.int x1), .val (.ref a2), .val (.int x3), .val (.int (Int32.ofNat n)), .val (.int x5), .val (.int (g i))] [(.int (g i)), (.int x3), (.ref a2)]))
        refine stp (fun t k => XS.i2b XL.here hx rfl (hb hby dk1_30) rfl k) ?_
        show W (T'.setTop (mkF m 31 #[.val (.ref a0), .val (.int x1), .val (.ref a2), .val (.int x3), .val (.int (Int32.ofNat n)), .val (.int x5), .val (.int (g i))] [(.int ((g i).toInt8.toInt32)), (.int x3), (.ref a2)]))
        obtain ⟨clk13, Ark13, qkk13, qsk13, qnk13, qhk13, qgk13⟩ := id V_a2
        have hink13 : ¬ (x3 < 0 ∨ clk13.slots.size ≤ (x3).toNatClampNeg) := inb_of qsk13 ⟨own_nn hx3, (own_lt32 hx3 hz).mpr (by omega)⟩
        obtain ⟨Tk13, hk13, Xk13, ek13, Wk13, stk13⟩ := stB XL hx hZ eL Ark13 (j := x3) hink13 (g := (mkF m 31 #[.val (.ref a0), .val (.int x1), .val (.ref a2), .val (.int x3), .val (.int (Int32.ofNat n)), .val (.int x5), .val (.int (g i))] [(.int ((g i).toInt8.toInt32)), (.int x3), (.ref a2)])) rfl rfl (hb hby dk1_31)
        have V_a2x := Arv.set Ark13 qkk13 qsk13 qnk13 qhk13 qgk13 (fits_nar_byte _) Wk13 i (own_clamp hx3) (by rw [own_vsLen]; omega)
        have Nk13 := Fr.snoc Xk13 NL g_a2
        obtain ⟨lck1t4, Xk13, Nk13⟩ : ∃ lc, Stand p l e ({ frames := 0, cells := 0, slots := 0, locals := 0 } : Room) s m #[(.ref a0), (.int (0 : Int32)), (.ref a2), (.int (0 : Int32)), (.int (Int32.ofNat n))] below meth c Tk13 lc 0 0 ∧ Fr n0 lc := ⟨_, Xk13, Nk13⟩
        replace V_a0 := V_a0.other Wk13 ne_a0_a2
        have Kk13 := KL.wr Wk13 (Or.inl (List.mem_of_getElem? (i := 0) rfl))
        have Zk13 := Nat.le_trans ZL (Keep.of_wr Wk13).1
        have Ok13 := OL.wr Wk13 g_a2
        replace V_a2 : Arv Z hk13 a2 kb .byte (Int32.ofNat n) (own_vs n fun j => if j < i + 1 then own_b (g j) else (0 : Int32)) (.int (0 : Int32)) := own_arvEq (own_step1 n i g) V_a2x
        refine stp (fun t k => stk13 t k) ?_
        show W (Tk13.setTop (mkF m 32 #[.val (.ref a0), .val (.int x1), .val (.ref a2), .val (.int x3), .val (.int (Int32.ofNat n)), .val (.int x5), .val (.int (g i))] []))
        refine stp (fun t k => XS.iinc Xk13.here hx rfl (hb hby dk1_32) rfl (l' := #[.val (.ref a0), .val (.int (x1 + (1 : Int32))), .val (.ref a2), .val (.int x3), .val (.int (Int32.ofNat n)), .val (.int x5), .val (.int (g i))]) rfl k) ?_
        show W (Tk13.setTop (mkF m 35 #[.val (.ref a0), .val (.int (x1 + (1 : Int32))), .val (.ref a2), .val (.int x3), .val (.int (Int32.ofNat n)), .val (.int x5), .val (.int (g i))] []))
        refine stp (fun t k => XS.iinc Xk13.here hx rfl (hb hby dk1_35) rfl (l' := #[.val (.ref a0), .val (.int (x1 + (1 : Int32))), .val (.ref a2), .val (.int (x3 + (1 : Int32))), .val (.int (Int32.ofNat n)), .val (.int x5), .val (.int (g i))]) rfl k) ?_
        show W (Tk13.setTop (mkF m 38 #[.val (.ref a0), .val (.int (x1 + (1 : Int32))), .val (.ref a2), .val (.int (x3 + (1 : Int32))), .val (.int (Int32.ofNat n)), .val (.int x5), .val (.int (g i))] []))
        refine stp (fun t k => XS.iinc Xk13.here hx rfl (hb hby dk1_38) rfl (l' := #[.val (.ref a0), .val (.int (x1 + (1 : Int32))), .val (.ref a2), .val (.int (x3 + (1 : Int32))), .val (.int (Int32.ofNat n)), .val (.int (x5 + (1 : Int32))), .val (.int (g i))]) rfl k) ?_
        show W (Tk13.setTop (mkF m 41 #[.val (.ref a0), .val (.int (x1 + (1 : Int32))), .val (.ref a2), .val (.int (x3 + (1 : Int32))), .val (.int (Int32.ofNat n)), .val (.int (x5 + (1 : Int32))), .val (.int (g i))] []))
        refine stp (fun t k => XS.goto Xk13.here hx rfl (pc0 := 41) (pc' := 3) rfl (hb hby dk1_41) (by decide) (by decide) k) ?_
        exact ih (i + 1) _ _ _ _ _ _ _ (by omega) (own_inc hx1 (by omega)) (own_inc hx3 (by omega)) (own_inc hx5 (by omega)) (One.val rfl) (fun j hj => (Nat.lt_succ_iff_lt_or_eq.mp hj).elim (hlat j) (fun q => by subst q; exact own_c256 hck1_2)) Xk13 ek13 Nk13 Kk13 Ok13 V_a0 V_a2
  exact LP n 0 (0 : Int32) (0 : Int32) (0 : Int32) .unset _ _ _ (by omega) rfl rfl rfl One.u (fun j hj => absurd hj (Nat.not_lt_zero j)) X0 e0 N0 (Keep.refl h0 [a2]) O0 V_a0 (by simpa using V_a2)
theorem dnl_0 : decode jdk_52_method_3_code 0 = .ok (.iload_n 0, 1) := by decide +kernel
theorem dnl_1 : decode jdk_52_method_3_code 1 = .ok (.ifCond .ge 11, 3) := by decide +kernel
theorem dnl_12 : decode jdk_52_method_3_code 12 = .ok (.iload_n 0, 1) := by decide +kernel
theorem dnl_13 : decode jdk_52_method_3_code 13 = .ok (.ldc 20, 2) := by decide +kernel
theorem dnl_15 : decode jdk_52_method_3_code 15 = .ok (.if_icmp .lt 40, 3) := by decide +kernel
theorem dnl_55 : decode jdk_52_method_3_code 55 = .ok (.iload_n 0, 1) := by decide +kernel
theorem dnl_56 : decode jdk_52_method_3_code 56 = .ok (.iconst 1, 1) := by decide +kernel
theorem dnl_57 : decode jdk_52_method_3_code 57 = .ok (.ishl, 1) := by decide +kernel
theorem dnl_58 : decode jdk_52_method_3_code 58 = .ok (.ireturn, 1) := by decide +kernel
theorem pnnl : plainName "java/lang/StringUTF16" = true := by first | (simp [plainName, overriddenIn]; done) | decide +kernel
theorem efnl (m : MethodId) (p0 : Int32) : entryFrame m #[(.int p0)] 1 = mkF m 0 #[.val (.int p0)] [] := by first | (simp [entryFrame, mkF, argsToLocals, Value.category]; done) | rfl
def fnl (p0 : Int32) : Int32 := (p0 <<< ((1 : Int32) &&& 31))
def Qnl (Z : State) (p0 : Int32) (h0 : Heap) (n0 : Nat) (v : Option Value) (h : Heap) (L : List Loc) : Prop := v = some (.int (fnl p0)) ∧ Fr n0 L ∧ h = h0
set_option maxRecDepth 65536 in
set_option maxHeartbeats 40000000 in
theorem rmnl (l : Launch) (Z : State) (aa : Array Value) (hw : ∀ d ∈ tables_1, d.before aa Z = true) (ws : List Jvm.Cond) (p0 : Int32) (h0 : Heap) (n0 : Nat) (Z0 : n0 ≤ h0.size) (hlo : ¬ p0 < (0 : Int32)) (hhi : p0 < (1073741823 : Int32)) :
    MetFree l (⟨"java/lang/StringUTF16", "newBytesLength", "(I)I"⟩ : MethodName) (head1 (Jvm.Cond.code (⟨"java/lang/StringUTF16", "newBytesLength", "(I)I"⟩ : MethodName) jdk_52_method_3_code 1 (some .int) :: ws) ({ frames := 0, cells := 0, slots := 0, locals := 0 } : Room)) (fun a U => a = #[(.int p0)] ∧ Z.Warmed39 U.vm ∧ U.heap = h0) (fun _ _ _ _ _ => True) (fun _ U o U' => ∃ v L, o = .returned v ∧ Qnl Z p0 h0 n0 v U'.heap L ∧ FrameEnd U o U' L ({ frames := 0, cells := 0, slots := 0, locals := 0 } : Room).cells ({ frames := 0, cells := 0, slots := 0, locals := 0 } : Room).slots) := by
  refine MetFree.of_bodySF (plainFor_of_name pnnl) hisR ?_
  intro p e s m args below meth c s₁ Bd hml0 hP hK
  obtain ⟨rfl, hZ, hh⟩ := hP
  have hx := Bd.exec
  have hby := Bd.bytes
  have hml : c.maxLocals = 1 := hml0
  have hown : s.vm.findClass "java/lang/StringUTF16" = some m.cls := findClass_of_methodNamed Bd.named
  have hnm := (name_of_methodNamed Bd.named Bd.method).1
  have X0 : Stand p l e ({ frames := 0, cells := 0, slots := 0, locals := 0 } : Room) s m #[(.int p0)] below meth c s₁ [] 0 0 := Stand.of_body Bd
  have e0 : s₁.heap = h0 := by rw [← hh, Bd.state]; rfl
  have N0 := Fr.nil n0
  show OwnEnd p e below s (fun v h L => Qnl Z p0 h0 n0 v h L) ({ frames := 0, cells := 0, slots := 0, locals := 0 } : Room).cells ({ frames := 0, cells := 0, slots := 0, locals := 0 } : Room).slots (s₁.setTop (entryFrame m #[(.int p0)] 1))
  rw [efnl m p0]
  generalize hW : OwnEnd p e below s (fun v h L => Qnl Z p0 h0 n0 v h L) ({ frames := 0, cells := 0, slots := 0, locals := 0 } : Room).cells ({ frames := 0, cells := 0, slots := 0, locals := 0 } : Room).slots = W
  have stp : ∀ {A B : State}, (∀ t, Steps p.tables e below B t → Steps p.tables e below A t) → W B → W A := by subst hW; exact own_step
  show W (s₁.setTop (mkF m 0 #[.val (.int p0)] []))
  refine stp (fun t k => XS.iloadN X0.here hx rfl (hb hby dnl_0) rfl k) ?_
  show W (s₁.setTop (mkF m 1 #[.val (.int p0)] [(.int p0)]))
  refine stp (fun t k => XS.ifYes X0.here hx rfl (pc0 := 1) (pc' := 12) rfl (hb hby dnl_1) rfl ((if0 _ _).trans (flt (hlo)).2.1) (by decide) (by decide) k) ?_
  show W (s₁.setTop (mkF m 12 #[.val (.int p0)] []))
  refine stp (fun t k => XS.iloadN X0.here hx rfl (hb hby dnl_12) rfl k) ?_
  show W (s₁.setTop (mkF m 13 #[.val (.int p0)] [(.int p0)]))
  refine stp (fun t k => X0.ldcInt hx hown (mvT hZ (hw _ (List.mem_of_getElem? (i := 78) rfl))) (g := (mkF m 13 #[.val (.int p0)] [(.int p0)])) rfl (hb hby dnl_13) _ k) ?_
  show W (s₁.setTop (mkF m 15 #[.val (.int p0)] [(.int (1073741823 : Int32)), (.int p0)]))
  refine stp (fun t k => XS.icmpYes X0.here hx rfl (pc0 := 15) (pc' := 55) rfl (hb hby dnl_15) rfl ((tlt (hhi)).1) (by decide) (by decide) k) ?_
  show W (s₁.setTop (mkF m 55 #[.val (.int p0)] []))
  refine stp (fun t k => XS.iloadN X0.here hx rfl (hb hby dnl_55) rfl k) ?_
  show W (s₁.setTop (mkF m 56 #[.val (.int p0)] [(.int p0)]))
  refine stp (fun t k => XS.iconst X0.here hx rfl (hb hby dnl_56) k) ?_
  show W (s₁.setTop (mkF m 57 #[.val (.int p0)] [(.int (1 : Int32)), (.int p0)]))
  refine stp (fun t k => XS.ishl X0.here hx rfl (hb hby dnl_57) rfl k) ?_
  show W (s₁.setTop (mkF m 58 #[.val (.int p0)] [(.int (p0 <<< ((1 : Int32) &&& 31)))]))
  show W (s₁.setTop (mkF m 58 #[.val (.int p0)] [(.int (p0 <<< ((1 : Int32) &&& 31)))]))
  rw [← hW]
  exact own_retI X0 hx Bd.notSynchronized Bd.returns (hb hby dnl_58) (by show Qnl Z p0 h0 n0 _ s₁.heap _; rw [e0]; exact ⟨rfl, N0, rfl⟩) (by decide) (by decide)
theorem dnf_0 : decode jdk_52_method_2_code 0 = .ok (.iload_n 0, 1) := by decide +kernel
theorem dnf_1 : decode jdk_52_method_2_code 1 = .ok (.invokestatic 11, 3) := by decide +kernel
theorem dnf_4 : decode jdk_52_method_2_code 4 = .ok (.newarray .byte, 2) := by decide +kernel
theorem dnf_6 : decode jdk_52_method_2_code 6 = .ok (.areturn, 1) := by decide +kernel
theorem pnnf : plainName "java/lang/StringUTF16" = true := by first | (simp [plainName, overriddenIn]; done) | decide +kernel
theorem pdnf_0 : parseMethodDescriptor "(I)I" = some ⟨[.int], some .int⟩ := by decide +kernel
theorem efnf (m : MethodId) (p0 : Int32) : entryFrame m #[(.int p0)] 1 = mkF m 0 #[.val (.int p0)] [] := by first | (simp [entryFrame, mkF, argsToLocals, Value.category]; done) | rfl
def Qnf (Z : State) (p0 : Int32) (wc : Int32) (sx : Value) (n : Nat) (h0 : Heap) (n0 : Nat) (v : Option Value) (h : Heap) (L : List Loc) : Prop := ∃ (b : Addr) (kb : ClassId), v = some (.ref b) ∧ Fr n0 L ∧ Keep h0 h [] ∧ h0.size ≤ b ∧ Arv Z h b kb .byte (Int32.ofNat (2 * n)) (own_vs (2 * n) fun _ => (0 : Int32)) (.int (0 : Int32))
set_option maxRecDepth 65536 in
set_option maxHeartbeats 40000000 in
theorem rmnf (l : Launch) (Z : State) (aa : Array Value) (hw : ∀ d ∈ tables_1, d.before aa Z = true) (ws : List Jvm.Cond) (p0 : Int32) (wc : Int32) (sx : Value) (n : Nat) (h0 : Heap) (n0 : Nat) (Z0 : n0 ≤ h0.size) (BW : OwnW Z wc sx) (O0 : Old Z n0 h0) (hn : n ≤ 2) (hp : p0.toInt = (n : Int)) :
    MetFree l (⟨"java/lang/StringUTF16", "newBytesFor", "(I)[B"⟩ : MethodName) (head1 (Jvm.Cond.code (⟨"java/lang/StringUTF16", "newBytesFor", "(I)[B"⟩ : MethodName) jdk_52_method_2_code 1 (some (.array .byte)) :: ws) ({ frames := 1, cells := 1, slots := 4, locals := 12 } : Room)) (fun a U => a = #[(.int p0)] ∧ Z.Warmed39 U.vm ∧ U.heap = h0) (fun _ _ _ _ _ => True) (fun _ U o U' => ∃ v L, o = .returned v ∧ Qnf Z p0 wc sx n h0 n0 v U'.heap L ∧ FrameEnd U o U' L ({ frames := 1, cells := 1, slots := 4, locals := 12 } : Room).cells ({ frames := 1, cells := 1, slots := 4, locals := 12 } : Room).slots) := by
  refine MetFree.of_bodySF (plainFor_of_name pnnf) hisR ?_
  intro p e s m args below meth c s₁ Bd hml0 hP hK
  obtain ⟨rfl, hZ, hh⟩ := hP
  have hx := Bd.exec
  have hby := Bd.bytes
  have hml : c.maxLocals = 1 := hml0
  have hown : s.vm.findClass "java/lang/StringUTF16" = some m.cls := findClass_of_methodNamed Bd.named
  have hnm := (name_of_methodNamed Bd.named Bd.method).1
  have X0 : Stand p l e ({ frames := 1, cells := 1, slots := 4, locals := 12 } : Room) s m #[(.int p0)] below meth c s₁ [] 0 0 := Stand.of_body Bd
  have e0 : s₁.heap = h0 := by rw [← hh, Bd.state]; rfl
  have N0 := Fr.nil n0
  show OwnEnd p e below s (fun v h L => Qnf Z p0 wc sx n h0 n0 v h L) ({ frames := 1, cells := 1, slots := 4, locals := 12 } : Room).cells ({ frames := 1, cells := 1, slots := 4, locals := 12 } : Room).slots (s₁.setTop (entryFrame m #[(.int p0)] 1))
  rw [efnf m p0]
  generalize hW : OwnEnd p e below s (fun v h L => Qnf Z p0 wc sx n h0 n0 v h L) ({ frames := 1, cells := 1, slots := 4, locals := 12 } : Room).cells ({ frames := 1, cells := 1, slots := 4, locals := 12 } : Room).slots = W
  have stp : ∀ {A B : State}, (∀ t, Steps p.tables e below B t → Steps p.tables e below A t) → W B → W A := by subst hW; exact own_step
  obtain ⟨S_cs, hcs, S_si, hr_sx, S_ad, S_hi, S_lo⟩ := id BW
  show W (s₁.setTop (mkF m 0 #[.val (.int p0)] []))
  refine stp (fun t k => XS.iloadN X0.here hx rfl (hb hby dnf_0) rfl k) ?_
  show W (s₁.setTop (mkF m 1 #[.val (.int p0)] [(.int p0)]))
  obtain ⟨_, _, ⟨Tnfc1, Lnfc1, knfc1, nnfc1⟩, -, Xnfc1, ⟨Lcnfc1, hQnfc1, lnfc1, ynfc1, znfc1⟩, stnfc1⟩ := Jvm.LawKit.callS X0 hx (y := (⟨"java/lang/StringUTF16", "newBytesLength", "(I)I"⟩ : MethodName)) hown (mvT hZ (hw _ (List.mem_of_getElem? (i := 75) rfl))) (mvT hZ (hw _ (List.mem_of_getElem? (i := 76) rfl))) (mvT hZ (hw _ (List.mem_of_getElem? (i := 64) rfl))) (mvT hZ (hw _ (List.mem_of_getElem? (i := 77) rfl))) (by decide) (backOf (W := 0) (rmnl l Z aa hw [] p0  h0 n0 Z0 (own_nn hp) ((own_lt32 hp (j := 1073741823) rfl).mpr (by omega))) hZ (hw _ (List.mem_of_getElem? (i := 77) rfl)) (hw _ (List.mem_of_getElem? (i := 64) rfl)) (by decide) (by decide)) (g := (mkF m 1 #[.val (.int p0)] [(.int p0)])) rfl (by rw [hml]; rfl) (argsL := [(.int p0)]) (rest := []) (lenOf pdnf_0 rfl) rfl (by show 2 * 0 + _ ≤ _; exact Nat.le_of_eq rfl) (hb hby dnf_1) (fun _ _ => ⟨rfl, e0, (by decide : 0 + 0 ≤ _), (by decide : 0 + 0 ≤ _)⟩)
  dsimp only [Pt.U, Pt.locs, Pt.cells, Pt.slots] at Xnfc1 lnfc1 ynfc1 znfc1 stnfc1 hQnfc1
  subst lnfc1 ynfc1 znfc1
  obtain ⟨rfl, Nnfc1q, enfc1⟩ := hQnfc1
  have Nnfc1 := Fr.app N0 Nnfc1q
  obtain ⟨lcnft2, Xnfc1, Nnfc1⟩ : ∃ lc, Stand p l e ({ frames := 1, cells := 1, slots := 4, locals := 12 } : Room) s m #[(.int p0)] below meth c Tnfc1 lc 0 0 ∧ Fr n0 lc := ⟨_, Xnfc1, Nnfc1⟩
  refine stp (fun t k => stnfc1 t k) ?_
  show W (Tnfc1.setTop (mkF m 4 #[.val (.int p0)] [(.int (fnl p0))]))
  rw [show (fnl p0) = (Int32.ofNat (2 * n)) from own_len2 hp (by omega)]
  show W (Tnfc1.setTop (mkF m 4 #[.val (.int p0)] [(.int (Int32.ofNat (2 * n)))]))
  obtain ⟨Tnf3, hnf3, knf3, Xnf3, enf3, Enf3, Anf3, stnf3⟩ := newP Xnfc1 hx hZ (hw _ (List.mem_of_getElem? (i := 19) rfl)) enfc1 (g := (mkF m 4 #[.val (.int p0)] [(.int (Int32.ofNat (2 * n)))])) rfl (hb hby dnf_4) rfl (own_nn (own_ofNat (n := 2 * n) (by omega))) (cap := 4) (by rw [own_clamp (own_ofNat (n := 2 * n) (by omega))]; omega) (by decide) (by decide) (by decide)
  obtain ⟨bnf3, gqnf3⟩ : ∃ z, z = h0.size := ⟨_, rfl⟩
  rw [← gqnf3] at Anf3 stnf3
  have g_bnf3 : n0 ≤ bnf3 := Nat.le_trans Z0 (Nat.le_of_eq gqnf3.symm)
  have sz_bnf3 : h0.size ≤ bnf3 := Nat.le_trans (Keep.refl h0 []).1 (Nat.le_of_eq gqnf3.symm)
  have Knf3 := (Keep.refl h0 []).ext Enf3
  have Znf3 := Nat.le_trans Z0 Enf3.1
  have Onf3 := O0.ext Enf3
  have V_bnf3 : Arv Z hnf3 bnf3 knf3 .byte (Int32.ofNat (2 * n)) (own_vs (2 * n) fun _ => (0 : Int32)) (.int (0 : Int32)) := (Arv.new Anf3 (own_nn (own_ofNat (n := 2 * n) (by omega)))).pad (own_vsPad _)
  refine stp (fun t k => stnf3 t k) ?_
  show W (Tnf3.setTop (mkF m 6 #[.val (.int p0)] [(.ref bnf3)]))
  show W (Tnf3.setTop (mkF m 6 #[.val (.int p0)] [(.ref bnf3)]))
  rw [← hW]
  exact own_retR Xnf3 hx Bd.notSynchronized Bd.returns rfl (hb hby dnf_6) (by show Qnf Z p0 wc sx n h0 n0 _ Tnf3.heap _; rw [enf3]; exact ⟨bnf3, knf3, rfl, Nnfc1, Knf3, sz_bnf3, V_bnf3⟩) (by decide) (by decide)
theorem dpc_0 : decode jdk_52_method_4_code 0 = .ok (.getstatic 44, 3) := by decide +kernel
theorem dpc_3 : decode jdk_52_method_4_code 3 = .ok (.ifCond .ne 25, 3) := by decide +kernel
theorem dpc_28 : decode jdk_52_method_4_code 28 = .ok (.iload_n 1, 1) := by decide +kernel
theorem dpc_29 : decode jdk_52_method_4_code 29 = .ok (.iconst 1, 1) := by decide +kernel
theorem dpc_30 : decode jdk_52_method_4_code 30 = .ok (.ishl, 1) := by decide +kernel
theorem dpc_31 : decode jdk_52_method_4_code 31 = .ok (.istore_n 1, 1) := by decide +kernel
theorem dpc_32 : decode jdk_52_method_4_code 32 = .ok (.aload_n 0, 1) := by decide +kernel
theorem dpc_33 : decode jdk_52_method_4_code 33 = .ok (.iload_n 1, 1) := by decide +kernel
theorem dpc_34 : decode jdk_52_method_4_code 34 = .ok (.iinc 1 1, 3) := by decide +kernel
theorem dpc_37 : decode jdk_52_method_4_code 37 = .ok (.iload_n 2, 1) := by decide +kernel
theorem dpc_38 : decode jdk_52_method_4_code 38 = .ok (.getstatic 59, 3) := by decide +kernel
theorem dpc_41 : decode jdk_52_method_4_code 41 = .ok (.ishr, 1) := by decide +kernel
theorem dpc_42 : decode jdk_52_method_4_code 42 = .ok (.i2b, 1) := by decide +kernel
theorem dpc_43 : decode jdk_52_method_4_code 43 = .ok (.bastore, 1) := by decide +kernel
theorem dpc_44 : decode jdk_52_method_4_code 44 = .ok (.aload_n 0, 1) := by decide +kernel
theorem dpc_45 : decode jdk_52_method_4_code 45 = .ok (.iload_n 1, 1) := by decide +kernel
theorem dpc_46 : decode jdk_52_method_4_code 46 = .ok (.iload_n 2, 1) := by decide +kernel
theorem dpc_47 : decode jdk_52_method_4_code 47 = .ok (.getstatic 63, 3) := by decide +kernel
theorem dpc_50 : decode jdk_52_method_4_code 50 = .ok (.ishr, 1) := by decide +kernel
theorem dpc_51 : decode jdk_52_method_4_code 51 = .ok (.i2b, 1) := by decide +kernel
theorem dpc_52 : decode jdk_52_method_4_code 52 = .ok (.bastore, 1) := by decide +kernel
theorem dpc_53 : decode jdk_52_method_4_code 53 = .ok (.return_, 1) := by decide +kernel
theorem pnpc : plainName "java/lang/StringUTF16" = true := by first | (simp [plainName, overriddenIn]; done) | decide +kernel
theorem efpc (m : MethodId) (a0 : Addr) (p1 : Int32) (p2 : Int32) : entryFrame m #[(.ref a0), (.int p1), (.int p2)] 3 = mkF m 0 #[.val (.ref a0), .val (.int p1), .val (.int p2)] [] := by first | (simp [entryFrame, mkF, argsToLocals, Value.category]; done) | rfl
def Qpc (Z : State) (a0 : Addr) (p1 : Int32) (p2 : Int32) (wc : Int32) (sx : Value) (kb : ClassId) (z : Int32) (vs : List Value) (i : Nat) (h0 : Heap) (n0 : Nat) (v : Option Value) (h : Heap) (L : List Loc) : Prop := v = none ∧ Fr n0 L ∧ Keep h0 h [a0] ∧ Arv Z h a0 kb .byte z ((vs.set (2 * i) (.int (own_lo p2))).set (2 * i + 1) (.int (own_hi p2))) (.int (0 : Int32))
set_option maxRecDepth 65536 in
set_option maxHeartbeats 40000000 in
theorem rmpc (l : Launch) (Z : State) (aa : Array Value) (hw : ∀ d ∈ tables_1, d.before aa Z = true) (ws : List Jvm.Cond) (a0 : Addr) (p1 : Int32) (p2 : Int32) (wc : Int32) (sx : Value) (kb : ClassId) (z : Int32) (vs : List Value) (i : Nat) (h0 : Heap) (n0 : Nat) (Z0 : n0 ≤ h0.size) (BW : OwnW Z wc sx) (O0 : Old Z n0 h0) (V_a0 : Arv Z h0 a0 kb .byte z vs (.int (0 : Int32))) (g_a0 : n0 ≤ a0) (hi : p1.toInt = (i : Int)) (hib : i ≤ 4000) (hz : z.toInt = (vs.length : Int)) (hil : 2 * i + 1 < vs.length) :
    MetFree l (⟨"java/lang/StringUTF16", "putChar", "([BII)V"⟩ : MethodName) (head1 (Jvm.Cond.code (⟨"java/lang/StringUTF16", "putChar", "([BII)V"⟩ : MethodName) jdk_52_method_4_code 3 none :: ws) ({ frames := 0, cells := 0, slots := 0, locals := 0 } : Room)) (fun a U => a = #[(.ref a0), (.int p1), (.int p2)] ∧ Z.Warmed39 U.vm ∧ U.heap = h0) (fun _ _ _ _ _ => True) (fun _ U o U' => ∃ v L, o = .returned v ∧ Qpc Z a0 p1 p2 wc sx kb z vs i h0 n0 v U'.heap L ∧ FrameEnd U o U' L ({ frames := 0, cells := 0, slots := 0, locals := 0 } : Room).cells ({ frames := 0, cells := 0, slots := 0, locals := 0 } : Room).slots) := by
  refine MetFree.of_bodySF (plainFor_of_name pnpc) hisR ?_
  intro p e s m args below meth c s₁ Bd hml0 hP hK
  obtain ⟨rfl, hZ, hh⟩ := hP
  have hx := Bd.exec
  have hby := Bd.bytes
  have hml : c.maxLocals = 3 := hml0
  have hown : s.vm.findClass "java/lang/StringUTF16" = some m.cls := findClass_of_methodNamed Bd.named
  have hnm := (name_of_methodNamed Bd.named Bd.method).1
  have X0 : Stand p l e ({ frames := 0, cells := 0, slots := 0, locals := 0 } : Room) s m #[(.ref a0), (.int p1), (.int p2)] below meth c s₁ [] 0 0 := Stand.of_body Bd
  have e0 : s₁.heap = h0 := by rw [← hh, Bd.state]; rfl
  have N0 := Fr.nil n0
  show OwnEnd p e below s (fun v h L => Qpc Z a0 p1 p2 wc sx kb z vs i h0 n0 v h L) ({ frames := 0, cells := 0, slots := 0, locals := 0 } : Room).cells ({ frames := 0, cells := 0, slots := 0, locals := 0 } : Room).slots (s₁.setTop (entryFrame m #[(.ref a0), (.int p1), (.int p2)] 3))
  rw [efpc m a0 p1 p2]
  generalize hW : OwnEnd p e below s (fun v h L => Qpc Z a0 p1 p2 wc sx kb z vs i h0 n0 v h L) ({ frames := 0, cells := 0, slots := 0, locals := 0 } : Room).cells ({ frames := 0, cells := 0, slots := 0, locals := 0 } : Room).slots = W
  have stp : ∀ {A B : State}, (∀ t, Steps p.tables e below B t → Steps p.tables e below A t) → W B → W A := by subst hW; exact own_step
  obtain ⟨S_cs, hcs, S_si, hr_sx, S_ad, S_hi, S_lo⟩ := id BW
  have d0 := own_shl1 hi (by omega)
  have d1 := own_inc d0 (by omega)
  show W (s₁.setTop (mkF m 0 #[.val (.ref a0), .val (.int p1), .val (.int p2)] []))
  obtain ⟨Tpc1, Xpc1, epc1, stpc1⟩ := getS2 X0 hx hZ hown (host := "") (Or.inl (hw _ (List.mem_of_getElem? (i := 82) rfl))) Via.refl e0 (S_ad.ext O0.2) (g := (mkF m 0 #[.val (.ref a0), .val (.int p1), .val (.int p2)] [])) rfl (hb hby dpc_0)
  refine stp (fun t k => stpc1 t k) ?_
  show W (Tpc1.setTop (mkF m 3 #[.val (.ref a0), .val (.int p1), .val (.int p2)] [(.int (1 : Int32))]))
  refine stp (fun t k => XS.ifYes Xpc1.here hx rfl (pc0 := 3) (pc' := 28) rfl (hb hby dpc_3) rfl ((if0 _ _).trans (feq (by decide)).2) (by decide) (by decide) k) ?_
  show W (Tpc1.setTop (mkF m 28 #[.val (.ref a0), .val (.int p1), .val (.int p2)] []))
  refine stp (fun t k => XS.iloadN Xpc1.here hx rfl (hb hby dpc_28) rfl k) ?_
  show W (Tpc1.setTop (mkF m 29 #[.val (.ref a0), .val (.int p1), .val (.int p2)] [(.int p1)]))
  refine stp (fun t k => XS.iconst Xpc1.here hx rfl (hb hby dpc_29) k) ?_
  show W (Tpc1.setTop (mkF m 30 #[.val (.ref a0), .val (.int p1), .val (.int p2)] [(.int (1 : Int32)), (.int p1)]))
  refine stp (fun t k => XS.ishl Xpc1.here hx rfl (hb hby dpc_30) rfl k) ?_
  show W (Tpc1.setTop (mkF m 31 #[.val (.ref a0), .val (.int p1), .val (.int p2)] [(.int (p1 <<< ((1 : Int32) &&& 31)))]))
  refine stp (fun t k => XS.istoreN Xpc1.here hx rfl (hb hby dpc_31) rfl (l' := #[.val (.ref a0), .val (.int (p1 <<< ((1 : Int32) &&& 31))), .val (.int p2)]) rfl k) ?_
  show W (Tpc1.setTop (mkF m 32 #[.val (.ref a0), .val (.int (p1 <<< ((1 : Int32) &&& 31))), .val (.int p2)] []))
  refine stp (fun t k => XS.aloadN Xpc1.here hx rfl (hb hby dpc_32) rfl rfl k) ?_
  show W (Tpc1.setTop (mkF m 33 #[.val (.ref a0), .val (.int (p1 <<< ((1 : Int32) &&& 31))), .val (.int p2)] [(.ref a0)]))
  refine stp (fun t k => XS.iloadN Xpc1.here hx rfl (hb hby dpc_33) rfl k) ?_
  show W (Tpc1.setTop (mkF m 34 #[.val (.ref a0), .val (.int (p1 <<< ((1 : Int32) &&& 31))), .val (.int p2)] [(.int (p1 <<< ((1 : Int32) &&& 31))), (.ref a0)]))
  refine stp (fun t k => XS.iinc Xpc1.here hx rfl (hb hby dpc_34) rfl (l' := #[.val (.ref a0), .val (.int ((p1 <<< ((1 : Int32) &&& 31)) + (1 : Int32))), .val (.int p2)]) rfl k) ?_
  show W (Tpc1.setTop (mkF m 37 #[.val (.ref a0), .val (.int ((p1 <<< ((1 : Int32) &&& 31)) + (1 : Int32))), .val (.int p2)] [(.int (p1 <<< ((1 : Int32) &&& 31))), (.ref a0)]))
  refine stp (fun t k => XS.iloadN Xpc1.here hx rfl (hb hby dpc_37) rfl k) ?_
  show W (Tpc1.setTop (mkF m 38 #[.val (.ref a0), .val (.int ((p1 <<< ((1 : Int32) &&& 31)) + (1 : Int32))), .val (.int p2)] [(.int p2), (.int (p1 <<< ((1 : Int32) &&& 31))), (.ref a0)]))
  obtain ⟨Tpc2, Xpc2, epc2, stpc2⟩ := getS2 Xpc1 hx hZ hown (host := "") (Or.inl (hw _ (List.mem_of_getElem? (i := 83) rfl))) Via.refl epc1 (S_hi.ext O0.2) (g := (mkF m 38 #[.val (.ref a0), .val (.int ((p1 <<< ((1 : Int32) &&& 31)) + (1 : Int32))), .val (.int p2)] [(.int p2), (.int (p1 <<< ((1 : Int32) &&& 31))), (.ref a0)])) rfl (hb hby dpc_38)
  refine stp (fun t k => stpc2 t k) ?_
  show W (Tpc2.setTop (mkF m 41 #[.val (.ref a0), .val (.int ((p1 <<< ((1 : Int32) &&& 31)) + (1 : Int32))), .val (.int p2)] [(.int (0 : Int32)), (.int p2), (.int (p1 <<< ((1 : Int32) &&& 31))), (.ref a0)]))
  refine stp (fun t k => XS.ishr Xpc2.here hx rfl (hb hby dpc_41) rfl k) ?_
  show W (Tpc2.setTop (mkF m 42 #[.val (.ref a0), .val (.int ((p1 <<< ((1 : Int32) &&& 31)) + (1 : Int32))), .val (.int p2)] [(.int (p2 >>> ((0 : Int32) &&& 31))), (.int (p1 <<< ((1 : Int32) &&& 31))), (.ref a0)]))
  refine stp (fun t k => XS.i2b Xpc2.here hx rfl (hb hby dpc_42) rfl k) ?_
  show W (Tpc2.setTop (mkF m 43 #[.val (.ref a0), .val (.int ((p1 <<< ((1 : Int32) &&& 31)) + (1 : Int32))), .val (.int p2)] [(.int ((p2 >>> ((0 : Int32) &&& 31)).toInt8.toInt32)), (.int (p1 <<< ((1 : Int32) &&& 31))), (.ref a0)]))
  obtain ⟨clpc3, Arpc3, qkpc3, qspc3, qnpc3, qhpc3, qgpc3⟩ := id V_a0
  have hinpc3 : ¬ ((p1 <<< ((1 : Int32) &&& 31)) < 0 ∨ clpc3.slots.size ≤ ((p1 <<< ((1 : Int32) &&& 31))).toNatClampNeg) := inb_of qspc3 ⟨own_nn d0, (own_lt32 d0 hz).mpr (by omega)⟩
  obtain ⟨Tpc3, hpc3, Xpc3, epc3, Wpc3, stpc3⟩ := stB Xpc2 hx hZ epc2 Arpc3 (j := (p1 <<< ((1 : Int32) &&& 31))) hinpc3 (g := (mkF m 43 #[.val (.ref a0), .val (.int ((p1 <<< ((1 : Int32) &&& 31)) + (1 : Int32))), .val (.int p2)] [(.int ((p2 >>> ((0 : Int32) &&& 31)).toInt8.toInt32)), (.int (p1 <<< ((1 : Int32) &&& 31))), (.ref a0)])) rfl rfl (hb hby dpc_43)
  have V_a0x := Arv.set Arpc3 qkpc3 qspc3 qnpc3 qhpc3 qgpc3 (fits_nar_byte _) Wpc3 (2 * i) (own_clamp d0) (by omega)
  have Npc3 := Fr.snoc Xpc3 N0 g_a0
  obtain ⟨lcpct4, Xpc3, Npc3⟩ : ∃ lc, Stand p l e ({ frames := 0, cells := 0, slots := 0, locals := 0 } : Room) s m #[(.ref a0), (.int p1), (.int p2)] below meth c Tpc3 lc 0 0 ∧ Fr n0 lc := ⟨_, Xpc3, Npc3⟩
  have Kpc3 := (Keep.refl h0 [a0]).wr Wpc3 (Or.inl (List.mem_of_getElem? (i := 0) rfl))
  have Zpc3 := Nat.le_trans Z0 (Keep.of_wr Wpc3).1
  have Opc3 := O0.wr Wpc3 g_a0
  replace V_a0 : Arv Z hpc3 a0 kb .byte z (vs.set (2 * i) (.int (own_lo p2))) (.int (0 : Int32)) := own_arvEq (rfl) V_a0x
  refine stp (fun t k => stpc3 t k) ?_
  show W (Tpc3.setTop (mkF m 44 #[.val (.ref a0), .val (.int ((p1 <<< ((1 : Int32) &&& 31)) + (1 : Int32))), .val (.int p2)] []))
  refine stp (fun t k => XS.aloadN Xpc3.here hx rfl (hb hby dpc_44) rfl rfl k) ?_
  show W (Tpc3.setTop (mkF m 45 #[.val (.ref a0), .val (.int ((p1 <<< ((1 : Int32) &&& 31)) + (1 : Int32))), .val (.int p2)] [(.ref a0)]))
  refine stp (fun t k => XS.iloadN Xpc3.here hx rfl (hb hby dpc_45) rfl k) ?_
  show W (Tpc3.setTop (mkF m 46 #[.val (.ref a0), .val (.int ((p1 <<< ((1 : Int32) &&& 31)) + (1 : Int32))), .val (.int p2)] [(.int ((p1 <<< ((1 : Int32) &&& 31)) + (1 : Int32))), (.ref a0)]))
  refine stp (fun t k => XS.iloadN Xpc3.here hx rfl (hb hby dpc_46) rfl k) ?_
  show W (Tpc3.setTop (mkF m 47 #[.val (.ref a0), .val (.int ((p1 <<< ((1 : Int32) &&& 31)) + (1 : Int32))), .val (.int p2)] [(.int p2), (.int ((p1 <<< ((1 : Int32) &&& 31)) + (1 : Int32))), (.ref a0)]))
  obtain ⟨Tpc5, Xpc5, epc5, stpc5⟩ := getS2 Xpc3 hx hZ hown (host := "") (Or.inl (hw _ (List.mem_of_getElem? (i := 84) rfl))) Via.refl epc3 (S_lo.ext Opc3.2) (g := (mkF m 47 #[.val (.ref a0), .val (.int ((p1 <<< ((1 : Int32) &&& 31)) + (1 : Int32))), .val (.int p2)] [(.int p2), (.int ((p1 <<< ((1 : Int32) &&& 31)) + (1 : Int32))), (.ref a0)])) rfl (hb hby dpc_47)
  refine stp (fun t k => stpc5 t k) ?_
  show W (Tpc5.setTop (mkF m 50 #[.val (.ref a0), .val (.int ((p1 <<< ((1 : Int32) &&& 31)) + (1 : Int32))), .val (.int p2)] [(.int (8 : Int32)), (.int p2), (.int ((p1 <<< ((1 : Int32) &&& 31)) + (1 : Int32))), (.ref a0)]))
  refine stp (fun t k => XS.ishr Xpc5.here hx rfl (hb hby dpc_50) rfl k) ?_
  show W (Tpc5.setTop (mkF m 51 #[.val (.ref a0), .val (.int ((p1 <<< ((1 : Int32) &&& 31)) + (1 : Int32))), .val (.int p2)] [(.int (p2 >>> ((8 : Int32) &&& 31))), (.int ((p1 <<< ((1 : Int32) &&& 31)) + (1 : Int32))), (.ref a0)]))
  refine stp (fun t k => XS.i2b Xpc5.here hx rfl (hb hby dpc_51) rfl k) ?_
  show W (Tpc5.setTop (mkF m 52 #[.val (.ref a0), .val (.int ((p1 <<< ((1 : Int32) &&& 31)) + (1 : Int32))), .val (.int p2)] [(.int ((p2 >>> ((8 : Int32) &&& 31)).toInt8.toInt32)), (.int ((p1 <<< ((1 : Int32) &&& 31)) + (1 : Int32))), (.ref a0)]))
  obtain ⟨clpc6, Arpc6, qkpc6, qspc6, qnpc6, qhpc6, qgpc6⟩ := id V_a0
  have hinpc6 : ¬ (((p1 <<< ((1 : Int32) &&& 31)) + (1 : Int32)) < 0 ∨ clpc6.slots.size ≤ (((p1 <<< ((1 : Int32) &&& 31)) + (1 : Int32))).toNatClampNeg) := inb_of qspc6 ⟨own_nn d1, (own_lt32 d1 hz).mpr (by omega)⟩
  obtain ⟨Tpc6, hpc6, Xpc6, epc6, Wpc6, stpc6⟩ := stB Xpc5 hx hZ epc5 Arpc6 (j := ((p1 <<< ((1 : Int32) &&& 31)) + (1 : Int32))) hinpc6 (g := (mkF m 52 #[.val (.ref a0), .val (.int ((p1 <<< ((1 : Int32) &&& 31)) + (1 : Int32))), .val (.int p2)] [(.int ((p2 >>> ((8 : Int32) &&& 31)).toInt8.toInt32)), (.int ((p1 <<< ((1 : Int32) &&& 31)) + (1 : Int32))), (.ref a0)])) rfl rfl (hb hby dpc_52)
  have V_a0x := Arv.set Arpc6 qkpc6 qspc6 qnpc6 qhpc6 qgpc6 (fits_nar_byte _) Wpc6 (2 * i + 1) (own_clamp d1) (by simp only [List.length_set]; omega)
  have Npc6 := Fr.snoc Xpc6 Npc3 g_a0
  obtain ⟨lcpct7, Xpc6, Npc6⟩ : ∃ lc, Stand p l e ({ frames := 0, cells := 0, slots := 0, locals := 0 } : Room) s m #[(.ref a0), (.int p1), (.int p2)] below meth c Tpc6 lc 0 0 ∧ Fr n0 lc := ⟨_, Xpc6, Npc6⟩
  have Kpc6 := Kpc3.wr Wpc6 (Or.inl (List.mem_of_getElem? (i := 0) rfl))
  have Zpc6 := Nat.le_trans Zpc3 (Keep.of_wr Wpc6).1
  have Opc6 := Opc3.wr Wpc6 g_a0
  replace V_a0 : Arv Z hpc6 a0 kb .byte z ((vs.set (2 * i) (.int (own_lo p2))).set (2 * i + 1) (.int (own_hi p2))) (.int (0 : Int32)) := own_arvEq (rfl) V_a0x
  refine stp (fun t k => stpc6 t k) ?_
  show W (Tpc6.setTop (mkF m 53 #[.val (.ref a0), .val (.int ((p1 <<< ((1 : Int32) &&& 31)) + (1 : Int32))), .val (.int p2)] []))
  show W (Tpc6.setTop (mkF m 53 #[.val (.ref a0), .val (.int ((p1 <<< ((1 : Int32) &&& 31)) + (1 : Int32))), .val (.int p2)] []))
  rw [← hW]
  exact own_ret0 Xpc6 hx Bd.notSynchronized Bd.returns (hb hby dpc_53) (by show Qpc Z a0 p1 p2 wc sx kb z vs i h0 n0 _ Tpc6.heap _; rw [epc6]; exact ⟨rfl, Npc6, Kpc6, V_a0⟩) (by decide) (by decide)
theorem own_step2 (n i : Nat) (g : Nat → Int32) : ((own_vs (2 * n) fun j => if j < 2 * i then own_u g j else (0 : Int32)).set (2 * i) (.int (own_lo (g i)))).set (2 * i + 1) (.int (own_hi (g i))) = own_vs (2 * n) fun j => if j < 2 * (i + 1) then own_u g j else (0 : Int32) := by
  rw [own_vsSet, own_vsSet]
  apply own_vsCongr
  intro j _
  by_cases h : j = 2 * i + 1
  · subst h; simp [own_u1, show 2 * i + 1 < 2 * (i + 1) from by omega]
  · by_cases h2 : j = 2 * i
    · subst h2; simp [h, own_u0, show 2 * i < 2 * (i + 1) from by omega]
    · by_cases h3 : j < 2 * i
      · simp [h, h2, h3, show j < 2 * (i + 1) from by omega]
      · simp [h, h2, h3, show ¬ j < 2 * (i + 1) from by omega]
theorem dtb_0 : decode jdk_52_method_14_code 0 = .ok (.iload_n 2, 1) := by decide +kernel
theorem dtb_1 : decode jdk_52_method_14_code 1 = .ok (.invokestatic 107, 3) := by decide +kernel
theorem dtb_4 : decode jdk_52_method_14_code 4 = .ok (.astore_n 3, 1) := by decide +kernel
theorem dtb_5 : decode jdk_52_method_14_code 5 = .ok (.iconst 0, 1) := by decide +kernel
theorem dtb_6 : decode jdk_52_method_14_code 6 = .ok (.istore 4, 2) := by decide +kernel
theorem dtb_8 : decode jdk_52_method_14_code 8 = .ok (.iload 4, 2) := by decide +kernel
theorem dtb_10 : decode jdk_52_method_14_code 10 = .ok (.iload_n 2, 1) := by decide +kernel
theorem dtb_11 : decode jdk_52_method_14_code 11 = .ok (.if_icmp .ge 21, 3) := by decide +kernel
theorem dtb_14 : decode jdk_52_method_14_code 14 = .ok (.aload_n 3, 1) := by decide +kernel
theorem dtb_15 : decode jdk_52_method_14_code 15 = .ok (.iload 4, 2) := by decide +kernel
theorem dtb_17 : decode jdk_52_method_14_code 17 = .ok (.aload_n 0, 1) := by decide +kernel
theorem dtb_18 : decode jdk_52_method_14_code 18 = .ok (.iload_n 1, 1) := by decide +kernel
theorem dtb_19 : decode jdk_52_method_14_code 19 = .ok (.caload, 1) := by decide +kernel
theorem dtb_20 : decode jdk_52_method_14_code 20 = .ok (.invokestatic 111, 3) := by decide +kernel
theorem dtb_23 : decode jdk_52_method_14_code 23 = .ok (.iinc 1 1, 3) := by decide +kernel
theorem dtb_26 : decode jdk_52_method_14_code 26 = .ok (.iinc 4 1, 3) := by decide +kernel
theorem dtb_29 : decode jdk_52_method_14_code 29 = .ok (.goto (-21), 3) := by decide +kernel
theorem dtb_32 : decode jdk_52_method_14_code 32 = .ok (.aload_n 3, 1) := by decide +kernel
theorem dtb_33 : decode jdk_52_method_14_code 33 = .ok (.areturn, 1) := by decide +kernel
theorem pntb : plainName "java/lang/StringUTF16" = true := by first | (simp [plainName, overriddenIn]; done) | decide +kernel
theorem pdtb_0 : parseMethodDescriptor "(I)[B" = some ⟨[.int], some (.array .byte)⟩ := by decide +kernel
theorem pdtb_1 : parseMethodDescriptor "([BII)V" = some ⟨[(.array .byte), .int, .int], none⟩ := by decide +kernel
theorem eftb (m : MethodId) (a0 : Addr) (p1 : Int32) (p2 : Int32) : entryFrame m #[(.ref a0), (.int p1), (.int p2)] 5 = mkF m 0 #[.val (.ref a0), .val (.int p1), .val (.int p2), .unset, .unset] [] := by first | (simp [entryFrame, mkF, argsToLocals, Value.category]; done) | rfl
def Qtb (Z : State) (a0 : Addr) (p1 : Int32) (p2 : Int32) (wc : Int32) (sx : Value) (n : Nat) (g : Nat → Int32) (ka : ClassId) (h0 : Heap) (n0 : Nat) (v : Option Value) (h : Heap) (L : List Loc) : Prop := ∃ (b : Addr) (kb : ClassId), v = some (.ref b) ∧ Fr n0 L ∧ Keep h0 h [] ∧ h0.size ≤ b ∧ Arv Z h b kb .byte (Int32.ofNat (2 * n)) (own_vs (2 * n) (own_u g)) (.int (0 : Int32))
set_option maxRecDepth 65536 in
set_option maxHeartbeats 40000000 in
theorem rmtb (l : Launch) (Z : State) (aa : Array Value) (hw : ∀ d ∈ tables_1, d.before aa Z = true) (ws : List Jvm.Cond) (a0 : Addr) (p1 : Int32) (p2 : Int32) (wc : Int32) (sx : Value) (n : Nat) (g : Nat → Int32) (ka : ClassId) (h0 : Heap) (n0 : Nat) (Z0 : n0 ≤ h0.size) (BW : OwnW Z wc sx) (O0 : Old Z n0 h0) (hn : n ≤ 2) (hch : ∀ j, j < n → 0 ≤ (g j).toInt ∧ (g j).toInt < 65536) (V_a0 : Arv Z h0 a0 ka .char (Int32.ofNat n) (own_vs n g) (.int (0 : Int32))) (hp1 : p1 = (0 : Int32)) (hp2 : p2 = (Int32.ofNat n)) :
    MetFree l (⟨"java/lang/StringUTF16", "toBytes", "([CII)[B"⟩ : MethodName) (head1 (Jvm.Cond.code (⟨"java/lang/StringUTF16", "toBytes", "([CII)[B"⟩ : MethodName) jdk_52_method_14_code 5 (some (.array .byte)) :: ws) ({ frames := 2, cells := 1, slots := 4, locals := 24 } : Room)) (fun a U => a = #[(.ref a0), (.int p1), (.int p2)] ∧ Z.Warmed39 U.vm ∧ U.heap = h0) (fun _ _ _ _ _ => True) (fun _ U o U' => ∃ v L, o = .returned v ∧ Qtb Z a0 p1 p2 wc sx n g ka h0 n0 v U'.heap L ∧ FrameEnd U o U' L ({ frames := 2, cells := 1, slots := 4, locals := 24 } : Room).cells ({ frames := 2, cells := 1, slots := 4, locals := 24 } : Room).slots) := by
  refine MetFree.of_bodySF (plainFor_of_name pntb) hisR ?_
  intro p e s m args below meth c s₁ Bd hml0 hP hK
  obtain ⟨rfl, hZ, hh⟩ := hP
  have hx := Bd.exec
  have hby := Bd.bytes
  have hml : c.maxLocals = 5 := hml0
  have hown : s.vm.findClass "java/lang/StringUTF16" = some m.cls := findClass_of_methodNamed Bd.named
  have hnm := (name_of_methodNamed Bd.named Bd.method).1
  have X0 : Stand p l e ({ frames := 2, cells := 1, slots := 4, locals := 24 } : Room) s m #[(.ref a0), (.int p1), (.int p2)] below meth c s₁ [] 0 0 := Stand.of_body Bd
  have e0 : s₁.heap = h0 := by rw [← hh, Bd.state]; rfl
  have N0 := Fr.nil n0
  show OwnEnd p e below s (fun v h L => Qtb Z a0 p1 p2 wc sx n g ka h0 n0 v h L) ({ frames := 2, cells := 1, slots := 4, locals := 24 } : Room).cells ({ frames := 2, cells := 1, slots := 4, locals := 24 } : Room).slots (s₁.setTop (entryFrame m #[(.ref a0), (.int p1), (.int p2)] 5))
  rw [eftb m a0 p1 p2]
  generalize hW : OwnEnd p e below s (fun v h L => Qtb Z a0 p1 p2 wc sx n g ka h0 n0 v h L) ({ frames := 2, cells := 1, slots := 4, locals := 24 } : Room).cells ({ frames := 2, cells := 1, slots := 4, locals := 24 } : Room).slots = W
  have stp : ∀ {A B : State}, (∀ t, Steps p.tables e below B t → Steps p.tables e below A t) → W B → W A := by subst hW; exact own_step
  obtain ⟨S_cs, hcs, S_si, hr_sx, S_ad, S_hi, S_lo⟩ := id BW
  have hz := own_ofNat (n := n) (by omega)
  have hz2 := own_ofNat (n := 2 * n) (by omega)
  subst hp1 hp2
  show W (s₁.setTop (mkF m 0 #[.val (.ref a0), .val (.int (0 : Int32)), .val (.int (Int32.ofNat n)), .unset, .unset] []))
  refine stp (fun t k => XS.iloadN X0.here hx rfl (hb hby dtb_0) rfl k) ?_
  show W (s₁.setTop (mkF m 1 #[.val (.ref a0), .val (.int (0 : Int32)), .val (.int (Int32.ofNat n)), .unset, .unset] [(.int (Int32.ofNat n))]))
  obtain ⟨_, _, ⟨Ttbc1, Ltbc1, ktbc1, ntbc1⟩, -, Xtbc1, ⟨Lctbc1, hQtbc1, ltbc1, ytbc1, ztbc1⟩, sttbc1⟩ := Jvm.LawKit.callS X0 hx (y := (⟨"java/lang/StringUTF16", "newBytesFor", "(I)[B"⟩ : MethodName)) hown (mvT hZ (hw _ (List.mem_of_getElem? (i := 72) rfl))) (mvT hZ (hw _ (List.mem_of_getElem? (i := 73) rfl))) (mvT hZ (hw _ (List.mem_of_getElem? (i := 64) rfl))) (mvT hZ (hw _ (List.mem_of_getElem? (i := 74) rfl))) (by decide) (backOf (W := 0) (rmnf l Z aa hw [] (Int32.ofNat n) wc sx n h0 n0 Z0 BW O0 hn hz) hZ (hw _ (List.mem_of_getElem? (i := 74) rfl)) (hw _ (List.mem_of_getElem? (i := 64) rfl)) (by decide) (by decide)) (g := (mkF m 1 #[.val (.ref a0), .val (.int (0 : Int32)), .val (.int (Int32.ofNat n)), .unset, .unset] [(.int (Int32.ofNat n))])) rfl (by rw [hml]; rfl) (argsL := [(.int (Int32.ofNat n))]) (rest := []) (lenOf pdtb_0 rfl) rfl (by show 2 * 0 + _ ≤ _; exact Nat.le_of_eq rfl) (hb hby dtb_1) (fun _ _ => ⟨rfl, e0, (by decide : 0 + 1 ≤ _), (by decide : 0 + 4 ≤ _)⟩)
  dsimp only [Pt.U, Pt.locs, Pt.cells, Pt.slots] at Xtbc1 ltbc1 ytbc1 ztbc1 sttbc1 hQtbc1
  subst ltbc1 ytbc1 ztbc1
  obtain ⟨btbc1, kbtbc1, rfl, Ntbc1q, Kqtbc1, sz_btbc1, V_btbc1⟩ := hQtbc1
  have Ntbc1 := Fr.app N0 Ntbc1q
  obtain ⟨lctbt2, Xtbc1, Ntbc1⟩ : ∃ lc, Stand p l e ({ frames := 2, cells := 1, slots := 4, locals := 24 } : Room) s m #[(.ref a0), (.int (0 : Int32)), (.int (Int32.ofNat n))] below meth c Ttbc1 lc 1 4 ∧ Fr n0 lc := ⟨_, Xtbc1, Ntbc1⟩
  obtain ⟨htbc1, etbc1⟩ : ∃ h, Ttbc1.heap = h := ⟨_, rfl⟩
  rw [etbc1] at Kqtbc1 V_btbc1
  have ne_a0_btbc1 : a0 ≠ btbc1 := Nat.ne_of_lt (Nat.lt_of_lt_of_le V_a0.lt sz_btbc1)
  have g_btbc1 : n0 ≤ btbc1 := Nat.le_trans Z0 sz_btbc1
  have sz_btbc1 : h0.size ≤ btbc1 := Nat.le_trans (Keep.refl h0 []).1 sz_btbc1
  replace V_a0 := V_a0.keep Kqtbc1 nin0
  have KKtbc1 := Keep.trans (Keep.refl h0 []) Kqtbc1 all0
  have Ztbc1 := Nat.le_trans Z0 Kqtbc1.1
  have Otbc1 := O0.keep Kqtbc1 all0
  refine stp (fun t k => sttbc1 t k) ?_
  show W (Ttbc1.setTop (mkF m 4 #[.val (.ref a0), .val (.int (0 : Int32)), .val (.int (Int32.ofNat n)), .unset, .unset] [(.ref btbc1)]))
  refine stp (fun t k => XS.astoreN Xtbc1.here hx rfl (hb hby dtb_4) rfl rfl (l' := #[.val (.ref a0), .val (.int (0 : Int32)), .val (.int (Int32.ofNat n)), .val (.ref btbc1), .unset]) rfl k) ?_
  show W (Ttbc1.setTop (mkF m 5 #[.val (.ref a0), .val (.int (0 : Int32)), .val (.int (Int32.ofNat n)), .val (.ref btbc1), .unset] []))
  refine stp (fun t k => XS.iconst Xtbc1.here hx rfl (hb hby dtb_5) k) ?_
  show W (Ttbc1.setTop (mkF m 6 #[.val (.ref a0), .val (.int (0 : Int32)), .val (.int (Int32.ofNat n)), .val (.ref btbc1), .unset] [(.int (0 : Int32))]))
  refine stp (fun t k => XS.istore Xtbc1.here hx rfl (hb hby dtb_6) rfl (l' := #[.val (.ref a0), .val (.int (0 : Int32)), .val (.int (Int32.ofNat n)), .val (.ref btbc1), .val (.int (0 : Int32))]) rfl k) ?_
  have LP : ∀ (r i : Nat) (x1 : Int32) (x4 : Int32) (T' : State) (lc : List Loc) (h' : Heap) (hir : i + r = n) (hx1 : x1.toInt = (i : Int)) (hx4 : x4.toInt = (i : Int)) (XL : Stand p l e ({ frames := 2, cells := 1, slots := 4, locals := 24 } : Room) s m #[(.ref a0), (.int (0 : Int32)), (.int (Int32.ofNat n))] below meth c T' lc 1 4) (eL : T'.heap = h') (NL : Fr n0 lc) (KL : Keep h0 h' []) (OL : Old Z n0 h') (V_a0 : Arv Z h' a0 ka .char (Int32.ofNat n) (own_vs n g) (.int (0 : Int32))) (V_btbc1 : Arv Z h' btbc1 kbtbc1 .byte (Int32.ofNat (2 * n)) (own_vs (2 * n) fun j => if j < 2 * i then own_u g j else (0 : Int32)) (.int (0 : Int32))), W (T'.setTop (mkF m 8 #[.val (.ref a0), .val (.int x1), .val (.int (Int32.ofNat n)), .val (.ref btbc1), .val (.int x4)] [])) := by
    intro r
    induction r with
    | zero =>
      intro i x1 x4 T' lc h' hir hx1 hx4 XL eL NL KL OL V_a0 V_btbc1
      have ZL : n0 ≤ h'.size := Nat.le_trans Z0 KL.1
      show W (T'.setTop (mkF m 8 #[.val (.ref a0), .val (.int x1), .val (.int (Int32.ofNat n)), .val (.ref btbc1), .val (.int x4)] []))
      refine stp (fun t k => XS.iload XL.here hx rfl (hb hby dtb_8) rfl k) ?_
      show W (T'.setTop (mkF m 10 #[.val (.ref a0), .val (.int x1), .val (.int (Int32.ofNat n)), .val (.ref btbc1), .val (.int x4)] [(.int x4)]))
      refine stp (fun t k => XS.iloadN XL.here hx rfl (hb hby dtb_10) rfl k) ?_
      show W (T'.setTop (mkF m 11 #[.val (.ref a0), .val (.int x1), .val (.int (Int32.ofNat n)), .val (.ref btbc1), .val (.int x4)] [(.int (Int32.ofNat n)), (.int x4)]))
      refine stp (fun t k => XS.icmpYes XL.here hx rfl (pc0 := 11) (pc' := 32) rfl (hb hby dtb_11) rfl ((flt (fun q => by have := (own_lt32 hx4 hz).mp q; omega)).2.1) (by decide) (by decide) k) ?_
      show W (T'.setTop (mkF m 32 #[.val (.ref a0), .val (.int x1), .val (.int (Int32.ofNat n)), .val (.ref btbc1), .val (.int x4)] []))
      refine stp (fun t k => XS.aloadN XL.here hx rfl (hb hby dtb_32) rfl rfl k) ?_
      show W (T'.setTop (mkF m 33 #[.val (.ref a0), .val (.int x1), .val (.int (Int32.ofNat n)), .val (.ref btbc1), .val (.int x4)] [(.ref btbc1)]))
      show W (T'.setTop (mkF m 33 #[.val (.ref a0), .val (.int x1), .val (.int (Int32.ofNat n)), .val (.ref btbc1), .val (.int x4)] [(.ref btbc1)]))
      rw [← hW]
      exact own_retR XL hx Bd.notSynchronized Bd.returns rfl (hb hby dtb_33) (by show Qtb Z a0 (0 : Int32) (Int32.ofNat n) wc sx n g ka h0 n0 _ T'.heap _; rw [eL]; exact ⟨btbc1, kbtbc1, rfl, NL, KL, sz_btbc1, (by obtain rfl : i = n := (by omega); exact own_arvEq (own_vsCongr (fun j hj => if_pos hj)) V_btbc1)⟩) (by decide) (by decide)
    | succ r ih =>
      intro i x1 x4 T' lc h' hir hx1 hx4 XL eL NL KL OL V_a0 V_btbc1
      have ZL : n0 ≤ h'.size := Nat.le_trans Z0 KL.1
      show W (T'.setTop (mkF m 8 #[.val (.ref a0), .val (.int x1), .val (.int (Int32.ofNat n)), .val (.ref btbc1), .val (.int x4)] []))
      refine stp (fun t k => XS.iload XL.here hx rfl (hb hby dtb_8) rfl k) ?_
      show W (T'.setTop (mkF m 10 #[.val (.ref a0), .val (.int x1), .val (.int (Int32.ofNat n)), .val (.ref btbc1), .val (.int x4)] [(.int x4)]))
      refine stp (fun t k => XS.iloadN XL.here hx rfl (hb hby dtb_10) rfl k) ?_
      show W (T'.setTop (mkF m 11 #[.val (.ref a0), .val (.int x1), .val (.int (Int32.ofNat n)), .val (.ref btbc1), .val (.int x4)] [(.int (Int32.ofNat n)), (.int x4)]))
      refine stp (fun t k => XS.icmpNo XL.here hx rfl (hb hby dtb_11) rfl ((tlt ((own_lt32 hx4 hz).mpr (by omega))).2.1) k) ?_
      show W (T'.setTop (mkF m 14 #[.val (.ref a0), .val (.int x1), .val (.int (Int32.ofNat n)), .val (.ref btbc1), .val (.int x4)] []))
      refine stp (fun t k => XS.aloadN XL.here hx rfl (hb hby dtb_14) rfl rfl k) ?_
      show W (T'.setTop (mkF m 15 #[.val (.ref a0), .val (.int x1), .val (.int (Int32.ofNat n)), .val (.ref btbc1), .val (.int x4)] [(.ref btbc1)]))
      refine stp (fun t k => XS.iload XL.here hx rfl (hb hby dtb_15) rfl k) ?_
      show W (T'.setTop (mkF m 17 #[.val (.ref a0), .val (.int x1), .val (.int (Int32.ofNat n)), .val (.ref btbc1), .val (.int x4)] [(.int x4), (.ref btbc1)]))
      refine stp (fun t k => XS.aloadN XL.here hx rfl (hb hby dtb_17) rfl rfl k) ?_
      show W (T'.setTop (mkF m 18 #[.val (.ref a0), .val (.int x1), .val (.int (Int32.ofNat n)), .val (.ref btbc1), .val (.int x4)] [(.ref a0), (.int x4), (.ref btbc1)]))
      refine stp (fun t k => XS.iloadN XL.here hx rfl (hb hby dtb_18) rfl k) ?_
      show W (T'.setTop (mkF m 19 #[.val (.ref a0), .val (.int x1), .val (.int (Int32.ofNat n)), .val (.ref btbc1), .val (.int x4)] [(.int x1), (.ref a0), (.int x4), (.ref btbc1)]))
      obtain ⟨cltb3, Artb3, qktb3, qstb3, qntb3, qhtb3, qgtb3⟩ := id V_a0
      have hintb3 : ¬ (x1 < 0 ∨ cltb3.slots.size ≤ (x1).toNatClampNeg) := inb_of qstb3 ⟨own_nn hx1, (own_lt32 hx1 hz).mpr (by omega)⟩
      have hattb3 : cltb3.slots[(x1).toNatClampNeg]? = some (.int (g i)) := qhtb3.at hintb3 (by rw [own_clamp hx1, own_vsGet (by omega)])
      refine stp (fun t k => XL.caload hx (j := x1) (v := (.int (g i))) (by rw [eL]; exact Artb3.1) (State.isArrayOf_alike hZ.alike Artb3.2.1) Artb3.2.2 hintb3 hattb3 (g := (mkF m 19 #[.val (.ref a0), .val (.int x1), .val (.int (Int32.ofNat n)), .val (.ref btbc1), .val (.int x4)] [(.int x1), (.ref a0), (.int x4), (.ref btbc1)])) rfl rfl (hb hby dtb_19) _ k) ?_
      show W (T'.setTop (mkF m 20 #[.val (.ref a0), .val (.int x1), .val (.int (Int32.ofNat n)), .val (.ref btbc1), .val (.int x4)] [(.int (g i)), (.int x4), (.ref btbc1)]))
      obtain ⟨_, _, ⟨Ttbc4, Ltbc4, ktbc4, ntbc4⟩, -, Xtbc4, ⟨Lctbc4, hQtbc4, ltbc4, ytbc4, ztbc4⟩, sttbc4⟩ := Jvm.LawKit.callS XL hx (y := (⟨"java/lang/StringUTF16", "putChar", "([BII)V"⟩ : MethodName)) hown (mvT hZ (hw _ (List.mem_of_getElem? (i := 79) rfl))) (mvT hZ (hw _ (List.mem_of_getElem? (i := 80) rfl))) (mvT hZ (hw _ (List.mem_of_getElem? (i := 64) rfl))) (mvT hZ (hw _ (List.mem_of_getElem? (i := 81) rfl))) (by decide) (backOf (W := 0) (rmpc l Z aa hw [] btbc1 x4 (g i) wc sx kbtbc1 (Int32.ofNat (2 * n)) (own_vs (2 * n) fun j => if j < 2 * i then own_u g j else (0 : Int32)) i h' n0 ZL BW OL V_btbc1 g_btbc1 hx4 (by omega) (by rw [own_vsLen]; exact hz2) (by rw [own_vsLen]; omega)) hZ (hw _ (List.mem_of_getElem? (i := 81) rfl)) (hw _ (List.mem_of_getElem? (i := 64) rfl)) (by decide) (by decide)) (g := (mkF m 20 #[.val (.ref a0), .val (.int x1), .val (.int (Int32.ofNat n)), .val (.ref btbc1), .val (.int x4)] [(.int (g i)), (.int x4), (.ref btbc1)])) rfl (by rw [hml]; rfl) (argsL := [(.ref btbc1), (.int x4), (.int (g i))]) (rest := []) (lenOf pdtb_1 rfl) rfl (by show 2 * 0 + _ ≤ _; exact Nat.le_of_eq rfl) (hb hby dtb_20) (fun _ _ => ⟨rfl, eL, (by decide : 1 + 0 ≤ _), (by decide : 4 + 0 ≤ _)⟩)
      dsimp only [Pt.U, Pt.locs, Pt.cells, Pt.slots] at Xtbc4 ltbc4 ytbc4 ztbc4 sttbc4 hQtbc4
      subst ltbc4 ytbc4 ztbc4
      obtain ⟨rfl, Ntbc4q, Kqtbc4, Vtbc4⟩ := hQtbc4
      have Ntbc4 := Fr.app NL Ntbc4q
      obtain ⟨lctbt5, Xtbc4, Ntbc4⟩ : ∃ lc, Stand p l e ({ frames := 2, cells := 1, slots := 4, locals := 24 } : Room) s m #[(.ref a0), (.int (0 : Int32)), (.int (Int32.ofNat n))] below meth c Ttbc4 lc 1 4 ∧ Fr n0 lc := ⟨_, Xtbc4, Ntbc4⟩
      obtain ⟨htbc4, etbc4⟩ : ∃ h, Ttbc4.heap = h := ⟨_, rfl⟩
      rw [etbc4] at Kqtbc4 Vtbc4
      replace V_a0 := V_a0.keep Kqtbc4 (ninS ne_a0_btbc1 nin0)
      have KKtbc4 := Keep.trans KL Kqtbc4 (allS (Or.inr sz_btbc1) all0)
      have Ztbc4 := Nat.le_trans ZL Kqtbc4.1
      have Otbc4 := OL.keep Kqtbc4 (allS g_btbc1 all0)
      have V_btbc1 : Arv Z htbc4 btbc1 kbtbc1 .byte (Int32.ofNat (2 * n)) (own_vs (2 * n) fun j => if j < 2 * (i + 1) then own_u g j else (0 : Int32)) (.int (0 : Int32)) := own_arvEq (own_step2 n i g) Vtbc4
      refine stp (fun t k => sttbc4 t k) ?_
      show W (Ttbc4.setTop (mkF m 23 #[.val (.ref a0), .val (.int x1), .val (.int (Int32.ofNat n)), .val (.ref btbc1), .val (.int x4)] []))
      refine stp (fun t k => XS.iinc Xtbc4.here hx rfl (hb hby dtb_23) rfl (l' := #[.val (.ref a0), .val (.int (x1 + (1 : Int32))), .val (.int (Int32.ofNat n)), .val (.ref btbc1), .val (.int x4)]) rfl k) ?_
      show W (Ttbc4.setTop (mkF m 26 #[.val (.ref a0), .val (.int (x1 + (1 : Int32))), .val (.int (Int32.ofNat n)), .val (.ref btbc1), .val (.int x4)] []))
      refine stp (fun t k => XS.iinc Xtbc4.here hx rfl (hb hby dtb_26) rfl (l' := #[.val (.ref a0), .val (.int (x1 + (1 : Int32))), .val (.int (Int32.ofNat n)), .val (.ref btbc1), .val (.int (x4 + (1 : Int32)))]) rfl k) ?_
      show W (Ttbc4.setTop (mkF m 29 #[.val (.ref a0), .val (.int (x1 + (1 : Int32))), .val (.int (Int32.ofNat n)), .val (.ref btbc1), .val (.int (x4 + (1 : Int32)))] []))
      refine stp (fun t k => XS.goto Xtbc4.here hx rfl (pc0 := 29) (pc' := 8) rfl (hb hby dtb_29) (by decide) (by decide) k) ?_
      exact ih (i + 1) _ _ _ _ _ (by omega) (own_inc hx1 (by omega)) (own_inc hx4 (by omega)) Xtbc4 etbc4 Ntbc4 KKtbc4 Otbc4 V_a0 V_btbc1
  exact LP n 0 (0 : Int32) (0 : Int32) _ _ _ (by omega) rfl rfl Xtbc1 etbc1 Ntbc1 KKtbc1 Otbc1 V_a0 (by simpa using V_btbc1)
theorem own_gt255 {c : Int32} (h : 256 ≤ c.toInt) : (255 : Int32) < c := by
  rw [Int32.lt_iff_toInt_lt, show (255 : Int32).toInt = 255 from by decide]; omega
theorem dk2_0 : decode jdk_52_method_16_code 0 = .ok (.iload_n 2, 1) := by decide +kernel
theorem dk2_1 : decode jdk_52_method_16_code 1 = .ok (.newarray .byte, 2) := by decide +kernel
theorem dk2_3 : decode jdk_52_method_16_code 3 = .ok (.astore_n 3, 1) := by decide +kernel
theorem dk2_4 : decode jdk_52_method_16_code 4 = .ok (.aload_n 0, 1) := by decide +kernel
theorem dk2_5 : decode jdk_52_method_16_code 5 = .ok (.iload_n 1, 1) := by decide +kernel
theorem dk2_6 : decode jdk_52_method_16_code 6 = .ok (.aload_n 3, 1) := by decide +kernel
theorem dk2_7 : decode jdk_52_method_16_code 7 = .ok (.iconst 0, 1) := by decide +kernel
theorem dk2_8 : decode jdk_52_method_16_code 8 = .ok (.iload_n 2, 1) := by decide +kernel
theorem dk2_9 : decode jdk_52_method_16_code 9 = .ok (.invokestatic 115, 3) := by decide +kernel
theorem dk2_12 : decode jdk_52_method_16_code 12 = .ok (.istore 4, 2) := by decide +kernel
theorem dk2_14 : decode jdk_52_method_16_code 14 = .ok (.iload 4, 2) := by decide +kernel
theorem dk2_16 : decode jdk_52_method_16_code 16 = .ok (.iload_n 2, 1) := by decide +kernel
theorem dk2_17 : decode jdk_52_method_16_code 17 = .ok (.if_icmp .eq 40, 3) := by decide +kernel
theorem dk2_20 : decode jdk_52_method_16_code 20 = .ok (.aload_n 0, 1) := by decide +kernel
theorem dk2_21 : decode jdk_52_method_16_code 21 = .ok (.iload_n 1, 1) := by decide +kernel
theorem dk2_22 : decode jdk_52_method_16_code 22 = .ok (.iload_n 2, 1) := by decide +kernel
theorem dk2_23 : decode jdk_52_method_16_code 23 = .ok (.invokestatic 119, 3) := by decide +kernel
theorem dk2_26 : decode jdk_52_method_16_code 26 = .ok (.astore 5, 2) := by decide +kernel
theorem dk2_28 : decode jdk_52_method_16_code 28 = .ok (.aload 5, 2) := by decide +kernel
theorem dk2_30 : decode jdk_52_method_16_code 30 = .ok (.iload 4, 2) := by decide +kernel
theorem dk2_32 : decode jdk_52_method_16_code 32 = .ok (.invokestatic 71, 3) := by decide +kernel
theorem dk2_35 : decode jdk_52_method_16_code 35 = .ok (.sipush 255, 3) := by decide +kernel
theorem dk2_38 : decode jdk_52_method_16_code 38 = .ok (.if_icmp .gt 16, 3) := by decide +kernel
theorem dk2_54 : decode jdk_52_method_16_code 54 = .ok (.aload 5, 2) := by decide +kernel
theorem dk2_56 : decode jdk_52_method_16_code 56 = .ok (.areturn, 1) := by decide +kernel
theorem dk2_57 : decode jdk_52_method_16_code 57 = .ok (.aload_n 3, 1) := by decide +kernel
theorem dk2_58 : decode jdk_52_method_16_code 58 = .ok (.areturn, 1) := by decide +kernel
theorem pnk2 : plainName "java/lang/StringUTF16" = true := by first | (simp [plainName, overriddenIn]; done) | decide +kernel
theorem pdk2_0 : parseMethodDescriptor "([CI[BII)I" = some ⟨[(.array .char), .int, (.array .byte), .int, .int], some .int⟩ := by decide +kernel
theorem pdk2_1 : parseMethodDescriptor "([CII)[B" = some ⟨[(.array .char), .int, .int], some (.array .byte)⟩ := by decide +kernel
theorem pdk2_2 : parseMethodDescriptor "([BI)C" = some ⟨[(.array .byte), .int], some .char⟩ := by decide +kernel
theorem efk2 (m : MethodId) (a0 : Addr) (p1 : Int32) (p2 : Int32) : entryFrame m #[(.ref a0), (.int p1), (.int p2)] 6 = mkF m 0 #[.val (.ref a0), .val (.int p1), .val (.int p2), .unset, .unset, .unset] [] := by first | (simp [entryFrame, mkF, argsToLocals, Value.category]; done) | rfl
def Qk2 (Z : State) (a0 : Addr) (p1 : Int32) (p2 : Int32) (wc : Int32) (sx : Value) (n : Nat) (g : Nat → Int32) (ka : ClassId) (h0 : Heap) (n0 : Nat) (v : Option Value) (h : Heap) (L : List Loc) : Prop := ∃ (b : Addr) (kb : ClassId), v = some (.ref b) ∧ Fr n0 L ∧ Keep h0 h [] ∧ h0.size ≤ b ∧ (((∀ j, j < n → (g j).toInt < 256) ∧ Arv Z h b kb .byte (Int32.ofNat n) (own_vs n fun j => own_b (g j)) (.int (0 : Int32))) ∨ ((∃ j, j < n ∧ 256 ≤ (g j).toInt) ∧ Arv Z h b kb .byte (Int32.ofNat (2 * n)) (own_vs (2 * n) (own_u g)) (.int (0 : Int32))))
set_option maxRecDepth 65536 in
set_option maxHeartbeats 40000000 in
theorem rmk2 (l : Launch) (Z : State) (aa : Array Value) (hw : ∀ d ∈ tables_1, d.before aa Z = true) (ws : List Jvm.Cond) (a0 : Addr) (p1 : Int32) (p2 : Int32) (wc : Int32) (sx : Value) (n : Nat) (g : Nat → Int32) (ka : ClassId) (h0 : Heap) (n0 : Nat) (Z0 : n0 ≤ h0.size) (BW : OwnW Z wc sx) (O0 : Old Z n0 h0) (hn : n ≤ 2) (hch : ∀ j, j < n → 0 ≤ (g j).toInt ∧ (g j).toInt < 65536) (V_a0 : Arv Z h0 a0 ka .char (Int32.ofNat n) (own_vs n g) (.int (0 : Int32))) (hp1 : p1 = (0 : Int32)) (hp2 : p2 = (Int32.ofNat n)) :
    MetFree l (⟨"java/lang/StringUTF16", "compress", "([CII)[B"⟩ : MethodName) (head1 (Jvm.Cond.code (⟨"java/lang/StringUTF16", "compress", "([CII)[B"⟩ : MethodName) jdk_52_method_16_code 6 (some (.array .byte)) :: ws) ({ frames := 3, cells := 2, slots := 6, locals := 40 } : Room)) (fun a U => a = #[(.ref a0), (.int p1), (.int p2)] ∧ Z.Warmed39 U.vm ∧ U.heap = h0) (fun _ _ _ _ _ => True) (fun _ U o U' => ∃ v L, o = .returned v ∧ Qk2 Z a0 p1 p2 wc sx n g ka h0 n0 v U'.heap L ∧ FrameEnd U o U' L ({ frames := 3, cells := 2, slots := 6, locals := 40 } : Room).cells ({ frames := 3, cells := 2, slots := 6, locals := 40 } : Room).slots) := by
  refine MetFree.of_bodySF (plainFor_of_name pnk2) hisR ?_
  intro p e s m args below meth c s₁ Bd hml0 hP hK
  obtain ⟨rfl, hZ, hh⟩ := hP
  have hx := Bd.exec
  have hby := Bd.bytes
  have hml : c.maxLocals = 6 := hml0
  have hown : s.vm.findClass "java/lang/StringUTF16" = some m.cls := findClass_of_methodNamed Bd.named
  have hnm := (name_of_methodNamed Bd.named Bd.method).1
  have X0 : Stand p l e ({ frames := 3, cells := 2, slots := 6, locals := 40 } : Room) s m #[(.ref a0), (.int p1), (.int p2)] below meth c s₁ [] 0 0 := Stand.of_body Bd
  have e0 : s₁.heap = h0 := by rw [← hh, Bd.state]; rfl
  have N0 := Fr.nil n0
  show OwnEnd p e below s (fun v h L => Qk2 Z a0 p1 p2 wc sx n g ka h0 n0 v h L) ({ frames := 3, cells := 2, slots := 6, locals := 40 } : Room).cells ({ frames := 3, cells := 2, slots := 6, locals := 40 } : Room).slots (s₁.setTop (entryFrame m #[(.ref a0), (.int p1), (.int p2)] 6))
  rw [efk2 m a0 p1 p2]
  generalize hW : OwnEnd p e below s (fun v h L => Qk2 Z a0 p1 p2 wc sx n g ka h0 n0 v h L) ({ frames := 3, cells := 2, slots := 6, locals := 40 } : Room).cells ({ frames := 3, cells := 2, slots := 6, locals := 40 } : Room).slots = W
  have stp : ∀ {A B : State}, (∀ t, Steps p.tables e below B t → Steps p.tables e below A t) → W B → W A := by subst hW; exact own_step
  obtain ⟨S_cs, hcs, S_si, hr_sx, S_ad, S_hi, S_lo⟩ := id BW
  have hz := own_ofNat (n := n) (by omega)
  have hz2 := own_ofNat (n := 2 * n) (by omega)
  subst hp1 hp2
  show W (s₁.setTop (mkF m 0 #[.val (.ref a0), .val (.int (0 : Int32)), .val (.int (Int32.ofNat n)), .unset, .unset, .unset] []))
  refine stp (fun t k => XS.iloadN X0.here hx rfl (hb hby dk2_0) rfl k) ?_
  show W (s₁.setTop (mkF m 1 #[.val (.ref a0), .val (.int (0 : Int32)), .val (.int (Int32.ofNat n)), .unset, .unset, .unset] [(.int (Int32.ofNat n))]))
  obtain ⟨Tk21, hk21, kk21, Xk21, ek21, Ek21, Ak21, stk21⟩ := newP X0 hx hZ (hw _ (List.mem_of_getElem? (i := 19) rfl)) e0 (g := (mkF m 1 #[.val (.ref a0), .val (.int (0 : Int32)), .val (.int (Int32.ofNat n)), .unset, .unset, .unset] [(.int (Int32.ofNat n))])) rfl (hb hby dk2_1) rfl (own_nn hz) (cap := 2) (by rw [own_clamp hz]; exact hn) (by decide) (by decide) (by decide)
  obtain ⟨bk21, gqk21⟩ : ∃ z, z = h0.size := ⟨_, rfl⟩
  rw [← gqk21] at Ak21 stk21
  have ne_a0_bk21 : a0 ≠ bk21 := Nat.ne_of_lt (Nat.lt_of_lt_of_le V_a0.lt (Nat.le_of_eq gqk21.symm))
  have g_bk21 : n0 ≤ bk21 := Nat.le_trans Z0 (Nat.le_of_eq gqk21.symm)
  have sz_bk21 : h0.size ≤ bk21 := Nat.le_trans (Keep.refl h0 []).1 (Nat.le_of_eq gqk21.symm)
  replace V_a0 := V_a0.ext Ek21
  have Kk21 := (Keep.refl h0 []).ext Ek21
  have Zk21 := Nat.le_trans Z0 Ek21.1
  have Ok21 := O0.ext Ek21
  have V_bk21 : Arv Z hk21 bk21 kk21 .byte (Int32.ofNat n) (own_vs n fun _ => (0 : Int32)) (.int (0 : Int32)) := (Arv.new Ak21 (own_nn hz)).pad (own_vsPad _)
  refine stp (fun t k => stk21 t k) ?_
  show W (Tk21.setTop (mkF m 3 #[.val (.ref a0), .val (.int (0 : Int32)), .val (.int (Int32.ofNat n)), .unset, .unset, .unset] [(.ref bk21)]))
  refine stp (fun t k => XS.astoreN Xk21.here hx rfl (hb hby dk2_3) rfl rfl (l' := #[.val (.ref a0), .val (.int (0 : Int32)), .val (.int (Int32.ofNat n)), .val (.ref bk21), .unset, .unset]) rfl k) ?_
  show W (Tk21.setTop (mkF m 4 #[.val (.ref a0), .val (.int (0 : Int32)), .val (.int (Int32.ofNat n)), .val (.ref bk21), .unset, .unset] []))
  refine stp (fun t k => XS.aloadN Xk21.here hx rfl (hb hby dk2_4) rfl rfl k) ?_
  show W (Tk21.setTop (mkF m 5 #[.val (.ref a0), .val (.int (0 : Int32)), .val (.int (Int32.ofNat n)), .val (.ref bk21), .unset, .unset] [(.ref a0)]))
  refine stp (fun t k => XS.iloadN Xk21.here hx rfl (hb hby dk2_5) rfl k) ?_
  show W (Tk21.setTop (mkF m 6 #[.val (.ref a0), .val (.int (0 : Int32)), .val (.int (Int32.ofNat n)), .val (.ref bk21), .unset, .unset] [(.int (0 : Int32)), (.ref a0)]))
  refine stp (fun t k => XS.aloadN Xk21.here hx rfl (hb hby dk2_6) rfl rfl k) ?_
  show W (Tk21.setTop (mkF m 7 #[.val (.ref a0), .val (.int (0 : Int32)), .val (.int (Int32.ofNat n)), .val (.ref bk21), .unset, .unset] [(.ref bk21), (.int (0 : Int32)), (.ref a0)]))
  refine stp (fun t k => XS.iconst Xk21.here hx rfl (hb hby dk2_7) k) ?_
  show W (Tk21.setTop (mkF m 8 #[.val (.ref a0), .val (.int (0 : Int32)), .val (.int (Int32.ofNat n)), .val (.ref bk21), .unset, .unset] [(.int (0 : Int32)), (.ref bk21), (.int (0 : Int32)), (.ref a0)]))
  refine stp (fun t k => XS.iloadN Xk21.here hx rfl (hb hby dk2_8) rfl k) ?_
  show W (Tk21.setTop (mkF m 9 #[.val (.ref a0), .val (.int (0 : Int32)), .val (.int (Int32.ofNat n)), .val (.ref bk21), .unset, .unset] [(.int (Int32.ofNat n)), (.int (0 : Int32)), (.ref bk21), (.int (0 : Int32)), (.ref a0)]))
  obtain ⟨_, _, ⟨Tk2c2, Lk2c2, kk2c2, nk2c2⟩, -, Xk2c2, ⟨Lck2c2, hQk2c2, lk2c2, yk2c2, zk2c2⟩, stk2c2⟩ := Jvm.LawKit.callS Xk21 hx (y := (⟨"java/lang/StringUTF16", "compress", "([CI[BII)I"⟩ : MethodName)) hown (mvT hZ (hw _ (List.mem_of_getElem? (i := 66) rfl))) (mvT hZ (hw _ (List.mem_of_getElem? (i := 67) rfl))) (mvT hZ (hw _ (List.mem_of_getElem? (i := 64) rfl))) (mvT hZ (hw _ (List.mem_of_getElem? (i := 68) rfl))) (by decide) (backOf (W := 0) (rmk1 l Z aa hw [] a0 (0 : Int32) bk21 (0 : Int32) (Int32.ofNat n) wc sx n g ka kk21 hk21 n0 Zk21 BW Ok21 hn hch V_a0 V_bk21 ne_a0_bk21 g_bk21 rfl rfl rfl) hZ (hw _ (List.mem_of_getElem? (i := 68) rfl)) (hw _ (List.mem_of_getElem? (i := 64) rfl)) (by decide) (by decide)) (g := (mkF m 9 #[.val (.ref a0), .val (.int (0 : Int32)), .val (.int (Int32.ofNat n)), .val (.ref bk21), .unset, .unset] [(.int (Int32.ofNat n)), (.int (0 : Int32)), (.ref bk21), (.int (0 : Int32)), (.ref a0)])) rfl (by rw [hml]; rfl) (argsL := [(.ref a0), (.int (0 : Int32)), (.ref bk21), (.int (0 : Int32)), (.int (Int32.ofNat n))]) (rest := []) (lenOf pdk2_0 rfl) rfl (by show 2 * 0 + _ ≤ _; exact Nat.le_of_eq rfl) (hb hby dk2_9) (fun _ _ => ⟨rfl, ek21, (by decide : 1 + 0 ≤ _), (by decide : 2 + 0 ≤ _)⟩)
  dsimp only [Pt.U, Pt.locs, Pt.cells, Pt.slots] at Xk2c2 lk2c2 yk2c2 zk2c2 stk2c2 hQk2c2
  subst lk2c2 yk2c2 zk2c2
  obtain ⟨rk2c2, rfl, Nk2c2q, Kqk2c2, Ck2c2⟩ := hQk2c2
  have Nk2c2 := Fr.app N0 Nk2c2q
  obtain ⟨lck2t3, Xk2c2, Nk2c2⟩ : ∃ lc, Stand p l e ({ frames := 3, cells := 2, slots := 6, locals := 40 } : Room) s m #[(.ref a0), (.int (0 : Int32)), (.int (Int32.ofNat n))] below meth c Tk2c2 lc 1 2 ∧ Fr n0 lc := ⟨_, Xk2c2, Nk2c2⟩
  obtain ⟨hk2c2, ek2c2⟩ : ∃ h, Tk2c2.heap = h := ⟨_, rfl⟩
  rw [ek2c2] at Kqk2c2 Ck2c2
  replace V_a0 := V_a0.keep Kqk2c2 (ninS ne_a0_bk21 nin0)
  have KKk2c2 := Keep.trans Kk21 Kqk2c2 (allS (Or.inr sz_bk21) all0)
  have Zk2c2 := Nat.le_trans Zk21 Kqk2c2.1
  have Ok2c2 := Ok21.keep Kqk2c2 (allS g_bk21 all0)
  refine stp (fun t k => stk2c2 t k) ?_
  show W (Tk2c2.setTop (mkF m 12 #[.val (.ref a0), .val (.int (0 : Int32)), .val (.int (Int32.ofNat n)), .val (.ref bk21), .unset, .unset] [(.int rk2c2)]))
  refine stp (fun t k => XS.istore Xk2c2.here hx rfl (hb hby dk2_12) rfl (l' := #[.val (.ref a0), .val (.int (0 : Int32)), .val (.int (Int32.ofNat n)), .val (.ref bk21), .val (.int rk2c2), .unset]) rfl k) ?_
  show W (Tk2c2.setTop (mkF m 14 #[.val (.ref a0), .val (.int (0 : Int32)), .val (.int (Int32.ofNat n)), .val (.ref bk21), .val (.int rk2c2), .unset] []))
  refine stp (fun t k => XS.iload Xk2c2.here hx rfl (hb hby dk2_14) rfl k) ?_
  show W (Tk2c2.setTop (mkF m 16 #[.val (.ref a0), .val (.int (0 : Int32)), .val (.int (Int32.ofNat n)), .val (.ref bk21), .val (.int rk2c2), .unset] [(.int rk2c2)]))
  refine stp (fun t k => XS.iloadN Xk2c2.here hx rfl (hb hby dk2_16) rfl k) ?_
  show W (Tk2c2.setTop (mkF m 17 #[.val (.ref a0), .val (.int (0 : Int32)), .val (.int (Int32.ofNat n)), .val (.ref bk21), .val (.int rk2c2), .unset] [(.int (Int32.ofNat n)), (.int rk2c2)]))
  rcases Ck2c2 with Ck2c2 | Ck2c2
  · obtain ⟨rfl, hlat, V_bk21⟩ := Ck2c2
    show W (Tk2c2.setTop (mkF m 17 #[.val (.ref a0), .val (.int (0 : Int32)), .val (.int (Int32.ofNat n)), .val (.ref bk21), .val (.int (Int32.ofNat n)), .unset] [(.int (Int32.ofNat n)), (.int (Int32.ofNat n))]))
    refine stp (fun t k => XS.icmpYes Xk2c2.here hx rfl (pc0 := 17) (pc' := 57) rfl (hb hby dk2_17) rfl ((teq (rfl)).1) (by decide) (by decide) k) ?_
    show W (Tk2c2.setTop (mkF m 57 #[.val (.ref a0), .val (.int (0 : Int32)), .val (.int (Int32.ofNat n)), .val (.ref bk21), .val (.int (Int32.ofNat n)), .unset] []))
    refine stp (fun t k => XS.aloadN Xk2c2.here hx rfl (hb hby dk2_57) rfl rfl k) ?_
    show W (Tk2c2.setTop (mkF m 58 #[.val (.ref a0), .val (.int (0 : Int32)), .val (.int (Int32.ofNat n)), .val (.ref bk21), .val (.int (Int32.ofNat n)), .unset] [(.ref bk21)]))
    show W (Tk2c2.setTop (mkF m 58 #[.val (.ref a0), .val (.int (0 : Int32)), .val (.int (Int32.ofNat n)), .val (.ref bk21), .val (.int (Int32.ofNat n)), .unset] [(.ref bk21)]))
    rw [← hW]
    exact own_retR Xk2c2 hx Bd.notSynchronized Bd.returns rfl (hb hby dk2_58) (by show Qk2 Z a0 (0 : Int32) (Int32.ofNat n) wc sx n g ka h0 n0 _ Tk2c2.heap _; rw [ek2c2]; exact ⟨bk21, kk21, rfl, Nk2c2, KKk2c2, sz_bk21, Or.inl ⟨hlat, V_bk21⟩⟩) (by decide) (by decide)
  · obtain ⟨i, hi, hr, hbig⟩ := Ck2c2
    show W (Tk2c2.setTop (mkF m 17 #[.val (.ref a0), .val (.int (0 : Int32)), .val (.int (Int32.ofNat n)), .val (.ref bk21), .val (.int rk2c2), .unset] [(.int (Int32.ofNat n)), (.int rk2c2)]))
    refine stp (fun t k => XS.icmpNo Xk2c2.here hx rfl (hb hby dk2_17) rfl ((feq (fun q => by rw [q, hz] at hr; omega)).1) k) ?_
    show W (Tk2c2.setTop (mkF m 20 #[.val (.ref a0), .val (.int (0 : Int32)), .val (.int (Int32.ofNat n)), .val (.ref bk21), .val (.int rk2c2), .unset] []))
    refine stp (fun t k => XS.aloadN Xk2c2.here hx rfl (hb hby dk2_20) rfl rfl k) ?_
    show W (Tk2c2.setTop (mkF m 21 #[.val (.ref a0), .val (.int (0 : Int32)), .val (.int (Int32.ofNat n)), .val (.ref bk21), .val (.int rk2c2), .unset] [(.ref a0)]))
    refine stp (fun t k => XS.iloadN Xk2c2.here hx rfl (hb hby dk2_21) rfl k) ?_
    show W (Tk2c2.setTop (mkF m 22 #[.val (.ref a0), .val (.int (0 : Int32)), .val (.int (Int32.ofNat n)), .val (.ref bk21), .val (.int rk2c2), .unset] [(.int (0 : Int32)), (.ref a0)]))
    refine stp (fun t k => XS.iloadN Xk2c2.here hx rfl (hb hby dk2_22) rfl k) ?_
    show W (Tk2c2.setTop (mkF m 23 #[.val (.ref a0), .val (.int (0 : Int32)), .val (.int (Int32.ofNat n)), .val (.ref bk21), .val (.int rk2c2), .unset] [(.int (Int32.ofNat n)), (.int (0 : Int32)), (.ref a0)]))
    obtain ⟨_, _, ⟨Tk2c4, Lk2c4, kk2c4, nk2c4⟩, -, Xk2c4, ⟨Lck2c4, hQk2c4, lk2c4, yk2c4, zk2c4⟩, stk2c4⟩ := Jvm.LawKit.callS Xk2c2 hx (y := (⟨"java/lang/StringUTF16", "toBytes", "([CII)[B"⟩ : MethodName)) hown (mvT hZ (hw _ (List.mem_of_getElem? (i := 69) rfl))) (mvT hZ (hw _ (List.mem_of_getElem? (i := 70) rfl))) (mvT hZ (hw _ (List.mem_of_getElem? (i := 64) rfl))) (mvT hZ (hw _ (List.mem_of_getElem? (i := 71) rfl))) (by decide) (backOf (W := 0) (rmtb l Z aa hw [] a0 (0 : Int32) (Int32.ofNat n) wc sx n g ka hk2c2 n0 Zk2c2 BW Ok2c2 hn hch V_a0 rfl rfl) hZ (hw _ (List.mem_of_getElem? (i := 71) rfl)) (hw _ (List.mem_of_getElem? (i := 64) rfl)) (by decide) (by decide)) (g := (mkF m 23 #[.val (.ref a0), .val (.int (0 : Int32)), .val (.int (Int32.ofNat n)), .val (.ref bk21), .val (.int rk2c2), .unset] [(.int (Int32.ofNat n)), (.int (0 : Int32)), (.ref a0)])) rfl (by rw [hml]; rfl) (argsL := [(.ref a0), (.int (0 : Int32)), (.int (Int32.ofNat n))]) (rest := []) (lenOf pdk2_1 rfl) rfl (by show 2 * 0 + _ ≤ _; exact Nat.le_of_eq rfl) (hb hby dk2_23) (fun _ _ => ⟨rfl, ek2c2, (by decide : 1 + 1 ≤ _), (by decide : 2 + 4 ≤ _)⟩)
    dsimp only [Pt.U, Pt.locs, Pt.cells, Pt.slots] at Xk2c4 lk2c4 yk2c4 zk2c4 stk2c4 hQk2c4
    subst lk2c4 yk2c4 zk2c4
    obtain ⟨bk2c4, kbk2c4, rfl, Nk2c4q, Kqk2c4, sz_bk2c4, V_bk2c4⟩ := hQk2c4
    have Nk2c4 := Fr.app Nk2c2 Nk2c4q
    obtain ⟨lck2t5, Xk2c4, Nk2c4⟩ : ∃ lc, Stand p l e ({ frames := 3, cells := 2, slots := 6, locals := 40 } : Room) s m #[(.ref a0), (.int (0 : Int32)), (.int (Int32.ofNat n))] below meth c Tk2c4 lc 2 6 ∧ Fr n0 lc := ⟨_, Xk2c4, Nk2c4⟩
    obtain ⟨hk2c4, ek2c4⟩ : ∃ h, Tk2c4.heap = h := ⟨_, rfl⟩
    rw [ek2c4] at Kqk2c4 V_bk2c4
    have ne_a0_bk2c4 : a0 ≠ bk2c4 := Nat.ne_of_lt (Nat.lt_of_lt_of_le V_a0.lt sz_bk2c4)
    have g_bk2c4 : n0 ≤ bk2c4 := Nat.le_trans Zk2c2 sz_bk2c4
    have sz_bk2c4 : h0.size ≤ bk2c4 := Nat.le_trans KKk2c2.1 sz_bk2c4
    replace V_a0 := V_a0.keep Kqk2c4 nin0
    have KKk2c4 := Keep.trans KKk2c2 Kqk2c4 all0
    have Zk2c4 := Nat.le_trans Zk2c2 Kqk2c4.1
    have Ok2c4 := Ok2c2.keep Kqk2c4 all0
    refine stp (fun t k => stk2c4 t k) ?_
    show W (Tk2c4.setTop (mkF m 26 #[.val (.ref a0), .val (.int (0 : Int32)), .val (.int (Int32.ofNat n)), .val (.ref bk21), .val (.int rk2c2), .unset] [(.ref bk2c4)]))
    refine stp (fun t k => XS.astore Xk2c4.here hx rfl (hb hby dk2_26) rfl rfl (l' := #[.val (.ref a0), .val (.int (0 : Int32)), .val (.int (Int32.ofNat n)), .val (.ref bk21), .val (.int rk2c2), .val (.ref bk2c4)]) rfl k) ?_
    show W (Tk2c4.setTop (mkF m 28 #[.val (.ref a0), .val (.int (0 : Int32)), .val (.int (Int32.ofNat n)), .val (.ref bk21), .val (.int rk2c2), .val (.ref bk2c4)] []))
    refine stp (fun t k => XS.aload Xk2c4.here hx rfl (hb hby dk2_28) rfl rfl k) ?_
    show W (Tk2c4.setTop (mkF m 30 #[.val (.ref a0), .val (.int (0 : Int32)), .val (.int (Int32.ofNat n)), .val (.ref bk21), .val (.int rk2c2), .val (.ref bk2c4)] [(.ref bk2c4)]))
    refine stp (fun t k => XS.iload Xk2c4.here hx rfl (hb hby dk2_30) rfl k) ?_
    show W (Tk2c4.setTop (mkF m 32 #[.val (.ref a0), .val (.int (0 : Int32)), .val (.int (Int32.ofNat n)), .val (.ref bk21), .val (.int rk2c2), .val (.ref bk2c4)] [(.int rk2c2), (.ref bk2c4)]))
    have d0_ := own_shl1 hr (by omega)
    have d1_ := own_inc d0_ (by omega)
    obtain ⟨_, _, ⟨Tk2c6, Lk2c6, kk2c6, nk2c6⟩, -, Xk2c6, ⟨Lck2c6, hQk2c6, lk2c6, yk2c6, zk2c6⟩, stk2c6⟩ := Jvm.LawKit.callS Xk2c4 hx (y := (⟨"java/lang/StringUTF16", "getChar", "([BI)C"⟩ : MethodName)) hown (mvT hZ (hw _ (List.mem_of_getElem? (i := 85) rfl))) (mvT hZ (hw _ (List.mem_of_getElem? (i := 86) rfl))) (mvT hZ (hw _ (List.mem_of_getElem? (i := 64) rfl))) (mvT hZ (hw _ (List.mem_of_getElem? (i := 87) rfl))) (by decide) (backOf (W := 0) (rmgc l Z aa hw [] bk2c4 rk2c2 wc sx kbk2c4 (Int32.ofNat (2 * n)) (own_vs (2 * n) (own_u g)) (own_lo (g i)) (own_hi (g i)) hk2c4 n0 Zk2c4 BW Ok2c4 V_bk2c4 ⟨own_nn d0_, (own_lt32 d0_ hz2).mpr (by omega)⟩ ⟨own_nn d1_, (own_lt32 d1_ hz2).mpr (by omega)⟩ (by rw [own_clamp d0_, own_vsGet (by omega), own_u0]) (by rw [own_clamp d1_, own_vsGet (by omega), own_u1])) hZ (hw _ (List.mem_of_getElem? (i := 87) rfl)) (hw _ (List.mem_of_getElem? (i := 64) rfl)) (by decide) (by decide)) (g := (mkF m 32 #[.val (.ref a0), .val (.int (0 : Int32)), .val (.int (Int32.ofNat n)), .val (.ref bk21), .val (.int rk2c2), .val (.ref bk2c4)] [(.int rk2c2), (.ref bk2c4)])) rfl (by rw [hml]; rfl) (argsL := [(.ref bk2c4), (.int rk2c2)]) (rest := []) (lenOf pdk2_2 rfl) rfl (by show 2 * 0 + _ ≤ _; exact Nat.le_of_eq rfl) (hb hby dk2_32) (fun _ _ => ⟨rfl, ek2c4, (by decide : 2 + 0 ≤ _), (by decide : 6 + 0 ≤ _)⟩)
    dsimp only [Pt.U, Pt.locs, Pt.cells, Pt.slots] at Xk2c6 lk2c6 yk2c6 zk2c6 stk2c6 hQk2c6
    subst lk2c6 yk2c6 zk2c6
    obtain ⟨rfl, Nk2c6q, ek2c6⟩ := hQk2c6
    have Nk2c6 := Fr.app Nk2c4 Nk2c6q
    obtain ⟨lck2t7, Xk2c6, Nk2c6⟩ : ∃ lc, Stand p l e ({ frames := 3, cells := 2, slots := 6, locals := 40 } : Room) s m #[(.ref a0), (.int (0 : Int32)), (.int (Int32.ofNat n))] below meth c Tk2c6 lc 2 6 ∧ Fr n0 lc := ⟨_, Xk2c6, Nk2c6⟩
    refine stp (fun t k => stk2c6 t k) ?_
    show W (Tk2c6.setTop (mkF m 35 #[.val (.ref a0), .val (.int (0 : Int32)), .val (.int (Int32.ofNat n)), .val (.ref bk21), .val (.int rk2c2), .val (.ref bk2c4)] [(.int (fgc (own_lo (g i)) (own_hi (g i))))]))
    refine stp (fun t k => XS.sipush Xk2c6.here hx rfl (hb hby dk2_35) k) ?_
    show W (Tk2c6.setTop (mkF m 38 #[.val (.ref a0), .val (.int (0 : Int32)), .val (.int (Int32.ofNat n)), .val (.ref bk21), .val (.int rk2c2), .val (.ref bk2c4)] [(.int (255 : Int32)), (.int (fgc (own_lo (g i)) (own_hi (g i))))]))
    refine stp (fun t k => XS.icmpYes Xk2c6.here hx rfl (pc0 := 38) (pc' := 54) rfl (hb hby dk2_38) rfl ((tlt (own_gt255 (by rw [own_fgc (hch i hi).1 (hch i hi).2]; exact hbig))).2.2.1) (by decide) (by decide) k) ?_
    show W (Tk2c6.setTop (mkF m 54 #[.val (.ref a0), .val (.int (0 : Int32)), .val (.int (Int32.ofNat n)), .val (.ref bk21), .val (.int rk2c2), .val (.ref bk2c4)] []))
    refine stp (fun t k => XS.aload Xk2c6.here hx rfl (hb hby dk2_54) rfl rfl k) ?_
    show W (Tk2c6.setTop (mkF m 56 #[.val (.ref a0), .val (.int (0 : Int32)), .val (.int (Int32.ofNat n)), .val (.ref bk21), .val (.int rk2c2), .val (.ref bk2c4)] [(.ref bk2c4)]))
    show W (Tk2c6.setTop (mkF m 56 #[.val (.ref a0), .val (.int (0 : Int32)), .val (.int (Int32.ofNat n)), .val (.ref bk21), .val (.int rk2c2), .val (.ref bk2c4)] [(.ref bk2c4)]))
    rw [← hW]
    exact own_retR Xk2c6 hx Bd.notSynchronized Bd.returns rfl (hb hby dk2_56) (by show Qk2 Z a0 (0 : Int32) (Int32.ofNat n) wc sx n g ka h0 n0 _ Tk2c6.heap _; rw [ek2c6]; exact ⟨bk2c4, kbk2c4, rfl, Nk2c6, KKk2c4, sz_bk2c4, Or.inr ⟨⟨i, hi, hbig⟩, V_bk2c4⟩⟩) (by decide) (by decide)
theorem dca_0 : decode jdk_52_method_15_code 0 = .ok (.iload_n 1, 1) := by decide +kernel
theorem dca_1 : decode jdk_52_method_15_code 1 = .ok (.aload_n 0, 1) := by decide +kernel
theorem dca_2 : decode jdk_52_method_15_code 2 = .ok (.arraylength, 1) := by decide +kernel
theorem dca_3 : decode jdk_52_method_15_code 3 = .ok (.isub, 1) := by decide +kernel
theorem dca_4 : decode jdk_52_method_15_code 4 = .ok (.bipush 31, 2) := by decide +kernel
theorem dca_6 : decode jdk_52_method_15_code 6 = .ok (.iushr, 1) := by decide +kernel
theorem dca_7 : decode jdk_52_method_15_code 7 = .ok (.i2b, 1) := by decide +kernel
theorem dca_8 : decode jdk_52_method_15_code 8 = .ok (.ireturn, 1) := by decide +kernel
theorem pnca : plainName "java/lang/StringUTF16" = true := by first | (simp [plainName, overriddenIn]; done) | decide +kernel
theorem efca (m : MethodId) (a0 : Addr) (p1 : Int32) : entryFrame m #[(.ref a0), (.int p1)] 2 = mkF m 0 #[.val (.ref a0), .val (.int p1)] [] := by first | (simp [entryFrame, mkF, argsToLocals, Value.category]; done) | rfl
def fca (p1 : Int32) (z : Int32) : Int32 := (nar .byte ((((p1 - z).toUInt32 >>> ((31 : Int32) &&& 31).toUInt32).toInt32).toInt8.toInt32))
def Qca (Z : State) (a0 : Addr) (p1 : Int32) (wc : Int32) (sx : Value) (kb : ClassId) (z : Int32) (vs : List Value) (h0 : Heap) (n0 : Nat) (v : Option Value) (h : Heap) (L : List Loc) : Prop := v = some (.int (fca p1 z)) ∧ Fr n0 L ∧ h = h0
set_option maxRecDepth 65536 in
set_option maxHeartbeats 40000000 in
theorem rmca (l : Launch) (Z : State) (aa : Array Value) (hw : ∀ d ∈ tables_1, d.before aa Z = true) (ws : List Jvm.Cond) (a0 : Addr) (p1 : Int32) (wc : Int32) (sx : Value) (kb : ClassId) (z : Int32) (vs : List Value) (h0 : Heap) (n0 : Nat) (Z0 : n0 ≤ h0.size) (BW : OwnW Z wc sx) (O0 : Old Z n0 h0) (V_a0 : Arv Z h0 a0 kb .byte z vs (.int (0 : Int32))) :
    MetFree l (⟨"java/lang/StringUTF16", "coderFromArrayLen", "([BI)B"⟩ : MethodName) (head1 (Jvm.Cond.code (⟨"java/lang/StringUTF16", "coderFromArrayLen", "([BI)B"⟩ : MethodName) jdk_52_method_15_code 2 (some .byte) :: ws) ({ frames := 0, cells := 0, slots := 0, locals := 0 } : Room)) (fun a U => a = #[(.ref a0), (.int p1)] ∧ Z.Warmed39 U.vm ∧ U.heap = h0) (fun _ _ _ _ _ => True) (fun _ U o U' => ∃ v L, o = .returned v ∧ Qca Z a0 p1 wc sx kb z vs h0 n0 v U'.heap L ∧ FrameEnd U o U' L ({ frames := 0, cells := 0, slots := 0, locals := 0 } : Room).cells ({ frames := 0, cells := 0, slots := 0, locals := 0 } : Room).slots) := by
  refine MetFree.of_bodySF (plainFor_of_name pnca) hisR ?_
  intro p e s m args below meth c s₁ Bd hml0 hP hK
  obtain ⟨rfl, hZ, hh⟩ := hP
  have hx := Bd.exec
  have hby := Bd.bytes
  have hml : c.maxLocals = 2 := hml0
  have hown : s.vm.findClass "java/lang/StringUTF16" = some m.cls := findClass_of_methodNamed Bd.named
  have hnm := (name_of_methodNamed Bd.named Bd.method).1
  have X0 : Stand p l e ({ frames := 0, cells := 0, slots := 0, locals := 0 } : Room) s m #[(.ref a0), (.int p1)] below meth c s₁ [] 0 0 := Stand.of_body Bd
  have e0 : s₁.heap = h0 := by rw [← hh, Bd.state]; rfl
  have N0 := Fr.nil n0
  show OwnEnd p e below s (fun v h L => Qca Z a0 p1 wc sx kb z vs h0 n0 v h L) ({ frames := 0, cells := 0, slots := 0, locals := 0 } : Room).cells ({ frames := 0, cells := 0, slots := 0, locals := 0 } : Room).slots (s₁.setTop (entryFrame m #[(.ref a0), (.int p1)] 2))
  rw [efca m a0 p1]
  generalize hW : OwnEnd p e below s (fun v h L => Qca Z a0 p1 wc sx kb z vs h0 n0 v h L) ({ frames := 0, cells := 0, slots := 0, locals := 0 } : Room).cells ({ frames := 0, cells := 0, slots := 0, locals := 0 } : Room).slots = W
  have stp : ∀ {A B : State}, (∀ t, Steps p.tables e below B t → Steps p.tables e below A t) → W B → W A := by subst hW; exact own_step
  obtain ⟨S_cs, hcs, S_si, hr_sx, S_ad, S_hi, S_lo⟩ := id BW
  show W (s₁.setTop (mkF m 0 #[.val (.ref a0), .val (.int p1)] []))
  refine stp (fun t k => XS.iloadN X0.here hx rfl (hb hby dca_0) rfl k) ?_
  show W (s₁.setTop (mkF m 1 #[.val (.ref a0), .val (.int p1)] [(.int p1)]))
  refine stp (fun t k => XS.aloadN X0.here hx rfl (hb hby dca_1) rfl rfl k) ?_
  show W (s₁.setTop (mkF m 2 #[.val (.ref a0), .val (.int p1)] [(.ref a0), (.int p1)]))
  obtain ⟨clca1, Arca1, qkca1, qsca1, qnca1, qhca1, qgca1⟩ := id V_a0
  refine stp (fun t k => X0.arraylength hx (by rw [e0]; exact Arca1.1) (State.isArrayOf_alike hZ.alike Arca1.2.1) (g := (mkF m 2 #[.val (.ref a0), .val (.int p1)] [(.ref a0), (.int p1)])) rfl rfl (hb hby dca_2) _ k) ?_
  rw [len_of qsca1 qnca1]
  show W (s₁.setTop (mkF m 3 #[.val (.ref a0), .val (.int p1)] [(.int z), (.int p1)]))
  refine stp (fun t k => XS.isub X0.here hx rfl (hb hby dca_3) rfl k) ?_
  show W (s₁.setTop (mkF m 4 #[.val (.ref a0), .val (.int p1)] [(.int (p1 - z))]))
  refine stp (fun t k => XS.bipush X0.here hx rfl (hb hby dca_4) k) ?_
  show W (s₁.setTop (mkF m 6 #[.val (.ref a0), .val (.int p1)] [(.int (31 : Int32)), (.int (p1 - z))]))
  refine stp (fun t k => XS.iushr X0.here hx rfl (hb hby dca_6) rfl k) ?_
  show W (s₁.setTop (mkF m 7 #[.val (.ref a0), .val (.int p1)] [(.int (((p1 - z).toUInt32 >>> ((31 : Int32) &&& 31).toUInt32).toInt32))]))
  refine stp (fun t k => XS.i2b X0.here hx rfl (hb hby dca_7) rfl k) ?_
  show W (s₁.setTop (mkF m 8 #[.val (.ref a0), .val (.int p1)] [(.int ((((p1 - z).toUInt32 >>> ((31 : Int32) &&& 31).toUInt32).toInt32).toInt8.toInt32))]))
  show W (s₁.setTop (mkF m 8 #[.val (.ref a0), .val (.int p1)] [(.int ((((p1 - z).toUInt32 >>> ((31 : Int32) &&& 31).toUInt32).toInt32).toInt8.toInt32))]))
  rw [← hW]
  exact own_retN X0 hx Bd.notSynchronized Bd.returns (w := (nar .byte ((((p1 - z).toUInt32 >>> ((31 : Int32) &&& 31).toUInt32).toInt32).toInt8.toInt32))) (by simp) (hb hby dca_8) rfl (by show Qca Z a0 p1 wc sx kb z vs h0 n0 _ s₁.heap _; rw [e0]; exact ⟨rfl, N0, rfl⟩) (by decide) (by decide)
theorem own_fca0 (z : Int32) : nar .byte (fca z z) = (0 : Int32) := by
  have e : z - z = 0 := by
    apply Int32.toInt_inj.mp
    have h1 := c_isub z z
    have h2 := rng32 (z - z)
    have h3 : (0 : Int32).toInt = 0 := by decide
    omega
  unfold fca
  rw [e]
  decide
theorem own_fca1 {n : Nat} (h1 : 1 ≤ n) (hn : n ≤ 1000000) : nar .byte (fca (Int32.ofNat n) (Int32.ofNat (2 * n))) = (1 : Int32) := by
  have a1 := own_ofNat (n := n) (by omega)
  have a2 := own_ofNat (n := 2 * n) (by omega)
  have b1 := c_isub (Int32.ofNat n) (Int32.ofNat (2 * n))
  have b2 := rng32 (Int32.ofNat n - Int32.ofNat (2 * n))
  have b3 := c_iushr (Int32.ofNat n - Int32.ofNat (2 * n)) 31 31 (by decide) (by decide)
  have e : ((Int32.ofNat n - Int32.ofNat (2 * n)).toUInt32 >>> ((31 : Int32) &&& 31).toUInt32).toInt32 = 1 := by
    apply Int32.toInt_inj.mp
    rw [b3, show (1 : Int32).toInt = 1 from by decide]
    omega
  unfold fca
  rw [e]
  decide
theorem di2_0 : decode jdk_42_method_149_code 0 = .ok (.aload_n 0, 1) := by decide +kernel
theorem di2_1 : decode jdk_42_method_149_code 1 = .ok (.invokespecial 1, 3) := by decide +kernel
theorem di2_4 : decode jdk_42_method_149_code 4 = .ok (.iload_n 3, 1) := by decide +kernel
theorem di2_5 : decode jdk_42_method_149_code 5 = .ok (.ifCond .ne 22, 3) := by decide +kernel
theorem di2_27 : decode jdk_42_method_149_code 27 = .ok (.getstatic 38, 3) := by decide +kernel
theorem di2_30 : decode jdk_42_method_149_code 30 = .ok (.ifCond .eq 28, 3) := by decide +kernel
theorem di2_33 : decode jdk_42_method_149_code 33 = .ok (.aload_n 1, 1) := by decide +kernel
theorem di2_34 : decode jdk_42_method_149_code 34 = .ok (.iload_n 2, 1) := by decide +kernel
theorem di2_35 : decode jdk_42_method_149_code 35 = .ok (.iload_n 3, 1) := by decide +kernel
theorem di2_36 : decode jdk_42_method_149_code 36 = .ok (.invokestatic 177, 3) := by decide +kernel
theorem di2_39 : decode jdk_42_method_149_code 39 = .ok (.astore 5, 2) := by decide +kernel
theorem di2_41 : decode jdk_42_method_149_code 41 = .ok (.aload_n 0, 1) := by decide +kernel
theorem di2_42 : decode jdk_42_method_149_code 42 = .ok (.aload 5, 2) := by decide +kernel
theorem di2_44 : decode jdk_42_method_149_code 44 = .ok (.iload_n 3, 1) := by decide +kernel
theorem di2_45 : decode jdk_42_method_149_code 45 = .ok (.invokestatic 47, 3) := by decide +kernel
theorem di2_48 : decode jdk_42_method_149_code 48 = .ok (.putfield 15, 3) := by decide +kernel
theorem di2_51 : decode jdk_42_method_149_code 51 = .ok (.aload_n 0, 1) := by decide +kernel
theorem di2_52 : decode jdk_42_method_149_code 52 = .ok (.aload 5, 2) := by decide +kernel
theorem di2_54 : decode jdk_42_method_149_code 54 = .ok (.putfield 9, 3) := by decide +kernel
theorem di2_57 : decode jdk_42_method_149_code 57 = .ok (.return_, 1) := by decide +kernel
theorem pni2 : plainName "java/lang/String" = true := by first | (simp [plainName, overriddenIn]; done) | decide +kernel
theorem pdi2_0 : parseMethodDescriptor "([CII)[B" = some ⟨[(.array .char), .int, .int], some (.array .byte)⟩ := by decide +kernel
theorem pdi2_1 : parseMethodDescriptor "([BI)B" = some ⟨[(.array .byte), .int], some .byte⟩ := by decide +kernel
theorem efi2 (m : MethodId) (a0 : Addr) (a1 : Addr) (p2 : Int32) (p3 : Int32) : entryFrame m #[(.ref a0), (.ref a1), (.int p2), (.int p3), .null] 6 = mkF m 0 #[.val (.ref a0), .val (.ref a1), .val (.int p2), .val (.int p3), .val .null, .unset] [] := by first | (simp [entryFrame, mkF, argsToLocals, Value.category]; done) | rfl
def Qi2 (Z : State) (a0 : Addr) (a1 : Addr) (p2 : Int32) (p3 : Int32) (wc : Int32) (sx : Value) (n : Nat) (g : Nat → Int32) (ka : ClassId) (h0 : Heap) (n0 : Nat) (v : Option Value) (h : Heap) (L : List Loc) : Prop := v = none ∧ Fr n0 L ∧ Keep h0 h [a0] ∧ ∃ b : Addr, h0.size ≤ b ∧ OwnStr Z h a0 b n g
set_option maxRecDepth 65536 in
set_option maxHeartbeats 40000000 in
theorem rmi2 (l : Launch) (Z : State) (aa : Array Value) (hw : ∀ d ∈ tables_1, d.before aa Z = true) (ws : List Jvm.Cond) (a0 : Addr) (a1 : Addr) (p2 : Int32) (p3 : Int32) (wc : Int32) (sx : Value) (n : Nat) (g : Nat → Int32) (ka : ClassId) (h0 : Heap) (n0 : Nat) (Z0 : n0 ≤ h0.size) (BW : OwnW Z wc sx) (O0 : Old Z n0 h0) (hn : n ≤ 2) (hch : ∀ j, j < n → 0 ≤ (g j).toInt ∧ (g j).toInt < 65536) (E_a0 : Exa Z h0 a0 "java/lang/String") (F_value_a0 : Fld Z h0 a0 "java/lang/String" "value" "[B" .null) (F_coder_a0 : Fld Z h0 a0 "java/lang/String" "coder" "B" (.int (0 : Int32))) (g_a0 : n0 ≤ a0) (V_a1 : Arv Z h0 a1 ka .char (Int32.ofNat n) (own_vs n g) (.int (0 : Int32))) (ne_a0_a1 : a0 ≠ a1) (h1 : 1 ≤ n) (hp2 : p2 = (0 : Int32)) (hp3 : p3 = (Int32.ofNat n)) :
    MetFree l (⟨"java/lang/String", "<init>", "([CIILjava/lang/Void;)V"⟩ : MethodName) (head1 (Jvm.Cond.code (⟨"java/lang/String", "<init>", "([CIILjava/lang/Void;)V"⟩ : MethodName) jdk_42_method_149_code 6 none :: ws) ({ frames := 4, cells := 2, slots := 6, locals := 57 } : Room)) (fun a U => a = #[(.ref a0), (.ref a1), (.int p2), (.int p3), .null] ∧ Z.Warmed39 U.vm ∧ U.heap = h0) (fun _ _ _ _ _ => True) (fun _ U o U' => ∃ v L, o = .returned v ∧ Qi2 Z a0 a1 p2 p3 wc sx n g ka h0 n0 v U'.heap L ∧ FrameEnd U o U' L ({ frames := 4, cells := 2, slots := 6, locals := 57 } : Room).cells ({ frames := 4, cells := 2, slots := 6, locals := 57 } : Room).slots) := by
  refine MetFree.of_bodySF (plainFor_of_name pni2) hisR ?_
  intro p e s m args below meth c s₁ Bd hml0 hP hK
  obtain ⟨rfl, hZ, hh⟩ := hP
  have hx := Bd.exec
  have hby := Bd.bytes
  have hml : c.maxLocals = 6 := hml0
  have hown : s.vm.findClass "java/lang/String" = some m.cls := findClass_of_methodNamed Bd.named
  have hnm := (name_of_methodNamed Bd.named Bd.method).1
  have X0 : Stand p l e ({ frames := 4, cells := 2, slots := 6, locals := 57 } : Room) s m #[(.ref a0), (.ref a1), (.int p2), (.int p3), .null] below meth c s₁ [] 0 0 := Stand.of_body Bd
  have e0 : s₁.heap = h0 := by rw [← hh, Bd.state]; rfl
  have N0 := Fr.nil n0
  show OwnEnd p e below s (fun v h L => Qi2 Z a0 a1 p2 p3 wc sx n g ka h0 n0 v h L) ({ frames := 4, cells := 2, slots := 6, locals := 57 } : Room).cells ({ frames := 4, cells := 2, slots := 6, locals := 57 } : Room).slots (s₁.setTop (entryFrame m #[(.ref a0), (.ref a1), (.int p2), (.int p3), .null] 6))
  rw [efi2 m a0 a1 p2 p3]
  generalize hW : OwnEnd p e below s (fun v h L => Qi2 Z a0 a1 p2 p3 wc sx n g ka h0 n0 v h L) ({ frames := 4, cells := 2, slots := 6, locals := 57 } : Room).cells ({ frames := 4, cells := 2, slots := 6, locals := 57 } : Room).slots = W
  have stp : ∀ {A B : State}, (∀ t, Steps p.tables e below B t → Steps p.tables e below A t) → W B → W A := by subst hW; exact own_step
  obtain ⟨S_cs, hcs, S_si, hr_sx, S_ad, S_hi, S_lo⟩ := id BW
  have hz := own_ofNat (n := n) (by omega)
  subst hp2 hp3
  have E0lt := E_a0.lt
  have V1lt := V_a1.lt
  show W (s₁.setTop (mkF m 0 #[.val (.ref a0), .val (.ref a1), .val (.int (0 : Int32)), .val (.int (Int32.ofNat n)), .val .null, .unset] []))
  refine stp (fun t k => XS.aloadN X0.here hx rfl (hb hby di2_0) rfl rfl k) ?_
  show W (s₁.setTop (mkF m 1 #[.val (.ref a0), .val (.ref a1), .val (.int (0 : Int32)), .val (.int (Int32.ofNat n)), .val .null, .unset] [(.ref a0)]))
  obtain ⟨T1, X1, e1, st1⟩ := initO X0 hx hZ hown (hw _ (List.mem_of_getElem? (i := 15) rfl)) (hw _ (List.mem_of_getElem? (i := 16) rfl)) (hw _ (List.mem_of_getElem? (i := 17) rfl)) e0 (g := (mkF m 1 #[.val (.ref a0), .val (.ref a1), .val (.int (0 : Int32)), .val (.int (Int32.ofNat n)), .val .null, .unset] [(.ref a0)])) rfl (by rw [hml]; rfl) rfl (hb hby di2_1) (by decide) (W := 0) (by show 2 * 0 + _ ≤ _; exact Nat.le_of_eq rfl) (by decide)
  refine stp (fun t k => st1 t k) ?_
  show W (T1.setTop (mkF m 4 #[.val (.ref a0), .val (.ref a1), .val (.int (0 : Int32)), .val (.int (Int32.ofNat n)), .val .null, .unset] []))
  refine stp (fun t k => XS.iloadN X1.here hx rfl (hb hby di2_4) rfl k) ?_
  show W (T1.setTop (mkF m 5 #[.val (.ref a0), .val (.ref a1), .val (.int (0 : Int32)), .val (.int (Int32.ofNat n)), .val .null, .unset] [(.int (Int32.ofNat n))]))
  refine stp (fun t k => XS.ifYes X1.here hx rfl (pc0 := 5) (pc' := 27) rfl (hb hby di2_5) rfl ((if0 _ _).trans (feq (fun q => by rw [q, show (0 : Int32).toInt = 0 from by decide] at hz; omega)).2) (by decide) (by decide) k) ?_
  show W (T1.setTop (mkF m 27 #[.val (.ref a0), .val (.ref a1), .val (.int (0 : Int32)), .val (.int (Int32.ofNat n)), .val .null, .unset] []))
  obtain ⟨Ti22, Xi22, ei22, sti22⟩ := getS2 X1 hx hZ hown (host := "") (Or.inl (hw _ (List.mem_of_getElem? (i := 43) rfl))) Via.refl e1 (S_cs.ext O0.2) (g := (mkF m 27 #[.val (.ref a0), .val (.ref a1), .val (.int (0 : Int32)), .val (.int (Int32.ofNat n)), .val .null, .unset] [])) rfl (hb hby di2_27)
  refine stp (fun t k => sti22 t k) ?_
  show W (Ti22.setTop (mkF m 30 #[.val (.ref a0), .val (.ref a1), .val (.int (0 : Int32)), .val (.int (Int32.ofNat n)), .val .null, .unset] [(.int wc)]))
  refine stp (fun t k => XS.ifNo Xi22.here hx rfl (hb hby di2_30) rfl ((if0 _ _).trans (feq (hcs)).1) k) ?_
  show W (Ti22.setTop (mkF m 33 #[.val (.ref a0), .val (.ref a1), .val (.int (0 : Int32)), .val (.int (Int32.ofNat n)), .val .null, .unset] []))
  refine stp (fun t k => XS.aloadN Xi22.here hx rfl (hb hby di2_33) rfl rfl k) ?_
  show W (Ti22.setTop (mkF m 34 #[.val (.ref a0), .val (.ref a1), .val (.int (0 : Int32)), .val (.int (Int32.ofNat n)), .val .null, .unset] [(.ref a1)]))
  refine stp (fun t k => XS.iloadN Xi22.here hx rfl (hb hby di2_34) rfl k) ?_
  show W (Ti22.setTop (mkF m 35 #[.val (.ref a0), .val (.ref a1), .val (.int (0 : Int32)), .val (.int (Int32.ofNat n)), .val .null, .unset] [(.int (0 : Int32)), (.ref a1)]))
  refine stp (fun t k => XS.iloadN Xi22.here hx rfl (hb hby di2_35) rfl k) ?_
  show W (Ti22.setTop (mkF m 36 #[.val (.ref a0), .val (.ref a1), .val (.int (0 : Int32)), .val (.int (Int32.ofNat n)), .val .null, .unset] [(.int (Int32.ofNat n)), (.int (0 : Int32)), (.ref a1)]))
  obtain ⟨_, _, ⟨Ti2c3, Li2c3, ki2c3, ni2c3⟩, -, Xi2c3, ⟨Lci2c3, hQi2c3, li2c3, yi2c3, zi2c3⟩, sti2c3⟩ := Jvm.LawKit.callS Xi22 hx (y := (⟨"java/lang/StringUTF16", "compress", "([CII)[B"⟩ : MethodName)) hown (mvT hZ (hw _ (List.mem_of_getElem? (i := 62) rfl))) (mvT hZ (hw _ (List.mem_of_getElem? (i := 63) rfl))) (mvT hZ (hw _ (List.mem_of_getElem? (i := 64) rfl))) (mvT hZ (hw _ (List.mem_of_getElem? (i := 65) rfl))) (by decide) (backOf (W := 0) (rmk2 l Z aa hw [] a1 (0 : Int32) (Int32.ofNat n) wc sx n g ka h0 n0 Z0 BW O0 hn hch V_a1 rfl rfl) hZ (hw _ (List.mem_of_getElem? (i := 65) rfl)) (hw _ (List.mem_of_getElem? (i := 64) rfl)) (by decide) (by decide)) (g := (mkF m 36 #[.val (.ref a0), .val (.ref a1), .val (.int (0 : Int32)), .val (.int (Int32.ofNat n)), .val .null, .unset] [(.int (Int32.ofNat n)), (.int (0 : Int32)), (.ref a1)])) rfl (by rw [hml]; rfl) (argsL := [(.ref a1), (.int (0 : Int32)), (.int (Int32.ofNat n))]) (rest := []) (lenOf pdi2_0 rfl) rfl (by show 2 * 0 + _ ≤ _; exact Nat.le_of_eq rfl) (hb hby di2_36) (fun _ _ => ⟨rfl, ei22, (by decide : 0 + 2 ≤ _), (by decide : 0 + 6 ≤ _)⟩)
  dsimp only [Pt.U, Pt.locs, Pt.cells, Pt.slots] at Xi2c3 li2c3 yi2c3 zi2c3 sti2c3 hQi2c3
  subst li2c3 yi2c3 zi2c3
  obtain ⟨bi2c3, kbi2c3, rfl, Ni2c3q, Kqi2c3, sz_bi2c3, Ci2c3⟩ := hQi2c3
  have Ni2c3 := Fr.app N0 Ni2c3q
  obtain ⟨lci2t4, Xi2c3, Ni2c3⟩ : ∃ lc, Stand p l e ({ frames := 4, cells := 2, slots := 6, locals := 57 } : Room) s m #[(.ref a0), (.ref a1), (.int (0 : Int32)), (.int (Int32.ofNat n)), .null] below meth c Ti2c3 lc 2 6 ∧ Fr n0 lc := ⟨_, Xi2c3, Ni2c3⟩
  obtain ⟨hi2c3, ei2c3⟩ : ∃ h, Ti2c3.heap = h := ⟨_, rfl⟩
  rw [ei2c3] at Kqi2c3 Ci2c3
  have ne_a0_bi2c3 : a0 ≠ bi2c3 := Nat.ne_of_lt (Nat.lt_of_lt_of_le E_a0.lt sz_bi2c3)
  have ne_a1_bi2c3 : a1 ≠ bi2c3 := Nat.ne_of_lt (Nat.lt_of_lt_of_le V_a1.lt sz_bi2c3)
  have g_bi2c3 : n0 ≤ bi2c3 := Nat.le_trans Z0 sz_bi2c3
  have sz_bi2c3 : h0.size ≤ bi2c3 := Nat.le_trans (Keep.refl h0 [a0]).1 sz_bi2c3
  replace E_a0 := E_a0.keep Kqi2c3
  replace F_value_a0 := F_value_a0.keep Kqi2c3 nin0
  replace F_coder_a0 := F_coder_a0.keep Kqi2c3 nin0
  replace V_a1 := V_a1.keep Kqi2c3 nin0
  have KKi2c3 := Keep.trans (Keep.refl h0 [a0]) Kqi2c3 all0
  have Zi2c3 := Nat.le_trans Z0 Kqi2c3.1
  have Oi2c3 := O0.keep Kqi2c3 all0
  refine stp (fun t k => sti2c3 t k) ?_
  show W (Ti2c3.setTop (mkF m 39 #[.val (.ref a0), .val (.ref a1), .val (.int (0 : Int32)), .val (.int (Int32.ofNat n)), .val .null, .unset] [(.ref bi2c3)]))
  refine stp (fun t k => XS.astore Xi2c3.here hx rfl (hb hby di2_39) rfl rfl (l' := #[.val (.ref a0), .val (.ref a1), .val (.int (0 : Int32)), .val (.int (Int32.ofNat n)), .val .null, .val (.ref bi2c3)]) rfl k) ?_
  rcases Ci2c3 with Ci2c3 | Ci2c3
  · obtain ⟨hki2c3, V_bi2c3⟩ := Ci2c3
    have ne_a0_bi2c3 : a0 ≠ bi2c3 := Nat.ne_of_lt (Nat.lt_of_lt_of_le E0lt sz_bi2c3)
    have ne_a1_bi2c3 : a1 ≠ bi2c3 := Nat.ne_of_lt (Nat.lt_of_lt_of_le V1lt sz_bi2c3)
    show W (Ti2c3.setTop (mkF m 41 #[.val (.ref a0), .val (.ref a1), .val (.int (0 : Int32)), .val (.int (Int32.ofNat n)), .val .null, .val (.ref bi2c3)] []))
    refine stp (fun t k => XS.aloadN Xi2c3.here hx rfl (hb hby di2_41) rfl rfl k) ?_
    show W (Ti2c3.setTop (mkF m 42 #[.val (.ref a0), .val (.ref a1), .val (.int (0 : Int32)), .val (.int (Int32.ofNat n)), .val .null, .val (.ref bi2c3)] [(.ref a0)]))
    refine stp (fun t k => XS.aload Xi2c3.here hx rfl (hb hby di2_42) rfl rfl k) ?_
    show W (Ti2c3.setTop (mkF m 44 #[.val (.ref a0), .val (.ref a1), .val (.int (0 : Int32)), .val (.int (Int32.ofNat n)), .val .null, .val (.ref bi2c3)] [(.ref bi2c3), (.ref a0)]))
    refine stp (fun t k => XS.iloadN Xi2c3.here hx rfl (hb hby di2_44) rfl k) ?_
    show W (Ti2c3.setTop (mkF m 45 #[.val (.ref a0), .val (.ref a1), .val (.int (0 : Int32)), .val (.int (Int32.ofNat n)), .val .null, .val (.ref bi2c3)] [(.int (Int32.ofNat n)), (.ref bi2c3), (.ref a0)]))
    obtain ⟨_, _, ⟨Ti2c5, Li2c5, ki2c5, ni2c5⟩, -, Xi2c5, ⟨Lci2c5, hQi2c5, li2c5, yi2c5, zi2c5⟩, sti2c5⟩ := Jvm.LawKit.callS Xi2c3 hx (y := (⟨"java/lang/StringUTF16", "coderFromArrayLen", "([BI)B"⟩ : MethodName)) hown (mvT hZ (hw _ (List.mem_of_getElem? (i := 88) rfl))) (mvT hZ (hw _ (List.mem_of_getElem? (i := 89) rfl))) (mvT hZ (hw _ (List.mem_of_getElem? (i := 64) rfl))) (mvT hZ (hw _ (List.mem_of_getElem? (i := 90) rfl))) (by decide) (backOf (W := 1) (rmca l Z aa hw [] bi2c3 (Int32.ofNat n) wc sx kbi2c3 (Int32.ofNat n) (own_vs n fun j => own_b (g j)) hi2c3 n0 Zi2c3 BW Oi2c3 V_bi2c3) hZ (hw _ (List.mem_of_getElem? (i := 90) rfl)) (hw _ (List.mem_of_getElem? (i := 64) rfl)) (by decide) (by decide)) (g := (mkF m 45 #[.val (.ref a0), .val (.ref a1), .val (.int (0 : Int32)), .val (.int (Int32.ofNat n)), .val .null, .val (.ref bi2c3)] [(.int (Int32.ofNat n)), (.ref bi2c3), (.ref a0)])) rfl (by rw [hml]; rfl) (argsL := [(.ref bi2c3), (.int (Int32.ofNat n))]) (rest := [(.ref a0)]) (lenOf pdi2_1 rfl) rfl (by show 2 * 0 + _ ≤ _; exact Nat.le_of_eq rfl) (hb hby di2_45) (fun _ _ => ⟨rfl, ei2c3, (by decide : 2 + 0 ≤ _), (by decide : 6 + 0 ≤ _)⟩)
    dsimp only [Pt.U, Pt.locs, Pt.cells, Pt.slots] at Xi2c5 li2c5 yi2c5 zi2c5 sti2c5 hQi2c5
    subst li2c5 yi2c5 zi2c5
    obtain ⟨rfl, Ni2c5q, ei2c5⟩ := hQi2c5
    have Ni2c5 := Fr.app Ni2c3 Ni2c5q
    obtain ⟨lci2t6, Xi2c5, Ni2c5⟩ : ∃ lc, Stand p l e ({ frames := 4, cells := 2, slots := 6, locals := 57 } : Room) s m #[(.ref a0), (.ref a1), (.int (0 : Int32)), (.int (Int32.ofNat n)), .null] below meth c Ti2c5 lc 2 6 ∧ Fr n0 lc := ⟨_, Xi2c5, Ni2c5⟩
    refine stp (fun t k => sti2c5 t k) ?_
    show W (Ti2c5.setTop (mkF m 48 #[.val (.ref a0), .val (.ref a1), .val (.int (0 : Int32)), .val (.int (Int32.ofNat n)), .val .null, .val (.ref bi2c3)] [(.int (fca (Int32.ofNat n) (Int32.ofNat n))), (.ref a0)]))
    obtain ⟨Ti27, hi27, Xi27, ei27, Wi27, sti27⟩ := putFN Xi2c5 hx hZ hown (hw _ (List.mem_of_getElem? (i := 25) rfl)) Via.refl ei2c5 F_coder_a0 E_a0 (Or.inr ⟨(hw _ (List.mem_of_getElem? (i := 21) rfl)), rfl, hnm⟩) (hw _ (List.mem_of_getElem? (i := 5) rfl)) (ty := .byte) (v' := (.int (nar .byte (fca (Int32.ofNat n) (Int32.ofNat n))))) (by decide) rfl (fits_nar_byte _) (g := (mkF m 48 #[.val (.ref a0), .val (.ref a1), .val (.int (0 : Int32)), .val (.int (Int32.ofNat n)), .val .null, .val (.ref bi2c3)] [(.int (fca (Int32.ofNat n) (Int32.ofNat n))), (.ref a0)])) rfl rfl (hb hby di2_48)
    have Ni27 := Fr.snoc Xi27 Ni2c5 g_a0
    have F_coder_a0x := F_coder_a0.same Wi27
    obtain ⟨lci2t8, Xi27, Ni27⟩ : ∃ lc, Stand p l e ({ frames := 4, cells := 2, slots := 6, locals := 57 } : Room) s m #[(.ref a0), (.ref a1), (.int (0 : Int32)), (.int (Int32.ofNat n)), .null] below meth c Ti27 lc 2 6 ∧ Fr n0 lc := ⟨_, Xi27, Ni27⟩
    replace E_a0 := E_a0.wr Wi27
    replace F_value_a0 := F_value_a0.other Wi27 (Or.inr (slot_ne (Or.inr (hw _ (List.mem_of_getElem? (i := 20) rfl))) (Or.inr (hw _ (List.mem_of_getElem? (i := 21) rfl))) (by decide) (t := (.array .byte)) (t' := .byte) (by decide) (by decide)))
    replace V_a1 := V_a1.other Wi27 (Ne.symm ne_a0_a1)
    replace V_bi2c3 := V_bi2c3.other Wi27 (Ne.symm ne_a0_bi2c3)
    have Ki27 := KKi2c3.wr Wi27 (Or.inl (List.mem_of_getElem? (i := 0) rfl))
    have Zi27 := Nat.le_trans Zi2c3 (Keep.of_wr Wi27).1
    have Oi27 := Oi2c3.wr Wi27 g_a0
    replace F_coder_a0 := F_coder_a0x
    clear F_coder_a0x
    refine stp (fun t k => sti27 t k) ?_
    show W (Ti27.setTop (mkF m 51 #[.val (.ref a0), .val (.ref a1), .val (.int (0 : Int32)), .val (.int (Int32.ofNat n)), .val .null, .val (.ref bi2c3)] []))
    refine stp (fun t k => XS.aloadN Xi27.here hx rfl (hb hby di2_51) rfl rfl k) ?_
    show W (Ti27.setTop (mkF m 52 #[.val (.ref a0), .val (.ref a1), .val (.int (0 : Int32)), .val (.int (Int32.ofNat n)), .val .null, .val (.ref bi2c3)] [(.ref a0)]))
    refine stp (fun t k => XS.aload Xi27.here hx rfl (hb hby di2_52) rfl rfl k) ?_
    show W (Ti27.setTop (mkF m 54 #[.val (.ref a0), .val (.ref a1), .val (.int (0 : Int32)), .val (.int (Int32.ofNat n)), .val .null, .val (.ref bi2c3)] [(.ref bi2c3), (.ref a0)]))
    obtain ⟨Ti29, hi29, Xi29, ei29, Wi29, sti29⟩ := putF Xi27 hx hZ hown (host := "") (Or.inl (hw _ (List.mem_of_getElem? (i := 24) rfl))) Via.refl ei27 F_value_a0 E_a0 (Or.inr ⟨(hw _ (List.mem_of_getElem? (i := 20) rfl)), rfl, hnm⟩) (hw _ (List.mem_of_getElem? (i := 5) rfl)) (ty := (.array .byte)) (by decide) rfl rfl (g := (mkF m 54 #[.val (.ref a0), .val (.ref a1), .val (.int (0 : Int32)), .val (.int (Int32.ofNat n)), .val .null, .val (.ref bi2c3)] [(.ref bi2c3), (.ref a0)])) rfl rfl (hb hby di2_54)
    have Ni29 := Fr.snoc Xi29 Ni27 g_a0
    have F_value_a0x := F_value_a0.same Wi29
    obtain ⟨lci2t10, Xi29, Ni29⟩ : ∃ lc, Stand p l e ({ frames := 4, cells := 2, slots := 6, locals := 57 } : Room) s m #[(.ref a0), (.ref a1), (.int (0 : Int32)), (.int (Int32.ofNat n)), .null] below meth c Ti29 lc 2 6 ∧ Fr n0 lc := ⟨_, Xi29, Ni29⟩
    replace E_a0 := E_a0.wr Wi29
    replace F_coder_a0 := F_coder_a0.other Wi29 (Or.inr (slot_ne (Or.inr (hw _ (List.mem_of_getElem? (i := 21) rfl))) (Or.inr (hw _ (List.mem_of_getElem? (i := 20) rfl))) (by decide) (t := .byte) (t' := (.array .byte)) (by decide) (by decide)))
    replace V_a1 := V_a1.other Wi29 (Ne.symm ne_a0_a1)
    replace V_bi2c3 := V_bi2c3.other Wi29 (Ne.symm ne_a0_bi2c3)
    have Ki29 := Ki27.wr Wi29 (Or.inl (List.mem_of_getElem? (i := 0) rfl))
    have Zi29 := Nat.le_trans Zi27 (Keep.of_wr Wi29).1
    have Oi29 := Oi27.wr Wi29 g_a0
    replace F_value_a0 := F_value_a0x
    clear F_value_a0x
    refine stp (fun t k => sti29 t k) ?_
    show W (Ti29.setTop (mkF m 57 #[.val (.ref a0), .val (.ref a1), .val (.int (0 : Int32)), .val (.int (Int32.ofNat n)), .val .null, .val (.ref bi2c3)] []))
    show W (Ti29.setTop (mkF m 57 #[.val (.ref a0), .val (.ref a1), .val (.int (0 : Int32)), .val (.int (Int32.ofNat n)), .val .null, .val (.ref bi2c3)] []))
    rw [← hW]
    exact own_ret0 Xi29 hx Bd.notSynchronized Bd.returns (hb hby di2_57) (by show Qi2 Z a0 a1 (0 : Int32) (Int32.ofNat n) wc sx n g ka h0 n0 _ Ti29.heap _; rw [ei29]; exact ⟨rfl, Ni29, Ki29, bi2c3, sz_bi2c3, E_a0, F_value_a0, Or.inl ⟨own_fldEq (own_fca0 (Int32.ofNat n)) F_coder_a0, hki2c3, _, V_bi2c3⟩⟩) (by decide) (by decide)
  · obtain ⟨hki2c3, V_bi2c3⟩ := Ci2c3
    have ne_a0_bi2c3 : a0 ≠ bi2c3 := Nat.ne_of_lt (Nat.lt_of_lt_of_le E0lt sz_bi2c3)
    have ne_a1_bi2c3 : a1 ≠ bi2c3 := Nat.ne_of_lt (Nat.lt_of_lt_of_le V1lt sz_bi2c3)
    show W (Ti2c3.setTop (mkF m 41 #[.val (.ref a0), .val (.ref a1), .val (.int (0 : Int32)), .val (.int (Int32.ofNat n)), .val .null, .val (.ref bi2c3)] []))
    refine stp (fun t k => XS.aloadN Xi2c3.here hx rfl (hb hby di2_41) rfl rfl k) ?_
    show W (Ti2c3.setTop (mkF m 42 #[.val (.ref a0), .val (.ref a1), .val (.int (0 : Int32)), .val (.int (Int32.ofNat n)), .val .null, .val (.ref bi2c3)] [(.ref a0)]))
    refine stp (fun t k => XS.aload Xi2c3.here hx rfl (hb hby di2_42) rfl rfl k) ?_
    show W (Ti2c3.setTop (mkF m 44 #[.val (.ref a0), .val (.ref a1), .val (.int (0 : Int32)), .val (.int (Int32.ofNat n)), .val .null, .val (.ref bi2c3)] [(.ref bi2c3), (.ref a0)]))
    refine stp (fun t k => XS.iloadN Xi2c3.here hx rfl (hb hby di2_44) rfl k) ?_
    show W (Ti2c3.setTop (mkF m 45 #[.val (.ref a0), .val (.ref a1), .val (.int (0 : Int32)), .val (.int (Int32.ofNat n)), .val .null, .val (.ref bi2c3)] [(.int (Int32.ofNat n)), (.ref bi2c3), (.ref a0)]))
    obtain ⟨_, _, ⟨Ti2c11, Li2c11, ki2c11, ni2c11⟩, -, Xi2c11, ⟨Lci2c11, hQi2c11, li2c11, yi2c11, zi2c11⟩, sti2c11⟩ := Jvm.LawKit.callS Xi2c3 hx (y := (⟨"java/lang/StringUTF16", "coderFromArrayLen", "([BI)B"⟩ : MethodName)) hown (mvT hZ (hw _ (List.mem_of_getElem? (i := 88) rfl))) (mvT hZ (hw _ (List.mem_of_getElem? (i := 89) rfl))) (mvT hZ (hw _ (List.mem_of_getElem? (i := 64) rfl))) (mvT hZ (hw _ (List.mem_of_getElem? (i := 90) rfl))) (by decide) (backOf (W := 1) (rmca l Z aa hw [] bi2c3 (Int32.ofNat n) wc sx kbi2c3 (Int32.ofNat (2 * n)) (own_vs (2 * n) (own_u g)) hi2c3 n0 Zi2c3 BW Oi2c3 V_bi2c3) hZ (hw _ (List.mem_of_getElem? (i := 90) rfl)) (hw _ (List.mem_of_getElem? (i := 64) rfl)) (by decide) (by decide)) (g := (mkF m 45 #[.val (.ref a0), .val (.ref a1), .val (.int (0 : Int32)), .val (.int (Int32.ofNat n)), .val .null, .val (.ref bi2c3)] [(.int (Int32.ofNat n)), (.ref bi2c3), (.ref a0)])) rfl (by rw [hml]; rfl) (argsL := [(.ref bi2c3), (.int (Int32.ofNat n))]) (rest := [(.ref a0)]) (lenOf pdi2_1 rfl) rfl (by show 2 * 0 + _ ≤ _; exact Nat.le_of_eq rfl) (hb hby di2_45) (fun _ _ => ⟨rfl, ei2c3, (by decide : 2 + 0 ≤ _), (by decide : 6 + 0 ≤ _)⟩)
    dsimp only [Pt.U, Pt.locs, Pt.cells, Pt.slots] at Xi2c11 li2c11 yi2c11 zi2c11 sti2c11 hQi2c11
    subst li2c11 yi2c11 zi2c11
    obtain ⟨rfl, Ni2c11q, ei2c11⟩ := hQi2c11
    have Ni2c11 := Fr.app Ni2c3 Ni2c11q
    obtain ⟨lci2t12, Xi2c11, Ni2c11⟩ : ∃ lc, Stand p l e ({ frames := 4, cells := 2, slots := 6, locals := 57 } : Room) s m #[(.ref a0), (.ref a1), (.int (0 : Int32)), (.int (Int32.ofNat n)), .null] below meth c Ti2c11 lc 2 6 ∧ Fr n0 lc := ⟨_, Xi2c11, Ni2c11⟩
    refine stp (fun t k => sti2c11 t k) ?_
    show W (Ti2c11.setTop (mkF m 48 #[.val (.ref a0), .val (.ref a1), .val (.int (0 : Int32)), .val (.int (Int32.ofNat n)), .val .null, .val (.ref bi2c3)] [(.int (fca (Int32.ofNat n) (Int32.ofNat (2 * n)))), (.ref a0)]))
    obtain ⟨Ti213, hi213, Xi213, ei213, Wi213, sti213⟩ := putFN Xi2c11 hx hZ hown (hw _ (List.mem_of_getElem? (i := 25) rfl)) Via.refl ei2c11 F_coder_a0 E_a0 (Or.inr ⟨(hw _ (List.mem_of_getElem? (i := 21) rfl)), rfl, hnm⟩) (hw _ (List.mem_of_getElem? (i := 5) rfl)) (ty := .byte) (v' := (.int (nar .byte (fca (Int32.ofNat n) (Int32.ofNat (2 * n)))))) (by decide) rfl (fits_nar_byte _) (g := (mkF m 48 #[.val (.ref a0), .val (.ref a1), .val (.int (0 : Int32)), .val (.int (Int32.ofNat n)), .val .null, .val (.ref bi2c3)] [(.int (fca (Int32.ofNat n) (Int32.ofNat (2 * n)))), (.ref a0)])) rfl rfl (hb hby di2_48)
    have Ni213 := Fr.snoc Xi213 Ni2c11 g_a0
    have F_coder_a0x := F_coder_a0.same Wi213
    obtain ⟨lci2t14, Xi213, Ni213⟩ : ∃ lc, Stand p l e ({ frames := 4, cells := 2, slots := 6, locals := 57 } : Room) s m #[(.ref a0), (.ref a1), (.int (0 : Int32)), (.int (Int32.ofNat n)), .null] below meth c Ti213 lc 2 6 ∧ Fr n0 lc := ⟨_, Xi213, Ni213⟩
    replace E_a0 := E_a0.wr Wi213
    replace F_value_a0 := F_value_a0.other Wi213 (Or.inr (slot_ne (Or.inr (hw _ (List.mem_of_getElem? (i := 20) rfl))) (Or.inr (hw _ (List.mem_of_getElem? (i := 21) rfl))) (by decide) (t := (.array .byte)) (t' := .byte) (by decide) (by decide)))
    replace V_a1 := V_a1.other Wi213 (Ne.symm ne_a0_a1)
    replace V_bi2c3 := V_bi2c3.other Wi213 (Ne.symm ne_a0_bi2c3)
    have Ki213 := KKi2c3.wr Wi213 (Or.inl (List.mem_of_getElem? (i := 0) rfl))
    have Zi213 := Nat.le_trans Zi2c3 (Keep.of_wr Wi213).1
    have Oi213 := Oi2c3.wr Wi213 g_a0
    replace F_coder_a0 := F_coder_a0x
    clear F_coder_a0x
    refine stp (fun t k => sti213 t k) ?_
    show W (Ti213.setTop (mkF m 51 #[.val (.ref a0), .val (.ref a1), .val (.int (0 : Int32)), .val (.int (Int32.ofNat n)), .val .null, .val (.ref bi2c3)] []))
    refine stp (fun t k => XS.aloadN Xi213.here hx rfl (hb hby di2_51) rfl rfl k) ?_
    show W (Ti213.setTop (mkF m 52 #[.val (.ref a0), .val (.ref a1), .val (.int (0 : Int32)), .val (.int (Int32.ofNat n)), .val .null, .val (.ref bi2c3)] [(.ref a0)]))
    refine stp (fun t k => XS.aload Xi213.here hx rfl (hb hby di2_52) rfl rfl k) ?_
    show W (Ti213.setTop (mkF m 54 #[.val (.ref a0), .val (.ref a1), .val (.int (0 : Int32)), .val (.int (Int32.ofNat n)), .val .null, .val (.ref bi2c3)] [(.ref bi2c3), (.ref a0)]))
    obtain ⟨Ti215, hi215, Xi215, ei215, Wi215, sti215⟩ := putF Xi213 hx hZ hown (host := "") (Or.inl (hw _ (List.mem_of_getElem? (i := 24) rfl))) Via.refl ei213 F_value_a0 E_a0 (Or.inr ⟨(hw _ (List.mem_of_getElem? (i := 20) rfl)), rfl, hnm⟩) (hw _ (List.mem_of_getElem? (i := 5) rfl)) (ty := (.array .byte)) (by decide) rfl rfl (g := (mkF m 54 #[.val (.ref a0), .val (.ref a1), .val (.int (0 : Int32)), .val (.int (Int32.ofNat n)), .val .null, .val (.ref bi2c3)] [(.ref bi2c3), (.ref a0)])) rfl rfl (hb hby di2_54)
    have Ni215 := Fr.snoc Xi215 Ni213 g_a0
    have F_value_a0x := F_value_a0.same Wi215
    obtain ⟨lci2t16, Xi215, Ni215⟩ : ∃ lc, Stand p l e ({ frames := 4, cells := 2, slots := 6, locals := 57 } : Room) s m #[(.ref a0), (.ref a1), (.int (0 : Int32)), (.int (Int32.ofNat n)), .null] below meth c Ti215 lc 2 6 ∧ Fr n0 lc := ⟨_, Xi215, Ni215⟩
    replace E_a0 := E_a0.wr Wi215
    replace F_coder_a0 := F_coder_a0.other Wi215 (Or.inr (slot_ne (Or.inr (hw _ (List.mem_of_getElem? (i := 21) rfl))) (Or.inr (hw _ (List.mem_of_getElem? (i := 20) rfl))) (by decide) (t := .byte) (t' := (.array .byte)) (by decide) (by decide)))
    replace V_a1 := V_a1.other Wi215 (Ne.symm ne_a0_a1)
    replace V_bi2c3 := V_bi2c3.other Wi215 (Ne.symm ne_a0_bi2c3)
    have Ki215 := Ki213.wr Wi215 (Or.inl (List.mem_of_getElem? (i := 0) rfl))
    have Zi215 := Nat.le_trans Zi213 (Keep.of_wr Wi215).1
    have Oi215 := Oi213.wr Wi215 g_a0
    replace F_value_a0 := F_value_a0x
    clear F_value_a0x
    refine stp (fun t k => sti215 t k) ?_
    show W (Ti215.setTop (mkF m 57 #[.val (.ref a0), .val (.ref a1), .val (.int (0 : Int32)), .val (.int (Int32.ofNat n)), .val .null, .val (.ref bi2c3)] []))
    show W (Ti215.setTop (mkF m 57 #[.val (.ref a0), .val (.ref a1), .val (.int (0 : Int32)), .val (.int (Int32.ofNat n)), .val .null, .val (.ref bi2c3)] []))
    rw [← hW]
    exact own_ret0 Xi215 hx Bd.notSynchronized Bd.returns (hb hby di2_57) (by show Qi2 Z a0 a1 (0 : Int32) (Int32.ofNat n) wc sx n g ka h0 n0 _ Ti215.heap _; rw [ei215]; exact ⟨rfl, Ni215, Ki215, bi2c3, sz_bi2c3, E_a0, F_value_a0, Or.inr ⟨own_fldEq (own_fca1 h1 (by omega)) F_coder_a0, _, V_bi2c3⟩⟩) (by decide) (by decide)
theorem di1_0 : decode jdk_42_method_3_code 0 = .ok (.aload_n 0, 1) := by decide +kernel
theorem di1_1 : decode jdk_42_method_3_code 1 = .ok (.aload_n 1, 1) := by decide +kernel
theorem di1_2 : decode jdk_42_method_3_code 2 = .ok (.iconst 0, 1) := by decide +kernel
theorem di1_3 : decode jdk_42_method_3_code 3 = .ok (.aload_n 1, 1) := by decide +kernel
theorem di1_4 : decode jdk_42_method_3_code 4 = .ok (.arraylength, 1) := by decide +kernel
theorem di1_5 : decode jdk_42_method_3_code 5 = .ok (.aconst_null, 1) := by decide +kernel
theorem di1_6 : decode jdk_42_method_3_code 6 = .ok (.invokespecial 27, 3) := by decide +kernel
theorem di1_9 : decode jdk_42_method_3_code 9 = .ok (.return_, 1) := by decide +kernel
theorem pni1 : plainName "java/lang/String" = true := by first | (simp [plainName, overriddenIn]; done) | decide +kernel
theorem pdi1_0 : parseMethodDescriptor "([CIILjava/lang/Void;)V" = some ⟨[(.array .char), .int, .int, (.object "java/lang/Void")], none⟩ := by decide +kernel
theorem efi1 (m : MethodId) (a0 : Addr) (a1 : Addr) : entryFrame m #[(.ref a0), (.ref a1)] 2 = mkF m 0 #[.val (.ref a0), .val (.ref a1)] [] := by first | (simp [entryFrame, mkF, argsToLocals, Value.category]; done) | rfl
def Qi1 (Z : State) (a0 : Addr) (a1 : Addr) (wc : Int32) (sx : Value) (n : Nat) (g : Nat → Int32) (ka : ClassId) (h0 : Heap) (n0 : Nat) (v : Option Value) (h : Heap) (L : List Loc) : Prop := v = none ∧ Fr n0 L ∧ Keep h0 h [a0] ∧ ∃ b : Addr, h0.size ≤ b ∧ OwnStr Z h a0 b n g
set_option maxRecDepth 65536 in
set_option maxHeartbeats 40000000 in
theorem rmi1 (l : Launch) (Z : State) (aa : Array Value) (hw : ∀ d ∈ tables_1, d.before aa Z = true) (ws : List Jvm.Cond) (a0 : Addr) (a1 : Addr) (wc : Int32) (sx : Value) (n : Nat) (g : Nat → Int32) (ka : ClassId) (h0 : Heap) (n0 : Nat) (Z0 : n0 ≤ h0.size) (BW : OwnW Z wc sx) (O0 : Old Z n0 h0) (hn : n ≤ 2) (hch : ∀ j, j < n → 0 ≤ (g j).toInt ∧ (g j).toInt < 65536) (E_a0 : Exa Z h0 a0 "java/lang/String") (F_value_a0 : Fld Z h0 a0 "java/lang/String" "value" "[B" .null) (F_coder_a0 : Fld Z h0 a0 "java/lang/String" "coder" "B" (.int (0 : Int32))) (g_a0 : n0 ≤ a0) (V_a1 : Arv Z h0 a1 ka .char (Int32.ofNat n) (own_vs n g) (.int (0 : Int32))) (ne_a0_a1 : a0 ≠ a1) (h1 : 1 ≤ n) :
    MetFree l (⟨"java/lang/String", "<init>", "([C)V"⟩ : MethodName) (head1 (Jvm.Cond.code (⟨"java/lang/String", "<init>", "([C)V"⟩ : MethodName) jdk_42_method_3_code 2 none :: ws) ({ frames := 5, cells := 2, slots := 6, locals := 74 } : Room)) (fun a U => a = #[(.ref a0), (.ref a1)] ∧ Z.Warmed39 U.vm ∧ U.heap = h0) (fun _ _ _ _ _ => True) (fun _ U o U' => ∃ v L, o = .returned v ∧ Qi1 Z a0 a1 wc sx n g ka h0 n0 v U'.heap L ∧ FrameEnd U o U' L ({ frames := 5, cells := 2, slots := 6, locals := 74 } : Room).cells ({ frames := 5, cells := 2, slots := 6, locals := 74 } : Room).slots) := by
  refine MetFree.of_bodySF (plainFor_of_name pni1) hisR ?_
  intro p e s m args below meth c s₁ Bd hml0 hP hK
  obtain ⟨rfl, hZ, hh⟩ := hP
  have hx := Bd.exec
  have hby := Bd.bytes
  have hml : c.maxLocals = 2 := hml0
  have hown : s.vm.findClass "java/lang/String" = some m.cls := findClass_of_methodNamed Bd.named
  have hnm := (name_of_methodNamed Bd.named Bd.method).1
  have X0 : Stand p l e ({ frames := 5, cells := 2, slots := 6, locals := 74 } : Room) s m #[(.ref a0), (.ref a1)] below meth c s₁ [] 0 0 := Stand.of_body Bd
  have e0 : s₁.heap = h0 := by rw [← hh, Bd.state]; rfl
  have N0 := Fr.nil n0
  show OwnEnd p e below s (fun v h L => Qi1 Z a0 a1 wc sx n g ka h0 n0 v h L) ({ frames := 5, cells := 2, slots := 6, locals := 74 } : Room).cells ({ frames := 5, cells := 2, slots := 6, locals := 74 } : Room).slots (s₁.setTop (entryFrame m #[(.ref a0), (.ref a1)] 2))
  rw [efi1 m a0 a1]
  generalize hW : OwnEnd p e below s (fun v h L => Qi1 Z a0 a1 wc sx n g ka h0 n0 v h L) ({ frames := 5, cells := 2, slots := 6, locals := 74 } : Room).cells ({ frames := 5, cells := 2, slots := 6, locals := 74 } : Room).slots = W
  have stp : ∀ {A B : State}, (∀ t, Steps p.tables e below B t → Steps p.tables e below A t) → W B → W A := by subst hW; exact own_step
  obtain ⟨S_cs, hcs, S_si, hr_sx, S_ad, S_hi, S_lo⟩ := id BW
  show W (s₁.setTop (mkF m 0 #[.val (.ref a0), .val (.ref a1)] []))
  refine stp (fun t k => XS.aloadN X0.here hx rfl (hb hby di1_0) rfl rfl k) ?_
  show W (s₁.setTop (mkF m 1 #[.val (.ref a0), .val (.ref a1)] [(.ref a0)]))
  refine stp (fun t k => XS.aloadN X0.here hx rfl (hb hby di1_1) rfl rfl k) ?_
  show W (s₁.setTop (mkF m 2 #[.val (.ref a0), .val (.ref a1)] [(.ref a1), (.ref a0)]))
  refine stp (fun t k => XS.iconst X0.here hx rfl (hb hby di1_2) k) ?_
  show W (s₁.setTop (mkF m 3 #[.val (.ref a0), .val (.ref a1)] [(.int (0 : Int32)), (.ref a1), (.ref a0)]))
  refine stp (fun t k => XS.aloadN X0.here hx rfl (hb hby di1_3) rfl rfl k) ?_
  show W (s₁.setTop (mkF m 4 #[.val (.ref a0), .val (.ref a1)] [(.ref a1), (.int (0 : Int32)), (.ref a1), (.ref a0)]))
  obtain ⟨cli11, Ari11, qki11, qsi11, qni11, qhi11, qgi11⟩ := id V_a1
  refine stp (fun t k => X0.arraylength hx (by rw [e0]; exact Ari11.1) (State.isArrayOf_alike hZ.alike Ari11.2.1) (g := (mkF m 4 #[.val (.ref a0), .val (.ref a1)] [(.ref a1), (.int (0 : Int32)), (.ref a1), (.ref a0)])) rfl rfl (hb hby di1_4) _ k) ?_
  rw [len_of qsi11 qni11]
  show W (s₁.setTop (mkF m 5 #[.val (.ref a0), .val (.ref a1)] [(.int (Int32.ofNat n)), (.int (0 : Int32)), (.ref a1), (.ref a0)]))
  refine stp (fun t k => XS.aconstNull X0.here hx rfl (hb hby di1_5) k) ?_
  show W (s₁.setTop (mkF m 6 #[.val (.ref a0), .val (.ref a1)] [.null, (.int (Int32.ofNat n)), (.int (0 : Int32)), (.ref a1), (.ref a0)]))
  obtain ⟨_, _, ⟨Ti1c2, Li1c2, ki1c2, ni1c2⟩, -, Xi1c2, ⟨Lci1c2, hQi1c2, li1c2, yi1c2, zi1c2⟩, sti1c2⟩ := X0.specialBack hx (y := (⟨"java/lang/String", "<init>", "([CIILjava/lang/Void;)V"⟩ : MethodName)) rfl hown (mvT hZ (hw _ (List.mem_of_getElem? (i := 11) rfl))) (mvT hZ (hw _ (List.mem_of_getElem? (i := 12) rfl))) (mvT hZ (hw _ (List.mem_of_getElem? (i := 14) rfl))) (by decide) (backOf (W := 0) (rmi2 l Z aa hw [] a0 a1 (0 : Int32) (Int32.ofNat n) wc sx n g ka h0 n0 Z0 BW O0 hn hch E_a0 F_value_a0 F_coder_a0 g_a0 V_a1 ne_a0_a1 h1 rfl rfl) hZ (hw _ (List.mem_of_getElem? (i := 14) rfl)) (hw _ (List.mem_of_getElem? (i := 6) rfl)) (by decide) (by decide)) (g := (mkF m 6 #[.val (.ref a0), .val (.ref a1)] [.null, (.int (Int32.ofNat n)), (.int (0 : Int32)), (.ref a1), (.ref a0)])) rfl (by rw [hml]; rfl) (Steps.refl _) (a := a0) (argsL := [(.ref a1), (.int (0 : Int32)), (.int (Int32.ofNat n)), .null]) (rest := []) (lenOf pdi1_0 rfl) rfl (by show 2 * 0 + _ ≤ _; exact Nat.le_of_eq rfl) (hb hby di1_6) (fun _ _ => ⟨rfl, e0, (by decide : 0 + 2 ≤ _), (by decide : 0 + 6 ≤ _)⟩)
  dsimp only [Pt.U, Pt.locs, Pt.cells, Pt.slots] at Xi1c2 li1c2 yi1c2 zi1c2 sti1c2 hQi1c2
  subst li1c2 yi1c2 zi1c2
  obtain ⟨rfl, Ni1c2q, Kqi1c2, Gi1c2⟩ := hQi1c2
  have Ni1c2 := Fr.app N0 Ni1c2q
  obtain ⟨lci1t3, Xi1c2, Ni1c2⟩ : ∃ lc, Stand p l e ({ frames := 5, cells := 2, slots := 6, locals := 74 } : Room) s m #[(.ref a0), (.ref a1)] below meth c Ti1c2 lc 2 6 ∧ Fr n0 lc := ⟨_, Xi1c2, Ni1c2⟩
  refine stp (fun t k => sti1c2.trans k) ?_
  obtain ⟨hi1c2, ei1c2⟩ : ∃ h, Ti1c2.heap = h := ⟨_, rfl⟩
  rw [ei1c2] at Kqi1c2 Gi1c2
  show W (Ti1c2.setTop (mkF m 9 #[.val (.ref a0), .val (.ref a1)] []))
  show W (Ti1c2.setTop (mkF m 9 #[.val (.ref a0), .val (.ref a1)] []))
  rw [← hW]
  exact own_ret0 Xi1c2 hx Bd.notSynchronized Bd.returns (hb hby di1_9) (by show Qi1 Z a0 a1 wc sx n g ka h0 n0 _ Ti1c2.heap _; rw [ei1c2]; exact ⟨rfl, Ni1c2, Kqi1c2, Gi1c2⟩) (by decide) (by decide)
theorem own_strCongr {Z : State} {h : Heap} {a b : Addr} {n : Nat} {g g' : Nat → Int32} (e : ∀ j, j < n → g j = g' j) (S : OwnStr Z h a b n g) : OwnStr Z h a b n g' := by
  obtain ⟨A, F, C⟩ := S
  refine ⟨A, F, ?_⟩
  rcases C with ⟨C, q, k, V⟩ | ⟨C, k, V⟩
  · exact Or.inl ⟨C, fun j hj => (e j hj) ▸ q j hj, k, own_arvEq (own_vsCongr fun j hj => by rw [e j hj]) V⟩
  · exact Or.inr ⟨C, k, own_arvEq (own_vsCongr fun j hj => by unfold own_u; rw [e (j / 2) (by omega)]) V⟩
theorem own_t1 (c : Int32) : ([.int (own_b c)] : List Value) = own_vs 1 fun _ => own_b c := rfl
theorem own_t2 (c : Int32) : ((([.int (0 : Int32), .int (0 : Int32)] : List Value).set (2 * 0) (.int (own_lo c))).set (2 * 0 + 1) (.int (own_hi c))) = own_vs (2 * 1) (own_u fun _ => c) := rfl
theorem dce_0 : decode jdk_43_method_3_code 0 = .ok (.iload_n 0, 1) := by decide +kernel
theorem dce_1 : decode jdk_43_method_3_code 1 = .ok (.sipush 255, 3) := by decide +kernel
theorem dce_4 : decode jdk_43_method_3_code 4 = .ok (.if_icmp .gt 7, 3) := by decide +kernel
theorem dce_7 : decode jdk_43_method_3_code 7 = .ok (.iconst 1, 1) := by decide +kernel
theorem dce_8 : decode jdk_43_method_3_code 8 = .ok (.goto 4, 3) := by decide +kernel
theorem dce_11 : decode jdk_43_method_3_code 11 = .ok (.iconst 0, 1) := by decide +kernel
theorem dce_12 : decode jdk_43_method_3_code 12 = .ok (.ireturn, 1) := by decide +kernel
theorem pnce : plainName "java/lang/StringLatin1" = true := by first | (simp [plainName, overriddenIn]; done) | decide +kernel
theorem efce (m : MethodId) (p0 : Int32) : entryFrame m #[(.int p0)] 1 = mkF m 0 #[.val (.int p0)] [] := by first | (simp [entryFrame, mkF, argsToLocals, Value.category]; done) | rfl
def fce (p0 : Int32) : Int32 := (if (255 : Int32) < p0 then (0 : Int32) else (1 : Int32))
def Qce (Z : State) (p0 : Int32) (h0 : Heap) (n0 : Nat) (v : Option Value) (h : Heap) (L : List Loc) : Prop := v = some (.int (fce p0)) ∧ Fr n0 L ∧ h = h0
set_option maxRecDepth 65536 in
set_option maxHeartbeats 40000000 in
theorem rmce (l : Launch) (Z : State) (aa : Array Value) (hw : ∀ d ∈ tables_1, d.before aa Z = true) (ws : List Jvm.Cond) (p0 : Int32) (h0 : Heap) (n0 : Nat) (Z0 : n0 ≤ h0.size) :
    MetFree l (⟨"java/lang/StringLatin1", "canEncode", "(C)Z"⟩ : MethodName) (head1 (Jvm.Cond.code (⟨"java/lang/StringLatin1", "canEncode", "(C)Z"⟩ : MethodName) jdk_43_method_3_code 1 (some .boolean) :: ws) ({ frames := 0, cells := 0, slots := 0, locals := 0 } : Room)) (fun a U => a = #[(.int p0)] ∧ Z.Warmed39 U.vm ∧ U.heap = h0) (fun _ _ _ _ _ => True) (fun _ U o U' => ∃ v L, o = .returned v ∧ Qce Z p0 h0 n0 v U'.heap L ∧ FrameEnd U o U' L ({ frames := 0, cells := 0, slots := 0, locals := 0 } : Room).cells ({ frames := 0, cells := 0, slots := 0, locals := 0 } : Room).slots) := by
  refine MetFree.of_bodySF (plainFor_of_name pnce) hisR ?_
  intro p e s m args below meth c s₁ Bd hml0 hP hK
  obtain ⟨rfl, hZ, hh⟩ := hP
  have hx := Bd.exec
  have hby := Bd.bytes
  have hml : c.maxLocals = 1 := hml0
  have hown : s.vm.findClass "java/lang/StringLatin1" = some m.cls := findClass_of_methodNamed Bd.named
  have hnm := (name_of_methodNamed Bd.named Bd.method).1
  have X0 : Stand p l e ({ frames := 0, cells := 0, slots := 0, locals := 0 } : Room) s m #[(.int p0)] below meth c s₁ [] 0 0 := Stand.of_body Bd
  have e0 : s₁.heap = h0 := by rw [← hh, Bd.state]; rfl
  have N0 := Fr.nil n0
  show OwnEnd p e below s (fun v h L => Qce Z p0 h0 n0 v h L) ({ frames := 0, cells := 0, slots := 0, locals := 0 } : Room).cells ({ frames := 0, cells := 0, slots := 0, locals := 0 } : Room).slots (s₁.setTop (entryFrame m #[(.int p0)] 1))
  rw [efce m p0]
  generalize hW : OwnEnd p e below s (fun v h L => Qce Z p0 h0 n0 v h L) ({ frames := 0, cells := 0, slots := 0, locals := 0 } : Room).cells ({ frames := 0, cells := 0, slots := 0, locals := 0 } : Room).slots = W
  have stp : ∀ {A B : State}, (∀ t, Steps p.tables e below B t → Steps p.tables e below A t) → W B → W A := by subst hW; exact own_step
  show W (s₁.setTop (mkF m 0 #[.val (.int p0)] []))
  refine stp (fun t k => XS.iloadN X0.here hx rfl (hb hby dce_0) rfl k) ?_
  show W (s₁.setTop (mkF m 1 #[.val (.int p0)] [(.int p0)]))
  refine stp (fun t k => XS.sipush X0.here hx rfl (hb hby dce_1) k) ?_
  show W (s₁.setTop (mkF m 4 #[.val (.int p0)] [(.int (255 : Int32)), (.int p0)]))
  by_cases hcce_1 : (255 : Int32) < p0
  · refine stp (fun t k => XS.icmpYes X0.here hx rfl (pc0 := 4) (pc' := 11) rfl (hb hby dce_4) rfl ((tlt hcce_1).2.2.1) (by decide) (by decide) k) ?_
    show W (s₁.setTop (mkF m 11 #[.val (.int p0)] []))
    refine stp (fun t k => XS.iconst X0.here hx rfl (hb hby dce_11) k) ?_
    show W (s₁.setTop (mkF m 12 #[.val (.int p0)] [(.int (0 : Int32))]))
    show W (s₁.setTop (mkF m 12 #[.val (.int p0)] [(.int (0 : Int32))]))
    rw [← hW]
    exact own_retN X0 hx Bd.notSynchronized Bd.returns (w := (0 : Int32)) (by simp) (hb hby dce_12) rfl (by show Qce Z p0 h0 n0 _ s₁.heap _; rw [e0]; exact ⟨(by rw [fce, if_pos hcce_1]), N0, rfl⟩) (by decide) (by decide)
  · refine stp (fun t k => XS.icmpNo X0.here hx rfl (hb hby dce_4) rfl ((flt hcce_1).2.2.1) k) ?_
    show W (s₁.setTop (mkF m 7 #[.val (.int p0)] []))
    refine stp (fun t k => XS.iconst X0.here hx rfl (hb hby dce_7) k) ?_
    show W (s₁.setTop (mkF m 8 #[.val (.int p0)] [(.int (1 : Int32))]))
    refine stp (fun t k => XS.goto X0.here hx rfl (pc0 := 8) (pc' := 12) rfl (hb hby dce_8) (by decide) (by decide) k) ?_
    show W (s₁.setTop (mkF m 12 #[.val (.int p0)] [(.int (1 : Int32))]))
    show W (s₁.setTop (mkF m 12 #[.val (.int p0)] [(.int (1 : Int32))]))
    rw [← hW]
    exact own_retN X0 hx Bd.notSynchronized Bd.returns (w := (1 : Int32)) (by simp) (hb hby dce_12) rfl (by show Qce Z p0 h0 n0 _ s₁.heap _; rw [e0]; exact ⟨(by rw [fce, if_neg hcce_1]), N0, rfl⟩) (by decide) (by decide)
theorem own_ce {c : Int32} (h : ¬ (fce c = (0 : Int32))) : c.toInt < 256 := by
  by_cases q : (255 : Int32) < c
  · exact absurd (by rw [fce, if_pos q]) h
  · exact own_c256 q
theorem dt1_0 : decode jdk_43_method_46_code 0 = .ok (.iconst 1, 1) := by decide +kernel
theorem dt1_1 : decode jdk_43_method_46_code 1 = .ok (.newarray .byte, 2) := by decide +kernel
theorem dt1_3 : decode jdk_43_method_46_code 3 = .ok (.dup, 1) := by decide +kernel
theorem dt1_4 : decode jdk_43_method_46_code 4 = .ok (.iconst 0, 1) := by decide +kernel
theorem dt1_5 : decode jdk_43_method_46_code 5 = .ok (.iload_n 0, 1) := by decide +kernel
theorem dt1_6 : decode jdk_43_method_46_code 6 = .ok (.i2b, 1) := by decide +kernel
theorem dt1_7 : decode jdk_43_method_46_code 7 = .ok (.bastore, 1) := by decide +kernel
theorem dt1_8 : decode jdk_43_method_46_code 8 = .ok (.areturn, 1) := by decide +kernel
theorem pnt1 : plainName "java/lang/StringLatin1" = true := by first | (simp [plainName, overriddenIn]; done) | decide +kernel
theorem eft1 (m : MethodId) (p0 : Int32) : entryFrame m #[(.int p0)] 1 = mkF m 0 #[.val (.int p0)] [] := by first | (simp [entryFrame, mkF, argsToLocals, Value.category]; done) | rfl
def Qt1 (Z : State) (p0 : Int32) (wc : Int32) (sx : Value) (h0 : Heap) (n0 : Nat) (v : Option Value) (h : Heap) (L : List Loc) : Prop := ∃ (b : Addr) (kb : ClassId), v = some (.ref b) ∧ Fr n0 L ∧ Keep h0 h [] ∧ h0.size ≤ b ∧ Arv Z h b kb .byte (Int32.ofNat 1) (own_vs (1) fun _ => own_b p0) (.int (0 : Int32))
set_option maxRecDepth 65536 in
set_option maxHeartbeats 40000000 in
theorem rmt1 (l : Launch) (Z : State) (aa : Array Value) (hw : ∀ d ∈ tables_1, d.before aa Z = true) (ws : List Jvm.Cond) (p0 : Int32) (wc : Int32) (sx : Value) (h0 : Heap) (n0 : Nat) (Z0 : n0 ≤ h0.size) (BW : OwnW Z wc sx) (O0 : Old Z n0 h0) :
    MetFree l (⟨"java/lang/StringLatin1", "toBytes", "(C)[B"⟩ : MethodName) (head1 (Jvm.Cond.code (⟨"java/lang/StringLatin1", "toBytes", "(C)[B"⟩ : MethodName) jdk_43_method_46_code 1 (some (.array .byte)) :: ws) ({ frames := 0, cells := 1, slots := 1, locals := 0 } : Room)) (fun a U => a = #[(.int p0)] ∧ Z.Warmed39 U.vm ∧ U.heap = h0) (fun _ _ _ _ _ => True) (fun _ U o U' => ∃ v L, o = .returned v ∧ Qt1 Z p0 wc sx h0 n0 v U'.heap L ∧ FrameEnd U o U' L ({ frames := 0, cells := 1, slots := 1, locals := 0 } : Room).cells ({ frames := 0, cells := 1, slots := 1, locals := 0 } : Room).slots) := by
  refine MetFree.of_bodySF (plainFor_of_name pnt1) hisR ?_
  intro p e s m args below meth c s₁ Bd hml0 hP hK
  obtain ⟨rfl, hZ, hh⟩ := hP
  have hx := Bd.exec
  have hby := Bd.bytes
  have hml : c.maxLocals = 1 := hml0
  have hown : s.vm.findClass "java/lang/StringLatin1" = some m.cls := findClass_of_methodNamed Bd.named
  have hnm := (name_of_methodNamed Bd.named Bd.method).1
  have X0 : Stand p l e ({ frames := 0, cells := 1, slots := 1, locals := 0 } : Room) s m #[(.int p0)] below meth c s₁ [] 0 0 := Stand.of_body Bd
  have e0 : s₁.heap = h0 := by rw [← hh, Bd.state]; rfl
  have N0 := Fr.nil n0
  show OwnEnd p e below s (fun v h L => Qt1 Z p0 wc sx h0 n0 v h L) ({ frames := 0, cells := 1, slots := 1, locals := 0 } : Room).cells ({ frames := 0, cells := 1, slots := 1, locals := 0 } : Room).slots (s₁.setTop (entryFrame m #[(.int p0)] 1))
  rw [eft1 m p0]
  generalize hW : OwnEnd p e below s (fun v h L => Qt1 Z p0 wc sx h0 n0 v h L) ({ frames := 0, cells := 1, slots := 1, locals := 0 } : Room).cells ({ frames := 0, cells := 1, slots := 1, locals := 0 } : Room).slots = W
  have stp : ∀ {A B : State}, (∀ t, Steps p.tables e below B t → Steps p.tables e below A t) → W B → W A := by subst hW; exact own_step
  obtain ⟨S_cs, hcs, S_si, hr_sx, S_ad, S_hi, S_lo⟩ := id BW
  show W (s₁.setTop (mkF m 0 #[.val (.int p0)] []))
  refine stp (fun t k => XS.iconst X0.here hx rfl (hb hby dt1_0) k) ?_
  show W (s₁.setTop (mkF m 1 #[.val (.int p0)] [(.int (1 : Int32))]))
  obtain ⟨Tt11, ht11, kt11, Xt11, et11, Et11, At11, stt11⟩ := newP X0 hx hZ (hw _ (List.mem_of_getElem? (i := 19) rfl)) e0 (g := (mkF m 1 #[.val (.int p0)] [(.int (1 : Int32))])) rfl (hb hby dt1_1) rfl (by decide) (cap := 1) (by decide) (by decide) (by decide) (by decide)
  obtain ⟨bt11, gqt11⟩ : ∃ z, z = h0.size := ⟨_, rfl⟩
  rw [← gqt11] at At11 stt11
  have g_bt11 : n0 ≤ bt11 := Nat.le_trans Z0 (Nat.le_of_eq gqt11.symm)
  have sz_bt11 : h0.size ≤ bt11 := Nat.le_trans (Keep.refl h0 []).1 (Nat.le_of_eq gqt11.symm)
  have Kt11 := (Keep.refl h0 []).ext Et11
  have Zt11 := Nat.le_trans Z0 Et11.1
  have Ot11 := O0.ext Et11
  have V_bt11 : Arv Z ht11 bt11 kt11 .byte (1 : Int32) [(.int (0 : Int32))] (.int (0 : Int32)) := (Arv.new At11 (by decide)).pad (pad_rep [] (.int (0 : Int32)) 1)
  refine stp (fun t k => stt11 t k) ?_
  show W (Tt11.setTop (mkF m 3 #[.val (.int p0)] [(.ref bt11)]))
  refine stp (fun t k => XS.dup Xt11.here hx rfl (hb hby dt1_3) rfl rfl k) ?_
  show W (Tt11.setTop (mkF m 4 #[.val (.int p0)] [(.ref bt11), (.ref bt11)]))
  refine stp (fun t k => XS.iconst Xt11.here hx rfl (hb hby dt1_4) k) ?_
  show W (Tt11.setTop (mkF m 5 #[.val (.int p0)] [(.int (0 : Int32)), (.ref bt11), (.ref bt11)]))
  refine stp (fun t k => XS.iloadN Xt11.here hx rfl (hb hby dt1_5) rfl k) ?_
  show W (Tt11.setTop (mkF m 6 #[.val (.int p0)] [(.int p0), (.int (0 : Int32)), (.ref bt11), (.ref bt11)]))
  refine stp (fun t k => XS.i2b Xt11.here hx rfl (hb hby dt1_6) rfl k) ?_
  show W (Tt11.setTop (mkF m 7 #[.val (.int p0)] [(.int (p0.toInt8.toInt32)), (.int (0 : Int32)), (.ref bt11), (.ref bt11)]))
  obtain ⟨clt12, Art12, qkt12, qst12, qnt12, qht12, qgt12⟩ := id V_bt11
  have hint12 : ¬ ((0 : Int32) < 0 ∨ clt12.slots.size ≤ ((0 : Int32)).toNatClampNeg) := inb_of qst12 ⟨by decide, by decide⟩
  obtain ⟨Tt12, ht12, Xt12, et12, Wt12, stt12⟩ := stB Xt11 hx hZ et11 Art12 (j := (0 : Int32)) hint12 (g := (mkF m 7 #[.val (.int p0)] [(.int (p0.toInt8.toInt32)), (.int (0 : Int32)), (.ref bt11), (.ref bt11)])) rfl rfl (hb hby dt1_7)
  have V_bt11x := Arv.set Art12 qkt12 qst12 qnt12 qht12 qgt12 (fits_nar_byte _) Wt12 0 rfl (Nat.le_of_ble_eq_true rfl)
  have Nt12 := Fr.snoc Xt12 N0 g_bt11
  obtain ⟨lct1t3, Xt12, Nt12⟩ : ∃ lc, Stand p l e ({ frames := 0, cells := 1, slots := 1, locals := 0 } : Room) s m #[(.int p0)] below meth c Tt12 lc 1 1 ∧ Fr n0 lc := ⟨_, Xt12, Nt12⟩
  have Kt12 := Kt11.wr Wt12 (Or.inr sz_bt11)
  have Zt12 := Nat.le_trans Zt11 (Keep.of_wr Wt12).1
  have Ot12 := Ot11.wr Wt12 g_bt11
  replace V_bt11 : Arv Z ht12 bt11 kt11 .byte (1 : Int32) [(.int (nar .byte (p0.toInt8.toInt32)))] (.int (0 : Int32)) := V_bt11x
  refine stp (fun t k => stt12 t k) ?_
  show W (Tt12.setTop (mkF m 8 #[.val (.int p0)] [(.ref bt11)]))
  show W (Tt12.setTop (mkF m 8 #[.val (.int p0)] [(.ref bt11)]))
  rw [← hW]
  exact own_retR Xt12 hx Bd.notSynchronized Bd.returns rfl (hb hby dt1_8) (by show Qt1 Z p0 wc sx h0 n0 _ Tt12.heap _; rw [et12]; exact ⟨bt11, kt11, rfl, Nt12, Kt12, sz_bt11, own_arvEq (own_t1 p0) V_bt11⟩) (by decide) (by decide)
theorem dt2_0 : decode jdk_52_method_24_code 0 = .ok (.iconst 2, 1) := by decide +kernel
theorem dt2_1 : decode jdk_52_method_24_code 1 = .ok (.newarray .byte, 2) := by decide +kernel
theorem dt2_3 : decode jdk_52_method_24_code 3 = .ok (.astore_n 1, 1) := by decide +kernel
theorem dt2_4 : decode jdk_52_method_24_code 4 = .ok (.aload_n 1, 1) := by decide +kernel
theorem dt2_5 : decode jdk_52_method_24_code 5 = .ok (.iconst 0, 1) := by decide +kernel
theorem dt2_6 : decode jdk_52_method_24_code 6 = .ok (.iload_n 0, 1) := by decide +kernel
theorem dt2_7 : decode jdk_52_method_24_code 7 = .ok (.invokestatic 111, 3) := by decide +kernel
theorem dt2_10 : decode jdk_52_method_24_code 10 = .ok (.aload_n 1, 1) := by decide +kernel
theorem dt2_11 : decode jdk_52_method_24_code 11 = .ok (.areturn, 1) := by decide +kernel
theorem pnt2 : plainName "java/lang/StringUTF16" = true := by first | (simp [plainName, overriddenIn]; done) | decide +kernel
theorem pdt2_0 : parseMethodDescriptor "([BII)V" = some ⟨[(.array .byte), .int, .int], none⟩ := by decide +kernel
theorem eft2 (m : MethodId) (p0 : Int32) : entryFrame m #[(.int p0)] 2 = mkF m 0 #[.val (.int p0), .unset] [] := by first | (simp [entryFrame, mkF, argsToLocals, Value.category]; done) | rfl
def Qt2 (Z : State) (p0 : Int32) (wc : Int32) (sx : Value) (h0 : Heap) (n0 : Nat) (v : Option Value) (h : Heap) (L : List Loc) : Prop := ∃ (b : Addr) (kb : ClassId), v = some (.ref b) ∧ Fr n0 L ∧ Keep h0 h [] ∧ h0.size ≤ b ∧ Arv Z h b kb .byte (Int32.ofNat (2 * 1)) (own_vs (2 * 1) (own_u fun _ => p0)) (.int (0 : Int32))
set_option maxRecDepth 65536 in
set_option maxHeartbeats 40000000 in
theorem rmt2 (l : Launch) (Z : State) (aa : Array Value) (hw : ∀ d ∈ tables_1, d.before aa Z = true) (ws : List Jvm.Cond) (p0 : Int32) (wc : Int32) (sx : Value) (h0 : Heap) (n0 : Nat) (Z0 : n0 ≤ h0.size) (BW : OwnW Z wc sx) (O0 : Old Z n0 h0) :
    MetFree l (⟨"java/lang/StringUTF16", "toBytes", "(C)[B"⟩ : MethodName) (head1 (Jvm.Cond.code (⟨"java/lang/StringUTF16", "toBytes", "(C)[B"⟩ : MethodName) jdk_52_method_24_code 2 (some (.array .byte)) :: ws) ({ frames := 1, cells := 1, slots := 2, locals := 14 } : Room)) (fun a U => a = #[(.int p0)] ∧ Z.Warmed39 U.vm ∧ U.heap = h0) (fun _ _ _ _ _ => True) (fun _ U o U' => ∃ v L, o = .returned v ∧ Qt2 Z p0 wc sx h0 n0 v U'.heap L ∧ FrameEnd U o U' L ({ frames := 1, cells := 1, slots := 2, locals := 14 } : Room).cells ({ frames := 1, cells := 1, slots := 2, locals := 14 } : Room).slots) := by
  refine MetFree.of_bodySF (plainFor_of_name pnt2) hisR ?_
  intro p e s m args below meth c s₁ Bd hml0 hP hK
  obtain ⟨rfl, hZ, hh⟩ := hP
  have hx := Bd.exec
  have hby := Bd.bytes
  have hml : c.maxLocals = 2 := hml0
  have hown : s.vm.findClass "java/lang/StringUTF16" = some m.cls := findClass_of_methodNamed Bd.named
  have hnm := (name_of_methodNamed Bd.named Bd.method).1
  have X0 : Stand p l e ({ frames := 1, cells := 1, slots := 2, locals := 14 } : Room) s m #[(.int p0)] below meth c s₁ [] 0 0 := Stand.of_body Bd
  have e0 : s₁.heap = h0 := by rw [← hh, Bd.state]; rfl
  have N0 := Fr.nil n0
  show OwnEnd p e below s (fun v h L => Qt2 Z p0 wc sx h0 n0 v h L) ({ frames := 1, cells := 1, slots := 2, locals := 14 } : Room).cells ({ frames := 1, cells := 1, slots := 2, locals := 14 } : Room).slots (s₁.setTop (entryFrame m #[(.int p0)] 2))
  rw [eft2 m p0]
  generalize hW : OwnEnd p e below s (fun v h L => Qt2 Z p0 wc sx h0 n0 v h L) ({ frames := 1, cells := 1, slots := 2, locals := 14 } : Room).cells ({ frames := 1, cells := 1, slots := 2, locals := 14 } : Room).slots = W
  have stp : ∀ {A B : State}, (∀ t, Steps p.tables e below B t → Steps p.tables e below A t) → W B → W A := by subst hW; exact own_step
  obtain ⟨S_cs, hcs, S_si, hr_sx, S_ad, S_hi, S_lo⟩ := id BW
  show W (s₁.setTop (mkF m 0 #[.val (.int p0), .unset] []))
  refine stp (fun t k => XS.iconst X0.here hx rfl (hb hby dt2_0) k) ?_
  show W (s₁.setTop (mkF m 1 #[.val (.int p0), .unset] [(.int (2 : Int32))]))
  obtain ⟨Tt21, ht21, kt21, Xt21, et21, Et21, At21, stt21⟩ := newP X0 hx hZ (hw _ (List.mem_of_getElem? (i := 19) rfl)) e0 (g := (mkF m 1 #[.val (.int p0), .unset] [(.int (2 : Int32))])) rfl (hb hby dt2_1) rfl (by decide) (cap := 2) (by decide) (by decide) (by decide) (by decide)
  obtain ⟨bt21, gqt21⟩ : ∃ z, z = h0.size := ⟨_, rfl⟩
  rw [← gqt21] at At21 stt21
  have g_bt21 : n0 ≤ bt21 := Nat.le_trans Z0 (Nat.le_of_eq gqt21.symm)
  have sz_bt21 : h0.size ≤ bt21 := Nat.le_trans (Keep.refl h0 []).1 (Nat.le_of_eq gqt21.symm)
  have Kt21 := (Keep.refl h0 []).ext Et21
  have Zt21 := Nat.le_trans Z0 Et21.1
  have Ot21 := O0.ext Et21
  have V_bt21 : Arv Z ht21 bt21 kt21 .byte (2 : Int32) [(.int (0 : Int32)), (.int (0 : Int32))] (.int (0 : Int32)) := (Arv.new At21 (by decide)).pad (pad_rep [] (.int (0 : Int32)) 2)
  refine stp (fun t k => stt21 t k) ?_
  show W (Tt21.setTop (mkF m 3 #[.val (.int p0), .unset] [(.ref bt21)]))
  refine stp (fun t k => XS.astoreN Xt21.here hx rfl (hb hby dt2_3) rfl rfl (l' := #[.val (.int p0), .val (.ref bt21)]) rfl k) ?_
  show W (Tt21.setTop (mkF m 4 #[.val (.int p0), .val (.ref bt21)] []))
  refine stp (fun t k => XS.aloadN Xt21.here hx rfl (hb hby dt2_4) rfl rfl k) ?_
  show W (Tt21.setTop (mkF m 5 #[.val (.int p0), .val (.ref bt21)] [(.ref bt21)]))
  refine stp (fun t k => XS.iconst Xt21.here hx rfl (hb hby dt2_5) k) ?_
  show W (Tt21.setTop (mkF m 6 #[.val (.int p0), .val (.ref bt21)] [(.int (0 : Int32)), (.ref bt21)]))
  refine stp (fun t k => XS.iloadN Xt21.here hx rfl (hb hby dt2_6) rfl k) ?_
  show W (Tt21.setTop (mkF m 7 #[.val (.int p0), .val (.ref bt21)] [(.int p0), (.int (0 : Int32)), (.ref bt21)]))
  obtain ⟨_, _, ⟨Tt2c2, Lt2c2, kt2c2, nt2c2⟩, -, Xt2c2, ⟨Lct2c2, hQt2c2, lt2c2, yt2c2, zt2c2⟩, stt2c2⟩ := Jvm.LawKit.callS Xt21 hx (y := (⟨"java/lang/StringUTF16", "putChar", "([BII)V"⟩ : MethodName)) hown (mvT hZ (hw _ (List.mem_of_getElem? (i := 79) rfl))) (mvT hZ (hw _ (List.mem_of_getElem? (i := 80) rfl))) (mvT hZ (hw _ (List.mem_of_getElem? (i := 64) rfl))) (mvT hZ (hw _ (List.mem_of_getElem? (i := 81) rfl))) (by decide) (backOf (W := 0) (rmpc l Z aa hw [] bt21 (0 : Int32) p0 wc sx kt21 (2 : Int32) [(.int (0 : Int32)), (.int (0 : Int32))] 0 ht21 n0 Zt21 BW Ot21 V_bt21 g_bt21 rfl (by decide) rfl (by decide)) hZ (hw _ (List.mem_of_getElem? (i := 81) rfl)) (hw _ (List.mem_of_getElem? (i := 64) rfl)) (by decide) (by decide)) (g := (mkF m 7 #[.val (.int p0), .val (.ref bt21)] [(.int p0), (.int (0 : Int32)), (.ref bt21)])) rfl (by rw [hml]; rfl) (argsL := [(.ref bt21), (.int (0 : Int32)), (.int p0)]) (rest := []) (lenOf pdt2_0 rfl) rfl (by show 2 * 0 + _ ≤ _; exact Nat.le_of_eq rfl) (hb hby dt2_7) (fun _ _ => ⟨rfl, et21, (by decide : 1 + 0 ≤ _), (by decide : 2 + 0 ≤ _)⟩)
  dsimp only [Pt.U, Pt.locs, Pt.cells, Pt.slots] at Xt2c2 lt2c2 yt2c2 zt2c2 stt2c2 hQt2c2
  subst lt2c2 yt2c2 zt2c2
  obtain ⟨rfl, Nt2c2q, Kqt2c2, Vt2c2⟩ := hQt2c2
  have Nt2c2 := Fr.app N0 Nt2c2q
  obtain ⟨lct2t3, Xt2c2, Nt2c2⟩ : ∃ lc, Stand p l e ({ frames := 1, cells := 1, slots := 2, locals := 14 } : Room) s m #[(.int p0)] below meth c Tt2c2 lc 1 2 ∧ Fr n0 lc := ⟨_, Xt2c2, Nt2c2⟩
  obtain ⟨ht2c2, et2c2⟩ : ∃ h, Tt2c2.heap = h := ⟨_, rfl⟩
  rw [et2c2] at Kqt2c2 Vt2c2
  have KKt2c2 := Keep.trans Kt21 Kqt2c2 (allS (Or.inr sz_bt21) all0)
  have Zt2c2 := Nat.le_trans Zt21 Kqt2c2.1
  have Ot2c2 := Ot21.keep Kqt2c2 (allS g_bt21 all0)
  refine stp (fun t k => stt2c2 t k) ?_
  show W (Tt2c2.setTop (mkF m 10 #[.val (.int p0), .val (.ref bt21)] []))
  refine stp (fun t k => XS.aloadN Xt2c2.here hx rfl (hb hby dt2_10) rfl rfl k) ?_
  show W (Tt2c2.setTop (mkF m 11 #[.val (.int p0), .val (.ref bt21)] [(.ref bt21)]))
  show W (Tt2c2.setTop (mkF m 11 #[.val (.int p0), .val (.ref bt21)] [(.ref bt21)]))
  rw [← hW]
  exact own_retR Xt2c2 hx Bd.notSynchronized Bd.returns rfl (hb hby dt2_11) (by show Qt2 Z p0 wc sx h0 n0 _ Tt2c2.heap _; rw [et2c2]; exact ⟨bt21, kt21, rfl, Nt2c2, KKt2c2, sz_bt21, own_arvEq (own_t2 p0) Vt2c2⟩) (by decide) (by decide)
theorem dib_0 : decode jdk_42_method_151_code 0 = .ok (.aload_n 0, 1) := by decide +kernel
theorem dib_1 : decode jdk_42_method_151_code 1 = .ok (.invokespecial 1, 3) := by decide +kernel
theorem dib_4 : decode jdk_42_method_151_code 4 = .ok (.aload_n 0, 1) := by decide +kernel
theorem dib_5 : decode jdk_42_method_151_code 5 = .ok (.aload_n 1, 1) := by decide +kernel
theorem dib_6 : decode jdk_42_method_151_code 6 = .ok (.putfield 9, 3) := by decide +kernel
theorem dib_9 : decode jdk_42_method_151_code 9 = .ok (.aload_n 0, 1) := by decide +kernel
theorem dib_10 : decode jdk_42_method_151_code 10 = .ok (.iload_n 2, 1) := by decide +kernel
theorem dib_11 : decode jdk_42_method_151_code 11 = .ok (.putfield 15, 3) := by decide +kernel
theorem dib_14 : decode jdk_42_method_151_code 14 = .ok (.return_, 1) := by decide +kernel
theorem pnib : plainName "java/lang/String" = true := by first | (simp [plainName, overriddenIn]; done) | decide +kernel
theorem efib (m : MethodId) (a0 : Addr) (a1 : Addr) (p2 : Int32) : entryFrame m #[(.ref a0), (.ref a1), (.int p2)] 3 = mkF m 0 #[.val (.ref a0), .val (.ref a1), .val (.int p2)] [] := by first | (simp [entryFrame, mkF, argsToLocals, Value.category]; done) | rfl
def Qib (Z : State) (a0 : Addr) (a1 : Addr) (p2 : Int32) (wc : Int32) (sx : Value) (h0 : Heap) (n0 : Nat) (v : Option Value) (h : Heap) (L : List Loc) : Prop := v = none ∧ Fr n0 L ∧ Keep h0 h [a0] ∧ Exa Z h a0 "java/lang/String" ∧ Fld Z h a0 "java/lang/String" "value" "[B" (.ref a1) ∧ Fld Z h a0 "java/lang/String" "coder" "B" (.int (nar .byte p2))
set_option maxRecDepth 65536 in
set_option maxHeartbeats 40000000 in
theorem rmib (l : Launch) (Z : State) (aa : Array Value) (hw : ∀ d ∈ tables_1, d.before aa Z = true) (ws : List Jvm.Cond) (a0 : Addr) (a1 : Addr) (p2 : Int32) (wc : Int32) (sx : Value) (h0 : Heap) (n0 : Nat) (Z0 : n0 ≤ h0.size) (BW : OwnW Z wc sx) (O0 : Old Z n0 h0) (E_a0 : Exa Z h0 a0 "java/lang/String") (F_value_a0 : Fld Z h0 a0 "java/lang/String" "value" "[B" .null) (F_coder_a0 : Fld Z h0 a0 "java/lang/String" "coder" "B" (.int (0 : Int32))) (g_a0 : n0 ≤ a0) :
    MetFree l (⟨"java/lang/String", "<init>", "([BB)V"⟩ : MethodName) (head1 (Jvm.Cond.code (⟨"java/lang/String", "<init>", "([BB)V"⟩ : MethodName) jdk_42_method_151_code 3 none :: ws) ({ frames := 1, cells := 0, slots := 0, locals := 12 } : Room)) (fun a U => a = #[(.ref a0), (.ref a1), (.int p2)] ∧ Z.Warmed39 U.vm ∧ U.heap = h0) (fun _ _ _ _ _ => True) (fun _ U o U' => ∃ v L, o = .returned v ∧ Qib Z a0 a1 p2 wc sx h0 n0 v U'.heap L ∧ FrameEnd U o U' L ({ frames := 1, cells := 0, slots := 0, locals := 12 } : Room).cells ({ frames := 1, cells := 0, slots := 0, locals := 12 } : Room).slots) := by
  refine MetFree.of_bodySF (plainFor_of_name pnib) hisR ?_
  intro p e s m args below meth c s₁ Bd hml0 hP hK
  obtain ⟨rfl, hZ, hh⟩ := hP
  have hx := Bd.exec
  have hby := Bd.bytes
  have hml : c.maxLocals = 3 := hml0
  have hown : s.vm.findClass "java/lang/String" = some m.cls := findClass_of_methodNamed Bd.named
  have hnm := (name_of_methodNamed Bd.named Bd.method).1
  have X0 : Stand p l e ({ frames := 1, cells := 0, slots := 0, locals := 12 } : Room) s m #[(.ref a0), (.ref a1), (.int p2)] below meth c s₁ [] 0 0 := Stand.of_body Bd
  have e0 : s₁.heap = h0 := by rw [← hh, Bd.state]; rfl
  have N0 := Fr.nil n0
  show OwnEnd p e below s (fun v h L => Qib Z a0 a1 p2 wc sx h0 n0 v h L) ({ frames := 1, cells := 0, slots := 0, locals := 12 } : Room).cells ({ frames := 1, cells := 0, slots := 0, locals := 12 } : Room).slots (s₁.setTop (entryFrame m #[(.ref a0), (.ref a1), (.int p2)] 3))
  rw [efib m a0 a1 p2]
  generalize hW : OwnEnd p e below s (fun v h L => Qib Z a0 a1 p2 wc sx h0 n0 v h L) ({ frames := 1, cells := 0, slots := 0, locals := 12 } : Room).cells ({ frames := 1, cells := 0, slots := 0, locals := 12 } : Room).slots = W
  have stp : ∀ {A B : State}, (∀ t, Steps p.tables e below B t → Steps p.tables e below A t) → W B → W A := by subst hW; exact own_step
  obtain ⟨S_cs, hcs, S_si, hr_sx, S_ad, S_hi, S_lo⟩ := id BW
  show W (s₁.setTop (mkF m 0 #[.val (.ref a0), .val (.ref a1), .val (.int p2)] []))
  refine stp (fun t k => XS.aloadN X0.here hx rfl (hb hby dib_0) rfl rfl k) ?_
  show W (s₁.setTop (mkF m 1 #[.val (.ref a0), .val (.ref a1), .val (.int p2)] [(.ref a0)]))
  obtain ⟨T1, X1, e1, st1⟩ := initO X0 hx hZ hown (hw _ (List.mem_of_getElem? (i := 15) rfl)) (hw _ (List.mem_of_getElem? (i := 16) rfl)) (hw _ (List.mem_of_getElem? (i := 17) rfl)) e0 (g := (mkF m 1 #[.val (.ref a0), .val (.ref a1), .val (.int p2)] [(.ref a0)])) rfl (by rw [hml]; rfl) rfl (hb hby dib_1) (by decide) (W := 0) (by show 2 * 0 + _ ≤ _; exact Nat.le_of_eq rfl) (by decide)
  refine stp (fun t k => st1 t k) ?_
  show W (T1.setTop (mkF m 4 #[.val (.ref a0), .val (.ref a1), .val (.int p2)] []))
  refine stp (fun t k => XS.aloadN X1.here hx rfl (hb hby dib_4) rfl rfl k) ?_
  show W (T1.setTop (mkF m 5 #[.val (.ref a0), .val (.ref a1), .val (.int p2)] [(.ref a0)]))
  refine stp (fun t k => XS.aloadN X1.here hx rfl (hb hby dib_5) rfl rfl k) ?_
  show W (T1.setTop (mkF m 6 #[.val (.ref a0), .val (.ref a1), .val (.int p2)] [(.ref a1), (.ref a0)]))
  obtain ⟨Tib2, hib2, Xib2, eib2, Wib2, stib2⟩ := putF X1 hx hZ hown (host := "") (Or.inl (hw _ (List.mem_of_getElem? (i := 24) rfl))) Via.refl e1 F_value_a0 E_a0 (Or.inr ⟨(hw _ (List.mem_of_getElem? (i := 20) rfl)), rfl, hnm⟩) (hw _ (List.mem_of_getElem? (i := 5) rfl)) (ty := (.array .byte)) (by decide) rfl rfl (g := (mkF m 6 #[.val (.ref a0), .val (.ref a1), .val (.int p2)] [(.ref a1), (.ref a0)])) rfl rfl (hb hby dib_6)
  have Nib2 := Fr.snoc Xib2 N0 g_a0
  have F_value_a0x := F_value_a0.same Wib2
  obtain ⟨lcibt3, Xib2, Nib2⟩ : ∃ lc, Stand p l e ({ frames := 1, cells := 0, slots := 0, locals := 12 } : Room) s m #[(.ref a0), (.ref a1), (.int p2)] below meth c Tib2 lc 0 0 ∧ Fr n0 lc := ⟨_, Xib2, Nib2⟩
  replace E_a0 := E_a0.wr Wib2
  replace F_coder_a0 := F_coder_a0.other Wib2 (Or.inr (slot_ne (Or.inr (hw _ (List.mem_of_getElem? (i := 21) rfl))) (Or.inr (hw _ (List.mem_of_getElem? (i := 20) rfl))) (by decide) (t := .byte) (t' := (.array .byte)) (by decide) (by decide)))
  have Kib2 := (Keep.refl h0 [a0]).wr Wib2 (Or.inl (List.mem_of_getElem? (i := 0) rfl))
  have Zib2 := Nat.le_trans Z0 (Keep.of_wr Wib2).1
  have Oib2 := O0.wr Wib2 g_a0
  replace F_value_a0 := F_value_a0x
  clear F_value_a0x
  refine stp (fun t k => stib2 t k) ?_
  show W (Tib2.setTop (mkF m 9 #[.val (.ref a0), .val (.ref a1), .val (.int p2)] []))
  refine stp (fun t k => XS.aloadN Xib2.here hx rfl (hb hby dib_9) rfl rfl k) ?_
  show W (Tib2.setTop (mkF m 10 #[.val (.ref a0), .val (.ref a1), .val (.int p2)] [(.ref a0)]))
  refine stp (fun t k => XS.iloadN Xib2.here hx rfl (hb hby dib_10) rfl k) ?_
  show W (Tib2.setTop (mkF m 11 #[.val (.ref a0), .val (.ref a1), .val (.int p2)] [(.int p2), (.ref a0)]))
  obtain ⟨Tib4, hib4, Xib4, eib4, Wib4, stib4⟩ := putFN Xib2 hx hZ hown (hw _ (List.mem_of_getElem? (i := 25) rfl)) Via.refl eib2 F_coder_a0 E_a0 (Or.inr ⟨(hw _ (List.mem_of_getElem? (i := 21) rfl)), rfl, hnm⟩) (hw _ (List.mem_of_getElem? (i := 5) rfl)) (ty := .byte) (v' := (.int (nar .byte p2))) (by decide) rfl (fits_nar_byte _) (g := (mkF m 11 #[.val (.ref a0), .val (.ref a1), .val (.int p2)] [(.int p2), (.ref a0)])) rfl rfl (hb hby dib_11)
  have Nib4 := Fr.snoc Xib4 Nib2 g_a0
  have F_coder_a0x := F_coder_a0.same Wib4
  obtain ⟨lcibt5, Xib4, Nib4⟩ : ∃ lc, Stand p l e ({ frames := 1, cells := 0, slots := 0, locals := 12 } : Room) s m #[(.ref a0), (.ref a1), (.int p2)] below meth c Tib4 lc 0 0 ∧ Fr n0 lc := ⟨_, Xib4, Nib4⟩
  replace E_a0 := E_a0.wr Wib4
  replace F_value_a0 := F_value_a0.other Wib4 (Or.inr (slot_ne (Or.inr (hw _ (List.mem_of_getElem? (i := 20) rfl))) (Or.inr (hw _ (List.mem_of_getElem? (i := 21) rfl))) (by decide) (t := (.array .byte)) (t' := .byte) (by decide) (by decide)))
  have Kib4 := Kib2.wr Wib4 (Or.inl (List.mem_of_getElem? (i := 0) rfl))
  have Zib4 := Nat.le_trans Zib2 (Keep.of_wr Wib4).1
  have Oib4 := Oib2.wr Wib4 g_a0
  replace F_coder_a0 := F_coder_a0x
  clear F_coder_a0x
  refine stp (fun t k => stib4 t k) ?_
  show W (Tib4.setTop (mkF m 14 #[.val (.ref a0), .val (.ref a1), .val (.int p2)] []))
  show W (Tib4.setTop (mkF m 14 #[.val (.ref a0), .val (.ref a1), .val (.int p2)] []))
  rw [← hW]
  exact own_ret0 Xib4 hx Bd.notSynchronized Bd.returns (hb hby dib_14) (by show Qib Z a0 a1 p2 wc sx h0 n0 _ Tib4.heap _; rw [eib4]; exact ⟨rfl, Nib4, Kib4, E_a0, F_value_a0, F_coder_a0⟩) (by decide) (by decide)
theorem dvo_0 : decode jdk_42_method_139_code 0 = .ok (.getstatic 38, 3) := by decide +kernel
theorem dvo_3 : decode jdk_42_method_139_code 3 = .ok (.ifCond .eq 23, 3) := by decide +kernel
theorem dvo_6 : decode jdk_42_method_139_code 6 = .ok (.iload_n 0, 1) := by decide +kernel
theorem dvo_7 : decode jdk_42_method_139_code 7 = .ok (.invokestatic 1015, 3) := by decide +kernel
theorem dvo_10 : decode jdk_42_method_139_code 10 = .ok (.ifCond .eq 16, 3) := by decide +kernel
theorem dvo_13 : decode jdk_42_method_139_code 13 = .ok (.new 10, 3) := by decide +kernel
theorem dvo_16 : decode jdk_42_method_139_code 16 = .ok (.dup, 1) := by decide +kernel
theorem dvo_17 : decode jdk_42_method_139_code 17 = .ok (.iload_n 0, 1) := by decide +kernel
theorem dvo_18 : decode jdk_42_method_139_code 18 = .ok (.invokestatic 1018, 3) := by decide +kernel
theorem dvo_21 : decode jdk_42_method_139_code 21 = .ok (.iconst 0, 1) := by decide +kernel
theorem dvo_22 : decode jdk_42_method_139_code 22 = .ok (.invokespecial 209, 3) := by decide +kernel
theorem dvo_25 : decode jdk_42_method_139_code 25 = .ok (.areturn, 1) := by decide +kernel
theorem dvo_26 : decode jdk_42_method_139_code 26 = .ok (.new 10, 3) := by decide +kernel
theorem dvo_29 : decode jdk_42_method_139_code 29 = .ok (.dup, 1) := by decide +kernel
theorem dvo_30 : decode jdk_42_method_139_code 30 = .ok (.iload_n 0, 1) := by decide +kernel
theorem dvo_31 : decode jdk_42_method_139_code 31 = .ok (.invokestatic 1021, 3) := by decide +kernel
theorem dvo_34 : decode jdk_42_method_139_code 34 = .ok (.iconst 1, 1) := by decide +kernel
theorem dvo_35 : decode jdk_42_method_139_code 35 = .ok (.invokespecial 209, 3) := by decide +kernel
theorem dvo_38 : decode jdk_42_method_139_code 38 = .ok (.areturn, 1) := by decide +kernel
theorem pnvo : plainName "java/lang/String" = true := by first | (simp [plainName, overriddenIn]; done) | decide +kernel
theorem pdvo_0 : parseMethodDescriptor "(C)Z" = some ⟨[.char], some .boolean⟩ := by decide +kernel
theorem pdvo_1 : parseMethodDescriptor "(C)[B" = some ⟨[.char], some (.array .byte)⟩ := by decide +kernel
theorem pdvo_2 : parseMethodDescriptor "([BB)V" = some ⟨[(.array .byte), .byte], none⟩ := by decide +kernel
theorem efvo (m : MethodId) (p0 : Int32) : entryFrame m #[(.int p0)] 1 = mkF m 0 #[.val (.int p0)] [] := by first | (simp [entryFrame, mkF, argsToLocals, Value.category]; done) | rfl
def Qvo (Z : State) (p0 : Int32) (wc : Int32) (sx : Value) (h0 : Heap) (n0 : Nat) (v : Option Value) (h : Heap) (L : List Loc) : Prop := ∃ (a b : Addr), v = some (.ref a) ∧ Fr n0 L ∧ Keep h0 h [] ∧ OwnStr Z h a b 1 (fun _ => p0)
set_option maxRecDepth 65536 in
set_option maxHeartbeats 40000000 in
theorem rmvo (l : Launch) (Z : State) (aa : Array Value) (hw : ∀ d ∈ tables_1, d.before aa Z = true) (ws : List Jvm.Cond) (p0 : Int32) (wc : Int32) (sx : Value) (h0 : Heap) (n0 : Nat) (Z0 : n0 ≤ h0.size) (BW : OwnW Z wc sx) (O0 : Old Z n0 h0) :
    MetFree l (⟨"java/lang/String", "valueOf", "(C)Ljava/lang/String;"⟩ : MethodName) (head1 (Jvm.Cond.code (⟨"java/lang/String", "valueOf", "(C)Ljava/lang/String;"⟩ : MethodName) jdk_42_method_139_code 1 (some (.object "java/lang/String")) :: ws) ({ frames := 2, cells := 2, slots := 6, locals := 29 } : Room)) (fun a U => a = #[(.int p0)] ∧ Z.Warmed39 U.vm ∧ U.heap = h0) (fun _ _ _ _ _ => True) (fun _ U o U' => ∃ v L, o = .returned v ∧ Qvo Z p0 wc sx h0 n0 v U'.heap L ∧ FrameEnd U o U' L ({ frames := 2, cells := 2, slots := 6, locals := 29 } : Room).cells ({ frames := 2, cells := 2, slots := 6, locals := 29 } : Room).slots) := by
  refine MetFree.of_bodySF (plainFor_of_name pnvo) hisR ?_
  intro p e s m args below meth c s₁ Bd hml0 hP hK
  obtain ⟨rfl, hZ, hh⟩ := hP
  have hx := Bd.exec
  have hby := Bd.bytes
  have hml : c.maxLocals = 1 := hml0
  have hown : s.vm.findClass "java/lang/String" = some m.cls := findClass_of_methodNamed Bd.named
  have hnm := (name_of_methodNamed Bd.named Bd.method).1
  have X0 : Stand p l e ({ frames := 2, cells := 2, slots := 6, locals := 29 } : Room) s m #[(.int p0)] below meth c s₁ [] 0 0 := Stand.of_body Bd
  have e0 : s₁.heap = h0 := by rw [← hh, Bd.state]; rfl
  have N0 := Fr.nil n0
  show OwnEnd p e below s (fun v h L => Qvo Z p0 wc sx h0 n0 v h L) ({ frames := 2, cells := 2, slots := 6, locals := 29 } : Room).cells ({ frames := 2, cells := 2, slots := 6, locals := 29 } : Room).slots (s₁.setTop (entryFrame m #[(.int p0)] 1))
  rw [efvo m p0]
  generalize hW : OwnEnd p e below s (fun v h L => Qvo Z p0 wc sx h0 n0 v h L) ({ frames := 2, cells := 2, slots := 6, locals := 29 } : Room).cells ({ frames := 2, cells := 2, slots := 6, locals := 29 } : Room).slots = W
  have stp : ∀ {A B : State}, (∀ t, Steps p.tables e below B t → Steps p.tables e below A t) → W B → W A := by subst hW; exact own_step
  obtain ⟨S_cs, hcs, S_si, hr_sx, S_ad, S_hi, S_lo⟩ := id BW
  show W (s₁.setTop (mkF m 0 #[.val (.int p0)] []))
  obtain ⟨Tvo1, Xvo1, evo1, stvo1⟩ := getS2 X0 hx hZ hown (host := "") (Or.inl (hw _ (List.mem_of_getElem? (i := 43) rfl))) Via.refl e0 (S_cs.ext O0.2) (g := (mkF m 0 #[.val (.int p0)] [])) rfl (hb hby dvo_0)
  refine stp (fun t k => stvo1 t k) ?_
  show W (Tvo1.setTop (mkF m 3 #[.val (.int p0)] [(.int wc)]))
  refine stp (fun t k => XS.ifNo Xvo1.here hx rfl (hb hby dvo_3) rfl ((if0 _ _).trans (feq (hcs)).1) k) ?_
  show W (Tvo1.setTop (mkF m 6 #[.val (.int p0)] []))
  refine stp (fun t k => XS.iloadN Xvo1.here hx rfl (hb hby dvo_6) rfl k) ?_
  show W (Tvo1.setTop (mkF m 7 #[.val (.int p0)] [(.int p0)]))
  obtain ⟨_, _, ⟨Tvoc2, Lvoc2, kvoc2, nvoc2⟩, -, Xvoc2, ⟨Lcvoc2, hQvoc2, lvoc2, yvoc2, zvoc2⟩, stvoc2⟩ := Jvm.LawKit.callS Xvo1 hx (y := (⟨"java/lang/StringLatin1", "canEncode", "(C)Z"⟩ : MethodName)) hown (mvT hZ (hw _ (List.mem_of_getElem? (i := 51) rfl))) (mvT hZ (hw _ (List.mem_of_getElem? (i := 52) rfl))) (mvT hZ (hw _ (List.mem_of_getElem? (i := 53) rfl))) (mvT hZ (hw _ (List.mem_of_getElem? (i := 54) rfl))) (by decide) (backOf (W := 0) (rmce l Z aa hw [] p0  h0 n0 Z0 ) hZ (hw _ (List.mem_of_getElem? (i := 54) rfl)) (hw _ (List.mem_of_getElem? (i := 53) rfl)) (by decide) (by decide)) (g := (mkF m 7 #[.val (.int p0)] [(.int p0)])) rfl (by rw [hml]; rfl) (argsL := [(.int p0)]) (rest := []) (lenOf pdvo_0 rfl) rfl (by show 2 * 0 + _ ≤ _; exact Nat.le_of_eq rfl) (hb hby dvo_7) (fun _ _ => ⟨rfl, evo1, (by decide : 0 + 0 ≤ _), (by decide : 0 + 0 ≤ _)⟩)
  dsimp only [Pt.U, Pt.locs, Pt.cells, Pt.slots] at Xvoc2 lvoc2 yvoc2 zvoc2 stvoc2 hQvoc2
  subst lvoc2 yvoc2 zvoc2
  obtain ⟨rfl, Nvoc2q, evoc2⟩ := hQvoc2
  have Nvoc2 := Fr.app N0 Nvoc2q
  obtain ⟨lcvot3, Xvoc2, Nvoc2⟩ : ∃ lc, Stand p l e ({ frames := 2, cells := 2, slots := 6, locals := 29 } : Room) s m #[(.int p0)] below meth c Tvoc2 lc 0 0 ∧ Fr n0 lc := ⟨_, Xvoc2, Nvoc2⟩
  refine stp (fun t k => stvoc2 t k) ?_
  show W (Tvoc2.setTop (mkF m 10 #[.val (.int p0)] [(.int (fce p0))]))
  by_cases hcvo_4 : (fce p0) = (0 : Int32)
  · refine stp (fun t k => XS.ifYes Xvoc2.here hx rfl (pc0 := 10) (pc' := 26) rfl (hb hby dvo_10) rfl ((if0 _ _).trans (teq hcvo_4).1) (by decide) (by decide) k) ?_
    show W (Tvoc2.setTop (mkF m 26 #[.val (.int p0)] []))
    obtain ⟨Tvo5, hvo5, Xvo5, evo5, Evo5, Avo5, Dvo5, -, stvo5⟩ := newO Xvoc2 hx hZ hown (hw _ (List.mem_of_getElem? (i := 55) rfl)) (hw _ (List.mem_of_getElem? (i := 5) rfl)) (hw _ (List.mem_of_getElem? (i := 6) rfl)) evoc2 (g := (mkF m 26 #[.val (.int p0)] [])) rfl (hb hby dvo_26) (by decide) (by decide)
    obtain ⟨bvo5, gqvo5⟩ : ∃ z, z = h0.size := ⟨_, rfl⟩
    rw [← gqvo5] at Avo5 Dvo5 stvo5
    have g_bvo5 : n0 ≤ bvo5 := Nat.le_trans Z0 (Nat.le_of_eq gqvo5.symm)
    have sz_bvo5 : h0.size ≤ bvo5 := Nat.le_trans (Keep.refl h0 []).1 (Nat.le_of_eq gqvo5.symm)
    have Kvo5 := (Keep.refl h0 []).ext Evo5
    have Zvo5 := Nat.le_trans Z0 Evo5.1
    have Ovo5 := O0.ext Evo5
    have E_bvo5 := Avo5
    have F_value_bvo5 : Fld Z hvo5 bvo5 "java/lang/String" "value" "[B" .null := Dvo5 (Or.inr (hw _ (List.mem_of_getElem? (i := 20) rfl))) (ty := (.array .byte)) (by decide)
    have F_coder_bvo5 : Fld Z hvo5 bvo5 "java/lang/String" "coder" "B" (.int (0 : Int32)) := Dvo5 (Or.inr (hw _ (List.mem_of_getElem? (i := 21) rfl))) (ty := .byte) (by decide)
    refine stp (fun t k => stvo5 t k) ?_
    show W (Tvo5.setTop (mkF m 29 #[.val (.int p0)] [(.ref bvo5)]))
    refine stp (fun t k => XS.dup Xvo5.here hx rfl (hb hby dvo_29) rfl rfl k) ?_
    show W (Tvo5.setTop (mkF m 30 #[.val (.int p0)] [(.ref bvo5), (.ref bvo5)]))
    refine stp (fun t k => XS.iloadN Xvo5.here hx rfl (hb hby dvo_30) rfl k) ?_
    show W (Tvo5.setTop (mkF m 31 #[.val (.int p0)] [(.int p0), (.ref bvo5), (.ref bvo5)]))
    obtain ⟨_, _, ⟨Tvoc6, Lvoc6, kvoc6, nvoc6⟩, -, Xvoc6, ⟨Lcvoc6, hQvoc6, lvoc6, yvoc6, zvoc6⟩, stvoc6⟩ := Jvm.LawKit.callS Xvo5 hx (y := (⟨"java/lang/StringUTF16", "toBytes", "(C)[B"⟩ : MethodName)) hown (mvT hZ (hw _ (List.mem_of_getElem? (i := 124) rfl))) (mvT hZ (hw _ (List.mem_of_getElem? (i := 125) rfl))) (mvT hZ (hw _ (List.mem_of_getElem? (i := 64) rfl))) (mvT hZ (hw _ (List.mem_of_getElem? (i := 126) rfl))) (by decide) (backOf (W := 2) (rmt2 l Z aa hw [] p0 wc sx hvo5 n0 Zvo5 BW Ovo5) hZ (hw _ (List.mem_of_getElem? (i := 126) rfl)) (hw _ (List.mem_of_getElem? (i := 64) rfl)) (by decide) (by decide)) (g := (mkF m 31 #[.val (.int p0)] [(.int p0), (.ref bvo5), (.ref bvo5)])) rfl (by rw [hml]; rfl) (argsL := [(.int p0)]) (rest := [(.ref bvo5), (.ref bvo5)]) (lenOf pdvo_1 rfl) rfl (by show 2 * 0 + _ ≤ _; exact Nat.le_of_eq rfl) (hb hby dvo_31) (fun _ _ => ⟨rfl, evo5, (by decide : 1 + 1 ≤ _), (by decide : 4 + 2 ≤ _)⟩)
    dsimp only [Pt.U, Pt.locs, Pt.cells, Pt.slots] at Xvoc6 lvoc6 yvoc6 zvoc6 stvoc6 hQvoc6
    subst lvoc6 yvoc6 zvoc6
    obtain ⟨bvoc6, kbvoc6, rfl, Nvoc6q, Kqvoc6, sz_bvoc6, V_bvoc6⟩ := hQvoc6
    have Nvoc6 := Fr.app Nvoc2 Nvoc6q
    obtain ⟨lcvot7, Xvoc6, Nvoc6⟩ : ∃ lc, Stand p l e ({ frames := 2, cells := 2, slots := 6, locals := 29 } : Room) s m #[(.int p0)] below meth c Tvoc6 lc 2 6 ∧ Fr n0 lc := ⟨_, Xvoc6, Nvoc6⟩
    obtain ⟨hvoc6, evoc6⟩ : ∃ h, Tvoc6.heap = h := ⟨_, rfl⟩
    rw [evoc6] at Kqvoc6 V_bvoc6
    have ne_bvo5_bvoc6 : bvo5 ≠ bvoc6 := Nat.ne_of_lt (Nat.lt_of_lt_of_le E_bvo5.lt sz_bvoc6)
    have g_bvoc6 : n0 ≤ bvoc6 := Nat.le_trans Zvo5 sz_bvoc6
    have sz_bvoc6 : h0.size ≤ bvoc6 := Nat.le_trans Kvo5.1 sz_bvoc6
    replace E_bvo5 := E_bvo5.keep Kqvoc6
    replace F_value_bvo5 := F_value_bvo5.keep Kqvoc6 nin0
    replace F_coder_bvo5 := F_coder_bvo5.keep Kqvoc6 nin0
    have KKvoc6 := Keep.trans Kvo5 Kqvoc6 all0
    have Zvoc6 := Nat.le_trans Zvo5 Kqvoc6.1
    have Ovoc6 := Ovo5.keep Kqvoc6 all0
    refine stp (fun t k => stvoc6 t k) ?_
    show W (Tvoc6.setTop (mkF m 34 #[.val (.int p0)] [(.ref bvoc6), (.ref bvo5), (.ref bvo5)]))
    refine stp (fun t k => XS.iconst Xvoc6.here hx rfl (hb hby dvo_34) k) ?_
    show W (Tvoc6.setTop (mkF m 35 #[.val (.int p0)] [(.int (1 : Int32)), (.ref bvoc6), (.ref bvo5), (.ref bvo5)]))
    obtain ⟨_, _, ⟨Tvoc8, Lvoc8, kvoc8, nvoc8⟩, -, Xvoc8, ⟨Lcvoc8, hQvoc8, lvoc8, yvoc8, zvoc8⟩, stvoc8⟩ := Xvoc6.specialBack hx (y := (⟨"java/lang/String", "<init>", "([BB)V"⟩ : MethodName)) rfl hown (mvT hZ (hw _ (List.mem_of_getElem? (i := 59) rfl))) (mvT hZ (hw _ (List.mem_of_getElem? (i := 60) rfl))) (mvT hZ (hw _ (List.mem_of_getElem? (i := 61) rfl))) (by decide) (backOf (W := 1) (rmib l Z aa hw [] bvo5 bvoc6 (1 : Int32) wc sx hvoc6 n0 Zvoc6 BW Ovoc6 E_bvo5 F_value_bvo5 F_coder_bvo5 g_bvo5) hZ (hw _ (List.mem_of_getElem? (i := 61) rfl)) (hw _ (List.mem_of_getElem? (i := 6) rfl)) (by decide) (by decide)) (g := (mkF m 35 #[.val (.int p0)] [(.int (1 : Int32)), (.ref bvoc6), (.ref bvo5), (.ref bvo5)])) rfl (by rw [hml]; rfl) (Steps.refl _) (a := bvo5) (argsL := [(.ref bvoc6), (.int (1 : Int32))]) (rest := [(.ref bvo5)]) (lenOf pdvo_2 rfl) rfl (by show 2 * 0 + _ ≤ _; exact Nat.le_of_eq rfl) (hb hby dvo_35) (fun _ _ => ⟨rfl, evoc6, (by decide : 2 + 0 ≤ _), (by decide : 6 + 0 ≤ _)⟩)
    dsimp only [Pt.U, Pt.locs, Pt.cells, Pt.slots] at Xvoc8 lvoc8 yvoc8 zvoc8 stvoc8 hQvoc8
    subst lvoc8 yvoc8 zvoc8
    obtain ⟨rfl, Nvoc8q, Kqvoc8, EEvoc8, FVvoc8, FCvoc8⟩ := hQvoc8
    have Nvoc8 := Fr.app Nvoc6 Nvoc8q
    obtain ⟨lcvot9, Xvoc8, Nvoc8⟩ : ∃ lc, Stand p l e ({ frames := 2, cells := 2, slots := 6, locals := 29 } : Room) s m #[(.int p0)] below meth c Tvoc8 lc 2 6 ∧ Fr n0 lc := ⟨_, Xvoc8, Nvoc8⟩
    obtain ⟨hvoc8, evoc8⟩ : ∃ h, Tvoc8.heap = h := ⟨_, rfl⟩
    rw [evoc8] at Kqvoc8 EEvoc8 FVvoc8 FCvoc8
    replace V_bvoc6 := V_bvoc6.keep Kqvoc8 (ninS (Ne.symm ne_bvo5_bvoc6) nin0)
    have KKvoc8 := Keep.trans KKvoc6 Kqvoc8 (allS (Or.inr sz_bvo5) all0)
    have Zvoc8 := Nat.le_trans Zvoc6 Kqvoc8.1
    have Ovoc8 := Ovoc6.keep Kqvoc8 (allS g_bvo5 all0)
    refine stp (fun t k => stvoc8.trans k) ?_
    show W (Tvoc8.setTop (mkF m 38 #[.val (.int p0)] [(.ref bvo5)]))
    show W (Tvoc8.setTop (mkF m 38 #[.val (.int p0)] [(.ref bvo5)]))
    rw [← hW]
    exact own_retR Xvoc8 hx Bd.notSynchronized Bd.returns rfl (hb hby dvo_38) (by show Qvo Z p0 wc sx h0 n0 _ Tvoc8.heap _; rw [evoc8]; exact ⟨bvo5, bvoc6, rfl, Nvoc8, KKvoc8, EEvoc8, FVvoc8, Or.inr ⟨own_fldEq (by decide) FCvoc8, _, V_bvoc6⟩⟩) (by decide) (by decide)
  · refine stp (fun t k => XS.ifNo Xvoc2.here hx rfl (hb hby dvo_10) rfl ((if0 _ _).trans (feq hcvo_4).1) k) ?_
    show W (Tvoc2.setTop (mkF m 13 #[.val (.int p0)] []))
    obtain ⟨Tvo10, hvo10, Xvo10, evo10, Evo10, Avo10, Dvo10, -, stvo10⟩ := newO Xvoc2 hx hZ hown (hw _ (List.mem_of_getElem? (i := 55) rfl)) (hw _ (List.mem_of_getElem? (i := 5) rfl)) (hw _ (List.mem_of_getElem? (i := 6) rfl)) evoc2 (g := (mkF m 13 #[.val (.int p0)] [])) rfl (hb hby dvo_13) (by decide) (by decide)
    obtain ⟨bvo10, gqvo10⟩ : ∃ z, z = h0.size := ⟨_, rfl⟩
    rw [← gqvo10] at Avo10 Dvo10 stvo10
    have g_bvo10 : n0 ≤ bvo10 := Nat.le_trans Z0 (Nat.le_of_eq gqvo10.symm)
    have sz_bvo10 : h0.size ≤ bvo10 := Nat.le_trans (Keep.refl h0 []).1 (Nat.le_of_eq gqvo10.symm)
    have Kvo10 := (Keep.refl h0 []).ext Evo10
    have Zvo10 := Nat.le_trans Z0 Evo10.1
    have Ovo10 := O0.ext Evo10
    have E_bvo10 := Avo10
    have F_value_bvo10 : Fld Z hvo10 bvo10 "java/lang/String" "value" "[B" .null := Dvo10 (Or.inr (hw _ (List.mem_of_getElem? (i := 20) rfl))) (ty := (.array .byte)) (by decide)
    have F_coder_bvo10 : Fld Z hvo10 bvo10 "java/lang/String" "coder" "B" (.int (0 : Int32)) := Dvo10 (Or.inr (hw _ (List.mem_of_getElem? (i := 21) rfl))) (ty := .byte) (by decide)
    refine stp (fun t k => stvo10 t k) ?_
    show W (Tvo10.setTop (mkF m 16 #[.val (.int p0)] [(.ref bvo10)]))
    refine stp (fun t k => XS.dup Xvo10.here hx rfl (hb hby dvo_16) rfl rfl k) ?_
    show W (Tvo10.setTop (mkF m 17 #[.val (.int p0)] [(.ref bvo10), (.ref bvo10)]))
    refine stp (fun t k => XS.iloadN Xvo10.here hx rfl (hb hby dvo_17) rfl k) ?_
    show W (Tvo10.setTop (mkF m 18 #[.val (.int p0)] [(.int p0), (.ref bvo10), (.ref bvo10)]))
    obtain ⟨_, _, ⟨Tvoc11, Lvoc11, kvoc11, nvoc11⟩, -, Xvoc11, ⟨Lcvoc11, hQvoc11, lvoc11, yvoc11, zvoc11⟩, stvoc11⟩ := Jvm.LawKit.callS Xvo10 hx (y := (⟨"java/lang/StringLatin1", "toBytes", "(C)[B"⟩ : MethodName)) hown (mvT hZ (hw _ (List.mem_of_getElem? (i := 56) rfl))) (mvT hZ (hw _ (List.mem_of_getElem? (i := 57) rfl))) (mvT hZ (hw _ (List.mem_of_getElem? (i := 53) rfl))) (mvT hZ (hw _ (List.mem_of_getElem? (i := 58) rfl))) (by decide) (backOf (W := 2) (rmt1 l Z aa hw [] p0 wc sx hvo10 n0 Zvo10 BW Ovo10) hZ (hw _ (List.mem_of_getElem? (i := 58) rfl)) (hw _ (List.mem_of_getElem? (i := 53) rfl)) (by decide) (by decide)) (g := (mkF m 18 #[.val (.int p0)] [(.int p0), (.ref bvo10), (.ref bvo10)])) rfl (by rw [hml]; rfl) (argsL := [(.int p0)]) (rest := [(.ref bvo10), (.ref bvo10)]) (lenOf pdvo_1 rfl) rfl (by show 2 * 0 + _ ≤ _; exact Nat.le_of_eq rfl) (hb hby dvo_18) (fun _ _ => ⟨rfl, evo10, (by decide : 1 + 1 ≤ _), (by decide : 4 + 1 ≤ _)⟩)
    dsimp only [Pt.U, Pt.locs, Pt.cells, Pt.slots] at Xvoc11 lvoc11 yvoc11 zvoc11 stvoc11 hQvoc11
    subst lvoc11 yvoc11 zvoc11
    obtain ⟨bvoc11, kbvoc11, rfl, Nvoc11q, Kqvoc11, sz_bvoc11, V_bvoc11⟩ := hQvoc11
    have Nvoc11 := Fr.app Nvoc2 Nvoc11q
    obtain ⟨lcvot12, Xvoc11, Nvoc11⟩ : ∃ lc, Stand p l e ({ frames := 2, cells := 2, slots := 6, locals := 29 } : Room) s m #[(.int p0)] below meth c Tvoc11 lc 2 5 ∧ Fr n0 lc := ⟨_, Xvoc11, Nvoc11⟩
    obtain ⟨hvoc11, evoc11⟩ : ∃ h, Tvoc11.heap = h := ⟨_, rfl⟩
    rw [evoc11] at Kqvoc11 V_bvoc11
    have ne_bvo10_bvoc11 : bvo10 ≠ bvoc11 := Nat.ne_of_lt (Nat.lt_of_lt_of_le E_bvo10.lt sz_bvoc11)
    have g_bvoc11 : n0 ≤ bvoc11 := Nat.le_trans Zvo10 sz_bvoc11
    have sz_bvoc11 : h0.size ≤ bvoc11 := Nat.le_trans Kvo10.1 sz_bvoc11
    replace E_bvo10 := E_bvo10.keep Kqvoc11
    replace F_value_bvo10 := F_value_bvo10.keep Kqvoc11 nin0
    replace F_coder_bvo10 := F_coder_bvo10.keep Kqvoc11 nin0
    have KKvoc11 := Keep.trans Kvo10 Kqvoc11 all0
    have Zvoc11 := Nat.le_trans Zvo10 Kqvoc11.1
    have Ovoc11 := Ovo10.keep Kqvoc11 all0
    refine stp (fun t k => stvoc11 t k) ?_
    show W (Tvoc11.setTop (mkF m 21 #[.val (.int p0)] [(.ref bvoc11), (.ref bvo10), (.ref bvo10)]))
    refine stp (fun t k => XS.iconst Xvoc11.here hx rfl (hb hby dvo_21) k) ?_
    show W (Tvoc11.setTop (mkF m 22 #[.val (.int p0)] [(.int (0 : Int32)), (.ref bvoc11), (.ref bvo10), (.ref bvo10)]))
    obtain ⟨_, _, ⟨Tvoc13, Lvoc13, kvoc13, nvoc13⟩, -, Xvoc13, ⟨Lcvoc13, hQvoc13, lvoc13, yvoc13, zvoc13⟩, stvoc13⟩ := Xvoc11.specialBack hx (y := (⟨"java/lang/String", "<init>", "([BB)V"⟩ : MethodName)) rfl hown (mvT hZ (hw _ (List.mem_of_getElem? (i := 59) rfl))) (mvT hZ (hw _ (List.mem_of_getElem? (i := 60) rfl))) (mvT hZ (hw _ (List.mem_of_getElem? (i := 61) rfl))) (by decide) (backOf (W := 1) (rmib l Z aa hw [] bvo10 bvoc11 (0 : Int32) wc sx hvoc11 n0 Zvoc11 BW Ovoc11 E_bvo10 F_value_bvo10 F_coder_bvo10 g_bvo10) hZ (hw _ (List.mem_of_getElem? (i := 61) rfl)) (hw _ (List.mem_of_getElem? (i := 6) rfl)) (by decide) (by decide)) (g := (mkF m 22 #[.val (.int p0)] [(.int (0 : Int32)), (.ref bvoc11), (.ref bvo10), (.ref bvo10)])) rfl (by rw [hml]; rfl) (Steps.refl _) (a := bvo10) (argsL := [(.ref bvoc11), (.int (0 : Int32))]) (rest := [(.ref bvo10)]) (lenOf pdvo_2 rfl) rfl (by show 2 * 0 + _ ≤ _; exact Nat.le_of_eq rfl) (hb hby dvo_22) (fun _ _ => ⟨rfl, evoc11, (by decide : 2 + 0 ≤ _), (by decide : 5 + 0 ≤ _)⟩)
    dsimp only [Pt.U, Pt.locs, Pt.cells, Pt.slots] at Xvoc13 lvoc13 yvoc13 zvoc13 stvoc13 hQvoc13
    subst lvoc13 yvoc13 zvoc13
    obtain ⟨rfl, Nvoc13q, Kqvoc13, EEvoc13, FVvoc13, FCvoc13⟩ := hQvoc13
    have Nvoc13 := Fr.app Nvoc11 Nvoc13q
    obtain ⟨lcvot14, Xvoc13, Nvoc13⟩ : ∃ lc, Stand p l e ({ frames := 2, cells := 2, slots := 6, locals := 29 } : Room) s m #[(.int p0)] below meth c Tvoc13 lc 2 5 ∧ Fr n0 lc := ⟨_, Xvoc13, Nvoc13⟩
    obtain ⟨hvoc13, evoc13⟩ : ∃ h, Tvoc13.heap = h := ⟨_, rfl⟩
    rw [evoc13] at Kqvoc13 EEvoc13 FVvoc13 FCvoc13
    replace V_bvoc11 := V_bvoc11.keep Kqvoc13 (ninS (Ne.symm ne_bvo10_bvoc11) nin0)
    have KKvoc13 := Keep.trans KKvoc11 Kqvoc13 (allS (Or.inr sz_bvo10) all0)
    have Zvoc13 := Nat.le_trans Zvoc11 Kqvoc13.1
    have Ovoc13 := Ovoc11.keep Kqvoc13 (allS g_bvo10 all0)
    refine stp (fun t k => stvoc13.trans k) ?_
    show W (Tvoc13.setTop (mkF m 25 #[.val (.int p0)] [(.ref bvo10)]))
    show W (Tvoc13.setTop (mkF m 25 #[.val (.int p0)] [(.ref bvo10)]))
    rw [← hW]
    exact own_retR Xvoc13 hx Bd.notSynchronized Bd.returns rfl (hb hby dvo_25) (by show Qvo Z p0 wc sx h0 n0 _ Tvoc13.heap _; rw [evoc13]; exact ⟨bvo10, bvoc11, rfl, Nvoc13, KKvoc13, EEvoc13, FVvoc13, Or.inl ⟨own_fldEq (by decide) FCvoc13, (fun j hj => own_ce hcvo_4), _, V_bvoc11⟩⟩) (by decide) (by decide)
theorem own_arv0 {Z : State} {h : Heap} {b : Addr} {k : ClassId} {d : Value} (V : Arv Z h b k .byte (0 : Int32) [] d) (f : Nat → Int32) : Arv Z h b k .byte (Int32.ofNat 0) (own_vs 0 f) d := V
theorem own_strEq {Z : State} {h : Heap} {a b : Addr} {n n' : Nat} {g : Nat → Int32} (e : n = n') (S : OwnStr Z h a b n g) : OwnStr Z h a b n' g := e ▸ S
theorem own_nOf {p c : Int32} {n k : Nat} (hp : p.toInt = (n : Int)) (hc : p = c) (e : c.toInt = (k : Int)) : k = n := by
  subst hc
  omega
theorem own_toI {p : Int32} {c : Int32} (h : ¬ p = c) : p.toInt ≠ c.toInt := fun q => h (Int32.toInt_inj.mp q)
theorem own_n4 {p : Int32} {n : Nat} (hp : p.toInt = (n : Int)) (hn : n ≤ 4) (h0 : ¬ p = (0 : Int32)) (h1 : ¬ p = (1 : Int32)) (h2 : ¬ p = (2 : Int32)) (h3 : ¬ p = (3 : Int32)) : 4 = n := by
  have a0 := own_toI h0
  have a1 := own_toI h1
  have a2 := own_toI h2
  have a3 := own_toI h3
  rw [show (0 : Int32).toInt = 0 from by decide] at a0
  rw [show (1 : Int32).toInt = 1 from by decide] at a1
  rw [show (2 : Int32).toInt = 2 from by decide] at a2
  rw [show (3 : Int32).toInt = 3 from by decide] at a3
  omega
theorem di2z_0 : decode jdk_42_method_149_code 0 = .ok (.aload_n 0, 1) := by decide +kernel
theorem di2z_1 : decode jdk_42_method_149_code 1 = .ok (.invokespecial 1, 3) := by decide +kernel
theorem di2z_4 : decode jdk_42_method_149_code 4 = .ok (.iload_n 3, 1) := by decide +kernel
theorem di2z_5 : decode jdk_42_method_149_code 5 = .ok (.ifCond .ne 22, 3) := by decide +kernel
theorem di2z_8 : decode jdk_42_method_149_code 8 = .ok (.aload_n 0, 1) := by decide +kernel
theorem di2z_9 : decode jdk_42_method_149_code 9 = .ok (.ldc 7, 2) := by decide +kernel
theorem di2z_11 : decode jdk_42_method_149_code 11 = .ok (.getfield 9, 3) := by decide +kernel
theorem di2z_14 : decode jdk_42_method_149_code 14 = .ok (.putfield 9, 3) := by decide +kernel
theorem di2z_17 : decode jdk_42_method_149_code 17 = .ok (.aload_n 0, 1) := by decide +kernel
theorem di2z_18 : decode jdk_42_method_149_code 18 = .ok (.ldc 7, 2) := by decide +kernel
theorem di2z_20 : decode jdk_42_method_149_code 20 = .ok (.getfield 15, 3) := by decide +kernel
theorem di2z_23 : decode jdk_42_method_149_code 23 = .ok (.putfield 15, 3) := by decide +kernel
theorem di2z_26 : decode jdk_42_method_149_code 26 = .ok (.return_, 1) := by decide +kernel
theorem pni2z : plainName "java/lang/String" = true := by first | (simp [plainName, overriddenIn]; done) | decide +kernel
theorem efi2z (m : MethodId) (a0 : Addr) (a1 : Addr) (p2 : Int32) (p3 : Int32) : entryFrame m #[(.ref a0), (.ref a1), (.int p2), (.int p3), .null] 6 = mkF m 0 #[.val (.ref a0), .val (.ref a1), .val (.int p2), .val (.int p3), .val .null, .unset] [] := by first | (simp [entryFrame, mkF, argsToLocals, Value.category]; done) | rfl
def Qi2z (Z : State) (a0 : Addr) (a1 : Addr) (p2 : Int32) (p3 : Int32) (wc : Int32) (sx : Value) (g : Nat → Int32) (h0 : Heap) (n0 : Nat) (v : Option Value) (h : Heap) (L : List Loc) : Prop := v = none ∧ Fr n0 L ∧ Keep h0 h [a0] ∧ ∃ b : Addr, OwnStr Z h a0 b 0 g
set_option maxRecDepth 65536 in
set_option maxHeartbeats 40000000 in
theorem rmi2z (l : Launch) (Z : State) (aa : Array Value) (hw : ∀ d ∈ tables_1, d.before aa Z = true) (ws : List Jvm.Cond) (a0 : Addr) (a1 : Addr) (p2 : Int32) (p3 : Int32) (wc : Int32) (sx : Value) (g : Nat → Int32) (h0 : Heap) (n0 : Nat) (Z0 : n0 ≤ h0.size) (BW : OwnW Z wc sx) (O0 : Old Z n0 h0) (E_a0 : Exa Z h0 a0 "java/lang/String") (F_value_a0 : Fld Z h0 a0 "java/lang/String" "value" "[B" .null) (F_coder_a0 : Fld Z h0 a0 "java/lang/String" "coder" "B" (.int (0 : Int32))) (g_a0 : n0 ≤ a0) (hp3 : p3 = (0 : Int32)) :
    MetFree l (⟨"java/lang/String", "<init>", "([CIILjava/lang/Void;)V"⟩ : MethodName) (head1 (Jvm.Cond.code (⟨"java/lang/String", "<init>", "([CIILjava/lang/Void;)V"⟩ : MethodName) jdk_42_method_149_code 6 none :: ws) ({ frames := 1, cells := 4, slots := 8, locals := 12 } : Room)) (fun a U => a = #[(.ref a0), (.ref a1), (.int p2), (.int p3), .null] ∧ Z.Warmed39 U.vm ∧ U.heap = h0 ∧ CHv Z ownEL U.vm h0) (fun _ _ _ _ _ => True) (fun _ U o U' => ∃ v L, o = .returned v ∧ Qi2z Z a0 a1 p2 p3 wc sx g h0 n0 v U'.heap L ∧ CHr Z ownEL U.vm U.heap U'.vm U'.heap ∧ ReturnedEndW U o U' L ({ frames := 1, cells := 4, slots := 8, locals := 12 } : Room).cells ({ frames := 1, cells := 4, slots := 8, locals := 12 } : Room).slots) := by
  refine MetFree.of_bodySF (plainFor_of_name pni2z) hisR ?_
  intro p e s m args below meth c s₁ Bd hml0 hP hK
  obtain ⟨rfl, hZ, hh, hH⟩ := hP
  have hx := Bd.exec
  have hby := Bd.bytes
  have hml : c.maxLocals = 6 := hml0
  have hown : s.vm.findClass "java/lang/String" = some m.cls := findClass_of_methodNamed Bd.named
  have hnm := (name_of_methodNamed Bd.named Bd.method).1
  have X0 : Stand p l e ({ frames := 1, cells := 4, slots := 8, locals := 12 } : Room) s m #[(.ref a0), (.ref a1), (.int p2), (.int p3), .null] below meth c s₁ [] 0 0 := Stand.of_body Bd
  have e0 : s₁.heap = h0 := by rw [← hh, Bd.state]; rfl
  have N0 := Fr.nil n0
  have hEL := own_EW hw
  obtain ⟨vm0, X0, CC, hZ, hown⟩ : ∃ vm, Stand p l e ({ frames := 1, cells := 4, slots := 8, locals := 12 } : Room) (s.setVm vm) m #[(.ref a0), (.ref a1), (.int p2), (.int p3), .null] below meth c s₁ [] 0 0 ∧ OwnC Z ownEL s vm h0 ∧ Z.Warmed39 (s.setVm vm).vm ∧ (s.setVm vm).vm.findClass "java/lang/String" = some m.cls := ⟨s.vm, X0, OwnC.start hh hH, hZ, hown⟩
  show OwnEndW Z ownEL p e below s (fun v h L => Qi2z Z a0 a1 p2 p3 wc sx g h0 n0 v h L) ({ frames := 1, cells := 4, slots := 8, locals := 12 } : Room).cells ({ frames := 1, cells := 4, slots := 8, locals := 12 } : Room).slots (s₁.setTop (entryFrame m #[(.ref a0), (.ref a1), (.int p2), (.int p3), .null] 6))
  rw [efi2z m a0 a1 p2 p3]
  generalize hW : OwnEndW Z ownEL p e below s (fun v h L => Qi2z Z a0 a1 p2 p3 wc sx g h0 n0 v h L) ({ frames := 1, cells := 4, slots := 8, locals := 12 } : Room).cells ({ frames := 1, cells := 4, slots := 8, locals := 12 } : Room).slots = W
  have stp : ∀ {A B : State}, (∀ t, Steps p.tables e below B t → Steps p.tables e below A t) → W B → W A := by subst hW; exact own_stepW
  obtain ⟨S_cs, hcs, S_si, hr_sx, S_ad, S_hi, S_lo⟩ := id BW
  subst hp3
  have SF_a0 : Safe Z ownEL vm0 h0 a0 := own_safeNull hZ.alike E_a0 F_value_a0
  show W (s₁.setTop (mkF m 0 #[.val (.ref a0), .val (.ref a1), .val (.int p2), .val (.int (0 : Int32)), .val .null, .unset] []))
  refine stp (fun t k => XS.aloadN X0.here hx rfl (hb hby di2z_0) rfl rfl k) ?_
  show W (s₁.setTop (mkF m 1 #[.val (.ref a0), .val (.ref a1), .val (.int p2), .val (.int (0 : Int32)), .val .null, .unset] [(.ref a0)]))
  obtain ⟨T1, X1, e1, st1⟩ := initO X0 hx hZ hown (hw _ (List.mem_of_getElem? (i := 15) rfl)) (hw _ (List.mem_of_getElem? (i := 16) rfl)) (hw _ (List.mem_of_getElem? (i := 17) rfl)) e0 (g := (mkF m 1 #[.val (.ref a0), .val (.ref a1), .val (.int p2), .val (.int (0 : Int32)), .val .null, .unset] [(.ref a0)])) rfl (by rw [hml]; rfl) rfl (hb hby di2z_1) (by decide) (W := 0) (by show 2 * 0 + _ ≤ _; exact Nat.le_of_eq rfl) (by decide)
  refine stp (fun t k => st1 t k) ?_
  show W (T1.setTop (mkF m 4 #[.val (.ref a0), .val (.ref a1), .val (.int p2), .val (.int (0 : Int32)), .val .null, .unset] []))
  refine stp (fun t k => XS.iloadN X1.here hx rfl (hb hby di2z_4) rfl k) ?_
  show W (T1.setTop (mkF m 5 #[.val (.ref a0), .val (.ref a1), .val (.int p2), .val (.int (0 : Int32)), .val .null, .unset] [(.int (0 : Int32))]))
  refine stp (fun t k => XS.ifNo X1.here hx rfl (hb hby di2z_5) rfl ((if0 _ _).trans (teq (rfl)).2) k) ?_
  show W (T1.setTop (mkF m 8 #[.val (.ref a0), .val (.ref a1), .val (.int p2), .val (.int (0 : Int32)), .val .null, .unset] []))
  refine stp (fun t k => XS.aloadN X1.here hx rfl (hb hby di2z_8) rfl rfl k) ?_
  show W (T1.setTop (mkF m 9 #[.val (.ref a0), .val (.ref a1), .val (.int p2), .val (.int (0 : Int32)), .val .null, .unset] [(.ref a0)]))
  obtain ⟨kki2zk2, hSai2zk2, hkai2zk2⟩ := CC.1
  obtain ⟨bi2zk2a, Ti2zk2, hi2zk2, ji2zk2, bi2zk2b, ki2zk2, Xi2zk2, ei2zk2, Ei2zk2, hSi2zk2, hki2zk2, hZi2zk2, howni2zk2, E_bi2zk2a, F_coder_bi2zk2a, F_value_bi2zk2a, V_bi2zk2b, -, -, hCi2zk2, -, -, sti2zk2⟩ := ldcCH X1 hx hZ hown (hw _ (List.mem_of_getElem? (i := 18) rfl)) (own_wS hw) e1 hSai2zk2 hkai2zk2 hEL (by decide) CC.2.1 (vs := []) (z := (0 : Int32)) (by decide) (by decide) rfl (g := (mkF m 9 #[.val (.ref a0), .val (.ref a1), .val (.int p2), .val (.int (0 : Int32)), .val .null, .unset] [(.ref a0)])) rfl (hb hby di2z_9) (n := 0) (by decide) (by decide) (by decide) (by decide)
  replace SF_a0 := CHr.safe hCi2zk2 E_a0.lt SF_a0
  obtain ⟨vmi2zk2, Xi2zk2, CCi2zk2, hZ, hown⟩ : ∃ vm, Stand p l e ({ frames := 1, cells := 4, slots := 8, locals := 12 } : Room) (s.setVm vm) m #[(.ref a0), (.ref a1), (.int p2), (.int (0 : Int32)), .null] below meth c Ti2zk2 _ 2 4 ∧ (OwnC Z ownEL s vm hi2zk2 ∧ Safe Z ownEL vm hi2zk2 a0) ∧ Z.Warmed39 (s.setVm vm).vm ∧ (s.setVm vm).vm.findClass "java/lang/String" = some m.cls := ⟨_, Xi2zk2, ⟨⟨⟨_, hSi2zk2, hki2zk2⟩, CC.2.trans hCi2zk2⟩, SF_a0⟩, hZi2zk2, howni2zk2⟩
  obtain ⟨CCi2zk2, SF_a0⟩ := CCi2zk2
  replace CC := CCi2zk2
  replace E_a0 := E_a0.ext Ei2zk2
  replace F_value_a0 := F_value_a0.ext Ei2zk2
  replace F_coder_a0 := F_coder_a0.ext Ei2zk2
  have Ki2zk2 := (Keep.refl h0 [a0]).ext Ei2zk2
  have Zi2zk2 := Nat.le_trans Z0 Ei2zk2.1
  have Oi2zk2 := O0.ext Ei2zk2
  have ne_a0_bi2zk2b : a0 ≠ bi2zk2b := Exa.neArv E_a0 V_bi2zk2b (hw _ (List.mem_of_getElem? (i := 5) rfl))
  refine stp (fun t k => sti2zk2 t k) ?_
  show W (Ti2zk2.setTop (mkF m 11 #[.val (.ref a0), .val (.ref a1), .val (.int p2), .val (.int (0 : Int32)), .val .null, .unset] [(.ref bi2zk2a), (.ref a0)]))
  obtain ⟨Ti2z3, Xi2z3, ei2z3, sti2z3⟩ := getF Xi2zk2 hx hZ hown (host := "") (Or.inl (hw _ (List.mem_of_getElem? (i := 24) rfl))) Via.refl ei2zk2 F_value_bi2zk2a (g := (mkF m 11 #[.val (.ref a0), .val (.ref a1), .val (.int p2), .val (.int (0 : Int32)), .val .null, .unset] [(.ref bi2zk2a), (.ref a0)])) rfl rfl (hb hby di2z_11)
  refine stp (fun t k => sti2z3 t k) ?_
  show W (Ti2z3.setTop (mkF m 14 #[.val (.ref a0), .val (.ref a1), .val (.int p2), .val (.int (0 : Int32)), .val .null, .unset] [(.ref bi2zk2b), (.ref a0)]))
  obtain ⟨Ti2z4, hi2z4, Xi2z4, ei2z4, Wi2z4, sti2z4⟩ := putF Xi2z3 hx hZ hown (host := "") (Or.inl (hw _ (List.mem_of_getElem? (i := 24) rfl))) Via.refl ei2z3 F_value_a0 E_a0 (Or.inr ⟨(hw _ (List.mem_of_getElem? (i := 20) rfl)), rfl, hnm⟩) (hw _ (List.mem_of_getElem? (i := 5) rfl)) (ty := (.array .byte)) (by decide) rfl rfl (g := (mkF m 14 #[.val (.ref a0), .val (.ref a1), .val (.int p2), .val (.int (0 : Int32)), .val .null, .unset] [(.ref bi2zk2b), (.ref a0)])) rfl rfl (hb hby di2z_14)
  have Ni2z4 := Fr.snoc Xi2z4 N0 g_a0
  have F_value_a0x := F_value_a0.same Wi2z4
  obtain ⟨lci2zt5, Xi2z4, Ni2z4⟩ : ∃ lc, Stand p l e ({ frames := 1, cells := 4, slots := 8, locals := 12 } : Room) (s.setVm vmi2zk2) m #[(.ref a0), (.ref a1), (.int p2), (.int (0 : Int32)), .null] below meth c Ti2z4 lc 2 4 ∧ Fr n0 lc := ⟨_, Xi2z4, Ni2z4⟩
  have SFw : Safe Z ownEL vmi2zk2 _ a0 := SF_a0
  replace SF_a0 := Safe.wr Wi2z4 SFw CC.2.1 SF_a0
  replace CC := CC.wr Wi2z4 SFw
  clear SFw
  replace E_a0 := E_a0.wr Wi2z4
  replace F_coder_a0 := F_coder_a0.other Wi2z4 (Or.inr (slot_ne (Or.inr (hw _ (List.mem_of_getElem? (i := 21) rfl))) (Or.inr (hw _ (List.mem_of_getElem? (i := 20) rfl))) (by decide) (t := .byte) (t' := (.array .byte)) (by decide) (by decide)))
  replace V_bi2zk2b := V_bi2zk2b.other Wi2z4 (Ne.symm ne_a0_bi2zk2b)
  have Ki2z4 := Ki2zk2.wr Wi2z4 (Or.inl (List.mem_of_getElem? (i := 0) rfl))
  have Zi2z4 := Nat.le_trans Zi2zk2 (Keep.of_wr Wi2z4).1
  have Oi2z4 := Oi2zk2.wr Wi2z4 g_a0
  replace F_value_a0 := F_value_a0x
  clear F_value_a0x
  refine stp (fun t k => sti2z4 t k) ?_
  show W (Ti2z4.setTop (mkF m 17 #[.val (.ref a0), .val (.ref a1), .val (.int p2), .val (.int (0 : Int32)), .val .null, .unset] []))
  refine stp (fun t k => XS.aloadN Xi2z4.here hx rfl (hb hby di2z_17) rfl rfl k) ?_
  show W (Ti2z4.setTop (mkF m 18 #[.val (.ref a0), .val (.ref a1), .val (.int p2), .val (.int (0 : Int32)), .val .null, .unset] [(.ref a0)]))
  obtain ⟨kki2zk6, hSai2zk6, hkai2zk6⟩ := CC.1
  obtain ⟨bi2zk6a, Ti2zk6, hi2zk6, ji2zk6, bi2zk6b, ki2zk6, Xi2zk6, ei2zk6, Ei2zk6, hSi2zk6, hki2zk6, hZi2zk6, howni2zk6, E_bi2zk6a, F_coder_bi2zk6a, F_value_bi2zk6a, V_bi2zk6b, -, -, hCi2zk6, -, -, sti2zk6⟩ := ldcCH Xi2z4 hx hZ hown (hw _ (List.mem_of_getElem? (i := 18) rfl)) (own_wS hw) ei2z4 hSai2zk6 hkai2zk6 hEL (by decide) CC.2.1 (vs := []) (z := (0 : Int32)) (by decide) (by decide) rfl (g := (mkF m 18 #[.val (.ref a0), .val (.ref a1), .val (.int p2), .val (.int (0 : Int32)), .val .null, .unset] [(.ref a0)])) rfl (hb hby di2z_18) (n := 0) (by decide) (by decide) (by decide) (by decide)
  replace SF_a0 := CHr.safe hCi2zk6 E_a0.lt SF_a0
  obtain ⟨vmi2zk6, Xi2zk6, CCi2zk6, hZ, hown⟩ : ∃ vm, Stand p l e ({ frames := 1, cells := 4, slots := 8, locals := 12 } : Room) (s.setVm vm) m #[(.ref a0), (.ref a1), (.int p2), (.int (0 : Int32)), .null] below meth c Ti2zk6 _ 4 8 ∧ (OwnC Z ownEL s vm hi2zk6 ∧ Safe Z ownEL vm hi2zk6 a0) ∧ Z.Warmed39 (s.setVm vm).vm ∧ (s.setVm vm).vm.findClass "java/lang/String" = some m.cls := ⟨_, Xi2zk6, ⟨⟨⟨_, hSi2zk6, hki2zk6⟩, CC.2.trans hCi2zk6⟩, SF_a0⟩, hZi2zk6, howni2zk6⟩
  obtain ⟨CCi2zk6, SF_a0⟩ := CCi2zk6
  replace CC := CCi2zk6
  replace E_a0 := E_a0.ext Ei2zk6
  replace F_value_a0 := F_value_a0.ext Ei2zk6
  replace F_coder_a0 := F_coder_a0.ext Ei2zk6
  replace V_bi2zk2b := V_bi2zk2b.ext Ei2zk6
  have Ki2zk6 := Ki2z4.ext Ei2zk6
  have Zi2zk6 := Nat.le_trans Zi2z4 Ei2zk6.1
  have Oi2zk6 := Oi2z4.ext Ei2zk6
  have ne_a0_bi2zk6b : a0 ≠ bi2zk6b := Exa.neArv E_a0 V_bi2zk6b (hw _ (List.mem_of_getElem? (i := 5) rfl))
  refine stp (fun t k => sti2zk6 t k) ?_
  show W (Ti2zk6.setTop (mkF m 20 #[.val (.ref a0), .val (.ref a1), .val (.int p2), .val (.int (0 : Int32)), .val .null, .unset] [(.ref bi2zk6a), (.ref a0)]))
  obtain ⟨Ti2z7, Xi2z7, ei2z7, sti2z7⟩ := getF Xi2zk6 hx hZ hown (host := "") (Or.inl (hw _ (List.mem_of_getElem? (i := 25) rfl))) Via.refl ei2zk6 F_coder_bi2zk6a (g := (mkF m 20 #[.val (.ref a0), .val (.ref a1), .val (.int p2), .val (.int (0 : Int32)), .val .null, .unset] [(.ref bi2zk6a), (.ref a0)])) rfl rfl (hb hby di2z_20)
  refine stp (fun t k => sti2z7 t k) ?_
  show W (Ti2z7.setTop (mkF m 23 #[.val (.ref a0), .val (.ref a1), .val (.int p2), .val (.int (0 : Int32)), .val .null, .unset] [(.int (0 : Int32)), (.ref a0)]))
  obtain ⟨Ti2z8, hi2z8, Xi2z8, ei2z8, Wi2z8, sti2z8⟩ := putFN Xi2z7 hx hZ hown (hw _ (List.mem_of_getElem? (i := 25) rfl)) Via.refl ei2z7 F_coder_a0 E_a0 (Or.inr ⟨(hw _ (List.mem_of_getElem? (i := 21) rfl)), rfl, hnm⟩) (hw _ (List.mem_of_getElem? (i := 5) rfl)) (ty := .byte) (v' := (.int (nar .byte (0 : Int32)))) (by decide) rfl (fits_nar_byte _) (g := (mkF m 23 #[.val (.ref a0), .val (.ref a1), .val (.int p2), .val (.int (0 : Int32)), .val .null, .unset] [(.int (0 : Int32)), (.ref a0)])) rfl rfl (hb hby di2z_23)
  have Ni2z8 := Fr.snoc Xi2z8 Ni2z4 g_a0
  have F_coder_a0x := F_coder_a0.same Wi2z8
  obtain ⟨lci2zt9, Xi2z8, Ni2z8⟩ : ∃ lc, Stand p l e ({ frames := 1, cells := 4, slots := 8, locals := 12 } : Room) (s.setVm vmi2zk6) m #[(.ref a0), (.ref a1), (.int p2), (.int (0 : Int32)), .null] below meth c Ti2z8 lc 4 8 ∧ Fr n0 lc := ⟨_, Xi2z8, Ni2z8⟩
  have SFw : Safe Z ownEL vmi2zk6 _ a0 := SF_a0
  replace SF_a0 := Safe.wr Wi2z8 SFw CC.2.1 SF_a0
  replace CC := CC.wr Wi2z8 SFw
  clear SFw
  replace E_a0 := E_a0.wr Wi2z8
  replace F_value_a0 := F_value_a0.other Wi2z8 (Or.inr (slot_ne (Or.inr (hw _ (List.mem_of_getElem? (i := 20) rfl))) (Or.inr (hw _ (List.mem_of_getElem? (i := 21) rfl))) (by decide) (t := (.array .byte)) (t' := .byte) (by decide) (by decide)))
  replace V_bi2zk2b := V_bi2zk2b.other Wi2z8 (Ne.symm ne_a0_bi2zk2b)
  replace V_bi2zk6b := V_bi2zk6b.other Wi2z8 (Ne.symm ne_a0_bi2zk6b)
  have Ki2z8 := Ki2zk6.wr Wi2z8 (Or.inl (List.mem_of_getElem? (i := 0) rfl))
  have Zi2z8 := Nat.le_trans Zi2zk6 (Keep.of_wr Wi2z8).1
  have Oi2z8 := Oi2zk6.wr Wi2z8 g_a0
  replace F_coder_a0 := F_coder_a0x
  clear F_coder_a0x
  refine stp (fun t k => sti2z8 t k) ?_
  show W (Ti2z8.setTop (mkF m 26 #[.val (.ref a0), .val (.ref a1), .val (.int p2), .val (.int (0 : Int32)), .val .null, .unset] []))
  show W (Ti2z8.setTop (mkF m 26 #[.val (.ref a0), .val (.ref a1), .val (.int p2), .val (.int (0 : Int32)), .val .null, .unset] []))
  rw [← hW]
  exact own_W hZ hEL CC (own_ret0 Xi2z8 hx Bd.notSynchronized Bd.returns (hb hby di2z_26) (by show Qi2z Z a0 a1 p2 (0 : Int32) wc sx g h0 n0 _ Ti2z8.heap _ ∧ Ti2z8.heap = hi2z8; rw [ei2z8]; exact ⟨⟨rfl, Ni2z8, Ki2z8, bi2zk2b, E_a0, F_value_a0, Or.inl ⟨own_fldEq (by decide) F_coder_a0, (fun j hj => absurd hj (Nat.not_lt_zero _)), _, own_arv0 V_bi2zk2b _⟩⟩, rfl⟩) (by decide) (by decide))
theorem di1z_0 : decode jdk_42_method_3_code 0 = .ok (.aload_n 0, 1) := by decide +kernel
theorem di1z_1 : decode jdk_42_method_3_code 1 = .ok (.aload_n 1, 1) := by decide +kernel
theorem di1z_2 : decode jdk_42_method_3_code 2 = .ok (.iconst 0, 1) := by decide +kernel
theorem di1z_3 : decode jdk_42_method_3_code 3 = .ok (.aload_n 1, 1) := by decide +kernel
theorem di1z_4 : decode jdk_42_method_3_code 4 = .ok (.arraylength, 1) := by decide +kernel
theorem di1z_5 : decode jdk_42_method_3_code 5 = .ok (.aconst_null, 1) := by decide +kernel
theorem di1z_6 : decode jdk_42_method_3_code 6 = .ok (.invokespecial 27, 3) := by decide +kernel
theorem di1z_9 : decode jdk_42_method_3_code 9 = .ok (.return_, 1) := by decide +kernel
theorem pni1z : plainName "java/lang/String" = true := by first | (simp [plainName, overriddenIn]; done) | decide +kernel
theorem pdi1z_0 : parseMethodDescriptor "([CIILjava/lang/Void;)V" = some ⟨[(.array .char), .int, .int, (.object "java/lang/Void")], none⟩ := by decide +kernel
theorem efi1z (m : MethodId) (a0 : Addr) (a1 : Addr) : entryFrame m #[(.ref a0), (.ref a1)] 2 = mkF m 0 #[.val (.ref a0), .val (.ref a1)] [] := by first | (simp [entryFrame, mkF, argsToLocals, Value.category]; done) | rfl
def Qi1z (Z : State) (a0 : Addr) (a1 : Addr) (wc : Int32) (sx : Value) (g : Nat → Int32) (ka : ClassId) (vs : List Value) (h0 : Heap) (n0 : Nat) (v : Option Value) (h : Heap) (L : List Loc) : Prop := v = none ∧ Fr n0 L ∧ Keep h0 h [a0] ∧ ∃ b : Addr, OwnStr Z h a0 b 0 g
set_option maxRecDepth 65536 in
set_option maxHeartbeats 40000000 in
theorem rmi1z (l : Launch) (Z : State) (aa : Array Value) (hw : ∀ d ∈ tables_1, d.before aa Z = true) (ws : List Jvm.Cond) (a0 : Addr) (a1 : Addr) (wc : Int32) (sx : Value) (g : Nat → Int32) (ka : ClassId) (vs : List Value) (h0 : Heap) (n0 : Nat) (Z0 : n0 ≤ h0.size) (BW : OwnW Z wc sx) (O0 : Old Z n0 h0) (E_a0 : Exa Z h0 a0 "java/lang/String") (F_value_a0 : Fld Z h0 a0 "java/lang/String" "value" "[B" .null) (F_coder_a0 : Fld Z h0 a0 "java/lang/String" "coder" "B" (.int (0 : Int32))) (g_a0 : n0 ≤ a0) (V_a1 : Arv Z h0 a1 ka .char (0 : Int32) vs (.int (0 : Int32))) :
    MetFree l (⟨"java/lang/String", "<init>", "([C)V"⟩ : MethodName) (head1 (Jvm.Cond.code (⟨"java/lang/String", "<init>", "([C)V"⟩ : MethodName) jdk_42_method_3_code 2 none :: ws) ({ frames := 2, cells := 4, slots := 8, locals := 29 } : Room)) (fun a U => a = #[(.ref a0), (.ref a1)] ∧ Z.Warmed39 U.vm ∧ U.heap = h0 ∧ CHv Z ownEL U.vm h0) (fun _ _ _ _ _ => True) (fun _ U o U' => ∃ v L, o = .returned v ∧ Qi1z Z a0 a1 wc sx g ka vs h0 n0 v U'.heap L ∧ CHr Z ownEL U.vm U.heap U'.vm U'.heap ∧ ReturnedEndW U o U' L ({ frames := 2, cells := 4, slots := 8, locals := 29 } : Room).cells ({ frames := 2, cells := 4, slots := 8, locals := 29 } : Room).slots) := by
  refine MetFree.of_bodySF (plainFor_of_name pni1z) hisR ?_
  intro p e s m args below meth c s₁ Bd hml0 hP hK
  obtain ⟨rfl, hZ, hh, hH⟩ := hP
  have hx := Bd.exec
  have hby := Bd.bytes
  have hml : c.maxLocals = 2 := hml0
  have hown : s.vm.findClass "java/lang/String" = some m.cls := findClass_of_methodNamed Bd.named
  have hnm := (name_of_methodNamed Bd.named Bd.method).1
  have X0 : Stand p l e ({ frames := 2, cells := 4, slots := 8, locals := 29 } : Room) s m #[(.ref a0), (.ref a1)] below meth c s₁ [] 0 0 := Stand.of_body Bd
  have e0 : s₁.heap = h0 := by rw [← hh, Bd.state]; rfl
  have N0 := Fr.nil n0
  have hEL := own_EW hw
  obtain ⟨vm0, X0, CC, hZ, hown⟩ : ∃ vm, Stand p l e ({ frames := 2, cells := 4, slots := 8, locals := 29 } : Room) (s.setVm vm) m #[(.ref a0), (.ref a1)] below meth c s₁ [] 0 0 ∧ OwnC Z ownEL s vm h0 ∧ Z.Warmed39 (s.setVm vm).vm ∧ (s.setVm vm).vm.findClass "java/lang/String" = some m.cls := ⟨s.vm, X0, OwnC.start hh hH, hZ, hown⟩
  show OwnEndW Z ownEL p e below s (fun v h L => Qi1z Z a0 a1 wc sx g ka vs h0 n0 v h L) ({ frames := 2, cells := 4, slots := 8, locals := 29 } : Room).cells ({ frames := 2, cells := 4, slots := 8, locals := 29 } : Room).slots (s₁.setTop (entryFrame m #[(.ref a0), (.ref a1)] 2))
  rw [efi1z m a0 a1]
  generalize hW : OwnEndW Z ownEL p e below s (fun v h L => Qi1z Z a0 a1 wc sx g ka vs h0 n0 v h L) ({ frames := 2, cells := 4, slots := 8, locals := 29 } : Room).cells ({ frames := 2, cells := 4, slots := 8, locals := 29 } : Room).slots = W
  have stp : ∀ {A B : State}, (∀ t, Steps p.tables e below B t → Steps p.tables e below A t) → W B → W A := by subst hW; exact own_stepW
  obtain ⟨S_cs, hcs, S_si, hr_sx, S_ad, S_hi, S_lo⟩ := id BW
  show W (s₁.setTop (mkF m 0 #[.val (.ref a0), .val (.ref a1)] []))
  refine stp (fun t k => XS.aloadN X0.here hx rfl (hb hby di1z_0) rfl rfl k) ?_
  show W (s₁.setTop (mkF m 1 #[.val (.ref a0), .val (.ref a1)] [(.ref a0)]))
  refine stp (fun t k => XS.aloadN X0.here hx rfl (hb hby di1z_1) rfl rfl k) ?_
  show W (s₁.setTop (mkF m 2 #[.val (.ref a0), .val (.ref a1)] [(.ref a1), (.ref a0)]))
  refine stp (fun t k => XS.iconst X0.here hx rfl (hb hby di1z_2) k) ?_
  show W (s₁.setTop (mkF m 3 #[.val (.ref a0), .val (.ref a1)] [(.int (0 : Int32)), (.ref a1), (.ref a0)]))
  refine stp (fun t k => XS.aloadN X0.here hx rfl (hb hby di1z_3) rfl rfl k) ?_
  show W (s₁.setTop (mkF m 4 #[.val (.ref a0), .val (.ref a1)] [(.ref a1), (.int (0 : Int32)), (.ref a1), (.ref a0)]))
  obtain ⟨cli1z1, Ari1z1, qki1z1, qsi1z1, qni1z1, qhi1z1, qgi1z1⟩ := id V_a1
  refine stp (fun t k => X0.arraylength hx (by rw [e0]; exact Ari1z1.1) (State.isArrayOf_alike hZ.alike Ari1z1.2.1) (g := (mkF m 4 #[.val (.ref a0), .val (.ref a1)] [(.ref a1), (.int (0 : Int32)), (.ref a1), (.ref a0)])) rfl rfl (hb hby di1z_4) _ k) ?_
  rw [len_of qsi1z1 qni1z1]
  show W (s₁.setTop (mkF m 5 #[.val (.ref a0), .val (.ref a1)] [(.int (0 : Int32)), (.int (0 : Int32)), (.ref a1), (.ref a0)]))
  refine stp (fun t k => XS.aconstNull X0.here hx rfl (hb hby di1z_5) k) ?_
  show W (s₁.setTop (mkF m 6 #[.val (.ref a0), .val (.ref a1)] [.null, (.int (0 : Int32)), (.int (0 : Int32)), (.ref a1), (.ref a0)]))
  obtain ⟨_, _, ⟨Ti1zc2, Li1zc2, ki1zc2, ni1zc2⟩, -, Xi1zc2, hSi1zc2, hGi1zc2, ⟨Lci1zc2, hQi1zc2, li1zc2, yi1zc2, zi1zc2, hCi1zc2⟩, sti1zc2⟩ := X0.specialBackS hx (y := (⟨"java/lang/String", "<init>", "([CIILjava/lang/Void;)V"⟩ : MethodName)) rfl hown (mvT hZ (hw _ (List.mem_of_getElem? (i := 11) rfl))) (mvT hZ (hw _ (List.mem_of_getElem? (i := 12) rfl))) (mvT hZ (hw _ (List.mem_of_getElem? (i := 14) rfl))) (by decide) (backOfSH (W := 0) (rmi2z l Z aa hw [] a0 a1 (0 : Int32) (0 : Int32) wc sx g h0 n0 Z0 BW O0 E_a0 F_value_a0 F_coder_a0 g_a0 rfl) hZ (hw _ (List.mem_of_getElem? (i := 14) rfl)) (hw _ (List.mem_of_getElem? (i := 6) rfl)) (by decide) (by decide) hEL CC.2.1) (g := (mkF m 6 #[.val (.ref a0), .val (.ref a1)] [.null, (.int (0 : Int32)), (.int (0 : Int32)), (.ref a1), (.ref a0)])) rfl (by rw [hml]; rfl) (Steps.refl _) (a := a0) (argsL := [(.ref a1), (.int (0 : Int32)), (.int (0 : Int32)), .null]) (rest := []) (lenOf pdi1z_0 rfl) rfl (by show 2 * 0 + _ ≤ _; exact Nat.le_of_eq rfl) (hb hby di1z_6) (fun _ _ => ⟨rfl, e0, (by decide : 0 + 4 ≤ _), (by decide : 0 + 8 ≤ _)⟩)
  dsimp only [Pt.U, Pt.locs, Pt.cells, Pt.slots] at Xi1zc2 li1zc2 yi1zc2 zi1zc2 sti1zc2 hQi1zc2
  subst li1zc2 yi1zc2 zi1zc2
  obtain ⟨rfl, Ni1zc2q, Kqi1zc2, Gi1zc2⟩ := hQi1zc2
  have Ni1zc2 := Fr.app N0 Ni1zc2q
  dsimp only [Pt.U] at hSi1zc2 hGi1zc2 hCi1zc2
  rw [e0] at hGi1zc2
  obtain ⟨vmi1zc2, ⟨lci1zc2, Xi1zc2, Ni1zc2⟩, CCi1zc2, hZ, hown⟩ : ∃ vm, (∃ lc, Stand p l e ({ frames := 2, cells := 4, slots := 8, locals := 29 } : Room) (s.setVm vm) m #[(.ref a0), (.ref a1)] below meth c Ti1zc2 lc 4 8 ∧ Fr n0 lc) ∧ OwnC Z ownEL s vm Ti1zc2.heap ∧ Z.Warmed39 (s.setVm vm).vm ∧ (s.setVm vm).vm.findClass "java/lang/String" = some m.cls := ⟨_, ⟨_, Xi1zc2, Ni1zc2⟩, CC.reb hSi1zc2 hGi1zc2 hCi1zc2, State.Warmed39.trans hZ hSi1zc2.1, (hSi1zc2.1.alike.findClass _ _).trans hown⟩
  replace CC := CCi1zc2
  obtain ⟨hi1zc2, ei1zc2⟩ : ∃ h, Ti1zc2.heap = h := ⟨_, rfl⟩
  rw [ei1zc2] at Kqi1zc2 Gi1zc2 CC
  refine stp (fun t k => sti1zc2.trans k) ?_
  show W (Ti1zc2.setTop (mkF m 9 #[.val (.ref a0), .val (.ref a1)] []))
  show W (Ti1zc2.setTop (mkF m 9 #[.val (.ref a0), .val (.ref a1)] []))
  rw [← hW]
  exact own_W hZ hEL CC (own_ret0 Xi1zc2 hx Bd.notSynchronized Bd.returns (hb hby di1z_9) (by show Qi1z Z a0 a1 wc sx g ka vs h0 n0 _ Ti1zc2.heap _ ∧ Ti1zc2.heap = hi1zc2; rw [ei1zc2]; exact ⟨⟨rfl, Ni1zc2, Kqi1zc2, Gi1zc2⟩, rfl⟩) (by decide) (by decide))
def own_g2 (p1 p2 : Int32) (j : Nat) : Int32 := ([nar .char p1, nar .char p2] : List Int32).getD j 0
theorem own_ch (c : Int32) : 0 ≤ (nar .char c).toInt ∧ (nar .char c).toInt < 65536 := by
  have h := c_i2c c
  exact h.2
theorem own_g2R (p1 p2 : Int32) (n : Nat) (hn : n ≤ 2) : ∀ j, j < n → 0 ≤ (own_g2 p1 p2 j).toInt ∧ (own_g2 p1 p2 j).toInt < 65536 := fun j hj => by
  have h4 : j < 2 := by omega
  match j, h4 with
  | 0, _ => exact own_ch p1
  | 1, _ => exact own_ch p2
theorem own_g21 {p1 p2 : Int32} (k1 : nar .char p1 = p1) : ∀ j, j < 1 → (fun _ => p1) j = own_g2 p1 p2 j := fun j hj => by
  obtain rfl : j = 0 := by omega
  exact k1.symm
theorem own_n2 {p : Int32} {n : Nat} (hp : p.toInt = (n : Int)) (hn : n ≤ 2) (h0 : ¬ p = (0 : Int32)) (h1 : ¬ p = (1 : Int32)) : 2 = n := by
  have a0 := own_toI h0
  have a1 := own_toI h1
  rw [show (0 : Int32).toInt = 0 from by decide] at a0
  rw [show (1 : Int32).toInt = 1 from by decide] at a1
  omega
theorem dmk_0 : decode method_3_code 0 = .ok (.iload_n 0, 1) := by decide +kernel
theorem dmk_1 : decode method_3_code 1 = .ok (.ifCond .ne 14, 3) := by decide +kernel
theorem dmk_4 : decode method_3_code 4 = .ok (.new 27, 3) := by decide +kernel
theorem dmk_7 : decode method_3_code 7 = .ok (.dup, 1) := by decide +kernel
theorem dmk_8 : decode method_3_code 8 = .ok (.iconst 0, 1) := by decide +kernel
theorem dmk_9 : decode method_3_code 9 = .ok (.newarray .char, 2) := by decide +kernel
theorem dmk_11 : decode method_3_code 11 = .ok (.invokespecial 29, 3) := by decide +kernel
theorem dmk_14 : decode method_3_code 14 = .ok (.areturn, 1) := by decide +kernel
theorem dmk_15 : decode method_3_code 15 = .ok (.iload_n 0, 1) := by decide +kernel
theorem dmk_16 : decode method_3_code 16 = .ok (.iconst 1, 1) := by decide +kernel
theorem dmk_17 : decode method_3_code 17 = .ok (.if_icmp .ne 8, 3) := by decide +kernel
theorem dmk_20 : decode method_3_code 20 = .ok (.iload_n 1, 1) := by decide +kernel
theorem dmk_21 : decode method_3_code 21 = .ok (.invokestatic 32, 3) := by decide +kernel
theorem dmk_24 : decode method_3_code 24 = .ok (.areturn, 1) := by decide +kernel
theorem dmk_25 : decode method_3_code 25 = .ok (.iconst 2, 1) := by decide +kernel
theorem dmk_26 : decode method_3_code 26 = .ok (.newarray .char, 2) := by decide +kernel
theorem dmk_28 : decode method_3_code 28 = .ok (.astore_n 3, 1) := by decide +kernel
theorem dmk_29 : decode method_3_code 29 = .ok (.aload_n 3, 1) := by decide +kernel
theorem dmk_30 : decode method_3_code 30 = .ok (.iconst 0, 1) := by decide +kernel
theorem dmk_31 : decode method_3_code 31 = .ok (.iload_n 1, 1) := by decide +kernel
theorem dmk_32 : decode method_3_code 32 = .ok (.castore, 1) := by decide +kernel
theorem dmk_33 : decode method_3_code 33 = .ok (.aload_n 3, 1) := by decide +kernel
theorem dmk_34 : decode method_3_code 34 = .ok (.iconst 1, 1) := by decide +kernel
theorem dmk_35 : decode method_3_code 35 = .ok (.iload_n 2, 1) := by decide +kernel
theorem dmk_36 : decode method_3_code 36 = .ok (.castore, 1) := by decide +kernel
theorem dmk_37 : decode method_3_code 37 = .ok (.new 27, 3) := by decide +kernel
theorem dmk_40 : decode method_3_code 40 = .ok (.dup, 1) := by decide +kernel
theorem dmk_41 : decode method_3_code 41 = .ok (.aload_n 3, 1) := by decide +kernel
theorem dmk_42 : decode method_3_code 42 = .ok (.invokespecial 29, 3) := by decide +kernel
theorem dmk_45 : decode method_3_code 45 = .ok (.areturn, 1) := by decide +kernel
theorem pnmk : plainName "com/example/usher/usher/graph/CodePointOrderComparePinLaw" = true := by first | (simp [plainName, overriddenIn]; done) | decide +kernel
theorem pdmk_0 : parseMethodDescriptor "([C)V" = some ⟨[(.array .char)], none⟩ := by decide +kernel
theorem pdmk_1 : parseMethodDescriptor "(C)Ljava/lang/String;" = some ⟨[.char], some (.object "java/lang/String")⟩ := by decide +kernel
theorem efmk (m : MethodId) (p0 : Int32) (p1 : Int32) (p2 : Int32) : entryFrame m #[(.int p0), (.int p1), (.int p2)] 4 = mkF m 0 #[.val (.int p0), .val (.int p1), .val (.int p2), .unset] [] := by first | (simp [entryFrame, mkF, argsToLocals, Value.category]; done) | rfl
def Qmk (Z : State) (p0 : Int32) (p1 : Int32) (p2 : Int32) (wc : Int32) (sx : Value) (n : Nat) (h0 : Heap) (n0 : Nat) (v : Option Value) (h : Heap) (L : List Loc) : Prop := ∃ (a b : Addr), v = some (.ref a) ∧ Fr n0 L ∧ Keep h0 h [] ∧ OwnStr Z h a b n (own_g2 p1 p2)
set_option maxRecDepth 65536 in
set_option maxHeartbeats 40000000 in
theorem rmmk (l : Launch) (Z : State) (aa : Array Value) (hw : ∀ d ∈ tables_1, d.before aa Z = true) (ws : List Jvm.Cond) (p0 : Int32) (p1 : Int32) (p2 : Int32) (wc : Int32) (sx : Value) (n : Nat) (h0 : Heap) (n0 : Nat) (Z0 : n0 ≤ h0.size) (BW : OwnW Z wc sx) (O0 : Old Z n0 h0) (hp0 : p0.toInt = (n : Int)) (hn2 : n ≤ 2) (k1 : nar .char p1 = p1) :
    MetFree l (⟨"com/example/usher/usher/graph/CodePointOrderComparePinLaw", "make", "(ICC)Ljava/lang/String;"⟩ : MethodName) (head1 (Jvm.Cond.code (⟨"com/example/usher/usher/graph/CodePointOrderComparePinLaw", "make", "(ICC)Ljava/lang/String;"⟩ : MethodName) method_3_code 4 (some (.object "java/lang/String")) :: ws) ({ frames := 6, cells := 6, slots := 12, locals := 88 } : Room)) (fun a U => a = #[(.int p0), (.int p1), (.int p2)] ∧ Z.Warmed39 U.vm ∧ U.heap = h0 ∧ CHv Z ownEL U.vm h0) (fun _ _ _ _ _ => True) (fun _ U o U' => ∃ v L, o = .returned v ∧ Qmk Z p0 p1 p2 wc sx n h0 n0 v U'.heap L ∧ CHr Z ownEL U.vm U.heap U'.vm U'.heap ∧ ReturnedEndW U o U' L ({ frames := 6, cells := 6, slots := 12, locals := 88 } : Room).cells ({ frames := 6, cells := 6, slots := 12, locals := 88 } : Room).slots) := by
  refine MetFree.of_bodySF (plainFor_of_name pnmk) hisR ?_
  intro p e s m args below meth c s₁ Bd hml0 hP hK
  obtain ⟨rfl, hZ, hh, hH⟩ := hP
  have hx := Bd.exec
  have hby := Bd.bytes
  have hml : c.maxLocals = 4 := hml0
  have hown : s.vm.findClass "com/example/usher/usher/graph/CodePointOrderComparePinLaw" = some m.cls := findClass_of_methodNamed Bd.named
  have hnm := (name_of_methodNamed Bd.named Bd.method).1
  have X0 : Stand p l e ({ frames := 6, cells := 6, slots := 12, locals := 88 } : Room) s m #[(.int p0), (.int p1), (.int p2)] below meth c s₁ [] 0 0 := Stand.of_body Bd
  have e0 : s₁.heap = h0 := by rw [← hh, Bd.state]; rfl
  have N0 := Fr.nil n0
  have hEL := own_EW hw
  obtain ⟨vm0, X0, CC, hZ, hown⟩ : ∃ vm, Stand p l e ({ frames := 6, cells := 6, slots := 12, locals := 88 } : Room) (s.setVm vm) m #[(.int p0), (.int p1), (.int p2)] below meth c s₁ [] 0 0 ∧ OwnC Z ownEL s vm h0 ∧ Z.Warmed39 (s.setVm vm).vm ∧ (s.setVm vm).vm.findClass "com/example/usher/usher/graph/CodePointOrderComparePinLaw" = some m.cls := ⟨s.vm, X0, OwnC.start hh hH, hZ, hown⟩
  show OwnEndW Z ownEL p e below s (fun v h L => Qmk Z p0 p1 p2 wc sx n h0 n0 v h L) ({ frames := 6, cells := 6, slots := 12, locals := 88 } : Room).cells ({ frames := 6, cells := 6, slots := 12, locals := 88 } : Room).slots (s₁.setTop (entryFrame m #[(.int p0), (.int p1), (.int p2)] 4))
  rw [efmk m p0 p1 p2]
  generalize hW : OwnEndW Z ownEL p e below s (fun v h L => Qmk Z p0 p1 p2 wc sx n h0 n0 v h L) ({ frames := 6, cells := 6, slots := 12, locals := 88 } : Room).cells ({ frames := 6, cells := 6, slots := 12, locals := 88 } : Room).slots = W
  have stp : ∀ {A B : State}, (∀ t, Steps p.tables e below B t → Steps p.tables e below A t) → W B → W A := by subst hW; exact own_stepW
  obtain ⟨S_cs, hcs, S_si, hr_sx, S_ad, S_hi, S_lo⟩ := id BW
  show W (s₁.setTop (mkF m 0 #[.val (.int p0), .val (.int p1), .val (.int p2), .unset] []))
  refine stp (fun t k => XS.iloadN X0.here hx rfl (hb hby dmk_0) rfl k) ?_
  show W (s₁.setTop (mkF m 1 #[.val (.int p0), .val (.int p1), .val (.int p2), .unset] [(.int p0)]))
  by_cases hcmk_1 : p0 = (0 : Int32)
  · refine stp (fun t k => XS.ifNo X0.here hx rfl (hb hby dmk_1) rfl ((if0 _ _).trans (teq hcmk_1).2) k) ?_
    show W (s₁.setTop (mkF m 4 #[.val (.int p0), .val (.int p1), .val (.int p2), .unset] []))
    obtain ⟨Tmk2, hmk2, Xmk2, emk2, Emk2, Amk2, Dmk2, -, stmk2⟩ := newO X0 hx hZ hown (hw _ (List.mem_of_getElem? (i := 4) rfl)) (hw _ (List.mem_of_getElem? (i := 5) rfl)) (hw _ (List.mem_of_getElem? (i := 6) rfl)) e0 (g := (mkF m 4 #[.val (.int p0), .val (.int p1), .val (.int p2), .unset] [])) rfl (hb hby dmk_4) (by decide) (by decide)
    obtain ⟨bmk2, gqmk2⟩ : ∃ z, z = h0.size := ⟨_, rfl⟩
    rw [← gqmk2] at Amk2 Dmk2 stmk2
    replace CC := CC.ext Emk2
    have g_bmk2 : n0 ≤ bmk2 := Nat.le_trans Z0 (Nat.le_of_eq gqmk2.symm)
    have sz_bmk2 : h0.size ≤ bmk2 := Nat.le_trans (Keep.refl h0 []).1 (Nat.le_of_eq gqmk2.symm)
    have Kmk2 := (Keep.refl h0 []).ext Emk2
    have Zmk2 := Nat.le_trans Z0 Emk2.1
    have Omk2 := O0.ext Emk2
    have E_bmk2 := Amk2
    have F_value_bmk2 : Fld Z hmk2 bmk2 "java/lang/String" "value" "[B" .null := Dmk2 (Or.inr (hw _ (List.mem_of_getElem? (i := 20) rfl))) (ty := (.array .byte)) (by decide)
    have F_coder_bmk2 : Fld Z hmk2 bmk2 "java/lang/String" "coder" "B" (.int (0 : Int32)) := Dmk2 (Or.inr (hw _ (List.mem_of_getElem? (i := 21) rfl))) (ty := .byte) (by decide)
    refine stp (fun t k => stmk2 t k) ?_
    show W (Tmk2.setTop (mkF m 7 #[.val (.int p0), .val (.int p1), .val (.int p2), .unset] [(.ref bmk2)]))
    refine stp (fun t k => XS.dup Xmk2.here hx rfl (hb hby dmk_7) rfl rfl k) ?_
    show W (Tmk2.setTop (mkF m 8 #[.val (.int p0), .val (.int p1), .val (.int p2), .unset] [(.ref bmk2), (.ref bmk2)]))
    refine stp (fun t k => XS.iconst Xmk2.here hx rfl (hb hby dmk_8) k) ?_
    show W (Tmk2.setTop (mkF m 9 #[.val (.int p0), .val (.int p1), .val (.int p2), .unset] [(.int (0 : Int32)), (.ref bmk2), (.ref bmk2)]))
    obtain ⟨Tmk3, hmk3, kmk3, Xmk3, emk3, Emk3, Amk3, stmk3⟩ := newP Xmk2 hx hZ (hw _ (List.mem_of_getElem? (i := 7) rfl)) emk2 (g := (mkF m 9 #[.val (.int p0), .val (.int p1), .val (.int p2), .unset] [(.int (0 : Int32)), (.ref bmk2), (.ref bmk2)])) rfl (hb hby dmk_9) rfl (by decide) (cap := 0) (by decide) (by decide) (by decide) (by decide)
    obtain ⟨bmk3, gqmk3⟩ : ∃ z, z = hmk2.size := ⟨_, rfl⟩
    rw [← gqmk3] at Amk3 stmk3
    replace CC := CC.ext Emk3
    have ne_bmk2_bmk3 : bmk2 ≠ bmk3 := Nat.ne_of_lt (Nat.lt_of_lt_of_le E_bmk2.lt (Nat.le_of_eq gqmk3.symm))
    have g_bmk3 : n0 ≤ bmk3 := Nat.le_trans Zmk2 (Nat.le_of_eq gqmk3.symm)
    have sz_bmk3 : h0.size ≤ bmk3 := Nat.le_trans Kmk2.1 (Nat.le_of_eq gqmk3.symm)
    replace E_bmk2 := E_bmk2.ext Emk3
    replace F_value_bmk2 := F_value_bmk2.ext Emk3
    replace F_coder_bmk2 := F_coder_bmk2.ext Emk3
    have Kmk3 := Kmk2.ext Emk3
    have Zmk3 := Nat.le_trans Zmk2 Emk3.1
    have Omk3 := Omk2.ext Emk3
    have V_bmk3 : Arv Z hmk3 bmk3 kmk3 .char (0 : Int32) [] (.int (0 : Int32)) := (Arv.new Amk3 (by decide)).pad (pad_rep [] (.int (0 : Int32)) 0)
    refine stp (fun t k => stmk3 t k) ?_
    show W (Tmk3.setTop (mkF m 11 #[.val (.int p0), .val (.int p1), .val (.int p2), .unset] [(.ref bmk3), (.ref bmk2), (.ref bmk2)]))
    obtain ⟨_, _, ⟨Tmkc4, Lmkc4, kmkc4, nmkc4⟩, -, Xmkc4, hSmkc4, hGmkc4, ⟨Lcmkc4, hQmkc4, lmkc4, ymkc4, zmkc4, hCmkc4⟩, stmkc4⟩ := Xmk3.specialBackS hx (y := (⟨"java/lang/String", "<init>", "([C)V"⟩ : MethodName)) rfl hown (mvT hZ (hw _ (List.mem_of_getElem? (i := 8) rfl))) (mvT hZ (hw _ (List.mem_of_getElem? (i := 9) rfl))) (mvT hZ (hw _ (List.mem_of_getElem? (i := 10) rfl))) (by decide) (backOfSH (W := 1) (rmi1z l Z aa hw [] bmk2 bmk3 wc sx (own_g2 p1 p2) kmk3 _ hmk3 n0 Zmk3 BW Omk3 E_bmk2 F_value_bmk2 F_coder_bmk2 g_bmk2 V_bmk3) hZ (hw _ (List.mem_of_getElem? (i := 10) rfl)) (hw _ (List.mem_of_getElem? (i := 6) rfl)) (by decide) (by decide) hEL CC.2.1) (g := (mkF m 11 #[.val (.int p0), .val (.int p1), .val (.int p2), .unset] [(.ref bmk3), (.ref bmk2), (.ref bmk2)])) rfl (by rw [hml]; rfl) (Steps.refl _) (a := bmk2) (argsL := [(.ref bmk3)]) (rest := [(.ref bmk2)]) (lenOf pdmk_0 rfl) rfl (by show 2 * 0 + _ ≤ _; exact Nat.le_of_eq rfl) (hb hby dmk_11) (fun _ _ => ⟨rfl, emk3, (by decide : 2 + 4 ≤ _), (by decide : 4 + 8 ≤ _)⟩)
    dsimp only [Pt.U, Pt.locs, Pt.cells, Pt.slots] at Xmkc4 lmkc4 ymkc4 zmkc4 stmkc4 hQmkc4
    subst lmkc4 ymkc4 zmkc4
    obtain ⟨rfl, Nmkc4q, Kqmkc4, bmkc4, S_mkc4⟩ := hQmkc4
    have Nmkc4 := Fr.app N0 Nmkc4q
    dsimp only [Pt.U] at hSmkc4 hGmkc4 hCmkc4
    rw [emk3] at hGmkc4
    obtain ⟨vmmkc4, ⟨lcmkc4, Xmkc4, Nmkc4⟩, CCmkc4, hZ, hown⟩ : ∃ vm, (∃ lc, Stand p l e ({ frames := 6, cells := 6, slots := 12, locals := 88 } : Room) (s.setVm vm) m #[(.int p0), (.int p1), (.int p2)] below meth c Tmkc4 lc 6 12 ∧ Fr n0 lc) ∧ OwnC Z ownEL s vm Tmkc4.heap ∧ Z.Warmed39 (s.setVm vm).vm ∧ (s.setVm vm).vm.findClass "com/example/usher/usher/graph/CodePointOrderComparePinLaw" = some m.cls := ⟨_, ⟨_, Xmkc4, Nmkc4⟩, CC.reb hSmkc4 hGmkc4 hCmkc4, State.Warmed39.trans hZ hSmkc4.1, (hSmkc4.1.alike.findClass _ _).trans hown⟩
    replace CC := CCmkc4
    obtain ⟨hmkc4, emkc4⟩ : ∃ h, Tmkc4.heap = h := ⟨_, rfl⟩
    rw [emkc4] at Kqmkc4 S_mkc4 CC
    replace V_bmk3 := V_bmk3.keep Kqmkc4 (ninS (Ne.symm ne_bmk2_bmk3) nin0)
    have KKmkc4 := Keep.trans Kmk3 Kqmkc4 (allS (Or.inr sz_bmk2) all0)
    have Zmkc4 := Nat.le_trans Zmk3 Kqmkc4.1
    have Omkc4 := Omk3.keep Kqmkc4 (allS g_bmk2 all0)
    refine stp (fun t k => stmkc4.trans k) ?_
    show W (Tmkc4.setTop (mkF m 14 #[.val (.int p0), .val (.int p1), .val (.int p2), .unset] [(.ref bmk2)]))
    show W (Tmkc4.setTop (mkF m 14 #[.val (.int p0), .val (.int p1), .val (.int p2), .unset] [(.ref bmk2)]))
    rw [← hW]
    exact own_W hZ hEL CC (own_retR Xmkc4 hx Bd.notSynchronized Bd.returns rfl (hb hby dmk_14) (by show Qmk Z p0 p1 p2 wc sx n h0 n0 _ Tmkc4.heap _ ∧ Tmkc4.heap = hmkc4; rw [emkc4]; exact ⟨⟨bmk2, bmkc4, rfl, Nmkc4, KKmkc4, own_strEq (own_nOf hp0 hcmk_1 (by decide)) S_mkc4⟩, rfl⟩) (by decide) (by decide))
  · refine stp (fun t k => XS.ifYes X0.here hx rfl (pc0 := 1) (pc' := 15) rfl (hb hby dmk_1) rfl ((if0 _ _).trans (feq hcmk_1).2) (by decide) (by decide) k) ?_
    show W (s₁.setTop (mkF m 15 #[.val (.int p0), .val (.int p1), .val (.int p2), .unset] []))
    refine stp (fun t k => XS.iloadN X0.here hx rfl (hb hby dmk_15) rfl k) ?_
    show W (s₁.setTop (mkF m 16 #[.val (.int p0), .val (.int p1), .val (.int p2), .unset] [(.int p0)]))
    refine stp (fun t k => XS.iconst X0.here hx rfl (hb hby dmk_16) k) ?_
    show W (s₁.setTop (mkF m 17 #[.val (.int p0), .val (.int p1), .val (.int p2), .unset] [(.int (1 : Int32)), (.int p0)]))
    by_cases hcmk_5 : p0 = (1 : Int32)
    · refine stp (fun t k => XS.icmpNo X0.here hx rfl (hb hby dmk_17) rfl ((teq hcmk_5).2) k) ?_
      show W (s₁.setTop (mkF m 20 #[.val (.int p0), .val (.int p1), .val (.int p2), .unset] []))
      refine stp (fun t k => XS.iloadN X0.here hx rfl (hb hby dmk_20) rfl k) ?_
      show W (s₁.setTop (mkF m 21 #[.val (.int p0), .val (.int p1), .val (.int p2), .unset] [(.int p1)]))
      obtain ⟨_, _, ⟨Tmkc6, Lmkc6, kmkc6, nmkc6⟩, -, Xmkc6, ⟨Lcmkc6, hQmkc6, lmkc6, ymkc6, zmkc6⟩, stmkc6⟩ := Jvm.LawKit.callS X0 hx (y := (⟨"java/lang/String", "valueOf", "(C)Ljava/lang/String;"⟩ : MethodName)) hown (mvT hZ (hw _ (List.mem_of_getElem? (i := 48) rfl))) (mvT hZ (hw _ (List.mem_of_getElem? (i := 49) rfl))) (mvT hZ (hw _ (List.mem_of_getElem? (i := 6) rfl))) (mvT hZ (hw _ (List.mem_of_getElem? (i := 50) rfl))) (by decide) (backOf (W := 0) (rmvo l Z aa hw [] p1 wc sx h0 n0 Z0 BW O0) hZ (hw _ (List.mem_of_getElem? (i := 50) rfl)) (hw _ (List.mem_of_getElem? (i := 6) rfl)) (by decide) (by decide)) (g := (mkF m 21 #[.val (.int p0), .val (.int p1), .val (.int p2), .unset] [(.int p1)])) rfl (by rw [hml]; rfl) (argsL := [(.int p1)]) (rest := []) (lenOf pdmk_1 rfl) rfl (by show 2 * 0 + _ ≤ _; exact Nat.le_of_eq rfl) (hb hby dmk_21) (fun _ _ => ⟨rfl, e0, (by decide : 0 + 2 ≤ _), (by decide : 0 + 6 ≤ _)⟩)
      dsimp only [Pt.U, Pt.locs, Pt.cells, Pt.slots] at Xmkc6 lmkc6 ymkc6 zmkc6 stmkc6 hQmkc6
      subst lmkc6 ymkc6 zmkc6
      obtain ⟨amkc6, bmkc6, rfl, Nmkc6q, Kqmkc6, S_mkc6⟩ := hQmkc6
      have Nmkc6 := Fr.app N0 Nmkc6q
      obtain ⟨lcmkt7, Xmkc6, Nmkc6⟩ : ∃ lc, Stand p l e ({ frames := 6, cells := 6, slots := 12, locals := 88 } : Room) (s.setVm vm0) m #[(.int p0), (.int p1), (.int p2)] below meth c Tmkc6 lc 2 6 ∧ Fr n0 lc := ⟨_, Xmkc6, Nmkc6⟩
      obtain ⟨hmkc6, emkc6⟩ : ∃ h, Tmkc6.heap = h := ⟨_, rfl⟩
      rw [emkc6] at Kqmkc6 S_mkc6
      replace CC := CC.keep Kqmkc6 sf0
      have KKmkc6 := Keep.trans (Keep.refl h0 []) Kqmkc6 all0
      have Zmkc6 := Nat.le_trans Z0 Kqmkc6.1
      have Omkc6 := O0.keep Kqmkc6 all0
      refine stp (fun t k => stmkc6 t k) ?_
      show W (Tmkc6.setTop (mkF m 24 #[.val (.int p0), .val (.int p1), .val (.int p2), .unset] [(.ref amkc6)]))
      show W (Tmkc6.setTop (mkF m 24 #[.val (.int p0), .val (.int p1), .val (.int p2), .unset] [(.ref amkc6)]))
      rw [← hW]
      exact own_W hZ hEL CC (own_retR Xmkc6 hx Bd.notSynchronized Bd.returns rfl (hb hby dmk_24) (by show Qmk Z p0 p1 p2 wc sx n h0 n0 _ Tmkc6.heap _ ∧ Tmkc6.heap = hmkc6; rw [emkc6]; exact ⟨⟨amkc6, bmkc6, rfl, Nmkc6, KKmkc6, own_strEq (own_nOf hp0 hcmk_5 (by decide)) (own_strCongr (own_g21 k1) S_mkc6)⟩, rfl⟩) (by decide) (by decide))
    · refine stp (fun t k => XS.icmpYes X0.here hx rfl (pc0 := 17) (pc' := 25) rfl (hb hby dmk_17) rfl ((feq hcmk_5).2) (by decide) (by decide) k) ?_
      show W (s₁.setTop (mkF m 25 #[.val (.int p0), .val (.int p1), .val (.int p2), .unset] []))
      refine stp (fun t k => XS.iconst X0.here hx rfl (hb hby dmk_25) k) ?_
      show W (s₁.setTop (mkF m 26 #[.val (.int p0), .val (.int p1), .val (.int p2), .unset] [(.int (2 : Int32))]))
      obtain ⟨Tmk8, hmk8, kmk8, Xmk8, emk8, Emk8, Amk8, stmk8⟩ := newP X0 hx hZ (hw _ (List.mem_of_getElem? (i := 7) rfl)) e0 (g := (mkF m 26 #[.val (.int p0), .val (.int p1), .val (.int p2), .unset] [(.int (2 : Int32))])) rfl (hb hby dmk_26) rfl (by decide) (cap := 2) (by decide) (by decide) (by decide) (by decide)
      obtain ⟨bmk8, gqmk8⟩ : ∃ z, z = h0.size := ⟨_, rfl⟩
      rw [← gqmk8] at Amk8 stmk8
      replace CC := CC.ext Emk8
      have g_bmk8 : n0 ≤ bmk8 := Nat.le_trans Z0 (Nat.le_of_eq gqmk8.symm)
      have sz_bmk8 : h0.size ≤ bmk8 := Nat.le_trans (Keep.refl h0 []).1 (Nat.le_of_eq gqmk8.symm)
      have Kmk8 := (Keep.refl h0 []).ext Emk8
      have Zmk8 := Nat.le_trans Z0 Emk8.1
      have Omk8 := O0.ext Emk8
      have V_bmk8 : Arv Z hmk8 bmk8 kmk8 .char (2 : Int32) [(.int (0 : Int32)), (.int (0 : Int32))] (.int (0 : Int32)) := (Arv.new Amk8 (by decide)).pad (pad_rep [] (.int (0 : Int32)) 2)
      refine stp (fun t k => stmk8 t k) ?_
      show W (Tmk8.setTop (mkF m 28 #[.val (.int p0), .val (.int p1), .val (.int p2), .unset] [(.ref bmk8)]))
      refine stp (fun t k => XS.astoreN Xmk8.here hx rfl (hb hby dmk_28) rfl rfl (l' := #[.val (.int p0), .val (.int p1), .val (.int p2), .val (.ref bmk8)]) rfl k) ?_
      show W (Tmk8.setTop (mkF m 29 #[.val (.int p0), .val (.int p1), .val (.int p2), .val (.ref bmk8)] []))
      refine stp (fun t k => XS.aloadN Xmk8.here hx rfl (hb hby dmk_29) rfl rfl k) ?_
      show W (Tmk8.setTop (mkF m 30 #[.val (.int p0), .val (.int p1), .val (.int p2), .val (.ref bmk8)] [(.ref bmk8)]))
      refine stp (fun t k => XS.iconst Xmk8.here hx rfl (hb hby dmk_30) k) ?_
      show W (Tmk8.setTop (mkF m 31 #[.val (.int p0), .val (.int p1), .val (.int p2), .val (.ref bmk8)] [(.int (0 : Int32)), (.ref bmk8)]))
      refine stp (fun t k => XS.iloadN Xmk8.here hx rfl (hb hby dmk_31) rfl k) ?_
      show W (Tmk8.setTop (mkF m 32 #[.val (.int p0), .val (.int p1), .val (.int p2), .val (.ref bmk8)] [(.int p1), (.int (0 : Int32)), (.ref bmk8)]))
      obtain ⟨clmk9, Armk9, qkmk9, qsmk9, qnmk9, qhmk9, qgmk9⟩ := id V_bmk8
      have hinmk9 : ¬ ((0 : Int32) < 0 ∨ clmk9.slots.size ≤ ((0 : Int32)).toNatClampNeg) := inb_of qsmk9 ⟨by decide, by decide⟩
      obtain ⟨Tmk9, hmk9, Xmk9, emk9, Wmk9, stmk9⟩ := stC Xmk8 hx hZ emk8 Armk9 (j := (0 : Int32)) hinmk9 (g := (mkF m 32 #[.val (.int p0), .val (.int p1), .val (.int p2), .val (.ref bmk8)] [(.int p1), (.int (0 : Int32)), (.ref bmk8)])) rfl rfl (hb hby dmk_32)
      have V_bmk8x := Arv.set Armk9 qkmk9 qsmk9 qnmk9 qhmk9 qgmk9 (fits_nar_char _) Wmk9 0 rfl (Nat.le_of_ble_eq_true rfl)
      have Nmk9 := Fr.snoc Xmk9 N0 g_bmk8
      obtain ⟨lcmkt10, Xmk9, Nmk9⟩ : ∃ lc, Stand p l e ({ frames := 6, cells := 6, slots := 12, locals := 88 } : Room) (s.setVm vm0) m #[(.int p0), (.int p1), (.int p2)] below meth c Tmk9 lc 1 2 ∧ Fr n0 lc := ⟨_, Xmk9, Nmk9⟩
      have SFw : Safe Z ownEL vm0 _ bmk8 := (Safe.arv hZ.alike V_bmk8 (by decide))
      replace CC := CC.wr Wmk9 SFw
      clear SFw
      have Kmk9 := Kmk8.wr Wmk9 (Or.inr sz_bmk8)
      have Zmk9 := Nat.le_trans Zmk8 (Keep.of_wr Wmk9).1
      have Omk9 := Omk8.wr Wmk9 g_bmk8
      replace V_bmk8 : Arv Z hmk9 bmk8 kmk8 .char (2 : Int32) [(.int (nar .char p1)), (.int (0 : Int32))] (.int (0 : Int32)) := V_bmk8x
      refine stp (fun t k => stmk9 t k) ?_
      show W (Tmk9.setTop (mkF m 33 #[.val (.int p0), .val (.int p1), .val (.int p2), .val (.ref bmk8)] []))
      refine stp (fun t k => XS.aloadN Xmk9.here hx rfl (hb hby dmk_33) rfl rfl k) ?_
      show W (Tmk9.setTop (mkF m 34 #[.val (.int p0), .val (.int p1), .val (.int p2), .val (.ref bmk8)] [(.ref bmk8)]))
      refine stp (fun t k => XS.iconst Xmk9.here hx rfl (hb hby dmk_34) k) ?_
      show W (Tmk9.setTop (mkF m 35 #[.val (.int p0), .val (.int p1), .val (.int p2), .val (.ref bmk8)] [(.int (1 : Int32)), (.ref bmk8)]))
      refine stp (fun t k => XS.iloadN Xmk9.here hx rfl (hb hby dmk_35) rfl k) ?_
      show W (Tmk9.setTop (mkF m 36 #[.val (.int p0), .val (.int p1), .val (.int p2), .val (.ref bmk8)] [(.int p2), (.int (1 : Int32)), (.ref bmk8)]))
      obtain ⟨clmk11, Armk11, qkmk11, qsmk11, qnmk11, qhmk11, qgmk11⟩ := id V_bmk8
      have hinmk11 : ¬ ((1 : Int32) < 0 ∨ clmk11.slots.size ≤ ((1 : Int32)).toNatClampNeg) := inb_of qsmk11 ⟨by decide, by decide⟩
      obtain ⟨Tmk11, hmk11, Xmk11, emk11, Wmk11, stmk11⟩ := stC Xmk9 hx hZ emk9 Armk11 (j := (1 : Int32)) hinmk11 (g := (mkF m 36 #[.val (.int p0), .val (.int p1), .val (.int p2), .val (.ref bmk8)] [(.int p2), (.int (1 : Int32)), (.ref bmk8)])) rfl rfl (hb hby dmk_36)
      have V_bmk8x := Arv.set Armk11 qkmk11 qsmk11 qnmk11 qhmk11 qgmk11 (fits_nar_char _) Wmk11 1 rfl (Nat.le_of_ble_eq_true rfl)
      have Nmk11 := Fr.snoc Xmk11 Nmk9 g_bmk8
      obtain ⟨lcmkt12, Xmk11, Nmk11⟩ : ∃ lc, Stand p l e ({ frames := 6, cells := 6, slots := 12, locals := 88 } : Room) (s.setVm vm0) m #[(.int p0), (.int p1), (.int p2)] below meth c Tmk11 lc 1 2 ∧ Fr n0 lc := ⟨_, Xmk11, Nmk11⟩
      have SFw : Safe Z ownEL vm0 _ bmk8 := (Safe.arv hZ.alike V_bmk8 (by decide))
      replace CC := CC.wr Wmk11 SFw
      clear SFw
      have Kmk11 := Kmk9.wr Wmk11 (Or.inr sz_bmk8)
      have Zmk11 := Nat.le_trans Zmk9 (Keep.of_wr Wmk11).1
      have Omk11 := Omk9.wr Wmk11 g_bmk8
      replace V_bmk8 : Arv Z hmk11 bmk8 kmk8 .char (2 : Int32) [(.int (nar .char p1)), (.int (nar .char p2))] (.int (0 : Int32)) := V_bmk8x
      refine stp (fun t k => stmk11 t k) ?_
      show W (Tmk11.setTop (mkF m 37 #[.val (.int p0), .val (.int p1), .val (.int p2), .val (.ref bmk8)] []))
      obtain ⟨Tmk13, hmk13, Xmk13, emk13, Emk13, Amk13, Dmk13, -, stmk13⟩ := newO Xmk11 hx hZ hown (hw _ (List.mem_of_getElem? (i := 4) rfl)) (hw _ (List.mem_of_getElem? (i := 5) rfl)) (hw _ (List.mem_of_getElem? (i := 6) rfl)) emk11 (g := (mkF m 37 #[.val (.int p0), .val (.int p1), .val (.int p2), .val (.ref bmk8)] [])) rfl (hb hby dmk_37) (by decide) (by decide)
      obtain ⟨bmk13, gqmk13⟩ : ∃ z, z = hmk11.size := ⟨_, rfl⟩
      rw [← gqmk13] at Amk13 Dmk13 stmk13
      replace CC := CC.ext Emk13
      have ne_bmk8_bmk13 : bmk8 ≠ bmk13 := Nat.ne_of_lt (Nat.lt_of_lt_of_le V_bmk8.lt (Nat.le_of_eq gqmk13.symm))
      have g_bmk13 : n0 ≤ bmk13 := Nat.le_trans Zmk11 (Nat.le_of_eq gqmk13.symm)
      have sz_bmk13 : h0.size ≤ bmk13 := Nat.le_trans Kmk11.1 (Nat.le_of_eq gqmk13.symm)
      replace V_bmk8 := V_bmk8.ext Emk13
      have Kmk13 := Kmk11.ext Emk13
      have Zmk13 := Nat.le_trans Zmk11 Emk13.1
      have Omk13 := Omk11.ext Emk13
      have E_bmk13 := Amk13
      have F_value_bmk13 : Fld Z hmk13 bmk13 "java/lang/String" "value" "[B" .null := Dmk13 (Or.inr (hw _ (List.mem_of_getElem? (i := 20) rfl))) (ty := (.array .byte)) (by decide)
      have F_coder_bmk13 : Fld Z hmk13 bmk13 "java/lang/String" "coder" "B" (.int (0 : Int32)) := Dmk13 (Or.inr (hw _ (List.mem_of_getElem? (i := 21) rfl))) (ty := .byte) (by decide)
      refine stp (fun t k => stmk13 t k) ?_
      show W (Tmk13.setTop (mkF m 40 #[.val (.int p0), .val (.int p1), .val (.int p2), .val (.ref bmk8)] [(.ref bmk13)]))
      refine stp (fun t k => XS.dup Xmk13.here hx rfl (hb hby dmk_40) rfl rfl k) ?_
      show W (Tmk13.setTop (mkF m 41 #[.val (.int p0), .val (.int p1), .val (.int p2), .val (.ref bmk8)] [(.ref bmk13), (.ref bmk13)]))
      refine stp (fun t k => XS.aloadN Xmk13.here hx rfl (hb hby dmk_41) rfl rfl k) ?_
      show W (Tmk13.setTop (mkF m 42 #[.val (.int p0), .val (.int p1), .val (.int p2), .val (.ref bmk8)] [(.ref bmk8), (.ref bmk13), (.ref bmk13)]))
      have V1_bmk8 : Arv Z hmk13 bmk8 kmk8 .char (Int32.ofNat 2) (own_vs 2 (own_g2 p1 p2)) (.int (0 : Int32)) := V_bmk8
      obtain ⟨_, _, ⟨Tmkc14, Lmkc14, kmkc14, nmkc14⟩, -, Xmkc14, ⟨Lcmkc14, hQmkc14, lmkc14, ymkc14, zmkc14⟩, stmkc14⟩ := Xmk13.specialBack hx (y := (⟨"java/lang/String", "<init>", "([C)V"⟩ : MethodName)) rfl hown (mvT hZ (hw _ (List.mem_of_getElem? (i := 8) rfl))) (mvT hZ (hw _ (List.mem_of_getElem? (i := 9) rfl))) (mvT hZ (hw _ (List.mem_of_getElem? (i := 10) rfl))) (by decide) (backOf (W := 1) (rmi1 l Z aa hw [] bmk13 bmk8 wc sx 2 (own_g2 p1 p2) kmk8 hmk13 n0 Zmk13 BW Omk13 (by decide) (own_g2R p1 p2 2 (by decide)) E_bmk13 F_value_bmk13 F_coder_bmk13 g_bmk13 V1_bmk8 (Ne.symm ne_bmk8_bmk13) (by decide)) hZ (hw _ (List.mem_of_getElem? (i := 10) rfl)) (hw _ (List.mem_of_getElem? (i := 6) rfl)) (by decide) (by decide)) (g := (mkF m 42 #[.val (.int p0), .val (.int p1), .val (.int p2), .val (.ref bmk8)] [(.ref bmk8), (.ref bmk13), (.ref bmk13)])) rfl (by rw [hml]; rfl) (Steps.refl _) (a := bmk13) (argsL := [(.ref bmk8)]) (rest := [(.ref bmk13)]) (lenOf pdmk_0 rfl) rfl (by show 2 * 0 + _ ≤ _; exact Nat.le_of_eq rfl) (hb hby dmk_42) (fun _ _ => ⟨rfl, emk13, (by decide : 2 + 2 ≤ _), (by decide : 6 + 6 ≤ _)⟩)
      dsimp only [Pt.U, Pt.locs, Pt.cells, Pt.slots] at Xmkc14 lmkc14 ymkc14 zmkc14 stmkc14 hQmkc14
      subst lmkc14 ymkc14 zmkc14
      obtain ⟨rfl, Nmkc14q, Kqmkc14, bmkc14, sz_bmkc14, S_mkc14⟩ := hQmkc14
      have Nmkc14 := Fr.app Nmk11 Nmkc14q
      obtain ⟨lcmkt15, Xmkc14, Nmkc14⟩ : ∃ lc, Stand p l e ({ frames := 6, cells := 6, slots := 12, locals := 88 } : Room) (s.setVm vm0) m #[(.int p0), (.int p1), (.int p2)] below meth c Tmkc14 lc 4 12 ∧ Fr n0 lc := ⟨_, Xmkc14, Nmkc14⟩
      obtain ⟨hmkc14, emkc14⟩ : ∃ h, Tmkc14.heap = h := ⟨_, rfl⟩
      rw [emkc14] at Kqmkc14 S_mkc14
      have ne_bmk13_bmkc14 : bmk13 ≠ bmkc14 := Nat.ne_of_lt (Nat.lt_of_lt_of_le E_bmk13.lt sz_bmkc14)
      have ne_bmk8_bmkc14 : bmk8 ≠ bmkc14 := Nat.ne_of_lt (Nat.lt_of_lt_of_le V_bmk8.lt sz_bmkc14)
      have g_bmkc14 : n0 ≤ bmkc14 := Nat.le_trans Zmk13 sz_bmkc14
      have SF_bmk13 : Safe Z ownEL vm0 _ bmk13 := (own_safeNull hZ.alike E_bmk13 F_value_bmk13)
      have SFk : ∀ x ∈ ([bmk13] : List Addr), Safe Z ownEL vm0 _ x := (sfS SF_bmk13 sf0)
      replace SF_bmk13 := Safe.keep Kqmkc14 SFk CC.2.1 SF_bmk13
      replace CC := CC.keep Kqmkc14 SFk
      clear SFk
      replace V_bmk8 := V_bmk8.keep Kqmkc14 (ninS ne_bmk8_bmk13 nin0)
      have KKmkc14 := Keep.trans Kmk13 Kqmkc14 (allS (Or.inr sz_bmk13) all0)
      have Zmkc14 := Nat.le_trans Zmk13 Kqmkc14.1
      have Omkc14 := Omk13.keep Kqmkc14 (allS g_bmk13 all0)
      refine stp (fun t k => stmkc14.trans k) ?_
      show W (Tmkc14.setTop (mkF m 45 #[.val (.int p0), .val (.int p1), .val (.int p2), .val (.ref bmk8)] [(.ref bmk13)]))
      show W (Tmkc14.setTop (mkF m 45 #[.val (.int p0), .val (.int p1), .val (.int p2), .val (.ref bmk8)] [(.ref bmk13)]))
      rw [← hW]
      exact own_W hZ hEL CC (own_retR Xmkc14 hx Bd.notSynchronized Bd.returns rfl (hb hby dmk_45) (by show Qmk Z p0 p1 p2 wc sx n h0 n0 _ Tmkc14.heap _ ∧ Tmkc14.heap = hmkc14; rw [emkc14]; exact ⟨⟨bmk13, bmkc14, rfl, Nmkc14, KKmkc14, own_strEq (own_n2 hp0 hn2 hcmk_1 hcmk_5) S_mkc14⟩, rfl⟩) (by decide) (by decide))
theorem dsg_0 : decode method_6_code 0 = .ok (.iload_n 0, 1) := by decide +kernel
theorem dsg_1 : decode method_6_code 1 = .ok (.ifCond .ge 5, 3) := by decide +kernel
theorem dsg_4 : decode method_6_code 4 = .ok (.iconst (-1), 1) := by decide +kernel
theorem dsg_5 : decode method_6_code 5 = .ok (.ireturn, 1) := by decide +kernel
theorem dsg_6 : decode method_6_code 6 = .ok (.iload_n 0, 1) := by decide +kernel
theorem dsg_7 : decode method_6_code 7 = .ok (.ifCond .le 5, 3) := by decide +kernel
theorem dsg_10 : decode method_6_code 10 = .ok (.iconst 1, 1) := by decide +kernel
theorem dsg_11 : decode method_6_code 11 = .ok (.ireturn, 1) := by decide +kernel
theorem dsg_12 : decode method_6_code 12 = .ok (.iconst 0, 1) := by decide +kernel
theorem dsg_13 : decode method_6_code 13 = .ok (.ireturn, 1) := by decide +kernel
theorem pnsg : plainName "com/example/usher/usher/graph/CodePointOrderComparePinLaw" = true := by first | (simp [plainName, overriddenIn]; done) | decide +kernel
theorem efsg (m : MethodId) (p0 : Int32) : entryFrame m #[(.int p0)] 1 = mkF m 0 #[.val (.int p0)] [] := by first | (simp [entryFrame, mkF, argsToLocals, Value.category]; done) | rfl
def fsg (p0 : Int32) : Int32 := (if p0 < (0 : Int32) then (-1 : Int32) else (if (0 : Int32) < p0 then (1 : Int32) else (0 : Int32)))
def Qsg (Z : State) (p0 : Int32) (h0 : Heap) (n0 : Nat) (v : Option Value) (h : Heap) (L : List Loc) : Prop := v = some (.int (fsg p0)) ∧ Fr n0 L ∧ h = h0
set_option maxRecDepth 65536 in
set_option maxHeartbeats 40000000 in
theorem rmsg (l : Launch) (Z : State) (aa : Array Value) (hw : ∀ d ∈ tables_1, d.before aa Z = true) (ws : List Jvm.Cond) (p0 : Int32) (h0 : Heap) (n0 : Nat) (Z0 : n0 ≤ h0.size) :
    MetFree l (⟨"com/example/usher/usher/graph/CodePointOrderComparePinLaw", "sign", "(I)I"⟩ : MethodName) (head1 (Jvm.Cond.code (⟨"com/example/usher/usher/graph/CodePointOrderComparePinLaw", "sign", "(I)I"⟩ : MethodName) method_6_code 1 (some .int) :: ws) ({ frames := 0, cells := 0, slots := 0, locals := 0 } : Room)) (fun a U => a = #[(.int p0)] ∧ Z.Warmed39 U.vm ∧ U.heap = h0) (fun _ _ _ _ _ => True) (fun _ U o U' => ∃ v L, o = .returned v ∧ Qsg Z p0 h0 n0 v U'.heap L ∧ FrameEnd U o U' L ({ frames := 0, cells := 0, slots := 0, locals := 0 } : Room).cells ({ frames := 0, cells := 0, slots := 0, locals := 0 } : Room).slots) := by
  refine MetFree.of_bodySF (plainFor_of_name pnsg) hisR ?_
  intro p e s m args below meth c s₁ Bd hml0 hP hK
  obtain ⟨rfl, hZ, hh⟩ := hP
  have hx := Bd.exec
  have hby := Bd.bytes
  have hml : c.maxLocals = 1 := hml0
  have hown : s.vm.findClass "com/example/usher/usher/graph/CodePointOrderComparePinLaw" = some m.cls := findClass_of_methodNamed Bd.named
  have hnm := (name_of_methodNamed Bd.named Bd.method).1
  have X0 : Stand p l e ({ frames := 0, cells := 0, slots := 0, locals := 0 } : Room) s m #[(.int p0)] below meth c s₁ [] 0 0 := Stand.of_body Bd
  have e0 : s₁.heap = h0 := by rw [← hh, Bd.state]; rfl
  have N0 := Fr.nil n0
  show OwnEnd p e below s (fun v h L => Qsg Z p0 h0 n0 v h L) ({ frames := 0, cells := 0, slots := 0, locals := 0 } : Room).cells ({ frames := 0, cells := 0, slots := 0, locals := 0 } : Room).slots (s₁.setTop (entryFrame m #[(.int p0)] 1))
  rw [efsg m p0]
  generalize hW : OwnEnd p e below s (fun v h L => Qsg Z p0 h0 n0 v h L) ({ frames := 0, cells := 0, slots := 0, locals := 0 } : Room).cells ({ frames := 0, cells := 0, slots := 0, locals := 0 } : Room).slots = W
  have stp : ∀ {A B : State}, (∀ t, Steps p.tables e below B t → Steps p.tables e below A t) → W B → W A := by subst hW; exact own_step
  show W (s₁.setTop (mkF m 0 #[.val (.int p0)] []))
  refine stp (fun t k => XS.iloadN X0.here hx rfl (hb hby dsg_0) rfl k) ?_
  show W (s₁.setTop (mkF m 1 #[.val (.int p0)] [(.int p0)]))
  by_cases hcsg_1 : p0 < (0 : Int32)
  · refine stp (fun t k => XS.ifNo X0.here hx rfl (hb hby dsg_1) rfl ((if0 _ _).trans (tlt hcsg_1).2.1) k) ?_
    show W (s₁.setTop (mkF m 4 #[.val (.int p0)] []))
    refine stp (fun t k => XS.iconst X0.here hx rfl (hb hby dsg_4) k) ?_
    show W (s₁.setTop (mkF m 5 #[.val (.int p0)] [(.int (-1 : Int32))]))
    show W (s₁.setTop (mkF m 5 #[.val (.int p0)] [(.int (-1 : Int32))]))
    rw [← hW]
    exact own_retI X0 hx Bd.notSynchronized Bd.returns (hb hby dsg_5) (by show Qsg Z p0 h0 n0 _ s₁.heap _; rw [e0]; exact ⟨(by rw [fsg, if_pos hcsg_1]), N0, rfl⟩) (by decide) (by decide)
  · refine stp (fun t k => XS.ifYes X0.here hx rfl (pc0 := 1) (pc' := 6) rfl (hb hby dsg_1) rfl ((if0 _ _).trans (flt hcsg_1).2.1) (by decide) (by decide) k) ?_
    show W (s₁.setTop (mkF m 6 #[.val (.int p0)] []))
    refine stp (fun t k => XS.iloadN X0.here hx rfl (hb hby dsg_6) rfl k) ?_
    show W (s₁.setTop (mkF m 7 #[.val (.int p0)] [(.int p0)]))
    by_cases hcsg_2 : (0 : Int32) < p0
    · refine stp (fun t k => XS.ifNo X0.here hx rfl (hb hby dsg_7) rfl ((if0 _ _).trans (tlt hcsg_2).2.2.2) k) ?_
      show W (s₁.setTop (mkF m 10 #[.val (.int p0)] []))
      refine stp (fun t k => XS.iconst X0.here hx rfl (hb hby dsg_10) k) ?_
      show W (s₁.setTop (mkF m 11 #[.val (.int p0)] [(.int (1 : Int32))]))
      show W (s₁.setTop (mkF m 11 #[.val (.int p0)] [(.int (1 : Int32))]))
      rw [← hW]
      exact own_retI X0 hx Bd.notSynchronized Bd.returns (hb hby dsg_11) (by show Qsg Z p0 h0 n0 _ s₁.heap _; rw [e0]; exact ⟨(by rw [fsg, if_neg hcsg_1, if_pos hcsg_2]), N0, rfl⟩) (by decide) (by decide)
    · refine stp (fun t k => XS.ifYes X0.here hx rfl (pc0 := 7) (pc' := 12) rfl (hb hby dsg_7) rfl ((if0 _ _).trans (flt hcsg_2).2.2.2) (by decide) (by decide) k) ?_
      show W (s₁.setTop (mkF m 12 #[.val (.int p0)] []))
      refine stp (fun t k => XS.iconst X0.here hx rfl (hb hby dsg_12) k) ?_
      show W (s₁.setTop (mkF m 13 #[.val (.int p0)] [(.int (0 : Int32))]))
      show W (s₁.setTop (mkF m 13 #[.val (.int p0)] [(.int (0 : Int32))]))
      rw [← hW]
      exact own_retI X0 hx Bd.notSynchronized Bd.returns (hb hby dsg_13) (by show Qsg Z p0 h0 n0 _ s₁.heap _; rw [e0]; exact ⟨(by rw [fsg, if_neg hcsg_1, if_neg hcsg_2]), N0, rfl⟩) (by decide) (by decide)
theorem dgr_0 : decode method_4_code 0 = .ok (.iload_n 0, 1) := by decide +kernel
theorem dgr_1 : decode method_4_code 1 = .ok (.ldc 36, 2) := by decide +kernel
theorem dgr_3 : decode method_4_code 3 = .ok (.if_icmp .ge 5, 3) := by decide +kernel
theorem dgr_6 : decode method_4_code 6 = .ok (.iconst 0, 1) := by decide +kernel
theorem dgr_7 : decode method_4_code 7 = .ok (.ireturn, 1) := by decide +kernel
theorem dgr_8 : decode method_4_code 8 = .ok (.iload_n 0, 1) := by decide +kernel
theorem dgr_9 : decode method_4_code 9 = .ok (.ldc 37, 2) := by decide +kernel
theorem dgr_11 : decode method_4_code 11 = .ok (.if_icmp .lt 5, 3) := by decide +kernel
theorem dgr_14 : decode method_4_code 14 = .ok (.iconst 1, 1) := by decide +kernel
theorem dgr_15 : decode method_4_code 15 = .ok (.ireturn, 1) := by decide +kernel
theorem dgr_16 : decode method_4_code 16 = .ok (.iconst 2, 1) := by decide +kernel
theorem dgr_17 : decode method_4_code 17 = .ok (.ireturn, 1) := by decide +kernel
theorem pngr : plainName "com/example/usher/usher/graph/CodePointOrderComparePinLaw" = true := by first | (simp [plainName, overriddenIn]; done) | decide +kernel
theorem efgr (m : MethodId) (p0 : Int32) : entryFrame m #[(.int p0)] 1 = mkF m 0 #[.val (.int p0)] [] := by first | (simp [entryFrame, mkF, argsToLocals, Value.category]; done) | rfl
def fgr (p0 : Int32) : Int32 := (if p0 < (55296 : Int32) then (0 : Int32) else (if p0 < (57344 : Int32) then (2 : Int32) else (1 : Int32)))
def Qgr (Z : State) (p0 : Int32) (h0 : Heap) (n0 : Nat) (v : Option Value) (h : Heap) (L : List Loc) : Prop := v = some (.int (fgr p0)) ∧ Fr n0 L ∧ h = h0
set_option maxRecDepth 65536 in
set_option maxHeartbeats 40000000 in
theorem rmgr (l : Launch) (Z : State) (aa : Array Value) (hw : ∀ d ∈ tables_1, d.before aa Z = true) (ws : List Jvm.Cond) (p0 : Int32) (h0 : Heap) (n0 : Nat) (Z0 : n0 ≤ h0.size) :
    MetFree l (⟨"com/example/usher/usher/graph/CodePointOrderComparePinLaw", "group", "(C)I"⟩ : MethodName) (head1 (Jvm.Cond.code (⟨"com/example/usher/usher/graph/CodePointOrderComparePinLaw", "group", "(C)I"⟩ : MethodName) method_4_code 1 (some .int) :: ws) ({ frames := 0, cells := 0, slots := 0, locals := 0 } : Room)) (fun a U => a = #[(.int p0)] ∧ Z.Warmed39 U.vm ∧ U.heap = h0) (fun _ _ _ _ _ => True) (fun _ U o U' => ∃ v L, o = .returned v ∧ Qgr Z p0 h0 n0 v U'.heap L ∧ FrameEnd U o U' L ({ frames := 0, cells := 0, slots := 0, locals := 0 } : Room).cells ({ frames := 0, cells := 0, slots := 0, locals := 0 } : Room).slots) := by
  refine MetFree.of_bodySF (plainFor_of_name pngr) hisR ?_
  intro p e s m args below meth c s₁ Bd hml0 hP hK
  obtain ⟨rfl, hZ, hh⟩ := hP
  have hx := Bd.exec
  have hby := Bd.bytes
  have hml : c.maxLocals = 1 := hml0
  have hown : s.vm.findClass "com/example/usher/usher/graph/CodePointOrderComparePinLaw" = some m.cls := findClass_of_methodNamed Bd.named
  have hnm := (name_of_methodNamed Bd.named Bd.method).1
  have X0 : Stand p l e ({ frames := 0, cells := 0, slots := 0, locals := 0 } : Room) s m #[(.int p0)] below meth c s₁ [] 0 0 := Stand.of_body Bd
  have e0 : s₁.heap = h0 := by rw [← hh, Bd.state]; rfl
  have N0 := Fr.nil n0
  show OwnEnd p e below s (fun v h L => Qgr Z p0 h0 n0 v h L) ({ frames := 0, cells := 0, slots := 0, locals := 0 } : Room).cells ({ frames := 0, cells := 0, slots := 0, locals := 0 } : Room).slots (s₁.setTop (entryFrame m #[(.int p0)] 1))
  rw [efgr m p0]
  generalize hW : OwnEnd p e below s (fun v h L => Qgr Z p0 h0 n0 v h L) ({ frames := 0, cells := 0, slots := 0, locals := 0 } : Room).cells ({ frames := 0, cells := 0, slots := 0, locals := 0 } : Room).slots = W
  have stp : ∀ {A B : State}, (∀ t, Steps p.tables e below B t → Steps p.tables e below A t) → W B → W A := by subst hW; exact own_step
  show W (s₁.setTop (mkF m 0 #[.val (.int p0)] []))
  refine stp (fun t k => XS.iloadN X0.here hx rfl (hb hby dgr_0) rfl k) ?_
  show W (s₁.setTop (mkF m 1 #[.val (.int p0)] [(.int p0)]))
  refine stp (fun t k => X0.ldcInt hx hown (mvT hZ (hw _ (List.mem_of_getElem? (i := 97) rfl))) (g := (mkF m 1 #[.val (.int p0)] [(.int p0)])) rfl (hb hby dgr_1) _ k) ?_
  show W (s₁.setTop (mkF m 3 #[.val (.int p0)] [(.int (55296 : Int32)), (.int p0)]))
  by_cases hcgr_1 : p0 < (55296 : Int32)
  · refine stp (fun t k => XS.icmpNo X0.here hx rfl (hb hby dgr_3) rfl ((tlt hcgr_1).2.1) k) ?_
    show W (s₁.setTop (mkF m 6 #[.val (.int p0)] []))
    refine stp (fun t k => XS.iconst X0.here hx rfl (hb hby dgr_6) k) ?_
    show W (s₁.setTop (mkF m 7 #[.val (.int p0)] [(.int (0 : Int32))]))
    show W (s₁.setTop (mkF m 7 #[.val (.int p0)] [(.int (0 : Int32))]))
    rw [← hW]
    exact own_retI X0 hx Bd.notSynchronized Bd.returns (hb hby dgr_7) (by show Qgr Z p0 h0 n0 _ s₁.heap _; rw [e0]; exact ⟨(by rw [fgr, if_pos hcgr_1]), N0, rfl⟩) (by decide) (by decide)
  · refine stp (fun t k => XS.icmpYes X0.here hx rfl (pc0 := 3) (pc' := 8) rfl (hb hby dgr_3) rfl ((flt hcgr_1).2.1) (by decide) (by decide) k) ?_
    show W (s₁.setTop (mkF m 8 #[.val (.int p0)] []))
    refine stp (fun t k => XS.iloadN X0.here hx rfl (hb hby dgr_8) rfl k) ?_
    show W (s₁.setTop (mkF m 9 #[.val (.int p0)] [(.int p0)]))
    refine stp (fun t k => X0.ldcInt hx hown (mvT hZ (hw _ (List.mem_of_getElem? (i := 127) rfl))) (g := (mkF m 9 #[.val (.int p0)] [(.int p0)])) rfl (hb hby dgr_9) _ k) ?_
    show W (s₁.setTop (mkF m 11 #[.val (.int p0)] [(.int (57344 : Int32)), (.int p0)]))
    by_cases hcgr_2 : p0 < (57344 : Int32)
    · refine stp (fun t k => XS.icmpYes X0.here hx rfl (pc0 := 11) (pc' := 16) rfl (hb hby dgr_11) rfl ((tlt hcgr_2).1) (by decide) (by decide) k) ?_
      show W (s₁.setTop (mkF m 16 #[.val (.int p0)] []))
      refine stp (fun t k => XS.iconst X0.here hx rfl (hb hby dgr_16) k) ?_
      show W (s₁.setTop (mkF m 17 #[.val (.int p0)] [(.int (2 : Int32))]))
      show W (s₁.setTop (mkF m 17 #[.val (.int p0)] [(.int (2 : Int32))]))
      rw [← hW]
      exact own_retI X0 hx Bd.notSynchronized Bd.returns (hb hby dgr_17) (by show Qgr Z p0 h0 n0 _ s₁.heap _; rw [e0]; exact ⟨(by rw [fgr, if_neg hcgr_1, if_pos hcgr_2]), N0, rfl⟩) (by decide) (by decide)
    · refine stp (fun t k => XS.icmpNo X0.here hx rfl (hb hby dgr_11) rfl ((flt hcgr_2).1) k) ?_
      show W (s₁.setTop (mkF m 14 #[.val (.int p0)] []))
      refine stp (fun t k => XS.iconst X0.here hx rfl (hb hby dgr_14) k) ?_
      show W (s₁.setTop (mkF m 15 #[.val (.int p0)] [(.int (1 : Int32))]))
      show W (s₁.setTop (mkF m 15 #[.val (.int p0)] [(.int (1 : Int32))]))
      rw [← hW]
      exact own_retI X0 hx Bd.notSynchronized Bd.returns (hb hby dgr_15) (by show Qgr Z p0 h0 n0 _ s₁.heap _; rw [e0]; exact ⟨(by rw [fgr, if_neg hcgr_1, if_neg hcgr_2]), N0, rfl⟩) (by decide) (by decide)
theorem dcu_0 : decode method_5_code 0 = .ok (.iload_n 0, 1) := by decide +kernel
theorem dcu_1 : decode method_5_code 1 = .ok (.invokestatic 38, 3) := by decide +kernel
theorem dcu_4 : decode method_5_code 4 = .ok (.istore_n 2, 1) := by decide +kernel
theorem dcu_5 : decode method_5_code 5 = .ok (.iload_n 1, 1) := by decide +kernel
theorem dcu_6 : decode method_5_code 6 = .ok (.invokestatic 38, 3) := by decide +kernel
theorem dcu_9 : decode method_5_code 9 = .ok (.istore_n 3, 1) := by decide +kernel
theorem dcu_10 : decode method_5_code 10 = .ok (.iload_n 2, 1) := by decide +kernel
theorem dcu_11 : decode method_5_code 11 = .ok (.iload_n 3, 1) := by decide +kernel
theorem dcu_12 : decode method_5_code 12 = .ok (.if_icmp .eq 14, 3) := by decide +kernel
theorem dcu_15 : decode method_5_code 15 = .ok (.iload_n 2, 1) := by decide +kernel
theorem dcu_16 : decode method_5_code 16 = .ok (.iload_n 3, 1) := by decide +kernel
theorem dcu_17 : decode method_5_code 17 = .ok (.if_icmp .ge 7, 3) := by decide +kernel
theorem dcu_20 : decode method_5_code 20 = .ok (.iconst (-1), 1) := by decide +kernel
theorem dcu_21 : decode method_5_code 21 = .ok (.goto 4, 3) := by decide +kernel
theorem dcu_24 : decode method_5_code 24 = .ok (.iconst 1, 1) := by decide +kernel
theorem dcu_25 : decode method_5_code 25 = .ok (.ireturn, 1) := by decide +kernel
theorem dcu_26 : decode method_5_code 26 = .ok (.iload_n 0, 1) := by decide +kernel
theorem dcu_27 : decode method_5_code 27 = .ok (.iload_n 1, 1) := by decide +kernel
theorem dcu_28 : decode method_5_code 28 = .ok (.if_icmp .ge 7, 3) := by decide +kernel
theorem dcu_31 : decode method_5_code 31 = .ok (.iconst (-1), 1) := by decide +kernel
theorem dcu_32 : decode method_5_code 32 = .ok (.goto 4, 3) := by decide +kernel
theorem dcu_35 : decode method_5_code 35 = .ok (.iconst 1, 1) := by decide +kernel
theorem dcu_36 : decode method_5_code 36 = .ok (.ireturn, 1) := by decide +kernel
theorem pncu : plainName "com/example/usher/usher/graph/CodePointOrderComparePinLaw" = true := by first | (simp [plainName, overriddenIn]; done) | decide +kernel
theorem pdcu_0 : parseMethodDescriptor "(C)I" = some ⟨[.char], some .int⟩ := by decide +kernel
theorem efcu (m : MethodId) (p0 : Int32) (p1 : Int32) : entryFrame m #[(.int p0), (.int p1)] 4 = mkF m 0 #[.val (.int p0), .val (.int p1), .unset, .unset] [] := by first | (simp [entryFrame, mkF, argsToLocals, Value.category]; done) | rfl
def fcu (p0 : Int32) (p1 : Int32) : Int32 := (if (fgr p0) = (fgr p1) then (if p0 < p1 then (-1 : Int32) else (1 : Int32)) else (if (fgr p0) < (fgr p1) then (-1 : Int32) else (1 : Int32)))
def Qcu (Z : State) (p0 : Int32) (p1 : Int32) (h0 : Heap) (n0 : Nat) (v : Option Value) (h : Heap) (L : List Loc) : Prop := v = some (.int (fcu p0 p1)) ∧ Fr n0 L ∧ h = h0
set_option maxRecDepth 65536 in
set_option maxHeartbeats 40000000 in
theorem rmcu (l : Launch) (Z : State) (aa : Array Value) (hw : ∀ d ∈ tables_1, d.before aa Z = true) (ws : List Jvm.Cond) (p0 : Int32) (p1 : Int32) (h0 : Heap) (n0 : Nat) (Z0 : n0 ≤ h0.size) :
    MetFree l (⟨"com/example/usher/usher/graph/CodePointOrderComparePinLaw", "cmpUnit", "(CC)I"⟩ : MethodName) (head1 (Jvm.Cond.code (⟨"com/example/usher/usher/graph/CodePointOrderComparePinLaw", "cmpUnit", "(CC)I"⟩ : MethodName) method_5_code 4 (some .int) :: ws) ({ frames := 1, cells := 0, slots := 0, locals := 12 } : Room)) (fun a U => a = #[(.int p0), (.int p1)] ∧ Z.Warmed39 U.vm ∧ U.heap = h0) (fun _ _ _ _ _ => True) (fun _ U o U' => ∃ v L, o = .returned v ∧ Qcu Z p0 p1 h0 n0 v U'.heap L ∧ FrameEnd U o U' L ({ frames := 1, cells := 0, slots := 0, locals := 12 } : Room).cells ({ frames := 1, cells := 0, slots := 0, locals := 12 } : Room).slots) := by
  refine MetFree.of_bodySF (plainFor_of_name pncu) hisR ?_
  intro p e s m args below meth c s₁ Bd hml0 hP hK
  obtain ⟨rfl, hZ, hh⟩ := hP
  have hx := Bd.exec
  have hby := Bd.bytes
  have hml : c.maxLocals = 4 := hml0
  have hown : s.vm.findClass "com/example/usher/usher/graph/CodePointOrderComparePinLaw" = some m.cls := findClass_of_methodNamed Bd.named
  have hnm := (name_of_methodNamed Bd.named Bd.method).1
  have X0 : Stand p l e ({ frames := 1, cells := 0, slots := 0, locals := 12 } : Room) s m #[(.int p0), (.int p1)] below meth c s₁ [] 0 0 := Stand.of_body Bd
  have e0 : s₁.heap = h0 := by rw [← hh, Bd.state]; rfl
  have N0 := Fr.nil n0
  show OwnEnd p e below s (fun v h L => Qcu Z p0 p1 h0 n0 v h L) ({ frames := 1, cells := 0, slots := 0, locals := 12 } : Room).cells ({ frames := 1, cells := 0, slots := 0, locals := 12 } : Room).slots (s₁.setTop (entryFrame m #[(.int p0), (.int p1)] 4))
  rw [efcu m p0 p1]
  generalize hW : OwnEnd p e below s (fun v h L => Qcu Z p0 p1 h0 n0 v h L) ({ frames := 1, cells := 0, slots := 0, locals := 12 } : Room).cells ({ frames := 1, cells := 0, slots := 0, locals := 12 } : Room).slots = W
  have stp : ∀ {A B : State}, (∀ t, Steps p.tables e below B t → Steps p.tables e below A t) → W B → W A := by subst hW; exact own_step
  show W (s₁.setTop (mkF m 0 #[.val (.int p0), .val (.int p1), .unset, .unset] []))
  refine stp (fun t k => XS.iloadN X0.here hx rfl (hb hby dcu_0) rfl k) ?_
  show W (s₁.setTop (mkF m 1 #[.val (.int p0), .val (.int p1), .unset, .unset] [(.int p0)]))
  obtain ⟨_, _, ⟨Tcuc1, Lcuc1, kcuc1, ncuc1⟩, -, Xcuc1, ⟨Lccuc1, hQcuc1, lcuc1, ycuc1, zcuc1⟩, stcuc1⟩ := Jvm.LawKit.callS X0 hx (y := (⟨"com/example/usher/usher/graph/CodePointOrderComparePinLaw", "group", "(C)I"⟩ : MethodName)) hown (mvT hZ (hw _ (List.mem_of_getElem? (i := 94) rfl))) (mvT hZ (hw _ (List.mem_of_getElem? (i := 95) rfl))) (mvT hZ (hw _ (List.mem_of_getElem? (i := 2) rfl))) (mvT hZ (hw _ (List.mem_of_getElem? (i := 96) rfl))) (by decide) (backOf (W := 0) (rmgr l Z aa hw [] p0  h0 n0 Z0 ) hZ (hw _ (List.mem_of_getElem? (i := 96) rfl)) (hw _ (List.mem_of_getElem? (i := 2) rfl)) (by decide) (by decide)) (g := (mkF m 1 #[.val (.int p0), .val (.int p1), .unset, .unset] [(.int p0)])) rfl (by rw [hml]; rfl) (argsL := [(.int p0)]) (rest := []) (lenOf pdcu_0 rfl) rfl (by show 2 * 0 + _ ≤ _; exact Nat.le_of_eq rfl) (hb hby dcu_1) (fun _ _ => ⟨rfl, e0, (by decide : 0 + 0 ≤ _), (by decide : 0 + 0 ≤ _)⟩)
  dsimp only [Pt.U, Pt.locs, Pt.cells, Pt.slots] at Xcuc1 lcuc1 ycuc1 zcuc1 stcuc1 hQcuc1
  subst lcuc1 ycuc1 zcuc1
  obtain ⟨rfl, Ncuc1q, ecuc1⟩ := hQcuc1
  have Ncuc1 := Fr.app N0 Ncuc1q
  obtain ⟨lccut2, Xcuc1, Ncuc1⟩ : ∃ lc, Stand p l e ({ frames := 1, cells := 0, slots := 0, locals := 12 } : Room) s m #[(.int p0), (.int p1)] below meth c Tcuc1 lc 0 0 ∧ Fr n0 lc := ⟨_, Xcuc1, Ncuc1⟩
  refine stp (fun t k => stcuc1 t k) ?_
  show W (Tcuc1.setTop (mkF m 4 #[.val (.int p0), .val (.int p1), .unset, .unset] [(.int (fgr p0))]))
  refine stp (fun t k => XS.istoreN Xcuc1.here hx rfl (hb hby dcu_4) rfl (l' := #[.val (.int p0), .val (.int p1), .val (.int (fgr p0)), .unset]) rfl k) ?_
  show W (Tcuc1.setTop (mkF m 5 #[.val (.int p0), .val (.int p1), .val (.int (fgr p0)), .unset] []))
  refine stp (fun t k => XS.iloadN Xcuc1.here hx rfl (hb hby dcu_5) rfl k) ?_
  show W (Tcuc1.setTop (mkF m 6 #[.val (.int p0), .val (.int p1), .val (.int (fgr p0)), .unset] [(.int p1)]))
  obtain ⟨_, _, ⟨Tcuc3, Lcuc3, kcuc3, ncuc3⟩, -, Xcuc3, ⟨Lccuc3, hQcuc3, lcuc3, ycuc3, zcuc3⟩, stcuc3⟩ := Jvm.LawKit.callS Xcuc1 hx (y := (⟨"com/example/usher/usher/graph/CodePointOrderComparePinLaw", "group", "(C)I"⟩ : MethodName)) hown (mvT hZ (hw _ (List.mem_of_getElem? (i := 94) rfl))) (mvT hZ (hw _ (List.mem_of_getElem? (i := 95) rfl))) (mvT hZ (hw _ (List.mem_of_getElem? (i := 2) rfl))) (mvT hZ (hw _ (List.mem_of_getElem? (i := 96) rfl))) (by decide) (backOf (W := 0) (rmgr l Z aa hw [] p1  h0 n0 Z0 ) hZ (hw _ (List.mem_of_getElem? (i := 96) rfl)) (hw _ (List.mem_of_getElem? (i := 2) rfl)) (by decide) (by decide)) (g := (mkF m 6 #[.val (.int p0), .val (.int p1), .val (.int (fgr p0)), .unset] [(.int p1)])) rfl (by rw [hml]; rfl) (argsL := [(.int p1)]) (rest := []) (lenOf pdcu_0 rfl) rfl (by show 2 * 0 + _ ≤ _; exact Nat.le_of_eq rfl) (hb hby dcu_6) (fun _ _ => ⟨rfl, ecuc1, (by decide : 0 + 0 ≤ _), (by decide : 0 + 0 ≤ _)⟩)
  dsimp only [Pt.U, Pt.locs, Pt.cells, Pt.slots] at Xcuc3 lcuc3 ycuc3 zcuc3 stcuc3 hQcuc3
  subst lcuc3 ycuc3 zcuc3
  obtain ⟨rfl, Ncuc3q, ecuc3⟩ := hQcuc3
  have Ncuc3 := Fr.app Ncuc1 Ncuc3q
  obtain ⟨lccut4, Xcuc3, Ncuc3⟩ : ∃ lc, Stand p l e ({ frames := 1, cells := 0, slots := 0, locals := 12 } : Room) s m #[(.int p0), (.int p1)] below meth c Tcuc3 lc 0 0 ∧ Fr n0 lc := ⟨_, Xcuc3, Ncuc3⟩
  refine stp (fun t k => stcuc3 t k) ?_
  show W (Tcuc3.setTop (mkF m 9 #[.val (.int p0), .val (.int p1), .val (.int (fgr p0)), .unset] [(.int (fgr p1))]))
  refine stp (fun t k => XS.istoreN Xcuc3.here hx rfl (hb hby dcu_9) rfl (l' := #[.val (.int p0), .val (.int p1), .val (.int (fgr p0)), .val (.int (fgr p1))]) rfl k) ?_
  show W (Tcuc3.setTop (mkF m 10 #[.val (.int p0), .val (.int p1), .val (.int (fgr p0)), .val (.int (fgr p1))] []))
  refine stp (fun t k => XS.iloadN Xcuc3.here hx rfl (hb hby dcu_10) rfl k) ?_
  show W (Tcuc3.setTop (mkF m 11 #[.val (.int p0), .val (.int p1), .val (.int (fgr p0)), .val (.int (fgr p1))] [(.int (fgr p0))]))
  refine stp (fun t k => XS.iloadN Xcuc3.here hx rfl (hb hby dcu_11) rfl k) ?_
  show W (Tcuc3.setTop (mkF m 12 #[.val (.int p0), .val (.int p1), .val (.int (fgr p0)), .val (.int (fgr p1))] [(.int (fgr p1)), (.int (fgr p0))]))
  by_cases hccu_5 : (fgr p0) = (fgr p1)
  · refine stp (fun t k => XS.icmpYes Xcuc3.here hx rfl (pc0 := 12) (pc' := 26) rfl (hb hby dcu_12) rfl ((teq hccu_5).1) (by decide) (by decide) k) ?_
    show W (Tcuc3.setTop (mkF m 26 #[.val (.int p0), .val (.int p1), .val (.int (fgr p0)), .val (.int (fgr p1))] []))
    refine stp (fun t k => XS.iloadN Xcuc3.here hx rfl (hb hby dcu_26) rfl k) ?_
    show W (Tcuc3.setTop (mkF m 27 #[.val (.int p0), .val (.int p1), .val (.int (fgr p0)), .val (.int (fgr p1))] [(.int p0)]))
    refine stp (fun t k => XS.iloadN Xcuc3.here hx rfl (hb hby dcu_27) rfl k) ?_
    show W (Tcuc3.setTop (mkF m 28 #[.val (.int p0), .val (.int p1), .val (.int (fgr p0)), .val (.int (fgr p1))] [(.int p1), (.int p0)]))
    by_cases hccu_6 : p0 < p1
    · refine stp (fun t k => XS.icmpNo Xcuc3.here hx rfl (hb hby dcu_28) rfl ((tlt hccu_6).2.1) k) ?_
      show W (Tcuc3.setTop (mkF m 31 #[.val (.int p0), .val (.int p1), .val (.int (fgr p0)), .val (.int (fgr p1))] []))
      refine stp (fun t k => XS.iconst Xcuc3.here hx rfl (hb hby dcu_31) k) ?_
      show W (Tcuc3.setTop (mkF m 32 #[.val (.int p0), .val (.int p1), .val (.int (fgr p0)), .val (.int (fgr p1))] [(.int (-1 : Int32))]))
      refine stp (fun t k => XS.goto Xcuc3.here hx rfl (pc0 := 32) (pc' := 36) rfl (hb hby dcu_32) (by decide) (by decide) k) ?_
      show W (Tcuc3.setTop (mkF m 36 #[.val (.int p0), .val (.int p1), .val (.int (fgr p0)), .val (.int (fgr p1))] [(.int (-1 : Int32))]))
      show W (Tcuc3.setTop (mkF m 36 #[.val (.int p0), .val (.int p1), .val (.int (fgr p0)), .val (.int (fgr p1))] [(.int (-1 : Int32))]))
      rw [← hW]
      exact own_retI Xcuc3 hx Bd.notSynchronized Bd.returns (hb hby dcu_36) (by show Qcu Z p0 p1 h0 n0 _ Tcuc3.heap _; rw [ecuc3]; exact ⟨(by rw [fcu, if_pos hccu_5, if_pos hccu_6]), Ncuc3, rfl⟩) (by decide) (by decide)
    · refine stp (fun t k => XS.icmpYes Xcuc3.here hx rfl (pc0 := 28) (pc' := 35) rfl (hb hby dcu_28) rfl ((flt hccu_6).2.1) (by decide) (by decide) k) ?_
      show W (Tcuc3.setTop (mkF m 35 #[.val (.int p0), .val (.int p1), .val (.int (fgr p0)), .val (.int (fgr p1))] []))
      refine stp (fun t k => XS.iconst Xcuc3.here hx rfl (hb hby dcu_35) k) ?_
      show W (Tcuc3.setTop (mkF m 36 #[.val (.int p0), .val (.int p1), .val (.int (fgr p0)), .val (.int (fgr p1))] [(.int (1 : Int32))]))
      show W (Tcuc3.setTop (mkF m 36 #[.val (.int p0), .val (.int p1), .val (.int (fgr p0)), .val (.int (fgr p1))] [(.int (1 : Int32))]))
      rw [← hW]
      exact own_retI Xcuc3 hx Bd.notSynchronized Bd.returns (hb hby dcu_36) (by show Qcu Z p0 p1 h0 n0 _ Tcuc3.heap _; rw [ecuc3]; exact ⟨(by rw [fcu, if_pos hccu_5, if_neg hccu_6]), Ncuc3, rfl⟩) (by decide) (by decide)
  · refine stp (fun t k => XS.icmpNo Xcuc3.here hx rfl (hb hby dcu_12) rfl ((feq hccu_5).1) k) ?_
    show W (Tcuc3.setTop (mkF m 15 #[.val (.int p0), .val (.int p1), .val (.int (fgr p0)), .val (.int (fgr p1))] []))
    refine stp (fun t k => XS.iloadN Xcuc3.here hx rfl (hb hby dcu_15) rfl k) ?_
    show W (Tcuc3.setTop (mkF m 16 #[.val (.int p0), .val (.int p1), .val (.int (fgr p0)), .val (.int (fgr p1))] [(.int (fgr p0))]))
    refine stp (fun t k => XS.iloadN Xcuc3.here hx rfl (hb hby dcu_16) rfl k) ?_
    show W (Tcuc3.setTop (mkF m 17 #[.val (.int p0), .val (.int p1), .val (.int (fgr p0)), .val (.int (fgr p1))] [(.int (fgr p1)), (.int (fgr p0))]))
    by_cases hccu_7 : (fgr p0) < (fgr p1)
    · refine stp (fun t k => XS.icmpNo Xcuc3.here hx rfl (hb hby dcu_17) rfl ((tlt hccu_7).2.1) k) ?_
      show W (Tcuc3.setTop (mkF m 20 #[.val (.int p0), .val (.int p1), .val (.int (fgr p0)), .val (.int (fgr p1))] []))
      refine stp (fun t k => XS.iconst Xcuc3.here hx rfl (hb hby dcu_20) k) ?_
      show W (Tcuc3.setTop (mkF m 21 #[.val (.int p0), .val (.int p1), .val (.int (fgr p0)), .val (.int (fgr p1))] [(.int (-1 : Int32))]))
      refine stp (fun t k => XS.goto Xcuc3.here hx rfl (pc0 := 21) (pc' := 25) rfl (hb hby dcu_21) (by decide) (by decide) k) ?_
      show W (Tcuc3.setTop (mkF m 25 #[.val (.int p0), .val (.int p1), .val (.int (fgr p0)), .val (.int (fgr p1))] [(.int (-1 : Int32))]))
      show W (Tcuc3.setTop (mkF m 25 #[.val (.int p0), .val (.int p1), .val (.int (fgr p0)), .val (.int (fgr p1))] [(.int (-1 : Int32))]))
      rw [← hW]
      exact own_retI Xcuc3 hx Bd.notSynchronized Bd.returns (hb hby dcu_25) (by show Qcu Z p0 p1 h0 n0 _ Tcuc3.heap _; rw [ecuc3]; exact ⟨(by rw [fcu, if_neg hccu_5, if_pos hccu_7]), Ncuc3, rfl⟩) (by decide) (by decide)
    · refine stp (fun t k => XS.icmpYes Xcuc3.here hx rfl (pc0 := 17) (pc' := 24) rfl (hb hby dcu_17) rfl ((flt hccu_7).2.1) (by decide) (by decide) k) ?_
      show W (Tcuc3.setTop (mkF m 24 #[.val (.int p0), .val (.int p1), .val (.int (fgr p0)), .val (.int (fgr p1))] []))
      refine stp (fun t k => XS.iconst Xcuc3.here hx rfl (hb hby dcu_24) k) ?_
      show W (Tcuc3.setTop (mkF m 25 #[.val (.int p0), .val (.int p1), .val (.int (fgr p0)), .val (.int (fgr p1))] [(.int (1 : Int32))]))
      show W (Tcuc3.setTop (mkF m 25 #[.val (.int p0), .val (.int p1), .val (.int (fgr p0)), .val (.int (fgr p1))] [(.int (1 : Int32))]))
      rw [← hW]
      exact own_retI Xcuc3 hx Bd.notSynchronized Bd.returns (hb hby dcu_25) (by show Qcu Z p0 p1 h0 n0 _ Tcuc3.heap _; rw [ecuc3]; exact ⟨(by rw [fcu, if_neg hccu_5, if_neg hccu_7]), Ncuc3, rfl⟩) (by decide) (by decide)
theorem drk_0 : decode prog_13_method_3_code 0 = .ok (.iload_n 0, 1) := by decide +kernel
theorem drk_1 : decode prog_13_method_3_code 1 = .ok (.istore_n 1, 1) := by decide +kernel
theorem drk_2 : decode prog_13_method_3_code 2 = .ok (.iload_n 0, 1) := by decide +kernel
theorem drk_3 : decode prog_13_method_3_code 3 = .ok (.ldc 29, 2) := by decide +kernel
theorem drk_5 : decode prog_13_method_3_code 5 = .ok (.if_icmp .lt 12, 3) := by decide +kernel
theorem drk_8 : decode prog_13_method_3_code 8 = .ok (.iload_n 0, 1) := by decide +kernel
theorem drk_9 : decode prog_13_method_3_code 9 = .ok (.sipush 2048, 3) := by decide +kernel
theorem drk_12 : decode prog_13_method_3_code 12 = .ok (.isub, 1) := by decide +kernel
theorem drk_13 : decode prog_13_method_3_code 13 = .ok (.istore_n 1, 1) := by decide +kernel
theorem drk_14 : decode prog_13_method_3_code 14 = .ok (.goto 15, 3) := by decide +kernel
theorem drk_17 : decode prog_13_method_3_code 17 = .ok (.iload_n 0, 1) := by decide +kernel
theorem drk_18 : decode prog_13_method_3_code 18 = .ok (.ldc 30, 2) := by decide +kernel
theorem drk_20 : decode prog_13_method_3_code 20 = .ok (.if_icmp .lt 9, 3) := by decide +kernel
theorem drk_23 : decode prog_13_method_3_code 23 = .ok (.iload_n 0, 1) := by decide +kernel
theorem drk_24 : decode prog_13_method_3_code 24 = .ok (.sipush 8192, 3) := by decide +kernel
theorem drk_27 : decode prog_13_method_3_code 27 = .ok (.iadd, 1) := by decide +kernel
theorem drk_28 : decode prog_13_method_3_code 28 = .ok (.istore_n 1, 1) := by decide +kernel
theorem drk_29 : decode prog_13_method_3_code 29 = .ok (.iload_n 1, 1) := by decide +kernel
theorem drk_30 : decode prog_13_method_3_code 30 = .ok (.ireturn, 1) := by decide +kernel
theorem pnrk : plainName "com/example/usher/usher/graph/CodePointOrder" = true := by first | (simp [plainName, overriddenIn]; done) | decide +kernel
theorem efrk (m : MethodId) (p0 : Int32) : entryFrame m #[(.int p0)] 2 = mkF m 0 #[.val (.int p0), .unset] [] := by first | (simp [entryFrame, mkF, argsToLocals, Value.category]; done) | rfl
def frk (p0 : Int32) : Int32 := (if p0 < (57344 : Int32) then (if p0 < (55296 : Int32) then p0 else (p0 + (8192 : Int32))) else (p0 - (2048 : Int32)))
def Qrk (Z : State) (p0 : Int32) (h0 : Heap) (n0 : Nat) (v : Option Value) (h : Heap) (L : List Loc) : Prop := v = some (.int (frk p0)) ∧ Fr n0 L ∧ h = h0
set_option maxRecDepth 65536 in
set_option maxHeartbeats 40000000 in
theorem rmrk (l : Launch) (Z : State) (aa : Array Value) (hw : ∀ d ∈ tables_1, d.before aa Z = true) (ws : List Jvm.Cond) (p0 : Int32) (h0 : Heap) (n0 : Nat) (Z0 : n0 ≤ h0.size) :
    MetFree l (⟨"com/example/usher/usher/graph/CodePointOrder", "rank", "(C)I"⟩ : MethodName) (head1 (Jvm.Cond.code (⟨"com/example/usher/usher/graph/CodePointOrder", "rank", "(C)I"⟩ : MethodName) prog_13_method_3_code 2 (some .int) :: ws) ({ frames := 0, cells := 0, slots := 0, locals := 0 } : Room)) (fun a U => a = #[(.int p0)] ∧ Z.Warmed39 U.vm ∧ U.heap = h0) (fun _ _ _ _ _ => True) (fun _ U o U' => ∃ v L, o = .returned v ∧ Qrk Z p0 h0 n0 v U'.heap L ∧ FrameEnd U o U' L ({ frames := 0, cells := 0, slots := 0, locals := 0 } : Room).cells ({ frames := 0, cells := 0, slots := 0, locals := 0 } : Room).slots) := by
  refine MetFree.of_bodySF (plainFor_of_name pnrk) hisR ?_
  intro p e s m args below meth c s₁ Bd hml0 hP hK
  obtain ⟨rfl, hZ, hh⟩ := hP
  have hx := Bd.exec
  have hby := Bd.bytes
  have hml : c.maxLocals = 2 := hml0
  have hown : s.vm.findClass "com/example/usher/usher/graph/CodePointOrder" = some m.cls := findClass_of_methodNamed Bd.named
  have hnm := (name_of_methodNamed Bd.named Bd.method).1
  have X0 : Stand p l e ({ frames := 0, cells := 0, slots := 0, locals := 0 } : Room) s m #[(.int p0)] below meth c s₁ [] 0 0 := Stand.of_body Bd
  have e0 : s₁.heap = h0 := by rw [← hh, Bd.state]; rfl
  have N0 := Fr.nil n0
  show OwnEnd p e below s (fun v h L => Qrk Z p0 h0 n0 v h L) ({ frames := 0, cells := 0, slots := 0, locals := 0 } : Room).cells ({ frames := 0, cells := 0, slots := 0, locals := 0 } : Room).slots (s₁.setTop (entryFrame m #[(.int p0)] 2))
  rw [efrk m p0]
  generalize hW : OwnEnd p e below s (fun v h L => Qrk Z p0 h0 n0 v h L) ({ frames := 0, cells := 0, slots := 0, locals := 0 } : Room).cells ({ frames := 0, cells := 0, slots := 0, locals := 0 } : Room).slots = W
  have stp : ∀ {A B : State}, (∀ t, Steps p.tables e below B t → Steps p.tables e below A t) → W B → W A := by subst hW; exact own_step
  show W (s₁.setTop (mkF m 0 #[.val (.int p0), .unset] []))
  refine stp (fun t k => XS.iloadN X0.here hx rfl (hb hby drk_0) rfl k) ?_
  show W (s₁.setTop (mkF m 1 #[.val (.int p0), .unset] [(.int p0)]))
  refine stp (fun t k => XS.istoreN X0.here hx rfl (hb hby drk_1) rfl (l' := #[.val (.int p0), .val (.int p0)]) rfl k) ?_
  show W (s₁.setTop (mkF m 2 #[.val (.int p0), .val (.int p0)] []))
  refine stp (fun t k => XS.iloadN X0.here hx rfl (hb hby drk_2) rfl k) ?_
  show W (s₁.setTop (mkF m 3 #[.val (.int p0), .val (.int p0)] [(.int p0)]))
  refine stp (fun t k => X0.ldcInt hx hown (mvT hZ (hw _ (List.mem_of_getElem? (i := 122) rfl))) (g := (mkF m 3 #[.val (.int p0), .val (.int p0)] [(.int p0)])) rfl (hb hby drk_3) _ k) ?_
  show W (s₁.setTop (mkF m 5 #[.val (.int p0), .val (.int p0)] [(.int (57344 : Int32)), (.int p0)]))
  have Jrk_29_4 : ∀ (Trk4 : State) (lcrk4 : List Loc) (vrk_3 : Int32) (hvrk_3 : vrk_3 = (if p0 < (57344 : Int32) then (if p0 < (55296 : Int32) then p0 else (p0 + (8192 : Int32))) else (p0 - (2048 : Int32)))) (Xrk4 : Stand p l e ({ frames := 0, cells := 0, slots := 0, locals := 0 } : Room) s m #[(.int p0)] below meth c Trk4 lcrk4 0 0) (erk4 : Trk4.heap = h0) (Nrk4 : Fr n0 lcrk4), W (Trk4.setTop (mkF m 29 #[.val (.int p0), .val (.int vrk_3)] [])) := by
    intro Trk4 lcrk4 vrk_3 hvrk_3  Xrk4 erk4 Nrk4
    show W (Trk4.setTop (mkF m 29 #[.val (.int p0), .val (.int vrk_3)] []))
    refine stp (fun t k => XS.iloadN Xrk4.here hx rfl (hb hby drk_29) rfl k) ?_
    show W (Trk4.setTop (mkF m 30 #[.val (.int p0), .val (.int vrk_3)] [(.int vrk_3)]))
    show W (Trk4.setTop (mkF m 30 #[.val (.int p0), .val (.int vrk_3)] [(.int vrk_3)]))
    rw [← hW]
    exact own_retI Xrk4 hx Bd.notSynchronized Bd.returns (hb hby drk_30) (by show Qrk Z p0 h0 n0 _ Trk4.heap _; rw [erk4]; exact ⟨(by subst hvrk_3; rw [frk]), Nrk4, rfl⟩) (by decide) (by decide)
  by_cases hcrk_1 : p0 < (57344 : Int32)
  · refine stp (fun t k => XS.icmpYes X0.here hx rfl (pc0 := 5) (pc' := 17) rfl (hb hby drk_5) rfl ((tlt hcrk_1).1) (by decide) (by decide) k) ?_
    show W (s₁.setTop (mkF m 17 #[.val (.int p0), .val (.int p0)] []))
    refine stp (fun t k => XS.iloadN X0.here hx rfl (hb hby drk_17) rfl k) ?_
    show W (s₁.setTop (mkF m 18 #[.val (.int p0), .val (.int p0)] [(.int p0)]))
    refine stp (fun t k => X0.ldcInt hx hown (mvT hZ (hw _ (List.mem_of_getElem? (i := 123) rfl))) (g := (mkF m 18 #[.val (.int p0), .val (.int p0)] [(.int p0)])) rfl (hb hby drk_18) _ k) ?_
    show W (s₁.setTop (mkF m 20 #[.val (.int p0), .val (.int p0)] [(.int (55296 : Int32)), (.int p0)]))
    by_cases hcrk_2 : p0 < (55296 : Int32)
    · refine stp (fun t k => XS.icmpYes X0.here hx rfl (pc0 := 20) (pc' := 29) rfl (hb hby drk_20) rfl ((tlt hcrk_2).1) (by decide) (by decide) k) ?_
      show W (s₁.setTop (mkF m 29 #[.val (.int p0), .val (.int p0)] []))
      exact Jrk_29_4 _ _ p0 (by first | rfl | simp only [if_pos hcrk_1, if_pos hcrk_2]) X0 e0 N0
    · refine stp (fun t k => XS.icmpNo X0.here hx rfl (hb hby drk_20) rfl ((flt hcrk_2).1) k) ?_
      show W (s₁.setTop (mkF m 23 #[.val (.int p0), .val (.int p0)] []))
      refine stp (fun t k => XS.iloadN X0.here hx rfl (hb hby drk_23) rfl k) ?_
      show W (s₁.setTop (mkF m 24 #[.val (.int p0), .val (.int p0)] [(.int p0)]))
      refine stp (fun t k => XS.sipush X0.here hx rfl (hb hby drk_24) k) ?_
      show W (s₁.setTop (mkF m 27 #[.val (.int p0), .val (.int p0)] [(.int (8192 : Int32)), (.int p0)]))
      refine stp (fun t k => XS.iadd X0.here hx rfl (hb hby drk_27) rfl k) ?_
      show W (s₁.setTop (mkF m 28 #[.val (.int p0), .val (.int p0)] [(.int (p0 + (8192 : Int32)))]))
      refine stp (fun t k => XS.istoreN X0.here hx rfl (hb hby drk_28) rfl (l' := #[.val (.int p0), .val (.int (p0 + (8192 : Int32)))]) rfl k) ?_
      show W (s₁.setTop (mkF m 29 #[.val (.int p0), .val (.int (p0 + (8192 : Int32)))] []))
      exact Jrk_29_4 _ _ (p0 + (8192 : Int32)) (by first | rfl | simp only [if_pos hcrk_1, if_neg hcrk_2]) X0 e0 N0
  · refine stp (fun t k => XS.icmpNo X0.here hx rfl (hb hby drk_5) rfl ((flt hcrk_1).1) k) ?_
    show W (s₁.setTop (mkF m 8 #[.val (.int p0), .val (.int p0)] []))
    refine stp (fun t k => XS.iloadN X0.here hx rfl (hb hby drk_8) rfl k) ?_
    show W (s₁.setTop (mkF m 9 #[.val (.int p0), .val (.int p0)] [(.int p0)]))
    refine stp (fun t k => XS.sipush X0.here hx rfl (hb hby drk_9) k) ?_
    show W (s₁.setTop (mkF m 12 #[.val (.int p0), .val (.int p0)] [(.int (2048 : Int32)), (.int p0)]))
    refine stp (fun t k => XS.isub X0.here hx rfl (hb hby drk_12) rfl k) ?_
    show W (s₁.setTop (mkF m 13 #[.val (.int p0), .val (.int p0)] [(.int (p0 - (2048 : Int32)))]))
    refine stp (fun t k => XS.istoreN X0.here hx rfl (hb hby drk_13) rfl (l' := #[.val (.int p0), .val (.int (p0 - (2048 : Int32)))]) rfl k) ?_
    show W (s₁.setTop (mkF m 14 #[.val (.int p0), .val (.int (p0 - (2048 : Int32)))] []))
    refine stp (fun t k => XS.goto X0.here hx rfl (pc0 := 14) (pc' := 29) rfl (hb hby drk_14) (by decide) (by decide) k) ?_
    show W (s₁.setTop (mkF m 29 #[.val (.int p0), .val (.int (p0 - (2048 : Int32)))] []))
    exact Jrk_29_4 _ _ (p0 - (2048 : Int32)) (by first | rfl | simp only [if_neg hcrk_1]) X0 e0 N0
theorem dmi_0 : decode jdk_29_method_69_code 0 = .ok (.iload_n 0, 1) := by decide +kernel
theorem dmi_1 : decode jdk_29_method_69_code 1 = .ok (.iload_n 1, 1) := by decide +kernel
theorem dmi_2 : decode jdk_29_method_69_code 2 = .ok (.if_icmp .gt 7, 3) := by decide +kernel
theorem dmi_5 : decode jdk_29_method_69_code 5 = .ok (.iload_n 0, 1) := by decide +kernel
theorem dmi_6 : decode jdk_29_method_69_code 6 = .ok (.goto 4, 3) := by decide +kernel
theorem dmi_9 : decode jdk_29_method_69_code 9 = .ok (.iload_n 1, 1) := by decide +kernel
theorem dmi_10 : decode jdk_29_method_69_code 10 = .ok (.ireturn, 1) := by decide +kernel
theorem pnmi : plainFor (⟨"java/lang/Math", "min", "(II)I"⟩ : MethodName) = true := by decide +kernel
theorem efmi (m : MethodId) (p0 : Int32) (p1 : Int32) : entryFrame m #[(.int p0), (.int p1)] 2 = mkF m 0 #[.val (.int p0), .val (.int p1)] [] := by first | (simp [entryFrame, mkF, argsToLocals, Value.category]; done) | rfl
def fmi (p0 : Int32) (p1 : Int32) : Int32 := (if p1 < p0 then p1 else p0)
def Qmi (Z : State) (p0 : Int32) (p1 : Int32) (h0 : Heap) (n0 : Nat) (v : Option Value) (h : Heap) (L : List Loc) : Prop := v = some (.int (fmi p0 p1)) ∧ Fr n0 L ∧ h = h0
set_option maxRecDepth 65536 in
set_option maxHeartbeats 40000000 in
theorem rmmi (l : Launch) (Z : State) (aa : Array Value) (hw : ∀ d ∈ tables_1, d.before aa Z = true) (ws : List Jvm.Cond) (p0 : Int32) (p1 : Int32) (h0 : Heap) (n0 : Nat) (Z0 : n0 ≤ h0.size) :
    MetFree l (⟨"java/lang/Math", "min", "(II)I"⟩ : MethodName) (head1 (Jvm.Cond.code (⟨"java/lang/Math", "min", "(II)I"⟩ : MethodName) jdk_29_method_69_code 2 (some .int) :: ws) ({ frames := 0, cells := 0, slots := 0, locals := 0 } : Room)) (fun a U => a = #[(.int p0), (.int p1)] ∧ Z.Warmed39 U.vm ∧ U.heap = h0) (fun _ _ _ _ _ => True) (fun _ U o U' => ∃ v L, o = .returned v ∧ Qmi Z p0 p1 h0 n0 v U'.heap L ∧ FrameEnd U o U' L ({ frames := 0, cells := 0, slots := 0, locals := 0 } : Room).cells ({ frames := 0, cells := 0, slots := 0, locals := 0 } : Room).slots) := by
  refine MetFree.of_bodySF pnmi hisR ?_
  intro p e s m args below meth c s₁ Bd hml0 hP hK
  obtain ⟨rfl, hZ, hh⟩ := hP
  have hx := Bd.exec
  have hby := Bd.bytes
  have hml : c.maxLocals = 2 := hml0
  have hown : s.vm.findClass "java/lang/Math" = some m.cls := findClass_of_methodNamed Bd.named
  have hnm := (name_of_methodNamed Bd.named Bd.method).1
  have X0 : Stand p l e ({ frames := 0, cells := 0, slots := 0, locals := 0 } : Room) s m #[(.int p0), (.int p1)] below meth c s₁ [] 0 0 := Stand.of_body Bd
  have e0 : s₁.heap = h0 := by rw [← hh, Bd.state]; rfl
  have N0 := Fr.nil n0
  show OwnEnd p e below s (fun v h L => Qmi Z p0 p1 h0 n0 v h L) ({ frames := 0, cells := 0, slots := 0, locals := 0 } : Room).cells ({ frames := 0, cells := 0, slots := 0, locals := 0 } : Room).slots (s₁.setTop (entryFrame m #[(.int p0), (.int p1)] 2))
  rw [efmi m p0 p1]
  generalize hW : OwnEnd p e below s (fun v h L => Qmi Z p0 p1 h0 n0 v h L) ({ frames := 0, cells := 0, slots := 0, locals := 0 } : Room).cells ({ frames := 0, cells := 0, slots := 0, locals := 0 } : Room).slots = W
  have stp : ∀ {A B : State}, (∀ t, Steps p.tables e below B t → Steps p.tables e below A t) → W B → W A := by subst hW; exact own_step
  show W (s₁.setTop (mkF m 0 #[.val (.int p0), .val (.int p1)] []))
  refine stp (fun t k => XS.iloadN X0.here hx rfl (hb hby dmi_0) rfl k) ?_
  show W (s₁.setTop (mkF m 1 #[.val (.int p0), .val (.int p1)] [(.int p0)]))
  refine stp (fun t k => XS.iloadN X0.here hx rfl (hb hby dmi_1) rfl k) ?_
  show W (s₁.setTop (mkF m 2 #[.val (.int p0), .val (.int p1)] [(.int p1), (.int p0)]))
  by_cases hcmi_1 : p1 < p0
  · refine stp (fun t k => XS.icmpYes X0.here hx rfl (pc0 := 2) (pc' := 9) rfl (hb hby dmi_2) rfl ((tlt hcmi_1).2.2.1) (by decide) (by decide) k) ?_
    show W (s₁.setTop (mkF m 9 #[.val (.int p0), .val (.int p1)] []))
    refine stp (fun t k => XS.iloadN X0.here hx rfl (hb hby dmi_9) rfl k) ?_
    show W (s₁.setTop (mkF m 10 #[.val (.int p0), .val (.int p1)] [(.int p1)]))
    show W (s₁.setTop (mkF m 10 #[.val (.int p0), .val (.int p1)] [(.int p1)]))
    rw [← hW]
    exact own_retI X0 hx Bd.notSynchronized Bd.returns (hb hby dmi_10) (by show Qmi Z p0 p1 h0 n0 _ s₁.heap _; rw [e0]; exact ⟨(by rw [fmi, if_pos hcmi_1]), N0, rfl⟩) (by decide) (by decide)
  · refine stp (fun t k => XS.icmpNo X0.here hx rfl (hb hby dmi_2) rfl ((flt hcmi_1).2.2.1) k) ?_
    show W (s₁.setTop (mkF m 5 #[.val (.int p0), .val (.int p1)] []))
    refine stp (fun t k => XS.iloadN X0.here hx rfl (hb hby dmi_5) rfl k) ?_
    show W (s₁.setTop (mkF m 6 #[.val (.int p0), .val (.int p1)] [(.int p0)]))
    refine stp (fun t k => XS.goto X0.here hx rfl (pc0 := 6) (pc' := 10) rfl (hb hby dmi_6) (by decide) (by decide) k) ?_
    show W (s₁.setTop (mkF m 10 #[.val (.int p0), .val (.int p1)] [(.int p0)]))
    show W (s₁.setTop (mkF m 10 #[.val (.int p0), .val (.int p1)] [(.int p0)]))
    rw [← hW]
    exact own_retI X0 hx Bd.notSynchronized Bd.returns (hb hby dmi_10) (by show Qmi Z p0 p1 h0 n0 _ s₁.heap _; rw [e0]; exact ⟨(by rw [fmi, if_neg hcmi_1]), N0, rfl⟩) (by decide) (by decide)
theorem own_ofI {i : Int32} {n : Nat} (h : i.toInt = (n : Int)) (hn : n < 2147483648) : i = Int32.ofNat n := by
  apply Int32.toInt_inj.mp
  rw [own_ofNat hn, h]
theorem own_N (p0 : Int32) : ∃ n : Nat, ((p0 &&& (3 : Int32)) % (3 : Int32)).toInt = (n : Int) ∧ n ≤ 2 := by
  have m := c_mask p0 3 2 (by decide) (by decide)
  have h := (c_iremV (p0 &&& 3) 3).1 (by omega) (by decide)
  have e : (3 : Int32).toInt = 3 := by decide
  exact ⟨((p0 &&& 3) % 3).toInt.toNat, by omega, by omega⟩
theorem own_c16 (x : Int32) : nar .char (x.toUInt32.toUInt16.toUInt32.toInt32) = x.toUInt32.toUInt16.toUInt32.toInt32 := own_i2c (own_ch x).1 (own_ch x).2
theorem own_c16i {P : Prop} [Decidable P] (x y : Int32) : nar .char (if P then x.toUInt32.toUInt16.toUInt32.toInt32 else y.toUInt32.toUInt16.toUInt32.toInt32) = (if P then x.toUInt32.toUInt16.toUInt32.toInt32 else y.toUInt32.toUInt16.toUInt32.toInt32) := by
  split <;> exact own_c16 _
theorem own_min {mm na nb : Nat} (h : mm = min na nb) (ha : na ≤ 4000) (hb : nb ≤ 4000) : fmi (Int32.ofNat na) (Int32.ofNat nb) = Int32.ofNat mm := by
  have a := own_ofNat (n := na) (by omega)
  have b := own_ofNat (n := nb) (by omega)
  unfold fmi
  by_cases q : (Int32.ofNat nb) < (Int32.ofNat na)
  · rw [if_pos q]
    have := (own_lt32 b a).mp q
    rw [show mm = nb from by omega]
  · rw [if_neg q]
    have : ¬ nb < na := fun z => q ((own_lt32 b a).mpr z)
    rw [show mm = na from by omega]
/-! what CodePointOrder.compare computes -/
def own_cp (ga gb : Nat → Int32) (na nb : Nat) : Nat → Nat → Int32
  | _, 0 => Int32.ofNat na - Int32.ofNat nb
  | i, r + 1 => if ga i = gb i then own_cp ga gb na nb (i + 1) r else frk (ga i) - frk (gb i)
theorem own_cpS {ga gb : Nat → Int32} {na nb i t : Nat} (h : i < t) : own_cp ga gb na nb i (t - i) = if ga i = gb i then own_cp ga gb na nb (i + 1) (t - (i + 1)) else frk (ga i) - frk (gb i) := by
  rw [show t - i = (t - (i + 1)) + 1 from by omega]
  rfl
theorem own_rkI {c : Int32} (h0 : 0 ≤ c.toInt) (h1 : c.toInt < 65536) : (c.toInt < 55296 ∧ (frk c).toInt = c.toInt ∧ fgr c = 0) ∨ (57344 ≤ c.toInt ∧ (frk c).toInt = c.toInt - 2048 ∧ fgr c = 1) ∨ (55296 ≤ c.toInt ∧ c.toInt < 57344 ∧ (frk c).toInt = c.toInt + 8192 ∧ fgr c = 2) := by
  have e1 : (57344 : Int32).toInt = 57344 := by decide
  have e2 : (55296 : Int32).toInt = 55296 := by decide
  have e3 : (2048 : Int32).toInt = 2048 := by decide
  have e4 : (8192 : Int32).toInt = 8192 := by decide
  by_cases q1 : c < (57344 : Int32)
  · have r1 := Int32.lt_iff_toInt_lt.mp q1
    by_cases q2 : c < (55296 : Int32)
    · have r2 := Int32.lt_iff_toInt_lt.mp q2
      exact Or.inl ⟨by omega, by simp [frk, q1, q2], by simp [fgr, q2]⟩
    · have r2 : ¬ c.toInt < (55296 : Int32).toInt := fun z => q2 (Int32.lt_iff_toInt_lt.mpr z)
      have a := c_iadd c 8192
      have b := rng32 (c + 8192)
      exact Or.inr (Or.inr ⟨by omega, by omega, by simp only [frk, q1, q2, if_true, if_false]; omega, by simp [fgr, q1, q2]⟩)
  · have r1 : ¬ c.toInt < (57344 : Int32).toInt := fun z => q1 (Int32.lt_iff_toInt_lt.mpr z)
    have q2 : ¬ c < (55296 : Int32) := fun z => by have := Int32.lt_iff_toInt_lt.mp z; omega
    have a := c_isub c 2048
    have b := rng32 (c - 2048)
    exact Or.inr (Or.inl ⟨by omega, by simp only [frk, q1, if_false]; omega, by simp [fgr, q1, q2]⟩)
theorem own_sgN {x : Int32} (h : x.toInt < 0) : fsg x = (-1 : Int32) := by
  have q : x < (0 : Int32) := Int32.lt_iff_toInt_lt.mpr h
  rw [fsg, if_pos q]
theorem own_sgP {x : Int32} (h : 0 < x.toInt) : fsg x = (1 : Int32) := by
  have q : ¬ x < (0 : Int32) := fun z => by have : x.toInt < 0 := Int32.lt_iff_toInt_lt.mp z; omega
  have q2 : (0 : Int32) < x := Int32.lt_iff_toInt_lt.mpr h
  rw [fsg, if_neg q, if_pos q2]
theorem own_key {c d : Int32} (hc : 0 ≤ c.toInt ∧ c.toInt < 65536) (hd : 0 ≤ d.toInt ∧ d.toInt < 65536) (h : ¬ c = d) : fsg (frk c - frk d) = fcu c d := by
  have hne : c.toInt ≠ d.toInt := fun q => h (Int32.toInt_inj.mp q)
  have a := c_isub (frk c) (frk d)
  have b := rng32 (frk c - frk d)
  have L : ∀ {x y : Int32}, x.toInt < y.toInt → x < y := fun z => Int32.lt_iff_toInt_lt.mpr z
  have NL : ∀ {x y : Int32}, ¬ x.toInt < y.toInt → ¬ x < y := fun z q => z (Int32.lt_iff_toInt_lt.mp q)
  have D : ∀ (x y : Int32), fcu x y = if fgr x = fgr y then (if x < y then (-1 : Int32) else (1 : Int32)) else (if fgr x < fgr y then (-1 : Int32) else (1 : Int32)) := fun _ _ => rfl
  rw [D]
  rcases own_rkI hc.1 hc.2 with ⟨c1, c2, c3⟩ | ⟨c1, c2, c3⟩ | ⟨c0, c1, c2, c3⟩ <;> rcases own_rkI hd.1 hd.2 with ⟨d1, d2, d3⟩ | ⟨d1, d2, d3⟩ | ⟨d0, d1, d2, d3⟩ <;> rw [c3, d3]
  · rw [if_pos rfl]
    by_cases q : c.toInt < d.toInt
    · rw [if_pos (L q), own_sgN (by omega)]
    · rw [if_neg (NL q), own_sgP (by omega)]
  · rw [if_neg (by decide), if_pos (by decide), own_sgN (by omega)]
  · rw [if_neg (by decide), if_pos (by decide), own_sgN (by omega)]
  · rw [if_neg (by decide), if_neg (by decide), own_sgP (by omega)]
  · rw [if_pos rfl]
    by_cases q : c.toInt < d.toInt
    · rw [if_pos (L q), own_sgN (by omega)]
    · rw [if_neg (NL q), own_sgP (by omega)]
  · rw [if_neg (by decide), if_pos (by decide), own_sgN (by omega)]
  · rw [if_neg (by decide), if_neg (by decide), own_sgP (by omega)]
  · rw [if_neg (by decide), if_neg (by decide), own_sgP (by omega)]
  · rw [if_pos rfl]
    by_cases q : c.toInt < d.toInt
    · rw [if_pos (L q), own_sgN (by omega)]
    · rw [if_neg (NL q), own_sgP (by omega)]
theorem own_final (a0 a1 b0 b1 la lb : Int32) (k0 : nar .char a0 = a0) (k1 : nar .char a1 = a1) (k2 : nar .char b0 = b0) (k3 : nar .char b1 = b1) (na nb : Nat) (ha : la.toInt = (na : Int)) (ha2 : na ≤ 2) (hb : lb.toInt = (nb : Int)) (hb2 : nb ≤ 2) :
    fsg (own_cp (own_g2 a0 a1) (own_g2 b0 b1) na nb 0 (min na nb)) = (if (0 : Int32) < la then (if (0 : Int32) < lb then (if a0 = b0 then (if (1 : Int32) < la then (if (1 : Int32) < lb then (if a1 = b1 then (fsg (la - lb)) else (fcu a1 b1)) else (fsg (la - lb))) else (fsg (la - lb))) else (fcu a0 b0)) else (if (1 : Int32) < la then (if (1 : Int32) < lb then (if a1 = b1 then (fsg (la - lb)) else (fcu a1 b1)) else (fsg (la - lb))) else (fsg (la - lb)))) else (if (1 : Int32) < la then (if (1 : Int32) < lb then (if a1 = b1 then (fsg (la - lb)) else (fcu a1 b1)) else (fsg (la - lb))) else (fsg (la - lb)))) := by
  have ea := own_ofI ha (by omega)
  have eb := own_ofI hb (by omega)
  subst ea eb
  have ra0 := own_ch a0
  have ra1 := own_ch a1
  have rb0 := own_ch b0
  have rb1 := own_ch b1
  rw [k0] at ra0
  rw [k1] at ra1
  rw [k2] at rb0
  rw [k3] at rb1
  have g0 : own_g2 a0 a1 0 = a0 := k0
  have g1 : own_g2 a0 a1 1 = a1 := k1
  have g2 : own_g2 b0 b1 0 = b0 := k2
  have g3 : own_g2 b0 b1 1 = b1 := k3
  have z0 : ∀ ga gb na nb i, own_cp ga gb na nb i 0 = Int32.ofNat na - Int32.ofNat nb := fun _ _ _ _ _ => rfl
  have zS : ∀ ga gb na nb i r, own_cp ga gb na nb i (r + 1) = if ga i = gb i then own_cp ga gb na nb (i + 1) r else frk (ga i) - frk (gb i) := fun _ _ _ _ _ _ => rfl
  have P00 : ¬ (0 : Int32) < Int32.ofNat 0 := by decide
  have P01 : (0 : Int32) < Int32.ofNat 1 := by decide
  have P02 : (0 : Int32) < Int32.ofNat 2 := by decide
  have P10 : ¬ (1 : Int32) < Int32.ofNat 0 := by decide
  have P11 : ¬ (1 : Int32) < Int32.ofNat 1 := by decide
  have P12 : (1 : Int32) < Int32.ofNat 2 := by decide
  match na, ha2 with
  | 0, _ => 
    rw [if_neg P00, if_neg P10, show min 0 nb = 0 from by omega, z0]
  | 1, _ => match nb, hb2 with
    | 0, _ => rw [if_pos P01, if_neg P00, if_neg P11, show min 1 0 = 0 from rfl, z0]
    | 1, _ =>
      rw [if_pos P01, if_pos P01, if_neg P11, show min 1 1 = 0 + 1 from rfl, zS, g0, g2, z0]
      by_cases q : a0 = b0
      · rw [if_pos q, if_pos q]
      · rw [if_neg q, if_neg q, own_key ra0 rb0 q]
    | 2, _ =>
      rw [if_pos P01, if_pos P02, if_neg P11, show min 1 2 = 0 + 1 from rfl, zS, g0, g2, z0]
      by_cases q : a0 = b0
      · rw [if_pos q, if_pos q]
      · rw [if_neg q, if_neg q, own_key ra0 rb0 q]
  | 2, _ => match nb, hb2 with
    | 0, _ => rw [if_pos P02, if_neg P00, if_pos P12, if_neg P10, show min 2 0 = 0 from rfl, z0]
    | 1, _ =>
      rw [if_pos P02, if_pos P01, if_pos P12, if_neg P11, show min 2 1 = 0 + 1 from rfl, zS, g0, g2, z0]
      by_cases q : a0 = b0
      · rw [if_pos q, if_pos q]
      · rw [if_neg q, if_neg q, own_key ra0 rb0 q]
    | 2, _ =>
      rw [if_pos P02, if_pos P02, if_pos P12, if_pos P12, show min 2 2 = 0 + 1 + 1 from rfl, zS, zS, g0, g2, g1, g3, z0]
      by_cases q : a0 = b0
      · rw [if_pos q, if_pos q]
        by_cases q2 : a1 = b1
        · rw [if_pos q2, if_pos q2]
        · rw [if_neg q2, if_neg q2, own_key ra1 rb1 q2]
      · rw [if_neg q, if_neg q, own_key ra0 rb0 q]
theorem dcm_0 : decode prog_13_method_2_code 0 = .ok (.aload_n 0, 1) := by decide +kernel
theorem dcm_1 : decode prog_13_method_2_code 1 = .ok (.invokevirtual 7, 3) := by decide +kernel
theorem dcm_4 : decode prog_13_method_2_code 4 = .ok (.aload_n 1, 1) := by decide +kernel
theorem dcm_5 : decode prog_13_method_2_code 5 = .ok (.invokevirtual 7, 3) := by decide +kernel
theorem dcm_8 : decode prog_13_method_2_code 8 = .ok (.invokestatic 13, 3) := by decide +kernel
theorem dcm_11 : decode prog_13_method_2_code 11 = .ok (.istore_n 2, 1) := by decide +kernel
theorem dcm_12 : decode prog_13_method_2_code 12 = .ok (.iconst 0, 1) := by decide +kernel
theorem dcm_13 : decode prog_13_method_2_code 13 = .ok (.istore_n 3, 1) := by decide +kernel
theorem dcm_14 : decode prog_13_method_2_code 14 = .ok (.iload_n 3, 1) := by decide +kernel
theorem dcm_15 : decode prog_13_method_2_code 15 = .ok (.iload_n 2, 1) := by decide +kernel
theorem dcm_16 : decode prog_13_method_2_code 16 = .ok (.if_icmp .ge 22, 3) := by decide +kernel
theorem dcm_19 : decode prog_13_method_2_code 19 = .ok (.aload_n 0, 1) := by decide +kernel
theorem dcm_20 : decode prog_13_method_2_code 20 = .ok (.iload_n 3, 1) := by decide +kernel
theorem dcm_21 : decode prog_13_method_2_code 21 = .ok (.invokevirtual 19, 3) := by decide +kernel
theorem dcm_24 : decode prog_13_method_2_code 24 = .ok (.aload_n 1, 1) := by decide +kernel
theorem dcm_25 : decode prog_13_method_2_code 25 = .ok (.iload_n 3, 1) := by decide +kernel
theorem dcm_26 : decode prog_13_method_2_code 26 = .ok (.invokevirtual 19, 3) := by decide +kernel
theorem dcm_29 : decode prog_13_method_2_code 29 = .ok (.if_icmp .ne 9, 3) := by decide +kernel
theorem dcm_32 : decode prog_13_method_2_code 32 = .ok (.iinc 3 1, 3) := by decide +kernel
theorem dcm_35 : decode prog_13_method_2_code 35 = .ok (.goto (-21), 3) := by decide +kernel
theorem dcm_38 : decode prog_13_method_2_code 38 = .ok (.iload_n 3, 1) := by decide +kernel
theorem dcm_39 : decode prog_13_method_2_code 39 = .ok (.iload_n 2, 1) := by decide +kernel
theorem dcm_40 : decode prog_13_method_2_code 40 = .ok (.if_icmp .ne 17, 3) := by decide +kernel
theorem dcm_43 : decode prog_13_method_2_code 43 = .ok (.aload_n 0, 1) := by decide +kernel
theorem dcm_44 : decode prog_13_method_2_code 44 = .ok (.invokevirtual 7, 3) := by decide +kernel
theorem dcm_47 : decode prog_13_method_2_code 47 = .ok (.aload_n 1, 1) := by decide +kernel
theorem dcm_48 : decode prog_13_method_2_code 48 = .ok (.invokevirtual 7, 3) := by decide +kernel
theorem dcm_51 : decode prog_13_method_2_code 51 = .ok (.isub, 1) := by decide +kernel
theorem dcm_52 : decode prog_13_method_2_code 52 = .ok (.istore 4, 2) := by decide +kernel
theorem dcm_54 : decode prog_13_method_2_code 54 = .ok (.goto 22, 3) := by decide +kernel
theorem dcm_57 : decode prog_13_method_2_code 57 = .ok (.aload_n 0, 1) := by decide +kernel
theorem dcm_58 : decode prog_13_method_2_code 58 = .ok (.iload_n 3, 1) := by decide +kernel
theorem dcm_59 : decode prog_13_method_2_code 59 = .ok (.invokevirtual 19, 3) := by decide +kernel
theorem dcm_62 : decode prog_13_method_2_code 62 = .ok (.invokestatic 23, 3) := by decide +kernel
theorem dcm_65 : decode prog_13_method_2_code 65 = .ok (.aload_n 1, 1) := by decide +kernel
theorem dcm_66 : decode prog_13_method_2_code 66 = .ok (.iload_n 3, 1) := by decide +kernel
theorem dcm_67 : decode prog_13_method_2_code 67 = .ok (.invokevirtual 19, 3) := by decide +kernel
theorem dcm_70 : decode prog_13_method_2_code 70 = .ok (.invokestatic 23, 3) := by decide +kernel
theorem dcm_73 : decode prog_13_method_2_code 73 = .ok (.isub, 1) := by decide +kernel
theorem dcm_74 : decode prog_13_method_2_code 74 = .ok (.istore 4, 2) := by decide +kernel
theorem dcm_76 : decode prog_13_method_2_code 76 = .ok (.iload 4, 2) := by decide +kernel
theorem dcm_78 : decode prog_13_method_2_code 78 = .ok (.ireturn, 1) := by decide +kernel
theorem pncm : plainName "com/example/usher/usher/graph/CodePointOrder" = true := by first | (simp [plainName, overriddenIn]; done) | decide +kernel
theorem pdcm_0 : parseMethodDescriptor "()I" = some ⟨[], some .int⟩ := by decide +kernel
theorem pdcm_1 : parseMethodDescriptor "(II)I" = some ⟨[.int, .int], some .int⟩ := by decide +kernel
theorem pdcm_2 : parseMethodDescriptor "(I)C" = some ⟨[.int], some .char⟩ := by decide +kernel
theorem pdcm_3 : parseMethodDescriptor "(C)I" = some ⟨[.char], some .int⟩ := by decide +kernel
theorem efcm (m : MethodId) (a0 : Addr) (a1 : Addr) : entryFrame m #[(.ref a0), (.ref a1)] 5 = mkF m 0 #[.val (.ref a0), .val (.ref a1), .unset, .unset, .unset] [] := by first | (simp [entryFrame, mkF, argsToLocals, Value.category]; done) | rfl
def Qcm (Z : State) (a0 : Addr) (a1 : Addr) (wc : Int32) (sx : Value) (ba : Addr) (na : Nat) (ga : Nat → Int32) (bb : Addr) (nb : Nat) (gb : Nat → Int32) (h0 : Heap) (n0 : Nat) (v : Option Value) (h : Heap) (L : List Loc) : Prop := v = some (.int (own_cp ga gb na nb 0 (min na nb))) ∧ Fr n0 L ∧ h = h0
set_option maxRecDepth 65536 in
set_option maxHeartbeats 40000000 in
theorem rmcm (l : Launch) (Z : State) (aa : Array Value) (hw : ∀ d ∈ tables_1, d.before aa Z = true) (ws : List Jvm.Cond) (a0 : Addr) (a1 : Addr) (wc : Int32) (sx : Value) (ba : Addr) (na : Nat) (ga : Nat → Int32) (bb : Addr) (nb : Nat) (gb : Nat → Int32) (h0 : Heap) (n0 : Nat) (Z0 : n0 ≤ h0.size) (BW : OwnW Z wc sx) (O0 : Old Z n0 h0) (S_a0 : OwnStr Z h0 a0 ba na ga) (S_a1 : OwnStr Z h0 a1 bb nb gb) (hna : na ≤ 4000) (hnb : nb ≤ 4000) (hcha : ∀ j, j < na → 0 ≤ (ga j).toInt ∧ (ga j).toInt < 65536) (hchb : ∀ j, j < nb → 0 ≤ (gb j).toInt ∧ (gb j).toInt < 65536) :
    MetFree l (⟨"com/example/usher/usher/graph/CodePointOrder", "compare", "(Ljava/lang/String;Ljava/lang/String;)I"⟩ : MethodName) (head1 (Jvm.Cond.code (⟨"com/example/usher/usher/graph/CodePointOrder", "compare", "(Ljava/lang/String;Ljava/lang/String;)I"⟩ : MethodName) prog_13_method_2_code 5 (some .int) :: ws) ({ frames := 5, cells := 0, slots := 0, locals := 67 } : Room)) (fun a U => a = #[(.ref a0), (.ref a1)] ∧ Z.Warmed39 U.vm ∧ U.heap = h0) (fun _ _ _ _ _ => True) (fun _ U o U' => ∃ v L, o = .returned v ∧ Qcm Z a0 a1 wc sx ba na ga bb nb gb h0 n0 v U'.heap L ∧ FrameEnd U o U' L ({ frames := 5, cells := 0, slots := 0, locals := 67 } : Room).cells ({ frames := 5, cells := 0, slots := 0, locals := 67 } : Room).slots) := by
  refine MetFree.of_bodySF (plainFor_of_name pncm) hisR ?_
  intro p e s m args below meth c s₁ Bd hml0 hP hK
  obtain ⟨rfl, hZ, hh⟩ := hP
  have hx := Bd.exec
  have hby := Bd.bytes
  have hml : c.maxLocals = 5 := hml0
  have hown : s.vm.findClass "com/example/usher/usher/graph/CodePointOrder" = some m.cls := findClass_of_methodNamed Bd.named
  have hnm := (name_of_methodNamed Bd.named Bd.method).1
  have X0 : Stand p l e ({ frames := 5, cells := 0, slots := 0, locals := 67 } : Room) s m #[(.ref a0), (.ref a1)] below meth c s₁ [] 0 0 := Stand.of_body Bd
  have e0 : s₁.heap = h0 := by rw [← hh, Bd.state]; rfl
  have N0 := Fr.nil n0
  show OwnEnd p e below s (fun v h L => Qcm Z a0 a1 wc sx ba na ga bb nb gb h0 n0 v h L) ({ frames := 5, cells := 0, slots := 0, locals := 67 } : Room).cells ({ frames := 5, cells := 0, slots := 0, locals := 67 } : Room).slots (s₁.setTop (entryFrame m #[(.ref a0), (.ref a1)] 5))
  rw [efcm m a0 a1]
  generalize hW : OwnEnd p e below s (fun v h L => Qcm Z a0 a1 wc sx ba na ga bb nb gb h0 n0 v h L) ({ frames := 5, cells := 0, slots := 0, locals := 67 } : Room).cells ({ frames := 5, cells := 0, slots := 0, locals := 67 } : Room).slots = W
  have stp : ∀ {A B : State}, (∀ t, Steps p.tables e below B t → Steps p.tables e below A t) → W B → W A := by subst hW; exact own_step
  obtain ⟨S_cs, hcs, S_si, hr_sx, S_ad, S_hi, S_lo⟩ := id BW
  obtain ⟨mm, hmm⟩ : ∃ mm, mm = min na nb := ⟨_, rfl⟩
  have hz := own_ofNat (n := mm) (by omega)
  show W (s₁.setTop (mkF m 0 #[.val (.ref a0), .val (.ref a1), .unset, .unset, .unset] []))
  refine stp (fun t k => XS.aloadN X0.here hx rfl (hb hby dcm_0) rfl rfl k) ?_
  show W (s₁.setTop (mkF m 1 #[.val (.ref a0), .val (.ref a1), .unset, .unset, .unset] [(.ref a0)]))
  obtain ⟨cqcmc1, kqcmc1, qcmc1a, qcmc1b, qcmc1c⟩ := isOf hZ e0 S_a0.1
  obtain ⟨_, _, ⟨Tcmc1, Lcmc1, kcmc1, ncmc1⟩, -, Xcmc1, ⟨Lccmc1, hQcmc1, lcmc1, ycmc1, zcmc1⟩, stcmc1⟩ := X0.virtualBack hx (y := (⟨"java/lang/String", "length", "()I"⟩ : MethodName)) (z := (⟨"java/lang/String", "length", "()I"⟩ : MethodName)) hown (mvT hZ (hw _ (List.mem_of_getElem? (i := 33) rfl))) (mvT hZ (hw _ (List.mem_of_getElem? (i := 34) rfl))) (notFace_of_selects (args := #[]) (mvT hZ (hw _ (List.mem_of_getElem? (i := 36) rfl)))) (mvT hZ (hw _ (List.mem_of_getElem? (i := 36) rfl))) (mvT hZ (hw _ (List.mem_of_getElem? (i := 35) rfl))) (by decide) (backOf (W := 0) (rmlA l Z aa hw [] a0 wc sx ba na ga h0 n0 Z0 BW O0 S_a0 hna) hZ (hw _ (List.mem_of_getElem? (i := 37) rfl)) (hw _ (List.mem_of_getElem? (i := 6) rfl)) (by decide) (by decide)) qcmc1a qcmc1c (g := (mkF m 1 #[.val (.ref a0), .val (.ref a1), .unset, .unset, .unset] [(.ref a0)])) rfl (by rw [hml]; rfl) (Steps.refl _) (argsL := []) (rest := []) (lenOf pdcm_0 rfl) rfl (by show 2 * 0 + _ ≤ _; exact Nat.le_of_eq rfl) (hb hby dcm_1) (fun _ _ => ⟨rfl, e0, (by decide : 0 + 0 ≤ _), (by decide : 0 + 0 ≤ _)⟩)
  dsimp only [Pt.U, Pt.locs, Pt.cells, Pt.slots] at Xcmc1 lcmc1 ycmc1 zcmc1 stcmc1 hQcmc1
  subst lcmc1 ycmc1 zcmc1
  obtain ⟨rfl, Ncmc1q, ecmc1⟩ := hQcmc1
  have Ncmc1 := Fr.app N0 Ncmc1q
  obtain ⟨lccmt2, Xcmc1, Ncmc1⟩ : ∃ lc, Stand p l e ({ frames := 5, cells := 0, slots := 0, locals := 67 } : Room) s m #[(.ref a0), (.ref a1)] below meth c Tcmc1 lc 0 0 ∧ Fr n0 lc := ⟨_, Xcmc1, Ncmc1⟩
  refine stp (fun t k => stcmc1.trans k) ?_
  show W (Tcmc1.setTop (mkF m 4 #[.val (.ref a0), .val (.ref a1), .unset, .unset, .unset] [(.int (Int32.ofNat na))]))
  refine stp (fun t k => XS.aloadN Xcmc1.here hx rfl (hb hby dcm_4) rfl rfl k) ?_
  show W (Tcmc1.setTop (mkF m 5 #[.val (.ref a0), .val (.ref a1), .unset, .unset, .unset] [(.ref a1), (.int (Int32.ofNat na))]))
  obtain ⟨cqcmc3, kqcmc3, qcmc3a, qcmc3b, qcmc3c⟩ := isOf hZ ecmc1 S_a1.1
  obtain ⟨_, _, ⟨Tcmc3, Lcmc3, kcmc3, ncmc3⟩, -, Xcmc3, ⟨Lccmc3, hQcmc3, lcmc3, ycmc3, zcmc3⟩, stcmc3⟩ := Xcmc1.virtualBack hx (y := (⟨"java/lang/String", "length", "()I"⟩ : MethodName)) (z := (⟨"java/lang/String", "length", "()I"⟩ : MethodName)) hown (mvT hZ (hw _ (List.mem_of_getElem? (i := 33) rfl))) (mvT hZ (hw _ (List.mem_of_getElem? (i := 34) rfl))) (notFace_of_selects (args := #[]) (mvT hZ (hw _ (List.mem_of_getElem? (i := 36) rfl)))) (mvT hZ (hw _ (List.mem_of_getElem? (i := 36) rfl))) (mvT hZ (hw _ (List.mem_of_getElem? (i := 35) rfl))) (by decide) (backOf (W := 1) (rmlA l Z aa hw [] a1 wc sx bb nb gb h0 n0 Z0 BW O0 S_a1 hnb) hZ (hw _ (List.mem_of_getElem? (i := 37) rfl)) (hw _ (List.mem_of_getElem? (i := 6) rfl)) (by decide) (by decide)) qcmc3a qcmc3c (g := (mkF m 5 #[.val (.ref a0), .val (.ref a1), .unset, .unset, .unset] [(.ref a1), (.int (Int32.ofNat na))])) rfl (by rw [hml]; rfl) (Steps.refl _) (argsL := []) (rest := [(.int (Int32.ofNat na))]) (lenOf pdcm_0 rfl) rfl (by show 2 * 0 + _ ≤ _; exact Nat.le_of_eq rfl) (hb hby dcm_5) (fun _ _ => ⟨rfl, ecmc1, (by decide : 0 + 0 ≤ _), (by decide : 0 + 0 ≤ _)⟩)
  dsimp only [Pt.U, Pt.locs, Pt.cells, Pt.slots] at Xcmc3 lcmc3 ycmc3 zcmc3 stcmc3 hQcmc3
  subst lcmc3 ycmc3 zcmc3
  obtain ⟨rfl, Ncmc3q, ecmc3⟩ := hQcmc3
  have Ncmc3 := Fr.app Ncmc1 Ncmc3q
  obtain ⟨lccmt4, Xcmc3, Ncmc3⟩ : ∃ lc, Stand p l e ({ frames := 5, cells := 0, slots := 0, locals := 67 } : Room) s m #[(.ref a0), (.ref a1)] below meth c Tcmc3 lc 0 0 ∧ Fr n0 lc := ⟨_, Xcmc3, Ncmc3⟩
  refine stp (fun t k => stcmc3.trans k) ?_
  show W (Tcmc3.setTop (mkF m 8 #[.val (.ref a0), .val (.ref a1), .unset, .unset, .unset] [(.int (Int32.ofNat nb)), (.int (Int32.ofNat na))]))
  obtain ⟨_, _, ⟨Tcmc5, Lcmc5, kcmc5, ncmc5⟩, -, Xcmc5, ⟨Lccmc5, hQcmc5, lcmc5, ycmc5, zcmc5⟩, stcmc5⟩ := Jvm.LawKit.callS Xcmc3 hx (y := (⟨"java/lang/Math", "min", "(II)I"⟩ : MethodName)) hown (mvT hZ (hw _ (List.mem_of_getElem? (i := 44) rfl))) (mvT hZ (hw _ (List.mem_of_getElem? (i := 45) rfl))) (mvT hZ (hw _ (List.mem_of_getElem? (i := 46) rfl))) (mvT hZ (hw _ (List.mem_of_getElem? (i := 47) rfl))) (by decide) (backOf (W := 0) (rmmi l Z aa hw [] (Int32.ofNat na) (Int32.ofNat nb)  h0 n0 Z0 ) hZ (hw _ (List.mem_of_getElem? (i := 47) rfl)) (hw _ (List.mem_of_getElem? (i := 46) rfl)) (by decide) (by decide)) (g := (mkF m 8 #[.val (.ref a0), .val (.ref a1), .unset, .unset, .unset] [(.int (Int32.ofNat nb)), (.int (Int32.ofNat na))])) rfl (by rw [hml]; rfl) (argsL := [(.int (Int32.ofNat na)), (.int (Int32.ofNat nb))]) (rest := []) (lenOf pdcm_1 rfl) rfl (by show 2 * 0 + _ ≤ _; exact Nat.le_of_eq rfl) (hb hby dcm_8) (fun _ _ => ⟨rfl, ecmc3, (by decide : 0 + 0 ≤ _), (by decide : 0 + 0 ≤ _)⟩)
  dsimp only [Pt.U, Pt.locs, Pt.cells, Pt.slots] at Xcmc5 lcmc5 ycmc5 zcmc5 stcmc5 hQcmc5
  subst lcmc5 ycmc5 zcmc5
  obtain ⟨rfl, Ncmc5q, ecmc5⟩ := hQcmc5
  have Ncmc5 := Fr.app Ncmc3 Ncmc5q
  obtain ⟨lccmt6, Xcmc5, Ncmc5⟩ : ∃ lc, Stand p l e ({ frames := 5, cells := 0, slots := 0, locals := 67 } : Room) s m #[(.ref a0), (.ref a1)] below meth c Tcmc5 lc 0 0 ∧ Fr n0 lc := ⟨_, Xcmc5, Ncmc5⟩
  refine stp (fun t k => stcmc5 t k) ?_
  show W (Tcmc5.setTop (mkF m 11 #[.val (.ref a0), .val (.ref a1), .unset, .unset, .unset] [(.int (fmi (Int32.ofNat na) (Int32.ofNat nb)))]))
  rw [show (fmi (Int32.ofNat na) (Int32.ofNat nb)) = (Int32.ofNat mm) from own_min hmm hna hnb]
  show W (Tcmc5.setTop (mkF m 11 #[.val (.ref a0), .val (.ref a1), .unset, .unset, .unset] [(.int (Int32.ofNat mm))]))
  refine stp (fun t k => XS.istoreN Xcmc5.here hx rfl (hb hby dcm_11) rfl (l' := #[.val (.ref a0), .val (.ref a1), .val (.int (Int32.ofNat mm)), .unset, .unset]) rfl k) ?_
  show W (Tcmc5.setTop (mkF m 12 #[.val (.ref a0), .val (.ref a1), .val (.int (Int32.ofNat mm)), .unset, .unset] []))
  refine stp (fun t k => XS.iconst Xcmc5.here hx rfl (hb hby dcm_12) k) ?_
  show W (Tcmc5.setTop (mkF m 13 #[.val (.ref a0), .val (.ref a1), .val (.int (Int32.ofNat mm)), .unset, .unset] [(.int (0 : Int32))]))
  refine stp (fun t k => XS.istoreN Xcmc5.here hx rfl (hb hby dcm_13) rfl (l' := #[.val (.ref a0), .val (.ref a1), .val (.int (Int32.ofNat mm)), .val (.int (0 : Int32)), .unset]) rfl k) ?_
  have LP : ∀ (r i : Nat) (x : Int32) (T' : State) (lc : List Loc) (h' : Heap) (hir : i + r = mm) (hx3 : x.toInt = (i : Int)) (hE : own_cp ga gb na nb i (mm - i) = own_cp ga gb na nb 0 mm) (hh : h' = h0) (XL : Stand p l e ({ frames := 5, cells := 0, slots := 0, locals := 67 } : Room) s m #[(.ref a0), (.ref a1)] below meth c T' lc 0 0) (eL : T'.heap = h') (NL : Fr n0 lc) (KL : Keep h0 h' []) (OL : Old Z n0 h') (S_a0 : OwnStr Z h' a0 ba na ga) (S_a1 : OwnStr Z h' a1 bb nb gb), W (T'.setTop (mkF m 14 #[.val (.ref a0), .val (.ref a1), .val (.int (Int32.ofNat mm)), .val (.int x), .unset] [])) := by
    intro r
    induction r with
    | zero =>
      intro i x T' lc h' hir hx3 hE hh XL eL NL KL OL S_a0 S_a1
      have ZL : n0 ≤ h'.size := Nat.le_trans Z0 KL.1
      show W (T'.setTop (mkF m 14 #[.val (.ref a0), .val (.ref a1), .val (.int (Int32.ofNat mm)), .val (.int x), .unset] []))
      refine stp (fun t k => XS.iloadN XL.here hx rfl (hb hby dcm_14) rfl k) ?_
      show W (T'.setTop (mkF m 15 #[.val (.ref a0), .val (.ref a1), .val (.int (Int32.ofNat mm)), .val (.int x), .unset] [(.int x)]))
      refine stp (fun t k => XS.iloadN XL.here hx rfl (hb hby dcm_15) rfl k) ?_
      show W (T'.setTop (mkF m 16 #[.val (.ref a0), .val (.ref a1), .val (.int (Int32.ofNat mm)), .val (.int x), .unset] [(.int (Int32.ofNat mm)), (.int x)]))
      refine stp (fun t k => XS.icmpYes XL.here hx rfl (pc0 := 16) (pc' := 38) rfl (hb hby dcm_16) rfl ((flt (fun q => by have := (own_lt32 hx3 hz).mp q; omega)).2.1) (by decide) (by decide) k) ?_
      show W (T'.setTop (mkF m 38 #[.val (.ref a0), .val (.ref a1), .val (.int (Int32.ofNat mm)), .val (.int x), .unset] []))
      refine stp (fun t k => XS.iloadN XL.here hx rfl (hb hby dcm_38) rfl k) ?_
      show W (T'.setTop (mkF m 39 #[.val (.ref a0), .val (.ref a1), .val (.int (Int32.ofNat mm)), .val (.int x), .unset] [(.int x)]))
      refine stp (fun t k => XS.iloadN XL.here hx rfl (hb hby dcm_39) rfl k) ?_
      show W (T'.setTop (mkF m 40 #[.val (.ref a0), .val (.ref a1), .val (.int (Int32.ofNat mm)), .val (.int x), .unset] [(.int (Int32.ofNat mm)), (.int x)]))
      refine stp (fun t k => XS.icmpNo XL.here hx rfl (hb hby dcm_40) rfl ((teq (by obtain rfl : i = mm := (by omega); exact own_ofI hx3 (by omega))).2) k) ?_
      show W (T'.setTop (mkF m 43 #[.val (.ref a0), .val (.ref a1), .val (.int (Int32.ofNat mm)), .val (.int x), .unset] []))
      refine stp (fun t k => XS.aloadN XL.here hx rfl (hb hby dcm_43) rfl rfl k) ?_
      show W (T'.setTop (mkF m 44 #[.val (.ref a0), .val (.ref a1), .val (.int (Int32.ofNat mm)), .val (.int x), .unset] [(.ref a0)]))
      obtain ⟨cqcmc7, kqcmc7, qcmc7a, qcmc7b, qcmc7c⟩ := isOf hZ eL S_a0.1
      obtain ⟨_, _, ⟨Tcmc7, Lcmc7, kcmc7, ncmc7⟩, -, Xcmc7, ⟨Lccmc7, hQcmc7, lcmc7, ycmc7, zcmc7⟩, stcmc7⟩ := XL.virtualBack hx (y := (⟨"java/lang/String", "length", "()I"⟩ : MethodName)) (z := (⟨"java/lang/String", "length", "()I"⟩ : MethodName)) hown (mvT hZ (hw _ (List.mem_of_getElem? (i := 33) rfl))) (mvT hZ (hw _ (List.mem_of_getElem? (i := 34) rfl))) (notFace_of_selects (args := #[]) (mvT hZ (hw _ (List.mem_of_getElem? (i := 36) rfl)))) (mvT hZ (hw _ (List.mem_of_getElem? (i := 36) rfl))) (mvT hZ (hw _ (List.mem_of_getElem? (i := 35) rfl))) (by decide) (backOf (W := 0) (rmlA l Z aa hw [] a0 wc sx ba na ga h' n0 ZL BW OL S_a0 hna) hZ (hw _ (List.mem_of_getElem? (i := 37) rfl)) (hw _ (List.mem_of_getElem? (i := 6) rfl)) (by decide) (by decide)) qcmc7a qcmc7c (g := (mkF m 44 #[.val (.ref a0), .val (.ref a1), .val (.int (Int32.ofNat mm)), .val (.int x), .unset] [(.ref a0)])) rfl (by rw [hml]; rfl) (Steps.refl _) (argsL := []) (rest := []) (lenOf pdcm_0 rfl) rfl (by show 2 * 0 + _ ≤ _; exact Nat.le_of_eq rfl) (hb hby dcm_44) (fun _ _ => ⟨rfl, eL, (by decide : 0 + 0 ≤ _), (by decide : 0 + 0 ≤ _)⟩)
      dsimp only [Pt.U, Pt.locs, Pt.cells, Pt.slots] at Xcmc7 lcmc7 ycmc7 zcmc7 stcmc7 hQcmc7
      subst lcmc7 ycmc7 zcmc7
      obtain ⟨rfl, Ncmc7q, ecmc7⟩ := hQcmc7
      have Ncmc7 := Fr.app NL Ncmc7q
      obtain ⟨lccmt8, Xcmc7, Ncmc7⟩ : ∃ lc, Stand p l e ({ frames := 5, cells := 0, slots := 0, locals := 67 } : Room) s m #[(.ref a0), (.ref a1)] below meth c Tcmc7 lc 0 0 ∧ Fr n0 lc := ⟨_, Xcmc7, Ncmc7⟩
      refine stp (fun t k => stcmc7.trans k) ?_
      show W (Tcmc7.setTop (mkF m 47 #[.val (.ref a0), .val (.ref a1), .val (.int (Int32.ofNat mm)), .val (.int x), .unset] [(.int (Int32.ofNat na))]))
      refine stp (fun t k => XS.aloadN Xcmc7.here hx rfl (hb hby dcm_47) rfl rfl k) ?_
      show W (Tcmc7.setTop (mkF m 48 #[.val (.ref a0), .val (.ref a1), .val (.int (Int32.ofNat mm)), .val (.int x), .unset] [(.ref a1), (.int (Int32.ofNat na))]))
      obtain ⟨cqcmc9, kqcmc9, qcmc9a, qcmc9b, qcmc9c⟩ := isOf hZ ecmc7 S_a1.1
      obtain ⟨_, _, ⟨Tcmc9, Lcmc9, kcmc9, ncmc9⟩, -, Xcmc9, ⟨Lccmc9, hQcmc9, lcmc9, ycmc9, zcmc9⟩, stcmc9⟩ := Xcmc7.virtualBack hx (y := (⟨"java/lang/String", "length", "()I"⟩ : MethodName)) (z := (⟨"java/lang/String", "length", "()I"⟩ : MethodName)) hown (mvT hZ (hw _ (List.mem_of_getElem? (i := 33) rfl))) (mvT hZ (hw _ (List.mem_of_getElem? (i := 34) rfl))) (notFace_of_selects (args := #[]) (mvT hZ (hw _ (List.mem_of_getElem? (i := 36) rfl)))) (mvT hZ (hw _ (List.mem_of_getElem? (i := 36) rfl))) (mvT hZ (hw _ (List.mem_of_getElem? (i := 35) rfl))) (by decide) (backOf (W := 1) (rmlA l Z aa hw [] a1 wc sx bb nb gb h' n0 ZL BW OL S_a1 hnb) hZ (hw _ (List.mem_of_getElem? (i := 37) rfl)) (hw _ (List.mem_of_getElem? (i := 6) rfl)) (by decide) (by decide)) qcmc9a qcmc9c (g := (mkF m 48 #[.val (.ref a0), .val (.ref a1), .val (.int (Int32.ofNat mm)), .val (.int x), .unset] [(.ref a1), (.int (Int32.ofNat na))])) rfl (by rw [hml]; rfl) (Steps.refl _) (argsL := []) (rest := [(.int (Int32.ofNat na))]) (lenOf pdcm_0 rfl) rfl (by show 2 * 0 + _ ≤ _; exact Nat.le_of_eq rfl) (hb hby dcm_48) (fun _ _ => ⟨rfl, ecmc7, (by decide : 0 + 0 ≤ _), (by decide : 0 + 0 ≤ _)⟩)
      dsimp only [Pt.U, Pt.locs, Pt.cells, Pt.slots] at Xcmc9 lcmc9 ycmc9 zcmc9 stcmc9 hQcmc9
      subst lcmc9 ycmc9 zcmc9
      obtain ⟨rfl, Ncmc9q, ecmc9⟩ := hQcmc9
      have Ncmc9 := Fr.app Ncmc7 Ncmc9q
      obtain ⟨lccmt10, Xcmc9, Ncmc9⟩ : ∃ lc, Stand p l e ({ frames := 5, cells := 0, slots := 0, locals := 67 } : Room) s m #[(.ref a0), (.ref a1)] below meth c Tcmc9 lc 0 0 ∧ Fr n0 lc := ⟨_, Xcmc9, Ncmc9⟩
      refine stp (fun t k => stcmc9.trans k) ?_
      show W (Tcmc9.setTop (mkF m 51 #[.val (.ref a0), .val (.ref a1), .val (.int (Int32.ofNat mm)), .val (.int x), .unset] [(.int (Int32.ofNat nb)), (.int (Int32.ofNat na))]))
      refine stp (fun t k => XS.isub Xcmc9.here hx rfl (hb hby dcm_51) rfl k) ?_
      show W (Tcmc9.setTop (mkF m 52 #[.val (.ref a0), .val (.ref a1), .val (.int (Int32.ofNat mm)), .val (.int x), .unset] [(.int ((Int32.ofNat na) - (Int32.ofNat nb)))]))
      refine stp (fun t k => XS.istore Xcmc9.here hx rfl (hb hby dcm_52) rfl (l' := #[.val (.ref a0), .val (.ref a1), .val (.int (Int32.ofNat mm)), .val (.int x), .val (.int ((Int32.ofNat na) - (Int32.ofNat nb)))]) rfl k) ?_
      show W (Tcmc9.setTop (mkF m 54 #[.val (.ref a0), .val (.ref a1), .val (.int (Int32.ofNat mm)), .val (.int x), .val (.int ((Int32.ofNat na) - (Int32.ofNat nb)))] []))
      refine stp (fun t k => XS.goto Xcmc9.here hx rfl (pc0 := 54) (pc' := 76) rfl (hb hby dcm_54) (by decide) (by decide) k) ?_
      show W (Tcmc9.setTop (mkF m 76 #[.val (.ref a0), .val (.ref a1), .val (.int (Int32.ofNat mm)), .val (.int x), .val (.int ((Int32.ofNat na) - (Int32.ofNat nb)))] []))
      refine stp (fun t k => XS.iload Xcmc9.here hx rfl (hb hby dcm_76) rfl k) ?_
      show W (Tcmc9.setTop (mkF m 78 #[.val (.ref a0), .val (.ref a1), .val (.int (Int32.ofNat mm)), .val (.int x), .val (.int ((Int32.ofNat na) - (Int32.ofNat nb)))] [(.int ((Int32.ofNat na) - (Int32.ofNat nb)))]))
      show W (Tcmc9.setTop (mkF m 78 #[.val (.ref a0), .val (.ref a1), .val (.int (Int32.ofNat mm)), .val (.int x), .val (.int ((Int32.ofNat na) - (Int32.ofNat nb)))] [(.int ((Int32.ofNat na) - (Int32.ofNat nb)))]))
      rw [← hW]
      exact own_retI Xcmc9 hx Bd.notSynchronized Bd.returns (hb hby dcm_78) (by show Qcm Z a0 a1 wc sx ba na ga bb nb gb h0 n0 _ Tcmc9.heap _; rw [ecmc9]; exact ⟨(by rw [← hmm, ← hE, show mm - i = 0 from by omega]; rfl), Ncmc9, hh⟩) (by decide) (by decide)
    | succ r ih =>
      intro i x T' lc h' hir hx3 hE hh XL eL NL KL OL S_a0 S_a1
      have ZL : n0 ≤ h'.size := Nat.le_trans Z0 KL.1
      show W (T'.setTop (mkF m 14 #[.val (.ref a0), .val (.ref a1), .val (.int (Int32.ofNat mm)), .val (.int x), .unset] []))
      refine stp (fun t k => XS.iloadN XL.here hx rfl (hb hby dcm_14) rfl k) ?_
      show W (T'.setTop (mkF m 15 #[.val (.ref a0), .val (.ref a1), .val (.int (Int32.ofNat mm)), .val (.int x), .unset] [(.int x)]))
      refine stp (fun t k => XS.iloadN XL.here hx rfl (hb hby dcm_15) rfl k) ?_
      show W (T'.setTop (mkF m 16 #[.val (.ref a0), .val (.ref a1), .val (.int (Int32.ofNat mm)), .val (.int x), .unset] [(.int (Int32.ofNat mm)), (.int x)]))
      refine stp (fun t k => XS.icmpNo XL.here hx rfl (hb hby dcm_16) rfl ((tlt ((own_lt32 hx3 hz).mpr (by omega))).2.1) k) ?_
      show W (T'.setTop (mkF m 19 #[.val (.ref a0), .val (.ref a1), .val (.int (Int32.ofNat mm)), .val (.int x), .unset] []))
      refine stp (fun t k => XS.aloadN XL.here hx rfl (hb hby dcm_19) rfl rfl k) ?_
      show W (T'.setTop (mkF m 20 #[.val (.ref a0), .val (.ref a1), .val (.int (Int32.ofNat mm)), .val (.int x), .unset] [(.ref a0)]))
      refine stp (fun t k => XS.iloadN XL.here hx rfl (hb hby dcm_20) rfl k) ?_
      show W (T'.setTop (mkF m 21 #[.val (.ref a0), .val (.ref a1), .val (.int (Int32.ofNat mm)), .val (.int x), .unset] [(.int x), (.ref a0)]))
      obtain ⟨cqcmc11, kqcmc11, qcmc11a, qcmc11b, qcmc11c⟩ := isOf hZ eL S_a0.1
      obtain ⟨_, _, ⟨Tcmc11, Lcmc11, kcmc11, ncmc11⟩, -, Xcmc11, ⟨Lccmc11, hQcmc11, lcmc11, ycmc11, zcmc11⟩, stcmc11⟩ := XL.virtualBack hx (y := (⟨"java/lang/String", "charAt", "(I)C"⟩ : MethodName)) (z := (⟨"java/lang/String", "charAt", "(I)C"⟩ : MethodName)) hown (mvT hZ (hw _ (List.mem_of_getElem? (i := 98) rfl))) (mvT hZ (hw _ (List.mem_of_getElem? (i := 99) rfl))) (notFace_of_selects (args := #[]) (mvT hZ (hw _ (List.mem_of_getElem? (i := 101) rfl)))) (mvT hZ (hw _ (List.mem_of_getElem? (i := 101) rfl))) (mvT hZ (hw _ (List.mem_of_getElem? (i := 100) rfl))) (by decide) (backOf (W := 0) (rmcA l Z aa hw [] a0 x wc sx ba na ga i h' n0 ZL BW OL S_a0 hna hcha hx3 (by omega)) hZ (hw _ (List.mem_of_getElem? (i := 102) rfl)) (hw _ (List.mem_of_getElem? (i := 6) rfl)) (by decide) (by decide)) qcmc11a qcmc11c (g := (mkF m 21 #[.val (.ref a0), .val (.ref a1), .val (.int (Int32.ofNat mm)), .val (.int x), .unset] [(.int x), (.ref a0)])) rfl (by rw [hml]; rfl) (Steps.refl _) (argsL := [(.int x)]) (rest := []) (lenOf pdcm_2 rfl) rfl (by show 2 * 0 + _ ≤ _; exact Nat.le_of_eq rfl) (hb hby dcm_21) (fun _ _ => ⟨rfl, eL, (by decide : 0 + 0 ≤ _), (by decide : 0 + 0 ≤ _)⟩)
      dsimp only [Pt.U, Pt.locs, Pt.cells, Pt.slots] at Xcmc11 lcmc11 ycmc11 zcmc11 stcmc11 hQcmc11
      subst lcmc11 ycmc11 zcmc11
      obtain ⟨rfl, Ncmc11q, ecmc11⟩ := hQcmc11
      have Ncmc11 := Fr.app NL Ncmc11q
      obtain ⟨lccmt12, Xcmc11, Ncmc11⟩ : ∃ lc, Stand p l e ({ frames := 5, cells := 0, slots := 0, locals := 67 } : Room) s m #[(.ref a0), (.ref a1)] below meth c Tcmc11 lc 0 0 ∧ Fr n0 lc := ⟨_, Xcmc11, Ncmc11⟩
      refine stp (fun t k => stcmc11.trans k) ?_
      show W (Tcmc11.setTop (mkF m 24 #[.val (.ref a0), .val (.ref a1), .val (.int (Int32.ofNat mm)), .val (.int x), .unset] [(.int (ga i))]))
      refine stp (fun t k => XS.aloadN Xcmc11.here hx rfl (hb hby dcm_24) rfl rfl k) ?_
      show W (Tcmc11.setTop (mkF m 25 #[.val (.ref a0), .val (.ref a1), .val (.int (Int32.ofNat mm)), .val (.int x), .unset] [(.ref a1), (.int (ga i))]))
      refine stp (fun t k => XS.iloadN Xcmc11.here hx rfl (hb hby dcm_25) rfl k) ?_
      show W (Tcmc11.setTop (mkF m 26 #[.val (.ref a0), .val (.ref a1), .val (.int (Int32.ofNat mm)), .val (.int x), .unset] [(.int x), (.ref a1), (.int (ga i))]))
      obtain ⟨cqcmc13, kqcmc13, qcmc13a, qcmc13b, qcmc13c⟩ := isOf hZ ecmc11 S_a1.1
      obtain ⟨_, _, ⟨Tcmc13, Lcmc13, kcmc13, ncmc13⟩, -, Xcmc13, ⟨Lccmc13, hQcmc13, lcmc13, ycmc13, zcmc13⟩, stcmc13⟩ := Xcmc11.virtualBack hx (y := (⟨"java/lang/String", "charAt", "(I)C"⟩ : MethodName)) (z := (⟨"java/lang/String", "charAt", "(I)C"⟩ : MethodName)) hown (mvT hZ (hw _ (List.mem_of_getElem? (i := 98) rfl))) (mvT hZ (hw _ (List.mem_of_getElem? (i := 99) rfl))) (notFace_of_selects (args := #[]) (mvT hZ (hw _ (List.mem_of_getElem? (i := 101) rfl)))) (mvT hZ (hw _ (List.mem_of_getElem? (i := 101) rfl))) (mvT hZ (hw _ (List.mem_of_getElem? (i := 100) rfl))) (by decide) (backOf (W := 1) (rmcA l Z aa hw [] a1 x wc sx bb nb gb i h' n0 ZL BW OL S_a1 hnb hchb hx3 (by omega)) hZ (hw _ (List.mem_of_getElem? (i := 102) rfl)) (hw _ (List.mem_of_getElem? (i := 6) rfl)) (by decide) (by decide)) qcmc13a qcmc13c (g := (mkF m 26 #[.val (.ref a0), .val (.ref a1), .val (.int (Int32.ofNat mm)), .val (.int x), .unset] [(.int x), (.ref a1), (.int (ga i))])) rfl (by rw [hml]; rfl) (Steps.refl _) (argsL := [(.int x)]) (rest := [(.int (ga i))]) (lenOf pdcm_2 rfl) rfl (by show 2 * 0 + _ ≤ _; exact Nat.le_of_eq rfl) (hb hby dcm_26) (fun _ _ => ⟨rfl, ecmc11, (by decide : 0 + 0 ≤ _), (by decide : 0 + 0 ≤ _)⟩)
      dsimp only [Pt.U, Pt.locs, Pt.cells, Pt.slots] at Xcmc13 lcmc13 ycmc13 zcmc13 stcmc13 hQcmc13
      subst lcmc13 ycmc13 zcmc13
      obtain ⟨rfl, Ncmc13q, ecmc13⟩ := hQcmc13
      have Ncmc13 := Fr.app Ncmc11 Ncmc13q
      obtain ⟨lccmt14, Xcmc13, Ncmc13⟩ : ∃ lc, Stand p l e ({ frames := 5, cells := 0, slots := 0, locals := 67 } : Room) s m #[(.ref a0), (.ref a1)] below meth c Tcmc13 lc 0 0 ∧ Fr n0 lc := ⟨_, Xcmc13, Ncmc13⟩
      refine stp (fun t k => stcmc13.trans k) ?_
      show W (Tcmc13.setTop (mkF m 29 #[.val (.ref a0), .val (.ref a1), .val (.int (Int32.ofNat mm)), .val (.int x), .unset] [(.int (gb i)), (.int (ga i))]))
      by_cases hccm_15 : (ga i) = (gb i)
      · refine stp (fun t k => XS.icmpNo Xcmc13.here hx rfl (hb hby dcm_29) rfl ((teq hccm_15).2) k) ?_
        show W (Tcmc13.setTop (mkF m 32 #[.val (.ref a0), .val (.ref a1), .val (.int (Int32.ofNat mm)), .val (.int x), .unset] []))
        refine stp (fun t k => XS.iinc Xcmc13.here hx rfl (hb hby dcm_32) rfl (l' := #[.val (.ref a0), .val (.ref a1), .val (.int (Int32.ofNat mm)), .val (.int (x + (1 : Int32))), .unset]) rfl k) ?_
        show W (Tcmc13.setTop (mkF m 35 #[.val (.ref a0), .val (.ref a1), .val (.int (Int32.ofNat mm)), .val (.int (x + (1 : Int32))), .unset] []))
        refine stp (fun t k => XS.goto Xcmc13.here hx rfl (pc0 := 35) (pc' := 14) rfl (hb hby dcm_35) (by decide) (by decide) k) ?_
        exact ih (i + 1) _ _ _ _ (by omega) (own_inc hx3 (by omega)) (by rw [← hE, own_cpS (i := i) (by omega), if_pos hccm_15]) hh Xcmc13 ecmc13 Ncmc13 KL OL S_a0 S_a1
      · refine stp (fun t k => XS.icmpYes Xcmc13.here hx rfl (pc0 := 29) (pc' := 38) rfl (hb hby dcm_29) rfl ((feq hccm_15).2) (by decide) (by decide) k) ?_
        show W (Tcmc13.setTop (mkF m 38 #[.val (.ref a0), .val (.ref a1), .val (.int (Int32.ofNat mm)), .val (.int x), .unset] []))
        refine stp (fun t k => XS.iloadN Xcmc13.here hx rfl (hb hby dcm_38) rfl k) ?_
        show W (Tcmc13.setTop (mkF m 39 #[.val (.ref a0), .val (.ref a1), .val (.int (Int32.ofNat mm)), .val (.int x), .unset] [(.int x)]))
        refine stp (fun t k => XS.iloadN Xcmc13.here hx rfl (hb hby dcm_39) rfl k) ?_
        show W (Tcmc13.setTop (mkF m 40 #[.val (.ref a0), .val (.ref a1), .val (.int (Int32.ofNat mm)), .val (.int x), .unset] [(.int (Int32.ofNat mm)), (.int x)]))
        refine stp (fun t k => XS.icmpYes Xcmc13.here hx rfl (pc0 := 40) (pc' := 57) rfl (hb hby dcm_40) rfl ((feq (fun q => by rw [q, hz] at hx3; omega)).2) (by decide) (by decide) k) ?_
        show W (Tcmc13.setTop (mkF m 57 #[.val (.ref a0), .val (.ref a1), .val (.int (Int32.ofNat mm)), .val (.int x), .unset] []))
        refine stp (fun t k => XS.aloadN Xcmc13.here hx rfl (hb hby dcm_57) rfl rfl k) ?_
        show W (Tcmc13.setTop (mkF m 58 #[.val (.ref a0), .val (.ref a1), .val (.int (Int32.ofNat mm)), .val (.int x), .unset] [(.ref a0)]))
        refine stp (fun t k => XS.iloadN Xcmc13.here hx rfl (hb hby dcm_58) rfl k) ?_
        show W (Tcmc13.setTop (mkF m 59 #[.val (.ref a0), .val (.ref a1), .val (.int (Int32.ofNat mm)), .val (.int x), .unset] [(.int x), (.ref a0)]))
        obtain ⟨cqcmc16, kqcmc16, qcmc16a, qcmc16b, qcmc16c⟩ := isOf hZ ecmc13 S_a0.1
        obtain ⟨_, _, ⟨Tcmc16, Lcmc16, kcmc16, ncmc16⟩, -, Xcmc16, ⟨Lccmc16, hQcmc16, lcmc16, ycmc16, zcmc16⟩, stcmc16⟩ := Xcmc13.virtualBack hx (y := (⟨"java/lang/String", "charAt", "(I)C"⟩ : MethodName)) (z := (⟨"java/lang/String", "charAt", "(I)C"⟩ : MethodName)) hown (mvT hZ (hw _ (List.mem_of_getElem? (i := 98) rfl))) (mvT hZ (hw _ (List.mem_of_getElem? (i := 99) rfl))) (notFace_of_selects (args := #[]) (mvT hZ (hw _ (List.mem_of_getElem? (i := 101) rfl)))) (mvT hZ (hw _ (List.mem_of_getElem? (i := 101) rfl))) (mvT hZ (hw _ (List.mem_of_getElem? (i := 100) rfl))) (by decide) (backOf (W := 0) (rmcA l Z aa hw [] a0 x wc sx ba na ga i h' n0 ZL BW OL S_a0 hna hcha hx3 (by omega)) hZ (hw _ (List.mem_of_getElem? (i := 102) rfl)) (hw _ (List.mem_of_getElem? (i := 6) rfl)) (by decide) (by decide)) qcmc16a qcmc16c (g := (mkF m 59 #[.val (.ref a0), .val (.ref a1), .val (.int (Int32.ofNat mm)), .val (.int x), .unset] [(.int x), (.ref a0)])) rfl (by rw [hml]; rfl) (Steps.refl _) (argsL := [(.int x)]) (rest := []) (lenOf pdcm_2 rfl) rfl (by show 2 * 0 + _ ≤ _; exact Nat.le_of_eq rfl) (hb hby dcm_59) (fun _ _ => ⟨rfl, ecmc13, (by decide : 0 + 0 ≤ _), (by decide : 0 + 0 ≤ _)⟩)
        dsimp only [Pt.U, Pt.locs, Pt.cells, Pt.slots] at Xcmc16 lcmc16 ycmc16 zcmc16 stcmc16 hQcmc16
        subst lcmc16 ycmc16 zcmc16
        obtain ⟨rfl, Ncmc16q, ecmc16⟩ := hQcmc16
        have Ncmc16 := Fr.app Ncmc13 Ncmc16q
        obtain ⟨lccmt17, Xcmc16, Ncmc16⟩ : ∃ lc, Stand p l e ({ frames := 5, cells := 0, slots := 0, locals := 67 } : Room) s m #[(.ref a0), (.ref a1)] below meth c Tcmc16 lc 0 0 ∧ Fr n0 lc := ⟨_, Xcmc16, Ncmc16⟩
        refine stp (fun t k => stcmc16.trans k) ?_
        show W (Tcmc16.setTop (mkF m 62 #[.val (.ref a0), .val (.ref a1), .val (.int (Int32.ofNat mm)), .val (.int x), .unset] [(.int (ga i))]))
        obtain ⟨_, _, ⟨Tcmc18, Lcmc18, kcmc18, ncmc18⟩, -, Xcmc18, ⟨Lccmc18, hQcmc18, lcmc18, ycmc18, zcmc18⟩, stcmc18⟩ := Jvm.LawKit.callS Xcmc16 hx (y := (⟨"com/example/usher/usher/graph/CodePointOrder", "rank", "(C)I"⟩ : MethodName)) hown (mvT hZ (hw _ (List.mem_of_getElem? (i := 119) rfl))) (mvT hZ (hw _ (List.mem_of_getElem? (i := 120) rfl))) (mvT hZ (hw _ (List.mem_of_getElem? (i := 31) rfl))) (mvT hZ (hw _ (List.mem_of_getElem? (i := 121) rfl))) (by decide) (backOf (W := 0) (rmrk l Z aa hw [] (ga i)  h' n0 ZL ) hZ (hw _ (List.mem_of_getElem? (i := 121) rfl)) (hw _ (List.mem_of_getElem? (i := 31) rfl)) (by decide) (by decide)) (g := (mkF m 62 #[.val (.ref a0), .val (.ref a1), .val (.int (Int32.ofNat mm)), .val (.int x), .unset] [(.int (ga i))])) rfl (by rw [hml]; rfl) (argsL := [(.int (ga i))]) (rest := []) (lenOf pdcm_3 rfl) rfl (by show 2 * 0 + _ ≤ _; exact Nat.le_of_eq rfl) (hb hby dcm_62) (fun _ _ => ⟨rfl, ecmc16, (by decide : 0 + 0 ≤ _), (by decide : 0 + 0 ≤ _)⟩)
        dsimp only [Pt.U, Pt.locs, Pt.cells, Pt.slots] at Xcmc18 lcmc18 ycmc18 zcmc18 stcmc18 hQcmc18
        subst lcmc18 ycmc18 zcmc18
        obtain ⟨rfl, Ncmc18q, ecmc18⟩ := hQcmc18
        have Ncmc18 := Fr.app Ncmc16 Ncmc18q
        obtain ⟨lccmt19, Xcmc18, Ncmc18⟩ : ∃ lc, Stand p l e ({ frames := 5, cells := 0, slots := 0, locals := 67 } : Room) s m #[(.ref a0), (.ref a1)] below meth c Tcmc18 lc 0 0 ∧ Fr n0 lc := ⟨_, Xcmc18, Ncmc18⟩
        refine stp (fun t k => stcmc18 t k) ?_
        show W (Tcmc18.setTop (mkF m 65 #[.val (.ref a0), .val (.ref a1), .val (.int (Int32.ofNat mm)), .val (.int x), .unset] [(.int (frk (ga i)))]))
        refine stp (fun t k => XS.aloadN Xcmc18.here hx rfl (hb hby dcm_65) rfl rfl k) ?_
        show W (Tcmc18.setTop (mkF m 66 #[.val (.ref a0), .val (.ref a1), .val (.int (Int32.ofNat mm)), .val (.int x), .unset] [(.ref a1), (.int (frk (ga i)))]))
        refine stp (fun t k => XS.iloadN Xcmc18.here hx rfl (hb hby dcm_66) rfl k) ?_
        show W (Tcmc18.setTop (mkF m 67 #[.val (.ref a0), .val (.ref a1), .val (.int (Int32.ofNat mm)), .val (.int x), .unset] [(.int x), (.ref a1), (.int (frk (ga i)))]))
        obtain ⟨cqcmc20, kqcmc20, qcmc20a, qcmc20b, qcmc20c⟩ := isOf hZ ecmc18 S_a1.1
        obtain ⟨_, _, ⟨Tcmc20, Lcmc20, kcmc20, ncmc20⟩, -, Xcmc20, ⟨Lccmc20, hQcmc20, lcmc20, ycmc20, zcmc20⟩, stcmc20⟩ := Xcmc18.virtualBack hx (y := (⟨"java/lang/String", "charAt", "(I)C"⟩ : MethodName)) (z := (⟨"java/lang/String", "charAt", "(I)C"⟩ : MethodName)) hown (mvT hZ (hw _ (List.mem_of_getElem? (i := 98) rfl))) (mvT hZ (hw _ (List.mem_of_getElem? (i := 99) rfl))) (notFace_of_selects (args := #[]) (mvT hZ (hw _ (List.mem_of_getElem? (i := 101) rfl)))) (mvT hZ (hw _ (List.mem_of_getElem? (i := 101) rfl))) (mvT hZ (hw _ (List.mem_of_getElem? (i := 100) rfl))) (by decide) (backOf (W := 1) (rmcA l Z aa hw [] a1 x wc sx bb nb gb i h' n0 ZL BW OL S_a1 hnb hchb hx3 (by omega)) hZ (hw _ (List.mem_of_getElem? (i := 102) rfl)) (hw _ (List.mem_of_getElem? (i := 6) rfl)) (by decide) (by decide)) qcmc20a qcmc20c (g := (mkF m 67 #[.val (.ref a0), .val (.ref a1), .val (.int (Int32.ofNat mm)), .val (.int x), .unset] [(.int x), (.ref a1), (.int (frk (ga i)))])) rfl (by rw [hml]; rfl) (Steps.refl _) (argsL := [(.int x)]) (rest := [(.int (frk (ga i)))]) (lenOf pdcm_2 rfl) rfl (by show 2 * 0 + _ ≤ _; exact Nat.le_of_eq rfl) (hb hby dcm_67) (fun _ _ => ⟨rfl, ecmc18, (by decide : 0 + 0 ≤ _), (by decide : 0 + 0 ≤ _)⟩)
        dsimp only [Pt.U, Pt.locs, Pt.cells, Pt.slots] at Xcmc20 lcmc20 ycmc20 zcmc20 stcmc20 hQcmc20
        subst lcmc20 ycmc20 zcmc20
        obtain ⟨rfl, Ncmc20q, ecmc20⟩ := hQcmc20
        have Ncmc20 := Fr.app Ncmc18 Ncmc20q
        obtain ⟨lccmt21, Xcmc20, Ncmc20⟩ : ∃ lc, Stand p l e ({ frames := 5, cells := 0, slots := 0, locals := 67 } : Room) s m #[(.ref a0), (.ref a1)] below meth c Tcmc20 lc 0 0 ∧ Fr n0 lc := ⟨_, Xcmc20, Ncmc20⟩
        refine stp (fun t k => stcmc20.trans k) ?_
        show W (Tcmc20.setTop (mkF m 70 #[.val (.ref a0), .val (.ref a1), .val (.int (Int32.ofNat mm)), .val (.int x), .unset] [(.int (gb i)), (.int (frk (ga i)))]))
        obtain ⟨_, _, ⟨Tcmc22, Lcmc22, kcmc22, ncmc22⟩, -, Xcmc22, ⟨Lccmc22, hQcmc22, lcmc22, ycmc22, zcmc22⟩, stcmc22⟩ := Jvm.LawKit.callS Xcmc20 hx (y := (⟨"com/example/usher/usher/graph/CodePointOrder", "rank", "(C)I"⟩ : MethodName)) hown (mvT hZ (hw _ (List.mem_of_getElem? (i := 119) rfl))) (mvT hZ (hw _ (List.mem_of_getElem? (i := 120) rfl))) (mvT hZ (hw _ (List.mem_of_getElem? (i := 31) rfl))) (mvT hZ (hw _ (List.mem_of_getElem? (i := 121) rfl))) (by decide) (backOf (W := 1) (rmrk l Z aa hw [] (gb i)  h' n0 ZL ) hZ (hw _ (List.mem_of_getElem? (i := 121) rfl)) (hw _ (List.mem_of_getElem? (i := 31) rfl)) (by decide) (by decide)) (g := (mkF m 70 #[.val (.ref a0), .val (.ref a1), .val (.int (Int32.ofNat mm)), .val (.int x), .unset] [(.int (gb i)), (.int (frk (ga i)))])) rfl (by rw [hml]; rfl) (argsL := [(.int (gb i))]) (rest := [(.int (frk (ga i)))]) (lenOf pdcm_3 rfl) rfl (by show 2 * 0 + _ ≤ _; exact Nat.le_of_eq rfl) (hb hby dcm_70) (fun _ _ => ⟨rfl, ecmc20, (by decide : 0 + 0 ≤ _), (by decide : 0 + 0 ≤ _)⟩)
        dsimp only [Pt.U, Pt.locs, Pt.cells, Pt.slots] at Xcmc22 lcmc22 ycmc22 zcmc22 stcmc22 hQcmc22
        subst lcmc22 ycmc22 zcmc22
        obtain ⟨rfl, Ncmc22q, ecmc22⟩ := hQcmc22
        have Ncmc22 := Fr.app Ncmc20 Ncmc22q
        obtain ⟨lccmt23, Xcmc22, Ncmc22⟩ : ∃ lc, Stand p l e ({ frames := 5, cells := 0, slots := 0, locals := 67 } : Room) s m #[(.ref a0), (.ref a1)] below meth c Tcmc22 lc 0 0 ∧ Fr n0 lc := ⟨_, Xcmc22, Ncmc22⟩
        refine stp (fun t k => stcmc22 t k) ?_
        show W (Tcmc22.setTop (mkF m 73 #[.val (.ref a0), .val (.ref a1), .val (.int (Int32.ofNat mm)), .val (.int x), .unset] [(.int (frk (gb i))), (.int (frk (ga i)))]))
        refine stp (fun t k => XS.isub Xcmc22.here hx rfl (hb hby dcm_73) rfl k) ?_
        show W (Tcmc22.setTop (mkF m 74 #[.val (.ref a0), .val (.ref a1), .val (.int (Int32.ofNat mm)), .val (.int x), .unset] [(.int ((frk (ga i)) - (frk (gb i))))]))
        refine stp (fun t k => XS.istore Xcmc22.here hx rfl (hb hby dcm_74) rfl (l' := #[.val (.ref a0), .val (.ref a1), .val (.int (Int32.ofNat mm)), .val (.int x), .val (.int ((frk (ga i)) - (frk (gb i))))]) rfl k) ?_
        show W (Tcmc22.setTop (mkF m 76 #[.val (.ref a0), .val (.ref a1), .val (.int (Int32.ofNat mm)), .val (.int x), .val (.int ((frk (ga i)) - (frk (gb i))))] []))
        refine stp (fun t k => XS.iload Xcmc22.here hx rfl (hb hby dcm_76) rfl k) ?_
        show W (Tcmc22.setTop (mkF m 78 #[.val (.ref a0), .val (.ref a1), .val (.int (Int32.ofNat mm)), .val (.int x), .val (.int ((frk (ga i)) - (frk (gb i))))] [(.int ((frk (ga i)) - (frk (gb i))))]))
        show W (Tcmc22.setTop (mkF m 78 #[.val (.ref a0), .val (.ref a1), .val (.int (Int32.ofNat mm)), .val (.int x), .val (.int ((frk (ga i)) - (frk (gb i))))] [(.int ((frk (ga i)) - (frk (gb i))))]))
        rw [← hW]
        exact own_retI Xcmc22 hx Bd.notSynchronized Bd.returns (hb hby dcm_78) (by show Qcm Z a0 a1 wc sx ba na ga bb nb gb h0 n0 _ Tcmc22.heap _; rw [ecmc22]; exact ⟨(by rw [← hmm, ← hE, own_cpS (i := i) (by omega), if_neg hccm_15]), Ncmc22, hh⟩) (by decide) (by decide)
  exact LP mm 0 (0 : Int32) _ _ _ (by omega) rfl rfl rfl Xcmc5 ecmc5 Ncmc5 (Keep.refl h0 []) O0 S_a0 S_a1
theorem pn0 : plainName "com/example/usher/usher/graph/CodePointOrderComparePinLaw" = true := by first | (simp [plainName, overriddenIn]; done) | decide +kernel
theorem pd0_0 : parseMethodDescriptor "(ICC)Ljava/lang/String;" = some ⟨[.int, .char, .char], some (.object "java/lang/String")⟩ := by decide +kernel
theorem pd0_1 : parseMethodDescriptor "(I)I" = some ⟨[.int], some .int⟩ := by decide +kernel
theorem pd0_2 : parseMethodDescriptor "(CC)I" = some ⟨[.char, .char], some .int⟩ := by decide +kernel
theorem pd0_3 : parseMethodDescriptor "(Ljava/lang/String;Ljava/lang/String;)I" = some ⟨[(.object "java/lang/String"), (.object "java/lang/String")], some .int⟩ := by decide +kernel
theorem ef0 (m : MethodId) (p0 : Int32) (p1 : Int32) (p2 : Int32) : entryFrame m #[(.int p0), (.int p1), (.int p2)] maxLocals = mkF m 0 #[.val (.int p0), .val (.int p1), .val (.int p2), .unset, .unset, .unset, .unset, .unset, .unset, .unset, .unset, .unset, .unset] [] := by first | (simp [entryFrame, mkF, argsToLocals, Value.category, maxLocals]; done) | rfl
def Q0 (Z : State) (p0 : Int32) (p1 : Int32) (p2 : Int32) (wc : Int32) (sx : Value) (h0 : Heap) (n0 : Nat) (v : Option Value) (h : Heap) (L : List Loc) : Prop := v = some (.int (1 : Int32)) ∧ Fr n0 L
set_option maxRecDepth 65536 in
set_option maxHeartbeats 40000000 in
theorem rm0 (l : Launch) (Z : State) (aa : Array Value) (hw : ∀ d ∈ tables_1, d.before aa Z = true) (ws : List Jvm.Cond) (p0 : Int32) (p1 : Int32) (p2 : Int32) (wc : Int32) (sx : Value) (h0 : Heap) (n0 : Nat) (Z0 : n0 ≤ h0.size) (BW : OwnW Z wc sx) (O0 : Old Z n0 h0) :
    MetFree l x (head1 (Jvm.Cond.code x code maxLocals ret :: ws) room_1) (fun a U => a = #[(.int p0), (.int p1), (.int p2)] ∧ Z.Warmed39 U.vm ∧ U.heap = h0 ∧ CHv Z ownEL U.vm h0) (fun _ _ _ _ _ => True) (fun _ U o U' => ∃ v L, o = .returned v ∧ Q0 Z p0 p1 p2 wc sx h0 n0 v U'.heap L ∧ CHr Z ownEL U.vm U.heap U'.vm U'.heap ∧ ReturnedEndW U o U' L room_1.cells room_1.slots) := by
  refine MetFree.of_bodySF (plainFor_of_name pn0) hisR ?_
  intro p e s m args below meth c s₁ Bd hml0 hP hK
  obtain ⟨rfl, hZ, hh, hH⟩ := hP
  have hx := Bd.exec
  have hby := Bd.bytes
  have hml : c.maxLocals = 13 := hml0
  have hown : s.vm.findClass "com/example/usher/usher/graph/CodePointOrderComparePinLaw" = some m.cls := findClass_of_methodNamed Bd.named
  have hnm := (name_of_methodNamed Bd.named Bd.method).1
  have X0 : Stand p l e room_1 s m #[(.int p0), (.int p1), (.int p2)] below meth c s₁ [] 0 0 := Stand.of_body Bd
  have e0 : s₁.heap = h0 := by rw [← hh, Bd.state]; rfl
  have N0 := Fr.nil n0
  have hEL := own_EW hw
  obtain ⟨vm0, X0, CC, hZ, hown⟩ : ∃ vm, Stand p l e room_1 (s.setVm vm) m #[(.int p0), (.int p1), (.int p2)] below meth c s₁ [] 0 0 ∧ OwnC Z ownEL s vm h0 ∧ Z.Warmed39 (s.setVm vm).vm ∧ (s.setVm vm).vm.findClass "com/example/usher/usher/graph/CodePointOrderComparePinLaw" = some m.cls := ⟨s.vm, X0, OwnC.start hh hH, hZ, hown⟩
  show OwnEndW Z ownEL p e below s (fun v h L => Q0 Z p0 p1 p2 wc sx h0 n0 v h L) room_1.cells room_1.slots (s₁.setTop (entryFrame m #[(.int p0), (.int p1), (.int p2)] maxLocals))
  rw [ef0 m p0 p1 p2]
  generalize hW : OwnEndW Z ownEL p e below s (fun v h L => Q0 Z p0 p1 p2 wc sx h0 n0 v h L) room_1.cells room_1.slots = W
  have stp : ∀ {A B : State}, (∀ t, Steps p.tables e below B t → Steps p.tables e below A t) → W B → W A := by subst hW; exact own_stepW
  obtain ⟨S_cs, hcs, S_si, hr_sx, S_ad, S_hi, S_lo⟩ := id BW
  show W (s₁.setTop (mkF m 0 #[.val (.int p0), .val (.int p1), .val (.int p2), .unset, .unset, .unset, .unset, .unset, .unset, .unset, .unset, .unset, .unset] []))
  refine stp (fun t k => XS.iloadN X0.here hx rfl (hb hby at_0) rfl k) ?_
  show W (s₁.setTop (mkF m 1 #[.val (.int p0), .val (.int p1), .val (.int p2), .unset, .unset, .unset, .unset, .unset, .unset, .unset, .unset, .unset, .unset] [(.int p0)]))
  refine stp (fun t k => XS.iconst X0.here hx rfl (hb hby at_1) k) ?_
  show W (s₁.setTop (mkF m 2 #[.val (.int p0), .val (.int p1), .val (.int p2), .unset, .unset, .unset, .unset, .unset, .unset, .unset, .unset, .unset, .unset] [(.int (3 : Int32)), (.int p0)]))
  refine stp (fun t k => XS.iand X0.here hx rfl (hb hby at_2) rfl k) ?_
  show W (s₁.setTop (mkF m 3 #[.val (.int p0), .val (.int p1), .val (.int p2), .unset, .unset, .unset, .unset, .unset, .unset, .unset, .unset, .unset, .unset] [(.int (p0 &&& (3 : Int32)))]))
  refine stp (fun t k => XS.iconst X0.here hx rfl (hb hby at_3) k) ?_
  show W (s₁.setTop (mkF m 4 #[.val (.int p0), .val (.int p1), .val (.int p2), .unset, .unset, .unset, .unset, .unset, .unset, .unset, .unset, .unset, .unset] [(.int (3 : Int32)), (.int (p0 &&& (3 : Int32)))]))
  refine stp (fun t k => iremM X0 hx rfl (hb hby at_4) rfl (by decide) k) ?_
  show W (s₁.setTop (mkF m 5 #[.val (.int p0), .val (.int p1), .val (.int p2), .unset, .unset, .unset, .unset, .unset, .unset, .unset, .unset, .unset, .unset] [(.int ((p0 &&& (3 : Int32)) % (3 : Int32)))]))
  refine stp (fun t k => XS.istoreN X0.here hx rfl (hb hby at_5) rfl (l' := #[.val (.int p0), .val (.int p1), .val (.int p2), .val (.int ((p0 &&& (3 : Int32)) % (3 : Int32))), .unset, .unset, .unset, .unset, .unset, .unset, .unset, .unset, .unset]) rfl k) ?_
  show W (s₁.setTop (mkF m 6 #[.val (.int p0), .val (.int p1), .val (.int p2), .val (.int ((p0 &&& (3 : Int32)) % (3 : Int32))), .unset, .unset, .unset, .unset, .unset, .unset, .unset, .unset, .unset] []))
  generalize hu0_1 : ((p0 &&& (3 : Int32)) % (3 : Int32)) = u0_1
  show W (s₁.setTop (mkF m 6 #[.val (.int p0), .val (.int p1), .val (.int p2), .val (.int u0_1), .unset, .unset, .unset, .unset, .unset, .unset, .unset, .unset, .unset] []))
  refine stp (fun t k => XS.iloadN X0.here hx rfl (hb hby at_6) rfl k) ?_
  show W (s₁.setTop (mkF m 7 #[.val (.int p0), .val (.int p1), .val (.int p2), .val (.int u0_1), .unset, .unset, .unset, .unset, .unset, .unset, .unset, .unset, .unset] [(.int p0)]))
  refine stp (fun t k => XS.iconst X0.here hx rfl (hb hby at_7) k) ?_
  show W (s₁.setTop (mkF m 8 #[.val (.int p0), .val (.int p1), .val (.int p2), .val (.int u0_1), .unset, .unset, .unset, .unset, .unset, .unset, .unset, .unset, .unset] [(.int (2 : Int32)), (.int p0)]))
  refine stp (fun t k => XS.iushr X0.here hx rfl (hb hby at_8) rfl k) ?_
  show W (s₁.setTop (mkF m 9 #[.val (.int p0), .val (.int p1), .val (.int p2), .val (.int u0_1), .unset, .unset, .unset, .unset, .unset, .unset, .unset, .unset, .unset] [(.int ((p0.toUInt32 >>> ((2 : Int32) &&& 31).toUInt32).toInt32))]))
  refine stp (fun t k => XS.iconst X0.here hx rfl (hb hby at_9) k) ?_
  show W (s₁.setTop (mkF m 10 #[.val (.int p0), .val (.int p1), .val (.int p2), .val (.int u0_1), .unset, .unset, .unset, .unset, .unset, .unset, .unset, .unset, .unset] [(.int (3 : Int32)), (.int ((p0.toUInt32 >>> ((2 : Int32) &&& 31).toUInt32).toInt32))]))
  refine stp (fun t k => XS.iand X0.here hx rfl (hb hby at_10) rfl k) ?_
  show W (s₁.setTop (mkF m 11 #[.val (.int p0), .val (.int p1), .val (.int p2), .val (.int u0_1), .unset, .unset, .unset, .unset, .unset, .unset, .unset, .unset, .unset] [(.int (((p0.toUInt32 >>> ((2 : Int32) &&& 31).toUInt32).toInt32) &&& (3 : Int32)))]))
  refine stp (fun t k => XS.iconst X0.here hx rfl (hb hby at_11) k) ?_
  show W (s₁.setTop (mkF m 12 #[.val (.int p0), .val (.int p1), .val (.int p2), .val (.int u0_1), .unset, .unset, .unset, .unset, .unset, .unset, .unset, .unset, .unset] [(.int (3 : Int32)), (.int (((p0.toUInt32 >>> ((2 : Int32) &&& 31).toUInt32).toInt32) &&& (3 : Int32)))]))
  refine stp (fun t k => iremM X0 hx rfl (hb hby at_12) rfl (by decide) k) ?_
  show W (s₁.setTop (mkF m 13 #[.val (.int p0), .val (.int p1), .val (.int p2), .val (.int u0_1), .unset, .unset, .unset, .unset, .unset, .unset, .unset, .unset, .unset] [(.int ((((p0.toUInt32 >>> ((2 : Int32) &&& 31).toUInt32).toInt32) &&& (3 : Int32)) % (3 : Int32)))]))
  refine stp (fun t k => XS.istore X0.here hx rfl (hb hby at_13) rfl (l' := #[.val (.int p0), .val (.int p1), .val (.int p2), .val (.int u0_1), .val (.int ((((p0.toUInt32 >>> ((2 : Int32) &&& 31).toUInt32).toInt32) &&& (3 : Int32)) % (3 : Int32))), .unset, .unset, .unset, .unset, .unset, .unset, .unset, .unset]) rfl k) ?_
  show W (s₁.setTop (mkF m 15 #[.val (.int p0), .val (.int p1), .val (.int p2), .val (.int u0_1), .val (.int ((((p0.toUInt32 >>> ((2 : Int32) &&& 31).toUInt32).toInt32) &&& (3 : Int32)) % (3 : Int32))), .unset, .unset, .unset, .unset, .unset, .unset, .unset, .unset] []))
  generalize hu0_2 : ((((p0.toUInt32 >>> ((2 : Int32) &&& 31).toUInt32).toInt32) &&& (3 : Int32)) % (3 : Int32)) = u0_2
  show W (s₁.setTop (mkF m 15 #[.val (.int p0), .val (.int p1), .val (.int p2), .val (.int u0_1), .val (.int u0_2), .unset, .unset, .unset, .unset, .unset, .unset, .unset, .unset] []))
  refine stp (fun t k => XS.iloadN X0.here hx rfl (hb hby at_15) rfl k) ?_
  show W (s₁.setTop (mkF m 16 #[.val (.int p0), .val (.int p1), .val (.int p2), .val (.int u0_1), .val (.int u0_2), .unset, .unset, .unset, .unset, .unset, .unset, .unset, .unset] [(.int p1)]))
  refine stp (fun t k => XS.i2c X0.here hx rfl (hb hby at_16) rfl k) ?_
  show W (s₁.setTop (mkF m 17 #[.val (.int p0), .val (.int p1), .val (.int p2), .val (.int u0_1), .val (.int u0_2), .unset, .unset, .unset, .unset, .unset, .unset, .unset, .unset] [(.int (p1.toUInt32.toUInt16.toUInt32.toInt32))]))
  refine stp (fun t k => XS.istore X0.here hx rfl (hb hby at_17) rfl (l' := #[.val (.int p0), .val (.int p1), .val (.int p2), .val (.int u0_1), .val (.int u0_2), .val (.int (p1.toUInt32.toUInt16.toUInt32.toInt32)), .unset, .unset, .unset, .unset, .unset, .unset, .unset]) rfl k) ?_
  show W (s₁.setTop (mkF m 19 #[.val (.int p0), .val (.int p1), .val (.int p2), .val (.int u0_1), .val (.int u0_2), .val (.int (p1.toUInt32.toUInt16.toUInt32.toInt32)), .unset, .unset, .unset, .unset, .unset, .unset, .unset] []))
  generalize hu0_3 : (p1.toUInt32.toUInt16.toUInt32.toInt32) = u0_3
  show W (s₁.setTop (mkF m 19 #[.val (.int p0), .val (.int p1), .val (.int p2), .val (.int u0_1), .val (.int u0_2), .val (.int u0_3), .unset, .unset, .unset, .unset, .unset, .unset, .unset] []))
  refine stp (fun t k => XS.iloadN X0.here hx rfl (hb hby at_19) rfl k) ?_
  show W (s₁.setTop (mkF m 20 #[.val (.int p0), .val (.int p1), .val (.int p2), .val (.int u0_1), .val (.int u0_2), .val (.int u0_3), .unset, .unset, .unset, .unset, .unset, .unset, .unset] [(.int p1)]))
  refine stp (fun t k => XS.bipush X0.here hx rfl (hb hby at_20) k) ?_
  show W (s₁.setTop (mkF m 22 #[.val (.int p0), .val (.int p1), .val (.int p2), .val (.int u0_1), .val (.int u0_2), .val (.int u0_3), .unset, .unset, .unset, .unset, .unset, .unset, .unset] [(.int (16 : Int32)), (.int p1)]))
  refine stp (fun t k => XS.iushr X0.here hx rfl (hb hby at_22) rfl k) ?_
  show W (s₁.setTop (mkF m 23 #[.val (.int p0), .val (.int p1), .val (.int p2), .val (.int u0_1), .val (.int u0_2), .val (.int u0_3), .unset, .unset, .unset, .unset, .unset, .unset, .unset] [(.int ((p1.toUInt32 >>> ((16 : Int32) &&& 31).toUInt32).toInt32))]))
  refine stp (fun t k => XS.i2c X0.here hx rfl (hb hby at_23) rfl k) ?_
  show W (s₁.setTop (mkF m 24 #[.val (.int p0), .val (.int p1), .val (.int p2), .val (.int u0_1), .val (.int u0_2), .val (.int u0_3), .unset, .unset, .unset, .unset, .unset, .unset, .unset] [(.int (((p1.toUInt32 >>> ((16 : Int32) &&& 31).toUInt32).toInt32).toUInt32.toUInt16.toUInt32.toInt32))]))
  refine stp (fun t k => XS.istore X0.here hx rfl (hb hby at_24) rfl (l' := #[.val (.int p0), .val (.int p1), .val (.int p2), .val (.int u0_1), .val (.int u0_2), .val (.int u0_3), .val (.int (((p1.toUInt32 >>> ((16 : Int32) &&& 31).toUInt32).toInt32).toUInt32.toUInt16.toUInt32.toInt32)), .unset, .unset, .unset, .unset, .unset, .unset]) rfl k) ?_
  show W (s₁.setTop (mkF m 26 #[.val (.int p0), .val (.int p1), .val (.int p2), .val (.int u0_1), .val (.int u0_2), .val (.int u0_3), .val (.int (((p1.toUInt32 >>> ((16 : Int32) &&& 31).toUInt32).toInt32).toUInt32.toUInt16.toUInt32.toInt32)), .unset, .unset, .unset, .unset, .unset, .unset] []))
  generalize hu0_4 : (((p1.toUInt32 >>> ((16 : Int32) &&& 31).toUInt32).toInt32).toUInt32.toUInt16.toUInt32.toInt32) = u0_4
  show W (s₁.setTop (mkF m 26 #[.val (.int p0), .val (.int p1), .val (.int p2), .val (.int u0_1), .val (.int u0_2), .val (.int u0_3), .val (.int u0_4), .unset, .unset, .unset, .unset, .unset, .unset] []))
  refine stp (fun t k => XS.iloadN X0.here hx rfl (hb hby at_26) rfl k) ?_
  show W (s₁.setTop (mkF m 27 #[.val (.int p0), .val (.int p1), .val (.int p2), .val (.int u0_1), .val (.int u0_2), .val (.int u0_3), .val (.int u0_4), .unset, .unset, .unset, .unset, .unset, .unset] [(.int p0)]))
  refine stp (fun t k => XS.iconst X0.here hx rfl (hb hby at_27) k) ?_
  show W (s₁.setTop (mkF m 28 #[.val (.int p0), .val (.int p1), .val (.int p2), .val (.int u0_1), .val (.int u0_2), .val (.int u0_3), .val (.int u0_4), .unset, .unset, .unset, .unset, .unset, .unset] [(.int (4 : Int32)), (.int p0)]))
  refine stp (fun t k => XS.iushr X0.here hx rfl (hb hby at_28) rfl k) ?_
  show W (s₁.setTop (mkF m 29 #[.val (.int p0), .val (.int p1), .val (.int p2), .val (.int u0_1), .val (.int u0_2), .val (.int u0_3), .val (.int u0_4), .unset, .unset, .unset, .unset, .unset, .unset] [(.int ((p0.toUInt32 >>> ((4 : Int32) &&& 31).toUInt32).toInt32))]))
  refine stp (fun t k => XS.iconst X0.here hx rfl (hb hby at_29) k) ?_
  show W (s₁.setTop (mkF m 30 #[.val (.int p0), .val (.int p1), .val (.int p2), .val (.int u0_1), .val (.int u0_2), .val (.int u0_3), .val (.int u0_4), .unset, .unset, .unset, .unset, .unset, .unset] [(.int (1 : Int32)), (.int ((p0.toUInt32 >>> ((4 : Int32) &&& 31).toUInt32).toInt32))]))
  refine stp (fun t k => XS.iand X0.here hx rfl (hb hby at_30) rfl k) ?_
  show W (s₁.setTop (mkF m 31 #[.val (.int p0), .val (.int p1), .val (.int p2), .val (.int u0_1), .val (.int u0_2), .val (.int u0_3), .val (.int u0_4), .unset, .unset, .unset, .unset, .unset, .unset] [(.int (((p0.toUInt32 >>> ((4 : Int32) &&& 31).toUInt32).toInt32) &&& (1 : Int32)))]))
  have J0_41_7 : ∀ (T07 : State) (lc07 : List Loc) (v0_6 : Int32) (hv0_6 : v0_6 = (if (((p0.toUInt32 >>> ((4 : Int32) &&& 31).toUInt32).toInt32) &&& (1 : Int32)) = (0 : Int32) then (p2.toUInt32.toUInt16.toUInt32.toInt32) else u0_3)) (X07 : Stand p l e room_1 (s.setVm vm0) m #[(.int p0), (.int p1), (.int p2)] below meth c T07 lc07 0 0) (e07 : T07.heap = h0) (N07 : Fr n0 lc07), W (T07.setTop (mkF m 41 #[.val (.int p0), .val (.int p1), .val (.int p2), .val (.int u0_1), .val (.int u0_2), .val (.int u0_3), .val (.int u0_4), .unset, .unset, .unset, .unset, .unset, .unset] [(.int v0_6)])) := by
    intro T07 lc07 v0_6 hv0_6  X07 e07 N07
    show W (T07.setTop (mkF m 41 #[.val (.int p0), .val (.int p1), .val (.int p2), .val (.int u0_1), .val (.int u0_2), .val (.int u0_3), .val (.int u0_4), .unset, .unset, .unset, .unset, .unset, .unset] [(.int v0_6)]))
    refine stp (fun t k => XS.istore X07.here hx rfl (hb hby at_41) rfl (l' := #[.val (.int p0), .val (.int p1), .val (.int p2), .val (.int u0_1), .val (.int u0_2), .val (.int u0_3), .val (.int u0_4), .val (.int v0_6), .unset, .unset, .unset, .unset, .unset]) rfl k) ?_
    show W (T07.setTop (mkF m 43 #[.val (.int p0), .val (.int p1), .val (.int p2), .val (.int u0_1), .val (.int u0_2), .val (.int u0_3), .val (.int u0_4), .val (.int v0_6), .unset, .unset, .unset, .unset, .unset] []))
    refine stp (fun t k => XS.iloadN X07.here hx rfl (hb hby at_43) rfl k) ?_
    show W (T07.setTop (mkF m 44 #[.val (.int p0), .val (.int p1), .val (.int p2), .val (.int u0_1), .val (.int u0_2), .val (.int u0_3), .val (.int u0_4), .val (.int v0_6), .unset, .unset, .unset, .unset, .unset] [(.int p0)]))
    refine stp (fun t k => XS.iconst X07.here hx rfl (hb hby at_44) k) ?_
    show W (T07.setTop (mkF m 45 #[.val (.int p0), .val (.int p1), .val (.int p2), .val (.int u0_1), .val (.int u0_2), .val (.int u0_3), .val (.int u0_4), .val (.int v0_6), .unset, .unset, .unset, .unset, .unset] [(.int (5 : Int32)), (.int p0)]))
    refine stp (fun t k => XS.iushr X07.here hx rfl (hb hby at_45) rfl k) ?_
    show W (T07.setTop (mkF m 46 #[.val (.int p0), .val (.int p1), .val (.int p2), .val (.int u0_1), .val (.int u0_2), .val (.int u0_3), .val (.int u0_4), .val (.int v0_6), .unset, .unset, .unset, .unset, .unset] [(.int ((p0.toUInt32 >>> ((5 : Int32) &&& 31).toUInt32).toInt32))]))
    refine stp (fun t k => XS.iconst X07.here hx rfl (hb hby at_46) k) ?_
    show W (T07.setTop (mkF m 47 #[.val (.int p0), .val (.int p1), .val (.int p2), .val (.int u0_1), .val (.int u0_2), .val (.int u0_3), .val (.int u0_4), .val (.int v0_6), .unset, .unset, .unset, .unset, .unset] [(.int (1 : Int32)), (.int ((p0.toUInt32 >>> ((5 : Int32) &&& 31).toUInt32).toInt32))]))
    refine stp (fun t k => XS.iand X07.here hx rfl (hb hby at_47) rfl k) ?_
    show W (T07.setTop (mkF m 48 #[.val (.int p0), .val (.int p1), .val (.int p2), .val (.int u0_1), .val (.int u0_2), .val (.int u0_3), .val (.int u0_4), .val (.int v0_6), .unset, .unset, .unset, .unset, .unset] [(.int (((p0.toUInt32 >>> ((5 : Int32) &&& 31).toUInt32).toInt32) &&& (1 : Int32)))]))
    have J0_61_10 : ∀ (T010 : State) (lc010 : List Loc) (v0_9 : Int32) (hv0_9 : v0_9 = (if (((p0.toUInt32 >>> ((5 : Int32) &&& 31).toUInt32).toInt32) &&& (1 : Int32)) = (0 : Int32) then (((p2.toUInt32 >>> ((16 : Int32) &&& 31).toUInt32).toInt32).toUInt32.toUInt16.toUInt32.toInt32) else u0_4)) (X010 : Stand p l e room_1 (s.setVm vm0) m #[(.int p0), (.int p1), (.int p2)] below meth c T010 lc010 0 0) (e010 : T010.heap = h0) (N010 : Fr n0 lc010), W (T010.setTop (mkF m 61 #[.val (.int p0), .val (.int p1), .val (.int p2), .val (.int u0_1), .val (.int u0_2), .val (.int u0_3), .val (.int u0_4), .val (.int v0_6), .unset, .unset, .unset, .unset, .unset] [(.int v0_9)])) := by
      intro T010 lc010 v0_9 hv0_9  X010 e010 N010
      show W (T010.setTop (mkF m 61 #[.val (.int p0), .val (.int p1), .val (.int p2), .val (.int u0_1), .val (.int u0_2), .val (.int u0_3), .val (.int u0_4), .val (.int v0_6), .unset, .unset, .unset, .unset, .unset] [(.int v0_9)]))
      refine stp (fun t k => XS.istore X010.here hx rfl (hb hby at_61) rfl (l' := #[.val (.int p0), .val (.int p1), .val (.int p2), .val (.int u0_1), .val (.int u0_2), .val (.int u0_3), .val (.int u0_4), .val (.int v0_6), .val (.int v0_9), .unset, .unset, .unset, .unset]) rfl k) ?_
      show W (T010.setTop (mkF m 63 #[.val (.int p0), .val (.int p1), .val (.int p2), .val (.int u0_1), .val (.int u0_2), .val (.int u0_3), .val (.int u0_4), .val (.int v0_6), .val (.int v0_9), .unset, .unset, .unset, .unset] []))
      have kc0 : nar .char u0_3 = u0_3 := by subst hv0_9; subst hv0_6; subst hu0_4; subst hu0_3; subst hu0_2; subst hu0_1; exact own_c16 _
      have kc1 : nar .char u0_4 = u0_4 := by subst hv0_9; subst hv0_6; subst hu0_4; subst hu0_3; subst hu0_2; subst hu0_1; exact own_c16 _
      have kc2 : nar .char v0_6 = v0_6 := by subst hv0_9; subst hv0_6; subst hu0_4; subst hu0_3; subst hu0_2; subst hu0_1; exact own_c16i _ _
      have kc3 : nar .char v0_9 = v0_9 := by subst hv0_9; subst hv0_6; subst hu0_4; subst hu0_3; subst hu0_2; subst hu0_1; exact own_c16i _ _
      obtain ⟨na, nb, hna, hna2, hnb, hnb2⟩ : ∃ na nb : Nat, u0_1.toInt = (na : Int) ∧ na ≤ 2 ∧ u0_2.toInt = (nb : Int) ∧ nb ≤ 2 := by
        subst hv0_9; subst hv0_6; subst hu0_4; subst hu0_3; subst hu0_2; subst hu0_1; obtain ⟨na, h1, h2⟩ := own_N p0
        obtain ⟨nb, h3, h4⟩ := own_N ((p0.toUInt32 >>> ((2 : Int32) &&& 31).toUInt32).toInt32)
        exact ⟨na, nb, h1, h2, h3, h4⟩
      show W (T010.setTop (mkF m 63 #[.val (.int p0), .val (.int p1), .val (.int p2), .val (.int u0_1), .val (.int u0_2), .val (.int u0_3), .val (.int u0_4), .val (.int v0_6), .val (.int v0_9), .unset, .unset, .unset, .unset] []))
      refine stp (fun t k => XS.iloadN X010.here hx rfl (hb hby at_63) rfl k) ?_
      show W (T010.setTop (mkF m 64 #[.val (.int p0), .val (.int p1), .val (.int p2), .val (.int u0_1), .val (.int u0_2), .val (.int u0_3), .val (.int u0_4), .val (.int v0_6), .val (.int v0_9), .unset, .unset, .unset, .unset] [(.int u0_1)]))
      refine stp (fun t k => XS.iload X010.here hx rfl (hb hby at_64) rfl k) ?_
      show W (T010.setTop (mkF m 66 #[.val (.int p0), .val (.int p1), .val (.int p2), .val (.int u0_1), .val (.int u0_2), .val (.int u0_3), .val (.int u0_4), .val (.int v0_6), .val (.int v0_9), .unset, .unset, .unset, .unset] [(.int u0_3), (.int u0_1)]))
      refine stp (fun t k => XS.iload X010.here hx rfl (hb hby at_66) rfl k) ?_
      show W (T010.setTop (mkF m 68 #[.val (.int p0), .val (.int p1), .val (.int p2), .val (.int u0_1), .val (.int u0_2), .val (.int u0_3), .val (.int u0_4), .val (.int v0_6), .val (.int v0_9), .unset, .unset, .unset, .unset] [(.int u0_4), (.int u0_3), (.int u0_1)]))
      obtain ⟨_, _, ⟨T0c11, L0c11, k0c11, n0c11⟩, -, X0c11, hS0c11, hG0c11, ⟨Lc0c11, hQ0c11, l0c11, y0c11, z0c11, hC0c11⟩, st0c11⟩ := callSS X010 hx (y := (⟨"com/example/usher/usher/graph/CodePointOrderComparePinLaw", "make", "(ICC)Ljava/lang/String;"⟩ : MethodName)) hown (mvT hZ (hw _ (List.mem_of_getElem? (i := 0) rfl))) (mvT hZ (hw _ (List.mem_of_getElem? (i := 1) rfl))) (mvT hZ (hw _ (List.mem_of_getElem? (i := 2) rfl))) (mvT hZ (hw _ (List.mem_of_getElem? (i := 3) rfl))) (by decide) (backOfSH (W := 0) (rmmk l Z aa hw [] u0_1 u0_3 u0_4 wc sx na h0 n0 Z0 BW O0 hna hna2 kc0) hZ (hw _ (List.mem_of_getElem? (i := 3) rfl)) (hw _ (List.mem_of_getElem? (i := 2) rfl)) (by decide) (by decide) hEL CC.2.1) (g := (mkF m 68 #[.val (.int p0), .val (.int p1), .val (.int p2), .val (.int u0_1), .val (.int u0_2), .val (.int u0_3), .val (.int u0_4), .val (.int v0_6), .val (.int v0_9), .unset, .unset, .unset, .unset] [(.int u0_4), (.int u0_3), (.int u0_1)])) rfl (by rw [hml]; rfl) (argsL := [(.int u0_1), (.int u0_3), (.int u0_4)]) (rest := []) (lenOf pd0_0 rfl) rfl (by show 2 * 0 + _ ≤ _; exact Nat.le_of_eq rfl) (hb hby at_68) (fun _ _ => ⟨rfl, e010, (by decide : 0 + 6 ≤ _), (by decide : 0 + 12 ≤ _)⟩)
      dsimp only [Pt.U, Pt.locs, Pt.cells, Pt.slots] at X0c11 l0c11 y0c11 z0c11 st0c11 hQ0c11
      subst l0c11 y0c11 z0c11
      obtain ⟨a0c11, b0c11, rfl, N0c11q, Kq0c11, S_0c11⟩ := hQ0c11
      have N0c11 := Fr.app N010 N0c11q
      dsimp only [Pt.U] at hS0c11 hG0c11 hC0c11
      rw [e010] at hG0c11
      obtain ⟨vm0c11, ⟨lc0c11, X0c11, N0c11⟩, CC0c11, hZ, hown⟩ : ∃ vm, (∃ lc, Stand p l e room_1 (s.setVm vm) m #[(.int p0), (.int p1), (.int p2)] below meth c T0c11 lc 6 12 ∧ Fr n0 lc) ∧ OwnC Z ownEL s vm T0c11.heap ∧ Z.Warmed39 (s.setVm vm).vm ∧ (s.setVm vm).vm.findClass "com/example/usher/usher/graph/CodePointOrderComparePinLaw" = some m.cls := ⟨_, ⟨_, X0c11, N0c11⟩, CC.reb hS0c11 hG0c11 hC0c11, State.Warmed39.trans hZ hS0c11.1, (hS0c11.1.alike.findClass _ _).trans hown⟩
      replace CC := CC0c11
      obtain ⟨h0c11, e0c11⟩ : ∃ h, T0c11.heap = h := ⟨_, rfl⟩
      rw [e0c11] at Kq0c11 S_0c11 CC
      have KK0c11 := Keep.trans (Keep.refl h0 []) Kq0c11 all0
      have Z0c11 := Nat.le_trans Z0 Kq0c11.1
      have O0c11 := O0.keep Kq0c11 all0
      refine stp (fun t k => st0c11.trans k) ?_
      show W (T0c11.setTop (mkF m 71 #[.val (.int p0), .val (.int p1), .val (.int p2), .val (.int u0_1), .val (.int u0_2), .val (.int u0_3), .val (.int u0_4), .val (.int v0_6), .val (.int v0_9), .unset, .unset, .unset, .unset] [(.ref a0c11)]))
      refine stp (fun t k => XS.astore X0c11.here hx rfl (hb hby at_71) rfl rfl (l' := #[.val (.int p0), .val (.int p1), .val (.int p2), .val (.int u0_1), .val (.int u0_2), .val (.int u0_3), .val (.int u0_4), .val (.int v0_6), .val (.int v0_9), .val (.ref a0c11), .unset, .unset, .unset]) rfl k) ?_
      show W (T0c11.setTop (mkF m 73 #[.val (.int p0), .val (.int p1), .val (.int p2), .val (.int u0_1), .val (.int u0_2), .val (.int u0_3), .val (.int u0_4), .val (.int v0_6), .val (.int v0_9), .val (.ref a0c11), .unset, .unset, .unset] []))
      refine stp (fun t k => XS.iload X0c11.here hx rfl (hb hby at_73) rfl k) ?_
      show W (T0c11.setTop (mkF m 75 #[.val (.int p0), .val (.int p1), .val (.int p2), .val (.int u0_1), .val (.int u0_2), .val (.int u0_3), .val (.int u0_4), .val (.int v0_6), .val (.int v0_9), .val (.ref a0c11), .unset, .unset, .unset] [(.int u0_2)]))
      refine stp (fun t k => XS.iload X0c11.here hx rfl (hb hby at_75) rfl k) ?_
      show W (T0c11.setTop (mkF m 77 #[.val (.int p0), .val (.int p1), .val (.int p2), .val (.int u0_1), .val (.int u0_2), .val (.int u0_3), .val (.int u0_4), .val (.int v0_6), .val (.int v0_9), .val (.ref a0c11), .unset, .unset, .unset] [(.int v0_6), (.int u0_2)]))
      refine stp (fun t k => XS.iload X0c11.here hx rfl (hb hby at_77) rfl k) ?_
      show W (T0c11.setTop (mkF m 79 #[.val (.int p0), .val (.int p1), .val (.int p2), .val (.int u0_1), .val (.int u0_2), .val (.int u0_3), .val (.int u0_4), .val (.int v0_6), .val (.int v0_9), .val (.ref a0c11), .unset, .unset, .unset] [(.int v0_9), (.int v0_6), (.int u0_2)]))
      obtain ⟨_, _, ⟨T0c12, L0c12, k0c12, n0c12⟩, -, X0c12, hS0c12, hG0c12, ⟨Lc0c12, hQ0c12, l0c12, y0c12, z0c12, hC0c12⟩, st0c12⟩ := callSS X0c11 hx (y := (⟨"com/example/usher/usher/graph/CodePointOrderComparePinLaw", "make", "(ICC)Ljava/lang/String;"⟩ : MethodName)) hown (mvT hZ (hw _ (List.mem_of_getElem? (i := 0) rfl))) (mvT hZ (hw _ (List.mem_of_getElem? (i := 1) rfl))) (mvT hZ (hw _ (List.mem_of_getElem? (i := 2) rfl))) (mvT hZ (hw _ (List.mem_of_getElem? (i := 3) rfl))) (by decide) (backOfSH (W := 0) (rmmk l Z aa hw [] u0_2 v0_6 v0_9 wc sx nb h0c11 n0 Z0c11 BW O0c11 hnb hnb2 kc2) hZ (hw _ (List.mem_of_getElem? (i := 3) rfl)) (hw _ (List.mem_of_getElem? (i := 2) rfl)) (by decide) (by decide) hEL CC.2.1) (g := (mkF m 79 #[.val (.int p0), .val (.int p1), .val (.int p2), .val (.int u0_1), .val (.int u0_2), .val (.int u0_3), .val (.int u0_4), .val (.int v0_6), .val (.int v0_9), .val (.ref a0c11), .unset, .unset, .unset] [(.int v0_9), (.int v0_6), (.int u0_2)])) rfl (by rw [hml]; rfl) (argsL := [(.int u0_2), (.int v0_6), (.int v0_9)]) (rest := []) (lenOf pd0_0 rfl) rfl (by show 2 * 0 + _ ≤ _; exact Nat.le_of_eq rfl) (hb hby at_79) (fun _ _ => ⟨rfl, e0c11, (by decide : 6 + 6 ≤ _), (by decide : 12 + 12 ≤ _)⟩)
      dsimp only [Pt.U, Pt.locs, Pt.cells, Pt.slots] at X0c12 l0c12 y0c12 z0c12 st0c12 hQ0c12
      subst l0c12 y0c12 z0c12
      obtain ⟨a0c12, b0c12, rfl, N0c12q, Kq0c12, S_0c12⟩ := hQ0c12
      have N0c12 := Fr.app N0c11 N0c12q
      dsimp only [Pt.U] at hS0c12 hG0c12 hC0c12
      rw [e0c11] at hG0c12
      obtain ⟨vm0c12, ⟨lc0c12, X0c12, N0c12⟩, CC0c12, hZ, hown⟩ : ∃ vm, (∃ lc, Stand p l e room_1 (s.setVm vm) m #[(.int p0), (.int p1), (.int p2)] below meth c T0c12 lc 12 24 ∧ Fr n0 lc) ∧ OwnC Z ownEL s vm T0c12.heap ∧ Z.Warmed39 (s.setVm vm).vm ∧ (s.setVm vm).vm.findClass "com/example/usher/usher/graph/CodePointOrderComparePinLaw" = some m.cls := ⟨_, ⟨_, X0c12, N0c12⟩, CC.reb hS0c12 hG0c12 hC0c12, State.Warmed39.trans hZ hS0c12.1, (hS0c12.1.alike.findClass _ _).trans hown⟩
      replace CC := CC0c12
      obtain ⟨h0c12, e0c12⟩ : ∃ h, T0c12.heap = h := ⟨_, rfl⟩
      rw [e0c12] at Kq0c12 S_0c12 CC
      replace S_0c11 := S_0c11.keep Kq0c12 nin0 nin0
      have KK0c12 := Keep.trans KK0c11 Kq0c12 all0
      have Z0c12 := Nat.le_trans Z0c11 Kq0c12.1
      have O0c12 := O0c11.keep Kq0c12 all0
      refine stp (fun t k => st0c12.trans k) ?_
      show W (T0c12.setTop (mkF m 82 #[.val (.int p0), .val (.int p1), .val (.int p2), .val (.int u0_1), .val (.int u0_2), .val (.int u0_3), .val (.int u0_4), .val (.int v0_6), .val (.int v0_9), .val (.ref a0c11), .unset, .unset, .unset] [(.ref a0c12)]))
      refine stp (fun t k => XS.astore X0c12.here hx rfl (hb hby at_82) rfl rfl (l' := #[.val (.int p0), .val (.int p1), .val (.int p2), .val (.int u0_1), .val (.int u0_2), .val (.int u0_3), .val (.int u0_4), .val (.int v0_6), .val (.int v0_9), .val (.ref a0c11), .val (.ref a0c12), .unset, .unset]) rfl k) ?_
      show W (T0c12.setTop (mkF m 84 #[.val (.int p0), .val (.int p1), .val (.int p2), .val (.int u0_1), .val (.int u0_2), .val (.int u0_3), .val (.int u0_4), .val (.int v0_6), .val (.int v0_9), .val (.ref a0c11), .val (.ref a0c12), .unset, .unset] []))
      refine stp (fun t k => XS.iloadN X0c12.here hx rfl (hb hby at_84) rfl k) ?_
      show W (T0c12.setTop (mkF m 85 #[.val (.int p0), .val (.int p1), .val (.int p2), .val (.int u0_1), .val (.int u0_2), .val (.int u0_3), .val (.int u0_4), .val (.int v0_6), .val (.int v0_9), .val (.ref a0c11), .val (.ref a0c12), .unset, .unset] [(.int u0_1)]))
      have J0_151_52 : ∀ (T052 : State) (lc052 : List Loc) (v0_51 : Int32) (hv0_51 : v0_51 = (if (0 : Int32) < u0_1 then (if (0 : Int32) < u0_2 then (if u0_3 = v0_6 then (if (1 : Int32) < u0_1 then (if (1 : Int32) < u0_2 then (if u0_4 = v0_9 then (fsg (u0_1 - u0_2)) else (fcu u0_4 v0_9)) else (fsg (u0_1 - u0_2))) else (fsg (u0_1 - u0_2))) else (fcu u0_3 v0_6)) else (if (1 : Int32) < u0_1 then (if (1 : Int32) < u0_2 then (if u0_4 = v0_9 then (fsg (u0_1 - u0_2)) else (fcu u0_4 v0_9)) else (fsg (u0_1 - u0_2))) else (fsg (u0_1 - u0_2)))) else (if (1 : Int32) < u0_1 then (if (1 : Int32) < u0_2 then (if u0_4 = v0_9 then (fsg (u0_1 - u0_2)) else (fcu u0_4 v0_9)) else (fsg (u0_1 - u0_2))) else (fsg (u0_1 - u0_2))))) (X052 : Stand p l e room_1 (s.setVm vm0c12) m #[(.int p0), (.int p1), (.int p2)] below meth c T052 lc052 12 24) (e052 : T052.heap = h0c12) (N052 : Fr n0 lc052), W (T052.setTop (mkF m 151 #[.val (.int p0), .val (.int p1), .val (.int p2), .val (.int u0_1), .val (.int u0_2), .val (.int u0_3), .val (.int u0_4), .val (.int v0_6), .val (.int v0_9), .val (.ref a0c11), .val (.ref a0c12), .val (.int v0_51), .unset] [])) := by
        intro T052 lc052 v0_51 hv0_51  X052 e052 N052
        show W (T052.setTop (mkF m 151 #[.val (.int p0), .val (.int p1), .val (.int p2), .val (.int u0_1), .val (.int u0_2), .val (.int u0_3), .val (.int u0_4), .val (.int v0_6), .val (.int v0_9), .val (.ref a0c11), .val (.ref a0c12), .val (.int v0_51), .unset] []))
        refine stp (fun t k => XS.aload X052.here hx rfl (hb hby at_151) rfl rfl k) ?_
        show W (T052.setTop (mkF m 153 #[.val (.int p0), .val (.int p1), .val (.int p2), .val (.int u0_1), .val (.int u0_2), .val (.int u0_3), .val (.int u0_4), .val (.int v0_6), .val (.int v0_9), .val (.ref a0c11), .val (.ref a0c12), .val (.int v0_51), .unset] [(.ref a0c11)]))
        refine stp (fun t k => XS.aload X052.here hx rfl (hb hby at_153) rfl rfl k) ?_
        show W (T052.setTop (mkF m 155 #[.val (.int p0), .val (.int p1), .val (.int p2), .val (.int u0_1), .val (.int u0_2), .val (.int u0_3), .val (.int u0_4), .val (.int v0_6), .val (.int v0_9), .val (.ref a0c11), .val (.ref a0c12), .val (.int v0_51), .unset] [(.ref a0c12), (.ref a0c11)]))
        obtain ⟨_, _, ⟨T0c53, L0c53, k0c53, n0c53⟩, -, X0c53, ⟨Lc0c53, hQ0c53, l0c53, y0c53, z0c53⟩, st0c53⟩ := Jvm.LawKit.callS X052 hx (y := (⟨"com/example/usher/usher/graph/CodePointOrder", "compare", "(Ljava/lang/String;Ljava/lang/String;)I"⟩ : MethodName)) hown (mvT hZ (hw _ (List.mem_of_getElem? (i := 29) rfl))) (mvT hZ (hw _ (List.mem_of_getElem? (i := 30) rfl))) (mvT hZ (hw _ (List.mem_of_getElem? (i := 31) rfl))) (mvT hZ (hw _ (List.mem_of_getElem? (i := 32) rfl))) (by decide) (backOf (W := 0) (rmcm l Z aa hw [] a0c11 a0c12 wc sx b0c11 na (own_g2 u0_3 u0_4) b0c12 nb (own_g2 v0_6 v0_9) h0c12 n0 Z0c12 BW O0c12 S_0c11 S_0c12 (Nat.le_trans hna2 (by decide)) (Nat.le_trans hnb2 (by decide)) (own_g2R u0_3 u0_4 na hna2) (own_g2R v0_6 v0_9 nb hnb2)) hZ (hw _ (List.mem_of_getElem? (i := 32) rfl)) (hw _ (List.mem_of_getElem? (i := 31) rfl)) (by decide) (by decide)) (g := (mkF m 155 #[.val (.int p0), .val (.int p1), .val (.int p2), .val (.int u0_1), .val (.int u0_2), .val (.int u0_3), .val (.int u0_4), .val (.int v0_6), .val (.int v0_9), .val (.ref a0c11), .val (.ref a0c12), .val (.int v0_51), .unset] [(.ref a0c12), (.ref a0c11)])) rfl (by rw [hml]; rfl) (argsL := [(.ref a0c11), (.ref a0c12)]) (rest := []) (lenOf pd0_3 rfl) rfl (by show 2 * 0 + _ ≤ _; exact Nat.le_of_eq rfl) (hb hby at_155) (fun _ _ => ⟨rfl, e052, (by decide : 12 + 0 ≤ _), (by decide : 24 + 0 ≤ _)⟩)
        dsimp only [Pt.U, Pt.locs, Pt.cells, Pt.slots] at X0c53 l0c53 y0c53 z0c53 st0c53 hQ0c53
        subst l0c53 y0c53 z0c53
        obtain ⟨rfl, N0c53q, e0c53⟩ := hQ0c53
        have N0c53 := Fr.app N052 N0c53q
        obtain ⟨lc0t54, X0c53, N0c53⟩ : ∃ lc, Stand p l e room_1 (s.setVm vm0c12) m #[(.int p0), (.int p1), (.int p2)] below meth c T0c53 lc 12 24 ∧ Fr n0 lc := ⟨_, X0c53, N0c53⟩
        refine stp (fun t k => st0c53 t k) ?_
        show W (T0c53.setTop (mkF m 158 #[.val (.int p0), .val (.int p1), .val (.int p2), .val (.int u0_1), .val (.int u0_2), .val (.int u0_3), .val (.int u0_4), .val (.int v0_6), .val (.int v0_9), .val (.ref a0c11), .val (.ref a0c12), .val (.int v0_51), .unset] [(.int (own_cp (own_g2 u0_3 u0_4) (own_g2 v0_6 v0_9) na nb 0 (min na nb)))]))
        generalize hu0_55 : (own_cp (own_g2 u0_3 u0_4) (own_g2 v0_6 v0_9) na nb 0 (min na nb)) = u0_55
        show W (T0c53.setTop (mkF m 158 #[.val (.int p0), .val (.int p1), .val (.int p2), .val (.int u0_1), .val (.int u0_2), .val (.int u0_3), .val (.int u0_4), .val (.int v0_6), .val (.int v0_9), .val (.ref a0c11), .val (.ref a0c12), .val (.int v0_51), .unset] [(.int u0_55)]))
        refine stp (fun t k => XS.istore X0c53.here hx rfl (hb hby at_158) rfl (l' := #[.val (.int p0), .val (.int p1), .val (.int p2), .val (.int u0_1), .val (.int u0_2), .val (.int u0_3), .val (.int u0_4), .val (.int v0_6), .val (.int v0_9), .val (.ref a0c11), .val (.ref a0c12), .val (.int v0_51), .val (.int u0_55)]) rfl k) ?_
        show W (T0c53.setTop (mkF m 160 #[.val (.int p0), .val (.int p1), .val (.int p2), .val (.int u0_1), .val (.int u0_2), .val (.int u0_3), .val (.int u0_4), .val (.int v0_6), .val (.int v0_9), .val (.ref a0c11), .val (.ref a0c12), .val (.int v0_51), .val (.int u0_55)] []))
        refine stp (fun t k => XS.iload X0c53.here hx rfl (hb hby at_160) rfl k) ?_
        show W (T0c53.setTop (mkF m 162 #[.val (.int p0), .val (.int p1), .val (.int p2), .val (.int u0_1), .val (.int u0_2), .val (.int u0_3), .val (.int u0_4), .val (.int v0_6), .val (.int v0_9), .val (.ref a0c11), .val (.ref a0c12), .val (.int v0_51), .val (.int u0_55)] [(.int u0_55)]))
        obtain ⟨_, _, ⟨T0c56, L0c56, k0c56, n0c56⟩, -, X0c56, ⟨Lc0c56, hQ0c56, l0c56, y0c56, z0c56⟩, st0c56⟩ := Jvm.LawKit.callS X0c53 hx (y := (⟨"com/example/usher/usher/graph/CodePointOrderComparePinLaw", "sign", "(I)I"⟩ : MethodName)) hown (mvT hZ (hw _ (List.mem_of_getElem? (i := 26) rfl))) (mvT hZ (hw _ (List.mem_of_getElem? (i := 27) rfl))) (mvT hZ (hw _ (List.mem_of_getElem? (i := 2) rfl))) (mvT hZ (hw _ (List.mem_of_getElem? (i := 28) rfl))) (by decide) (backOf (W := 0) (rmsg l Z aa hw [] u0_55  h0c12 n0 Z0c12 ) hZ (hw _ (List.mem_of_getElem? (i := 28) rfl)) (hw _ (List.mem_of_getElem? (i := 2) rfl)) (by decide) (by decide)) (g := (mkF m 162 #[.val (.int p0), .val (.int p1), .val (.int p2), .val (.int u0_1), .val (.int u0_2), .val (.int u0_3), .val (.int u0_4), .val (.int v0_6), .val (.int v0_9), .val (.ref a0c11), .val (.ref a0c12), .val (.int v0_51), .val (.int u0_55)] [(.int u0_55)])) rfl (by rw [hml]; rfl) (argsL := [(.int u0_55)]) (rest := []) (lenOf pd0_1 rfl) rfl (by show 2 * 0 + _ ≤ _; exact Nat.le_of_eq rfl) (hb hby at_162) (fun _ _ => ⟨rfl, e0c53, (by decide : 12 + 0 ≤ _), (by decide : 24 + 0 ≤ _)⟩)
        dsimp only [Pt.U, Pt.locs, Pt.cells, Pt.slots] at X0c56 l0c56 y0c56 z0c56 st0c56 hQ0c56
        subst l0c56 y0c56 z0c56
        obtain ⟨rfl, N0c56q, e0c56⟩ := hQ0c56
        have N0c56 := Fr.app N0c53 N0c56q
        obtain ⟨lc0t57, X0c56, N0c56⟩ : ∃ lc, Stand p l e room_1 (s.setVm vm0c12) m #[(.int p0), (.int p1), (.int p2)] below meth c T0c56 lc 12 24 ∧ Fr n0 lc := ⟨_, X0c56, N0c56⟩
        refine stp (fun t k => st0c56 t k) ?_
        show W (T0c56.setTop (mkF m 165 #[.val (.int p0), .val (.int p1), .val (.int p2), .val (.int u0_1), .val (.int u0_2), .val (.int u0_3), .val (.int u0_4), .val (.int v0_6), .val (.int v0_9), .val (.ref a0c11), .val (.ref a0c12), .val (.int v0_51), .val (.int u0_55)] [(.int (fsg u0_55))]))
        refine stp (fun t k => XS.iload X0c56.here hx rfl (hb hby at_165) rfl k) ?_
        show W (T0c56.setTop (mkF m 167 #[.val (.int p0), .val (.int p1), .val (.int p2), .val (.int u0_1), .val (.int u0_2), .val (.int u0_3), .val (.int u0_4), .val (.int v0_6), .val (.int v0_9), .val (.ref a0c11), .val (.ref a0c12), .val (.int v0_51), .val (.int u0_55)] [(.int v0_51), (.int (fsg u0_55))]))
        refine stp (fun t k => XS.icmpNo X0c56.here hx rfl (hb hby at_167) rfl ((teq (by subst hu0_55; subst hv0_51; subst hv0_9; subst hv0_6; subst hu0_4; subst hu0_3; subst hu0_2; subst hu0_1; exact own_final _ _ _ _ _ _ kc0 kc1 kc2 kc3 na nb hna hna2 hnb hnb2)).2) k) ?_
        show W (T0c56.setTop (mkF m 170 #[.val (.int p0), .val (.int p1), .val (.int p2), .val (.int u0_1), .val (.int u0_2), .val (.int u0_3), .val (.int u0_4), .val (.int v0_6), .val (.int v0_9), .val (.ref a0c11), .val (.ref a0c12), .val (.int v0_51), .val (.int u0_55)] []))
        refine stp (fun t k => XS.iconst X0c56.here hx rfl (hb hby at_170) k) ?_
        show W (T0c56.setTop (mkF m 171 #[.val (.int p0), .val (.int p1), .val (.int p2), .val (.int u0_1), .val (.int u0_2), .val (.int u0_3), .val (.int u0_4), .val (.int v0_6), .val (.int v0_9), .val (.ref a0c11), .val (.ref a0c12), .val (.int v0_51), .val (.int u0_55)] [(.int (1 : Int32))]))
        refine stp (fun t k => XS.goto X0c56.here hx rfl (pc0 := 171) (pc' := 175) rfl (hb hby at_171) (by decide) (by decide) k) ?_
        show W (T0c56.setTop (mkF m 175 #[.val (.int p0), .val (.int p1), .val (.int p2), .val (.int u0_1), .val (.int u0_2), .val (.int u0_3), .val (.int u0_4), .val (.int v0_6), .val (.int v0_9), .val (.ref a0c11), .val (.ref a0c12), .val (.int v0_51), .val (.int u0_55)] [(.int (1 : Int32))]))
        show W (T0c56.setTop (mkF m 175 #[.val (.int p0), .val (.int p1), .val (.int p2), .val (.int u0_1), .val (.int u0_2), .val (.int u0_3), .val (.int u0_4), .val (.int v0_6), .val (.int v0_9), .val (.ref a0c11), .val (.ref a0c12), .val (.int v0_51), .val (.int u0_55)] [(.int (1 : Int32))]))
        rw [← hW]
        exact own_W hZ hEL CC (own_retN X0c56 hx Bd.notSynchronized Bd.returns (w := (1 : Int32)) (by simp) (hb hby at_175) rfl (by show Q0 Z p0 p1 p2 wc sx h0 n0 _ T0c56.heap _ ∧ T0c56.heap = h0c12; rw [e0c56]; exact ⟨⟨rfl, N0c56⟩, rfl⟩) (by decide) (by decide))
      by_cases hc0_13 : (0 : Int32) < u0_1
      · refine stp (fun t k => XS.ifNo X0c12.here hx rfl (hb hby at_85) rfl ((if0 _ _).trans (tlt hc0_13).2.2.2) k) ?_
        show W (T0c12.setTop (mkF m 88 #[.val (.int p0), .val (.int p1), .val (.int p2), .val (.int u0_1), .val (.int u0_2), .val (.int u0_3), .val (.int u0_4), .val (.int v0_6), .val (.int v0_9), .val (.ref a0c11), .val (.ref a0c12), .unset, .unset] []))
        refine stp (fun t k => XS.iload X0c12.here hx rfl (hb hby at_88) rfl k) ?_
        show W (T0c12.setTop (mkF m 90 #[.val (.int p0), .val (.int p1), .val (.int p2), .val (.int u0_1), .val (.int u0_2), .val (.int u0_3), .val (.int u0_4), .val (.int v0_6), .val (.int v0_9), .val (.ref a0c11), .val (.ref a0c12), .unset, .unset] [(.int u0_2)]))
        by_cases hc0_14 : (0 : Int32) < u0_2
        · refine stp (fun t k => XS.ifNo X0c12.here hx rfl (hb hby at_90) rfl ((if0 _ _).trans (tlt hc0_14).2.2.2) k) ?_
          show W (T0c12.setTop (mkF m 93 #[.val (.int p0), .val (.int p1), .val (.int p2), .val (.int u0_1), .val (.int u0_2), .val (.int u0_3), .val (.int u0_4), .val (.int v0_6), .val (.int v0_9), .val (.ref a0c11), .val (.ref a0c12), .unset, .unset] []))
          refine stp (fun t k => XS.iload X0c12.here hx rfl (hb hby at_93) rfl k) ?_
          show W (T0c12.setTop (mkF m 95 #[.val (.int p0), .val (.int p1), .val (.int p2), .val (.int u0_1), .val (.int u0_2), .val (.int u0_3), .val (.int u0_4), .val (.int v0_6), .val (.int v0_9), .val (.ref a0c11), .val (.ref a0c12), .unset, .unset] [(.int u0_3)]))
          refine stp (fun t k => XS.iload X0c12.here hx rfl (hb hby at_95) rfl k) ?_
          show W (T0c12.setTop (mkF m 97 #[.val (.int p0), .val (.int p1), .val (.int p2), .val (.int u0_1), .val (.int u0_2), .val (.int u0_3), .val (.int u0_4), .val (.int v0_6), .val (.int v0_9), .val (.ref a0c11), .val (.ref a0c12), .unset, .unset] [(.int v0_6), (.int u0_3)]))
          by_cases hc0_15 : u0_3 = v0_6
          · refine stp (fun t k => XS.icmpYes X0c12.here hx rfl (pc0 := 97) (pc' := 112) rfl (hb hby at_97) rfl ((teq hc0_15).1) (by decide) (by decide) k) ?_
            show W (T0c12.setTop (mkF m 112 #[.val (.int p0), .val (.int p1), .val (.int p2), .val (.int u0_1), .val (.int u0_2), .val (.int u0_3), .val (.int u0_4), .val (.int v0_6), .val (.int v0_9), .val (.ref a0c11), .val (.ref a0c12), .unset, .unset] []))
            refine stp (fun t k => XS.iloadN X0c12.here hx rfl (hb hby at_112) rfl k) ?_
            show W (T0c12.setTop (mkF m 113 #[.val (.int p0), .val (.int p1), .val (.int p2), .val (.int u0_1), .val (.int u0_2), .val (.int u0_3), .val (.int u0_4), .val (.int v0_6), .val (.int v0_9), .val (.ref a0c11), .val (.ref a0c12), .unset, .unset] [(.int u0_1)]))
            refine stp (fun t k => XS.iconst X0c12.here hx rfl (hb hby at_113) k) ?_
            show W (T0c12.setTop (mkF m 114 #[.val (.int p0), .val (.int p1), .val (.int p2), .val (.int u0_1), .val (.int u0_2), .val (.int u0_3), .val (.int u0_4), .val (.int v0_6), .val (.int v0_9), .val (.ref a0c11), .val (.ref a0c12), .unset, .unset] [(.int (1 : Int32)), (.int u0_1)]))
            by_cases hc0_16 : (1 : Int32) < u0_1
            · refine stp (fun t k => XS.icmpNo X0c12.here hx rfl (hb hby at_114) rfl ((tlt hc0_16).2.2.2) k) ?_
              show W (T0c12.setTop (mkF m 117 #[.val (.int p0), .val (.int p1), .val (.int p2), .val (.int u0_1), .val (.int u0_2), .val (.int u0_3), .val (.int u0_4), .val (.int v0_6), .val (.int v0_9), .val (.ref a0c11), .val (.ref a0c12), .unset, .unset] []))
              refine stp (fun t k => XS.iload X0c12.here hx rfl (hb hby at_117) rfl k) ?_
              show W (T0c12.setTop (mkF m 119 #[.val (.int p0), .val (.int p1), .val (.int p2), .val (.int u0_1), .val (.int u0_2), .val (.int u0_3), .val (.int u0_4), .val (.int v0_6), .val (.int v0_9), .val (.ref a0c11), .val (.ref a0c12), .unset, .unset] [(.int u0_2)]))
              refine stp (fun t k => XS.iconst X0c12.here hx rfl (hb hby at_119) k) ?_
              show W (T0c12.setTop (mkF m 120 #[.val (.int p0), .val (.int p1), .val (.int p2), .val (.int u0_1), .val (.int u0_2), .val (.int u0_3), .val (.int u0_4), .val (.int v0_6), .val (.int v0_9), .val (.ref a0c11), .val (.ref a0c12), .unset, .unset] [(.int (1 : Int32)), (.int u0_2)]))
              by_cases hc0_17 : (1 : Int32) < u0_2
              · refine stp (fun t k => XS.icmpNo X0c12.here hx rfl (hb hby at_120) rfl ((tlt hc0_17).2.2.2) k) ?_
                show W (T0c12.setTop (mkF m 123 #[.val (.int p0), .val (.int p1), .val (.int p2), .val (.int u0_1), .val (.int u0_2), .val (.int u0_3), .val (.int u0_4), .val (.int v0_6), .val (.int v0_9), .val (.ref a0c11), .val (.ref a0c12), .unset, .unset] []))
                refine stp (fun t k => XS.iload X0c12.here hx rfl (hb hby at_123) rfl k) ?_
                show W (T0c12.setTop (mkF m 125 #[.val (.int p0), .val (.int p1), .val (.int p2), .val (.int u0_1), .val (.int u0_2), .val (.int u0_3), .val (.int u0_4), .val (.int v0_6), .val (.int v0_9), .val (.ref a0c11), .val (.ref a0c12), .unset, .unset] [(.int u0_4)]))
                refine stp (fun t k => XS.iload X0c12.here hx rfl (hb hby at_125) rfl k) ?_
                show W (T0c12.setTop (mkF m 127 #[.val (.int p0), .val (.int p1), .val (.int p2), .val (.int u0_1), .val (.int u0_2), .val (.int u0_3), .val (.int u0_4), .val (.int v0_6), .val (.int v0_9), .val (.ref a0c11), .val (.ref a0c12), .unset, .unset] [(.int v0_9), (.int u0_4)]))
                by_cases hc0_18 : u0_4 = v0_9
                · refine stp (fun t k => XS.icmpYes X0c12.here hx rfl (pc0 := 127) (pc' := 142) rfl (hb hby at_127) rfl ((teq hc0_18).1) (by decide) (by decide) k) ?_
                  show W (T0c12.setTop (mkF m 142 #[.val (.int p0), .val (.int p1), .val (.int p2), .val (.int u0_1), .val (.int u0_2), .val (.int u0_3), .val (.int u0_4), .val (.int v0_6), .val (.int v0_9), .val (.ref a0c11), .val (.ref a0c12), .unset, .unset] []))
                  refine stp (fun t k => XS.iloadN X0c12.here hx rfl (hb hby at_142) rfl k) ?_
                  show W (T0c12.setTop (mkF m 143 #[.val (.int p0), .val (.int p1), .val (.int p2), .val (.int u0_1), .val (.int u0_2), .val (.int u0_3), .val (.int u0_4), .val (.int v0_6), .val (.int v0_9), .val (.ref a0c11), .val (.ref a0c12), .unset, .unset] [(.int u0_1)]))
                  refine stp (fun t k => XS.iload X0c12.here hx rfl (hb hby at_143) rfl k) ?_
                  show W (T0c12.setTop (mkF m 145 #[.val (.int p0), .val (.int p1), .val (.int p2), .val (.int u0_1), .val (.int u0_2), .val (.int u0_3), .val (.int u0_4), .val (.int v0_6), .val (.int v0_9), .val (.ref a0c11), .val (.ref a0c12), .unset, .unset] [(.int u0_2), (.int u0_1)]))
                  refine stp (fun t k => XS.isub X0c12.here hx rfl (hb hby at_145) rfl k) ?_
                  show W (T0c12.setTop (mkF m 146 #[.val (.int p0), .val (.int p1), .val (.int p2), .val (.int u0_1), .val (.int u0_2), .val (.int u0_3), .val (.int u0_4), .val (.int v0_6), .val (.int v0_9), .val (.ref a0c11), .val (.ref a0c12), .unset, .unset] [(.int (u0_1 - u0_2))]))
                  obtain ⟨_, _, ⟨T0c19, L0c19, k0c19, n0c19⟩, -, X0c19, ⟨Lc0c19, hQ0c19, l0c19, y0c19, z0c19⟩, st0c19⟩ := Jvm.LawKit.callS X0c12 hx (y := (⟨"com/example/usher/usher/graph/CodePointOrderComparePinLaw", "sign", "(I)I"⟩ : MethodName)) hown (mvT hZ (hw _ (List.mem_of_getElem? (i := 26) rfl))) (mvT hZ (hw _ (List.mem_of_getElem? (i := 27) rfl))) (mvT hZ (hw _ (List.mem_of_getElem? (i := 2) rfl))) (mvT hZ (hw _ (List.mem_of_getElem? (i := 28) rfl))) (by decide) (backOf (W := 0) (rmsg l Z aa hw [] (u0_1 - u0_2)  h0c12 n0 Z0c12 ) hZ (hw _ (List.mem_of_getElem? (i := 28) rfl)) (hw _ (List.mem_of_getElem? (i := 2) rfl)) (by decide) (by decide)) (g := (mkF m 146 #[.val (.int p0), .val (.int p1), .val (.int p2), .val (.int u0_1), .val (.int u0_2), .val (.int u0_3), .val (.int u0_4), .val (.int v0_6), .val (.int v0_9), .val (.ref a0c11), .val (.ref a0c12), .unset, .unset] [(.int (u0_1 - u0_2))])) rfl (by rw [hml]; rfl) (argsL := [(.int (u0_1 - u0_2))]) (rest := []) (lenOf pd0_1 rfl) rfl (by show 2 * 0 + _ ≤ _; exact Nat.le_of_eq rfl) (hb hby at_146) (fun _ _ => ⟨rfl, e0c12, (by decide : 12 + 0 ≤ _), (by decide : 24 + 0 ≤ _)⟩)
                  dsimp only [Pt.U, Pt.locs, Pt.cells, Pt.slots] at X0c19 l0c19 y0c19 z0c19 st0c19 hQ0c19
                  subst l0c19 y0c19 z0c19
                  obtain ⟨rfl, N0c19q, e0c19⟩ := hQ0c19
                  have N0c19 := Fr.app N0c12 N0c19q
                  obtain ⟨lc0t20, X0c19, N0c19⟩ : ∃ lc, Stand p l e room_1 (s.setVm vm0c12) m #[(.int p0), (.int p1), (.int p2)] below meth c T0c19 lc 12 24 ∧ Fr n0 lc := ⟨_, X0c19, N0c19⟩
                  refine stp (fun t k => st0c19 t k) ?_
                  show W (T0c19.setTop (mkF m 149 #[.val (.int p0), .val (.int p1), .val (.int p2), .val (.int u0_1), .val (.int u0_2), .val (.int u0_3), .val (.int u0_4), .val (.int v0_6), .val (.int v0_9), .val (.ref a0c11), .val (.ref a0c12), .unset, .unset] [(.int (fsg (u0_1 - u0_2)))]))
                  refine stp (fun t k => XS.istore X0c19.here hx rfl (hb hby at_149) rfl (l' := #[.val (.int p0), .val (.int p1), .val (.int p2), .val (.int u0_1), .val (.int u0_2), .val (.int u0_3), .val (.int u0_4), .val (.int v0_6), .val (.int v0_9), .val (.ref a0c11), .val (.ref a0c12), .val (.int (fsg (u0_1 - u0_2))), .unset]) rfl k) ?_
                  show W (T0c19.setTop (mkF m 151 #[.val (.int p0), .val (.int p1), .val (.int p2), .val (.int u0_1), .val (.int u0_2), .val (.int u0_3), .val (.int u0_4), .val (.int v0_6), .val (.int v0_9), .val (.ref a0c11), .val (.ref a0c12), .val (.int (fsg (u0_1 - u0_2))), .unset] []))
                  exact J0_151_52 _ _ (fsg (u0_1 - u0_2)) (by first | rfl | simp only [if_pos hc0_13, if_pos hc0_14, if_pos hc0_15, if_pos hc0_16, if_pos hc0_17, if_pos hc0_18]) X0c19 e0c19 N0c19
                · refine stp (fun t k => XS.icmpNo X0c12.here hx rfl (hb hby at_127) rfl ((feq hc0_18).1) k) ?_
                  show W (T0c12.setTop (mkF m 130 #[.val (.int p0), .val (.int p1), .val (.int p2), .val (.int u0_1), .val (.int u0_2), .val (.int u0_3), .val (.int u0_4), .val (.int v0_6), .val (.int v0_9), .val (.ref a0c11), .val (.ref a0c12), .unset, .unset] []))
                  refine stp (fun t k => XS.iload X0c12.here hx rfl (hb hby at_130) rfl k) ?_
                  show W (T0c12.setTop (mkF m 132 #[.val (.int p0), .val (.int p1), .val (.int p2), .val (.int u0_1), .val (.int u0_2), .val (.int u0_3), .val (.int u0_4), .val (.int v0_6), .val (.int v0_9), .val (.ref a0c11), .val (.ref a0c12), .unset, .unset] [(.int u0_4)]))
                  refine stp (fun t k => XS.iload X0c12.here hx rfl (hb hby at_132) rfl k) ?_
                  show W (T0c12.setTop (mkF m 134 #[.val (.int p0), .val (.int p1), .val (.int p2), .val (.int u0_1), .val (.int u0_2), .val (.int u0_3), .val (.int u0_4), .val (.int v0_6), .val (.int v0_9), .val (.ref a0c11), .val (.ref a0c12), .unset, .unset] [(.int v0_9), (.int u0_4)]))
                  obtain ⟨_, _, ⟨T0c21, L0c21, k0c21, n0c21⟩, -, X0c21, ⟨Lc0c21, hQ0c21, l0c21, y0c21, z0c21⟩, st0c21⟩ := Jvm.LawKit.callS X0c12 hx (y := (⟨"com/example/usher/usher/graph/CodePointOrderComparePinLaw", "cmpUnit", "(CC)I"⟩ : MethodName)) hown (mvT hZ (hw _ (List.mem_of_getElem? (i := 91) rfl))) (mvT hZ (hw _ (List.mem_of_getElem? (i := 92) rfl))) (mvT hZ (hw _ (List.mem_of_getElem? (i := 2) rfl))) (mvT hZ (hw _ (List.mem_of_getElem? (i := 93) rfl))) (by decide) (backOf (W := 0) (rmcu l Z aa hw [] u0_4 v0_9  h0c12 n0 Z0c12 ) hZ (hw _ (List.mem_of_getElem? (i := 93) rfl)) (hw _ (List.mem_of_getElem? (i := 2) rfl)) (by decide) (by decide)) (g := (mkF m 134 #[.val (.int p0), .val (.int p1), .val (.int p2), .val (.int u0_1), .val (.int u0_2), .val (.int u0_3), .val (.int u0_4), .val (.int v0_6), .val (.int v0_9), .val (.ref a0c11), .val (.ref a0c12), .unset, .unset] [(.int v0_9), (.int u0_4)])) rfl (by rw [hml]; rfl) (argsL := [(.int u0_4), (.int v0_9)]) (rest := []) (lenOf pd0_2 rfl) rfl (by show 2 * 0 + _ ≤ _; exact Nat.le_of_eq rfl) (hb hby at_134) (fun _ _ => ⟨rfl, e0c12, (by decide : 12 + 0 ≤ _), (by decide : 24 + 0 ≤ _)⟩)
                  dsimp only [Pt.U, Pt.locs, Pt.cells, Pt.slots] at X0c21 l0c21 y0c21 z0c21 st0c21 hQ0c21
                  subst l0c21 y0c21 z0c21
                  obtain ⟨rfl, N0c21q, e0c21⟩ := hQ0c21
                  have N0c21 := Fr.app N0c12 N0c21q
                  obtain ⟨lc0t22, X0c21, N0c21⟩ : ∃ lc, Stand p l e room_1 (s.setVm vm0c12) m #[(.int p0), (.int p1), (.int p2)] below meth c T0c21 lc 12 24 ∧ Fr n0 lc := ⟨_, X0c21, N0c21⟩
                  refine stp (fun t k => st0c21 t k) ?_
                  show W (T0c21.setTop (mkF m 137 #[.val (.int p0), .val (.int p1), .val (.int p2), .val (.int u0_1), .val (.int u0_2), .val (.int u0_3), .val (.int u0_4), .val (.int v0_6), .val (.int v0_9), .val (.ref a0c11), .val (.ref a0c12), .unset, .unset] [(.int (fcu u0_4 v0_9))]))
                  refine stp (fun t k => XS.istore X0c21.here hx rfl (hb hby at_137) rfl (l' := #[.val (.int p0), .val (.int p1), .val (.int p2), .val (.int u0_1), .val (.int u0_2), .val (.int u0_3), .val (.int u0_4), .val (.int v0_6), .val (.int v0_9), .val (.ref a0c11), .val (.ref a0c12), .val (.int (fcu u0_4 v0_9)), .unset]) rfl k) ?_
                  show W (T0c21.setTop (mkF m 139 #[.val (.int p0), .val (.int p1), .val (.int p2), .val (.int u0_1), .val (.int u0_2), .val (.int u0_3), .val (.int u0_4), .val (.int v0_6), .val (.int v0_9), .val (.ref a0c11), .val (.ref a0c12), .val (.int (fcu u0_4 v0_9)), .unset] []))
                  refine stp (fun t k => XS.goto X0c21.here hx rfl (pc0 := 139) (pc' := 151) rfl (hb hby at_139) (by decide) (by decide) k) ?_
                  show W (T0c21.setTop (mkF m 151 #[.val (.int p0), .val (.int p1), .val (.int p2), .val (.int u0_1), .val (.int u0_2), .val (.int u0_3), .val (.int u0_4), .val (.int v0_6), .val (.int v0_9), .val (.ref a0c11), .val (.ref a0c12), .val (.int (fcu u0_4 v0_9)), .unset] []))
                  exact J0_151_52 _ _ (fcu u0_4 v0_9) (by first | rfl | simp only [if_pos hc0_13, if_pos hc0_14, if_pos hc0_15, if_pos hc0_16, if_pos hc0_17, if_neg hc0_18]) X0c21 e0c21 N0c21
              · refine stp (fun t k => XS.icmpYes X0c12.here hx rfl (pc0 := 120) (pc' := 142) rfl (hb hby at_120) rfl ((flt hc0_17).2.2.2) (by decide) (by decide) k) ?_
                show W (T0c12.setTop (mkF m 142 #[.val (.int p0), .val (.int p1), .val (.int p2), .val (.int u0_1), .val (.int u0_2), .val (.int u0_3), .val (.int u0_4), .val (.int v0_6), .val (.int v0_9), .val (.ref a0c11), .val (.ref a0c12), .unset, .unset] []))
                refine stp (fun t k => XS.iloadN X0c12.here hx rfl (hb hby at_142) rfl k) ?_
                show W (T0c12.setTop (mkF m 143 #[.val (.int p0), .val (.int p1), .val (.int p2), .val (.int u0_1), .val (.int u0_2), .val (.int u0_3), .val (.int u0_4), .val (.int v0_6), .val (.int v0_9), .val (.ref a0c11), .val (.ref a0c12), .unset, .unset] [(.int u0_1)]))
                refine stp (fun t k => XS.iload X0c12.here hx rfl (hb hby at_143) rfl k) ?_
                show W (T0c12.setTop (mkF m 145 #[.val (.int p0), .val (.int p1), .val (.int p2), .val (.int u0_1), .val (.int u0_2), .val (.int u0_3), .val (.int u0_4), .val (.int v0_6), .val (.int v0_9), .val (.ref a0c11), .val (.ref a0c12), .unset, .unset] [(.int u0_2), (.int u0_1)]))
                refine stp (fun t k => XS.isub X0c12.here hx rfl (hb hby at_145) rfl k) ?_
                show W (T0c12.setTop (mkF m 146 #[.val (.int p0), .val (.int p1), .val (.int p2), .val (.int u0_1), .val (.int u0_2), .val (.int u0_3), .val (.int u0_4), .val (.int v0_6), .val (.int v0_9), .val (.ref a0c11), .val (.ref a0c12), .unset, .unset] [(.int (u0_1 - u0_2))]))
                obtain ⟨_, _, ⟨T0c23, L0c23, k0c23, n0c23⟩, -, X0c23, ⟨Lc0c23, hQ0c23, l0c23, y0c23, z0c23⟩, st0c23⟩ := Jvm.LawKit.callS X0c12 hx (y := (⟨"com/example/usher/usher/graph/CodePointOrderComparePinLaw", "sign", "(I)I"⟩ : MethodName)) hown (mvT hZ (hw _ (List.mem_of_getElem? (i := 26) rfl))) (mvT hZ (hw _ (List.mem_of_getElem? (i := 27) rfl))) (mvT hZ (hw _ (List.mem_of_getElem? (i := 2) rfl))) (mvT hZ (hw _ (List.mem_of_getElem? (i := 28) rfl))) (by decide) (backOf (W := 0) (rmsg l Z aa hw [] (u0_1 - u0_2)  h0c12 n0 Z0c12 ) hZ (hw _ (List.mem_of_getElem? (i := 28) rfl)) (hw _ (List.mem_of_getElem? (i := 2) rfl)) (by decide) (by decide)) (g := (mkF m 146 #[.val (.int p0), .val (.int p1), .val (.int p2), .val (.int u0_1), .val (.int u0_2), .val (.int u0_3), .val (.int u0_4), .val (.int v0_6), .val (.int v0_9), .val (.ref a0c11), .val (.ref a0c12), .unset, .unset] [(.int (u0_1 - u0_2))])) rfl (by rw [hml]; rfl) (argsL := [(.int (u0_1 - u0_2))]) (rest := []) (lenOf pd0_1 rfl) rfl (by show 2 * 0 + _ ≤ _; exact Nat.le_of_eq rfl) (hb hby at_146) (fun _ _ => ⟨rfl, e0c12, (by decide : 12 + 0 ≤ _), (by decide : 24 + 0 ≤ _)⟩)
                dsimp only [Pt.U, Pt.locs, Pt.cells, Pt.slots] at X0c23 l0c23 y0c23 z0c23 st0c23 hQ0c23
                subst l0c23 y0c23 z0c23
                obtain ⟨rfl, N0c23q, e0c23⟩ := hQ0c23
                have N0c23 := Fr.app N0c12 N0c23q
                obtain ⟨lc0t24, X0c23, N0c23⟩ : ∃ lc, Stand p l e room_1 (s.setVm vm0c12) m #[(.int p0), (.int p1), (.int p2)] below meth c T0c23 lc 12 24 ∧ Fr n0 lc := ⟨_, X0c23, N0c23⟩
                refine stp (fun t k => st0c23 t k) ?_
                show W (T0c23.setTop (mkF m 149 #[.val (.int p0), .val (.int p1), .val (.int p2), .val (.int u0_1), .val (.int u0_2), .val (.int u0_3), .val (.int u0_4), .val (.int v0_6), .val (.int v0_9), .val (.ref a0c11), .val (.ref a0c12), .unset, .unset] [(.int (fsg (u0_1 - u0_2)))]))
                refine stp (fun t k => XS.istore X0c23.here hx rfl (hb hby at_149) rfl (l' := #[.val (.int p0), .val (.int p1), .val (.int p2), .val (.int u0_1), .val (.int u0_2), .val (.int u0_3), .val (.int u0_4), .val (.int v0_6), .val (.int v0_9), .val (.ref a0c11), .val (.ref a0c12), .val (.int (fsg (u0_1 - u0_2))), .unset]) rfl k) ?_
                show W (T0c23.setTop (mkF m 151 #[.val (.int p0), .val (.int p1), .val (.int p2), .val (.int u0_1), .val (.int u0_2), .val (.int u0_3), .val (.int u0_4), .val (.int v0_6), .val (.int v0_9), .val (.ref a0c11), .val (.ref a0c12), .val (.int (fsg (u0_1 - u0_2))), .unset] []))
                exact J0_151_52 _ _ (fsg (u0_1 - u0_2)) (by first | rfl | simp only [if_pos hc0_13, if_pos hc0_14, if_pos hc0_15, if_pos hc0_16, if_neg hc0_17]) X0c23 e0c23 N0c23
            · refine stp (fun t k => XS.icmpYes X0c12.here hx rfl (pc0 := 114) (pc' := 142) rfl (hb hby at_114) rfl ((flt hc0_16).2.2.2) (by decide) (by decide) k) ?_
              show W (T0c12.setTop (mkF m 142 #[.val (.int p0), .val (.int p1), .val (.int p2), .val (.int u0_1), .val (.int u0_2), .val (.int u0_3), .val (.int u0_4), .val (.int v0_6), .val (.int v0_9), .val (.ref a0c11), .val (.ref a0c12), .unset, .unset] []))
              refine stp (fun t k => XS.iloadN X0c12.here hx rfl (hb hby at_142) rfl k) ?_
              show W (T0c12.setTop (mkF m 143 #[.val (.int p0), .val (.int p1), .val (.int p2), .val (.int u0_1), .val (.int u0_2), .val (.int u0_3), .val (.int u0_4), .val (.int v0_6), .val (.int v0_9), .val (.ref a0c11), .val (.ref a0c12), .unset, .unset] [(.int u0_1)]))
              refine stp (fun t k => XS.iload X0c12.here hx rfl (hb hby at_143) rfl k) ?_
              show W (T0c12.setTop (mkF m 145 #[.val (.int p0), .val (.int p1), .val (.int p2), .val (.int u0_1), .val (.int u0_2), .val (.int u0_3), .val (.int u0_4), .val (.int v0_6), .val (.int v0_9), .val (.ref a0c11), .val (.ref a0c12), .unset, .unset] [(.int u0_2), (.int u0_1)]))
              refine stp (fun t k => XS.isub X0c12.here hx rfl (hb hby at_145) rfl k) ?_
              show W (T0c12.setTop (mkF m 146 #[.val (.int p0), .val (.int p1), .val (.int p2), .val (.int u0_1), .val (.int u0_2), .val (.int u0_3), .val (.int u0_4), .val (.int v0_6), .val (.int v0_9), .val (.ref a0c11), .val (.ref a0c12), .unset, .unset] [(.int (u0_1 - u0_2))]))
              obtain ⟨_, _, ⟨T0c25, L0c25, k0c25, n0c25⟩, -, X0c25, ⟨Lc0c25, hQ0c25, l0c25, y0c25, z0c25⟩, st0c25⟩ := Jvm.LawKit.callS X0c12 hx (y := (⟨"com/example/usher/usher/graph/CodePointOrderComparePinLaw", "sign", "(I)I"⟩ : MethodName)) hown (mvT hZ (hw _ (List.mem_of_getElem? (i := 26) rfl))) (mvT hZ (hw _ (List.mem_of_getElem? (i := 27) rfl))) (mvT hZ (hw _ (List.mem_of_getElem? (i := 2) rfl))) (mvT hZ (hw _ (List.mem_of_getElem? (i := 28) rfl))) (by decide) (backOf (W := 0) (rmsg l Z aa hw [] (u0_1 - u0_2)  h0c12 n0 Z0c12 ) hZ (hw _ (List.mem_of_getElem? (i := 28) rfl)) (hw _ (List.mem_of_getElem? (i := 2) rfl)) (by decide) (by decide)) (g := (mkF m 146 #[.val (.int p0), .val (.int p1), .val (.int p2), .val (.int u0_1), .val (.int u0_2), .val (.int u0_3), .val (.int u0_4), .val (.int v0_6), .val (.int v0_9), .val (.ref a0c11), .val (.ref a0c12), .unset, .unset] [(.int (u0_1 - u0_2))])) rfl (by rw [hml]; rfl) (argsL := [(.int (u0_1 - u0_2))]) (rest := []) (lenOf pd0_1 rfl) rfl (by show 2 * 0 + _ ≤ _; exact Nat.le_of_eq rfl) (hb hby at_146) (fun _ _ => ⟨rfl, e0c12, (by decide : 12 + 0 ≤ _), (by decide : 24 + 0 ≤ _)⟩)
              dsimp only [Pt.U, Pt.locs, Pt.cells, Pt.slots] at X0c25 l0c25 y0c25 z0c25 st0c25 hQ0c25
              subst l0c25 y0c25 z0c25
              obtain ⟨rfl, N0c25q, e0c25⟩ := hQ0c25
              have N0c25 := Fr.app N0c12 N0c25q
              obtain ⟨lc0t26, X0c25, N0c25⟩ : ∃ lc, Stand p l e room_1 (s.setVm vm0c12) m #[(.int p0), (.int p1), (.int p2)] below meth c T0c25 lc 12 24 ∧ Fr n0 lc := ⟨_, X0c25, N0c25⟩
              refine stp (fun t k => st0c25 t k) ?_
              show W (T0c25.setTop (mkF m 149 #[.val (.int p0), .val (.int p1), .val (.int p2), .val (.int u0_1), .val (.int u0_2), .val (.int u0_3), .val (.int u0_4), .val (.int v0_6), .val (.int v0_9), .val (.ref a0c11), .val (.ref a0c12), .unset, .unset] [(.int (fsg (u0_1 - u0_2)))]))
              refine stp (fun t k => XS.istore X0c25.here hx rfl (hb hby at_149) rfl (l' := #[.val (.int p0), .val (.int p1), .val (.int p2), .val (.int u0_1), .val (.int u0_2), .val (.int u0_3), .val (.int u0_4), .val (.int v0_6), .val (.int v0_9), .val (.ref a0c11), .val (.ref a0c12), .val (.int (fsg (u0_1 - u0_2))), .unset]) rfl k) ?_
              show W (T0c25.setTop (mkF m 151 #[.val (.int p0), .val (.int p1), .val (.int p2), .val (.int u0_1), .val (.int u0_2), .val (.int u0_3), .val (.int u0_4), .val (.int v0_6), .val (.int v0_9), .val (.ref a0c11), .val (.ref a0c12), .val (.int (fsg (u0_1 - u0_2))), .unset] []))
              exact J0_151_52 _ _ (fsg (u0_1 - u0_2)) (by first | rfl | simp only [if_pos hc0_13, if_pos hc0_14, if_pos hc0_15, if_neg hc0_16]) X0c25 e0c25 N0c25
          · refine stp (fun t k => XS.icmpNo X0c12.here hx rfl (hb hby at_97) rfl ((feq hc0_15).1) k) ?_
            show W (T0c12.setTop (mkF m 100 #[.val (.int p0), .val (.int p1), .val (.int p2), .val (.int u0_1), .val (.int u0_2), .val (.int u0_3), .val (.int u0_4), .val (.int v0_6), .val (.int v0_9), .val (.ref a0c11), .val (.ref a0c12), .unset, .unset] []))
            refine stp (fun t k => XS.iload X0c12.here hx rfl (hb hby at_100) rfl k) ?_
            show W (T0c12.setTop (mkF m 102 #[.val (.int p0), .val (.int p1), .val (.int p2), .val (.int u0_1), .val (.int u0_2), .val (.int u0_3), .val (.int u0_4), .val (.int v0_6), .val (.int v0_9), .val (.ref a0c11), .val (.ref a0c12), .unset, .unset] [(.int u0_3)]))
            refine stp (fun t k => XS.iload X0c12.here hx rfl (hb hby at_102) rfl k) ?_
            show W (T0c12.setTop (mkF m 104 #[.val (.int p0), .val (.int p1), .val (.int p2), .val (.int u0_1), .val (.int u0_2), .val (.int u0_3), .val (.int u0_4), .val (.int v0_6), .val (.int v0_9), .val (.ref a0c11), .val (.ref a0c12), .unset, .unset] [(.int v0_6), (.int u0_3)]))
            obtain ⟨_, _, ⟨T0c27, L0c27, k0c27, n0c27⟩, -, X0c27, ⟨Lc0c27, hQ0c27, l0c27, y0c27, z0c27⟩, st0c27⟩ := Jvm.LawKit.callS X0c12 hx (y := (⟨"com/example/usher/usher/graph/CodePointOrderComparePinLaw", "cmpUnit", "(CC)I"⟩ : MethodName)) hown (mvT hZ (hw _ (List.mem_of_getElem? (i := 91) rfl))) (mvT hZ (hw _ (List.mem_of_getElem? (i := 92) rfl))) (mvT hZ (hw _ (List.mem_of_getElem? (i := 2) rfl))) (mvT hZ (hw _ (List.mem_of_getElem? (i := 93) rfl))) (by decide) (backOf (W := 0) (rmcu l Z aa hw [] u0_3 v0_6  h0c12 n0 Z0c12 ) hZ (hw _ (List.mem_of_getElem? (i := 93) rfl)) (hw _ (List.mem_of_getElem? (i := 2) rfl)) (by decide) (by decide)) (g := (mkF m 104 #[.val (.int p0), .val (.int p1), .val (.int p2), .val (.int u0_1), .val (.int u0_2), .val (.int u0_3), .val (.int u0_4), .val (.int v0_6), .val (.int v0_9), .val (.ref a0c11), .val (.ref a0c12), .unset, .unset] [(.int v0_6), (.int u0_3)])) rfl (by rw [hml]; rfl) (argsL := [(.int u0_3), (.int v0_6)]) (rest := []) (lenOf pd0_2 rfl) rfl (by show 2 * 0 + _ ≤ _; exact Nat.le_of_eq rfl) (hb hby at_104) (fun _ _ => ⟨rfl, e0c12, (by decide : 12 + 0 ≤ _), (by decide : 24 + 0 ≤ _)⟩)
            dsimp only [Pt.U, Pt.locs, Pt.cells, Pt.slots] at X0c27 l0c27 y0c27 z0c27 st0c27 hQ0c27
            subst l0c27 y0c27 z0c27
            obtain ⟨rfl, N0c27q, e0c27⟩ := hQ0c27
            have N0c27 := Fr.app N0c12 N0c27q
            obtain ⟨lc0t28, X0c27, N0c27⟩ : ∃ lc, Stand p l e room_1 (s.setVm vm0c12) m #[(.int p0), (.int p1), (.int p2)] below meth c T0c27 lc 12 24 ∧ Fr n0 lc := ⟨_, X0c27, N0c27⟩
            refine stp (fun t k => st0c27 t k) ?_
            show W (T0c27.setTop (mkF m 107 #[.val (.int p0), .val (.int p1), .val (.int p2), .val (.int u0_1), .val (.int u0_2), .val (.int u0_3), .val (.int u0_4), .val (.int v0_6), .val (.int v0_9), .val (.ref a0c11), .val (.ref a0c12), .unset, .unset] [(.int (fcu u0_3 v0_6))]))
            refine stp (fun t k => XS.istore X0c27.here hx rfl (hb hby at_107) rfl (l' := #[.val (.int p0), .val (.int p1), .val (.int p2), .val (.int u0_1), .val (.int u0_2), .val (.int u0_3), .val (.int u0_4), .val (.int v0_6), .val (.int v0_9), .val (.ref a0c11), .val (.ref a0c12), .val (.int (fcu u0_3 v0_6)), .unset]) rfl k) ?_
            show W (T0c27.setTop (mkF m 109 #[.val (.int p0), .val (.int p1), .val (.int p2), .val (.int u0_1), .val (.int u0_2), .val (.int u0_3), .val (.int u0_4), .val (.int v0_6), .val (.int v0_9), .val (.ref a0c11), .val (.ref a0c12), .val (.int (fcu u0_3 v0_6)), .unset] []))
            refine stp (fun t k => XS.goto X0c27.here hx rfl (pc0 := 109) (pc' := 151) rfl (hb hby at_109) (by decide) (by decide) k) ?_
            show W (T0c27.setTop (mkF m 151 #[.val (.int p0), .val (.int p1), .val (.int p2), .val (.int u0_1), .val (.int u0_2), .val (.int u0_3), .val (.int u0_4), .val (.int v0_6), .val (.int v0_9), .val (.ref a0c11), .val (.ref a0c12), .val (.int (fcu u0_3 v0_6)), .unset] []))
            exact J0_151_52 _ _ (fcu u0_3 v0_6) (by first | rfl | simp only [if_pos hc0_13, if_pos hc0_14, if_neg hc0_15]) X0c27 e0c27 N0c27
        · refine stp (fun t k => XS.ifYes X0c12.here hx rfl (pc0 := 90) (pc' := 112) rfl (hb hby at_90) rfl ((if0 _ _).trans (flt hc0_14).2.2.2) (by decide) (by decide) k) ?_
          show W (T0c12.setTop (mkF m 112 #[.val (.int p0), .val (.int p1), .val (.int p2), .val (.int u0_1), .val (.int u0_2), .val (.int u0_3), .val (.int u0_4), .val (.int v0_6), .val (.int v0_9), .val (.ref a0c11), .val (.ref a0c12), .unset, .unset] []))
          refine stp (fun t k => XS.iloadN X0c12.here hx rfl (hb hby at_112) rfl k) ?_
          show W (T0c12.setTop (mkF m 113 #[.val (.int p0), .val (.int p1), .val (.int p2), .val (.int u0_1), .val (.int u0_2), .val (.int u0_3), .val (.int u0_4), .val (.int v0_6), .val (.int v0_9), .val (.ref a0c11), .val (.ref a0c12), .unset, .unset] [(.int u0_1)]))
          refine stp (fun t k => XS.iconst X0c12.here hx rfl (hb hby at_113) k) ?_
          show W (T0c12.setTop (mkF m 114 #[.val (.int p0), .val (.int p1), .val (.int p2), .val (.int u0_1), .val (.int u0_2), .val (.int u0_3), .val (.int u0_4), .val (.int v0_6), .val (.int v0_9), .val (.ref a0c11), .val (.ref a0c12), .unset, .unset] [(.int (1 : Int32)), (.int u0_1)]))
          by_cases hc0_29 : (1 : Int32) < u0_1
          · refine stp (fun t k => XS.icmpNo X0c12.here hx rfl (hb hby at_114) rfl ((tlt hc0_29).2.2.2) k) ?_
            show W (T0c12.setTop (mkF m 117 #[.val (.int p0), .val (.int p1), .val (.int p2), .val (.int u0_1), .val (.int u0_2), .val (.int u0_3), .val (.int u0_4), .val (.int v0_6), .val (.int v0_9), .val (.ref a0c11), .val (.ref a0c12), .unset, .unset] []))
            refine stp (fun t k => XS.iload X0c12.here hx rfl (hb hby at_117) rfl k) ?_
            show W (T0c12.setTop (mkF m 119 #[.val (.int p0), .val (.int p1), .val (.int p2), .val (.int u0_1), .val (.int u0_2), .val (.int u0_3), .val (.int u0_4), .val (.int v0_6), .val (.int v0_9), .val (.ref a0c11), .val (.ref a0c12), .unset, .unset] [(.int u0_2)]))
            refine stp (fun t k => XS.iconst X0c12.here hx rfl (hb hby at_119) k) ?_
            show W (T0c12.setTop (mkF m 120 #[.val (.int p0), .val (.int p1), .val (.int p2), .val (.int u0_1), .val (.int u0_2), .val (.int u0_3), .val (.int u0_4), .val (.int v0_6), .val (.int v0_9), .val (.ref a0c11), .val (.ref a0c12), .unset, .unset] [(.int (1 : Int32)), (.int u0_2)]))
            by_cases hc0_30 : (1 : Int32) < u0_2
            · refine stp (fun t k => XS.icmpNo X0c12.here hx rfl (hb hby at_120) rfl ((tlt hc0_30).2.2.2) k) ?_
              show W (T0c12.setTop (mkF m 123 #[.val (.int p0), .val (.int p1), .val (.int p2), .val (.int u0_1), .val (.int u0_2), .val (.int u0_3), .val (.int u0_4), .val (.int v0_6), .val (.int v0_9), .val (.ref a0c11), .val (.ref a0c12), .unset, .unset] []))
              refine stp (fun t k => XS.iload X0c12.here hx rfl (hb hby at_123) rfl k) ?_
              show W (T0c12.setTop (mkF m 125 #[.val (.int p0), .val (.int p1), .val (.int p2), .val (.int u0_1), .val (.int u0_2), .val (.int u0_3), .val (.int u0_4), .val (.int v0_6), .val (.int v0_9), .val (.ref a0c11), .val (.ref a0c12), .unset, .unset] [(.int u0_4)]))
              refine stp (fun t k => XS.iload X0c12.here hx rfl (hb hby at_125) rfl k) ?_
              show W (T0c12.setTop (mkF m 127 #[.val (.int p0), .val (.int p1), .val (.int p2), .val (.int u0_1), .val (.int u0_2), .val (.int u0_3), .val (.int u0_4), .val (.int v0_6), .val (.int v0_9), .val (.ref a0c11), .val (.ref a0c12), .unset, .unset] [(.int v0_9), (.int u0_4)]))
              by_cases hc0_31 : u0_4 = v0_9
              · refine stp (fun t k => XS.icmpYes X0c12.here hx rfl (pc0 := 127) (pc' := 142) rfl (hb hby at_127) rfl ((teq hc0_31).1) (by decide) (by decide) k) ?_
                show W (T0c12.setTop (mkF m 142 #[.val (.int p0), .val (.int p1), .val (.int p2), .val (.int u0_1), .val (.int u0_2), .val (.int u0_3), .val (.int u0_4), .val (.int v0_6), .val (.int v0_9), .val (.ref a0c11), .val (.ref a0c12), .unset, .unset] []))
                refine stp (fun t k => XS.iloadN X0c12.here hx rfl (hb hby at_142) rfl k) ?_
                show W (T0c12.setTop (mkF m 143 #[.val (.int p0), .val (.int p1), .val (.int p2), .val (.int u0_1), .val (.int u0_2), .val (.int u0_3), .val (.int u0_4), .val (.int v0_6), .val (.int v0_9), .val (.ref a0c11), .val (.ref a0c12), .unset, .unset] [(.int u0_1)]))
                refine stp (fun t k => XS.iload X0c12.here hx rfl (hb hby at_143) rfl k) ?_
                show W (T0c12.setTop (mkF m 145 #[.val (.int p0), .val (.int p1), .val (.int p2), .val (.int u0_1), .val (.int u0_2), .val (.int u0_3), .val (.int u0_4), .val (.int v0_6), .val (.int v0_9), .val (.ref a0c11), .val (.ref a0c12), .unset, .unset] [(.int u0_2), (.int u0_1)]))
                refine stp (fun t k => XS.isub X0c12.here hx rfl (hb hby at_145) rfl k) ?_
                show W (T0c12.setTop (mkF m 146 #[.val (.int p0), .val (.int p1), .val (.int p2), .val (.int u0_1), .val (.int u0_2), .val (.int u0_3), .val (.int u0_4), .val (.int v0_6), .val (.int v0_9), .val (.ref a0c11), .val (.ref a0c12), .unset, .unset] [(.int (u0_1 - u0_2))]))
                obtain ⟨_, _, ⟨T0c32, L0c32, k0c32, n0c32⟩, -, X0c32, ⟨Lc0c32, hQ0c32, l0c32, y0c32, z0c32⟩, st0c32⟩ := Jvm.LawKit.callS X0c12 hx (y := (⟨"com/example/usher/usher/graph/CodePointOrderComparePinLaw", "sign", "(I)I"⟩ : MethodName)) hown (mvT hZ (hw _ (List.mem_of_getElem? (i := 26) rfl))) (mvT hZ (hw _ (List.mem_of_getElem? (i := 27) rfl))) (mvT hZ (hw _ (List.mem_of_getElem? (i := 2) rfl))) (mvT hZ (hw _ (List.mem_of_getElem? (i := 28) rfl))) (by decide) (backOf (W := 0) (rmsg l Z aa hw [] (u0_1 - u0_2)  h0c12 n0 Z0c12 ) hZ (hw _ (List.mem_of_getElem? (i := 28) rfl)) (hw _ (List.mem_of_getElem? (i := 2) rfl)) (by decide) (by decide)) (g := (mkF m 146 #[.val (.int p0), .val (.int p1), .val (.int p2), .val (.int u0_1), .val (.int u0_2), .val (.int u0_3), .val (.int u0_4), .val (.int v0_6), .val (.int v0_9), .val (.ref a0c11), .val (.ref a0c12), .unset, .unset] [(.int (u0_1 - u0_2))])) rfl (by rw [hml]; rfl) (argsL := [(.int (u0_1 - u0_2))]) (rest := []) (lenOf pd0_1 rfl) rfl (by show 2 * 0 + _ ≤ _; exact Nat.le_of_eq rfl) (hb hby at_146) (fun _ _ => ⟨rfl, e0c12, (by decide : 12 + 0 ≤ _), (by decide : 24 + 0 ≤ _)⟩)
                dsimp only [Pt.U, Pt.locs, Pt.cells, Pt.slots] at X0c32 l0c32 y0c32 z0c32 st0c32 hQ0c32
                subst l0c32 y0c32 z0c32
                obtain ⟨rfl, N0c32q, e0c32⟩ := hQ0c32
                have N0c32 := Fr.app N0c12 N0c32q
                obtain ⟨lc0t33, X0c32, N0c32⟩ : ∃ lc, Stand p l e room_1 (s.setVm vm0c12) m #[(.int p0), (.int p1), (.int p2)] below meth c T0c32 lc 12 24 ∧ Fr n0 lc := ⟨_, X0c32, N0c32⟩
                refine stp (fun t k => st0c32 t k) ?_
                show W (T0c32.setTop (mkF m 149 #[.val (.int p0), .val (.int p1), .val (.int p2), .val (.int u0_1), .val (.int u0_2), .val (.int u0_3), .val (.int u0_4), .val (.int v0_6), .val (.int v0_9), .val (.ref a0c11), .val (.ref a0c12), .unset, .unset] [(.int (fsg (u0_1 - u0_2)))]))
                refine stp (fun t k => XS.istore X0c32.here hx rfl (hb hby at_149) rfl (l' := #[.val (.int p0), .val (.int p1), .val (.int p2), .val (.int u0_1), .val (.int u0_2), .val (.int u0_3), .val (.int u0_4), .val (.int v0_6), .val (.int v0_9), .val (.ref a0c11), .val (.ref a0c12), .val (.int (fsg (u0_1 - u0_2))), .unset]) rfl k) ?_
                show W (T0c32.setTop (mkF m 151 #[.val (.int p0), .val (.int p1), .val (.int p2), .val (.int u0_1), .val (.int u0_2), .val (.int u0_3), .val (.int u0_4), .val (.int v0_6), .val (.int v0_9), .val (.ref a0c11), .val (.ref a0c12), .val (.int (fsg (u0_1 - u0_2))), .unset] []))
                exact J0_151_52 _ _ (fsg (u0_1 - u0_2)) (by first | rfl | simp only [if_pos hc0_13, if_neg hc0_14, if_pos hc0_29, if_pos hc0_30, if_pos hc0_31]) X0c32 e0c32 N0c32
              · refine stp (fun t k => XS.icmpNo X0c12.here hx rfl (hb hby at_127) rfl ((feq hc0_31).1) k) ?_
                show W (T0c12.setTop (mkF m 130 #[.val (.int p0), .val (.int p1), .val (.int p2), .val (.int u0_1), .val (.int u0_2), .val (.int u0_3), .val (.int u0_4), .val (.int v0_6), .val (.int v0_9), .val (.ref a0c11), .val (.ref a0c12), .unset, .unset] []))
                refine stp (fun t k => XS.iload X0c12.here hx rfl (hb hby at_130) rfl k) ?_
                show W (T0c12.setTop (mkF m 132 #[.val (.int p0), .val (.int p1), .val (.int p2), .val (.int u0_1), .val (.int u0_2), .val (.int u0_3), .val (.int u0_4), .val (.int v0_6), .val (.int v0_9), .val (.ref a0c11), .val (.ref a0c12), .unset, .unset] [(.int u0_4)]))
                refine stp (fun t k => XS.iload X0c12.here hx rfl (hb hby at_132) rfl k) ?_
                show W (T0c12.setTop (mkF m 134 #[.val (.int p0), .val (.int p1), .val (.int p2), .val (.int u0_1), .val (.int u0_2), .val (.int u0_3), .val (.int u0_4), .val (.int v0_6), .val (.int v0_9), .val (.ref a0c11), .val (.ref a0c12), .unset, .unset] [(.int v0_9), (.int u0_4)]))
                obtain ⟨_, _, ⟨T0c34, L0c34, k0c34, n0c34⟩, -, X0c34, ⟨Lc0c34, hQ0c34, l0c34, y0c34, z0c34⟩, st0c34⟩ := Jvm.LawKit.callS X0c12 hx (y := (⟨"com/example/usher/usher/graph/CodePointOrderComparePinLaw", "cmpUnit", "(CC)I"⟩ : MethodName)) hown (mvT hZ (hw _ (List.mem_of_getElem? (i := 91) rfl))) (mvT hZ (hw _ (List.mem_of_getElem? (i := 92) rfl))) (mvT hZ (hw _ (List.mem_of_getElem? (i := 2) rfl))) (mvT hZ (hw _ (List.mem_of_getElem? (i := 93) rfl))) (by decide) (backOf (W := 0) (rmcu l Z aa hw [] u0_4 v0_9  h0c12 n0 Z0c12 ) hZ (hw _ (List.mem_of_getElem? (i := 93) rfl)) (hw _ (List.mem_of_getElem? (i := 2) rfl)) (by decide) (by decide)) (g := (mkF m 134 #[.val (.int p0), .val (.int p1), .val (.int p2), .val (.int u0_1), .val (.int u0_2), .val (.int u0_3), .val (.int u0_4), .val (.int v0_6), .val (.int v0_9), .val (.ref a0c11), .val (.ref a0c12), .unset, .unset] [(.int v0_9), (.int u0_4)])) rfl (by rw [hml]; rfl) (argsL := [(.int u0_4), (.int v0_9)]) (rest := []) (lenOf pd0_2 rfl) rfl (by show 2 * 0 + _ ≤ _; exact Nat.le_of_eq rfl) (hb hby at_134) (fun _ _ => ⟨rfl, e0c12, (by decide : 12 + 0 ≤ _), (by decide : 24 + 0 ≤ _)⟩)
                dsimp only [Pt.U, Pt.locs, Pt.cells, Pt.slots] at X0c34 l0c34 y0c34 z0c34 st0c34 hQ0c34
                subst l0c34 y0c34 z0c34
                obtain ⟨rfl, N0c34q, e0c34⟩ := hQ0c34
                have N0c34 := Fr.app N0c12 N0c34q
                obtain ⟨lc0t35, X0c34, N0c34⟩ : ∃ lc, Stand p l e room_1 (s.setVm vm0c12) m #[(.int p0), (.int p1), (.int p2)] below meth c T0c34 lc 12 24 ∧ Fr n0 lc := ⟨_, X0c34, N0c34⟩
                refine stp (fun t k => st0c34 t k) ?_
                show W (T0c34.setTop (mkF m 137 #[.val (.int p0), .val (.int p1), .val (.int p2), .val (.int u0_1), .val (.int u0_2), .val (.int u0_3), .val (.int u0_4), .val (.int v0_6), .val (.int v0_9), .val (.ref a0c11), .val (.ref a0c12), .unset, .unset] [(.int (fcu u0_4 v0_9))]))
                refine stp (fun t k => XS.istore X0c34.here hx rfl (hb hby at_137) rfl (l' := #[.val (.int p0), .val (.int p1), .val (.int p2), .val (.int u0_1), .val (.int u0_2), .val (.int u0_3), .val (.int u0_4), .val (.int v0_6), .val (.int v0_9), .val (.ref a0c11), .val (.ref a0c12), .val (.int (fcu u0_4 v0_9)), .unset]) rfl k) ?_
                show W (T0c34.setTop (mkF m 139 #[.val (.int p0), .val (.int p1), .val (.int p2), .val (.int u0_1), .val (.int u0_2), .val (.int u0_3), .val (.int u0_4), .val (.int v0_6), .val (.int v0_9), .val (.ref a0c11), .val (.ref a0c12), .val (.int (fcu u0_4 v0_9)), .unset] []))
                refine stp (fun t k => XS.goto X0c34.here hx rfl (pc0 := 139) (pc' := 151) rfl (hb hby at_139) (by decide) (by decide) k) ?_
                show W (T0c34.setTop (mkF m 151 #[.val (.int p0), .val (.int p1), .val (.int p2), .val (.int u0_1), .val (.int u0_2), .val (.int u0_3), .val (.int u0_4), .val (.int v0_6), .val (.int v0_9), .val (.ref a0c11), .val (.ref a0c12), .val (.int (fcu u0_4 v0_9)), .unset] []))
                exact J0_151_52 _ _ (fcu u0_4 v0_9) (by first | rfl | simp only [if_pos hc0_13, if_neg hc0_14, if_pos hc0_29, if_pos hc0_30, if_neg hc0_31]) X0c34 e0c34 N0c34
            · refine stp (fun t k => XS.icmpYes X0c12.here hx rfl (pc0 := 120) (pc' := 142) rfl (hb hby at_120) rfl ((flt hc0_30).2.2.2) (by decide) (by decide) k) ?_
              show W (T0c12.setTop (mkF m 142 #[.val (.int p0), .val (.int p1), .val (.int p2), .val (.int u0_1), .val (.int u0_2), .val (.int u0_3), .val (.int u0_4), .val (.int v0_6), .val (.int v0_9), .val (.ref a0c11), .val (.ref a0c12), .unset, .unset] []))
              refine stp (fun t k => XS.iloadN X0c12.here hx rfl (hb hby at_142) rfl k) ?_
              show W (T0c12.setTop (mkF m 143 #[.val (.int p0), .val (.int p1), .val (.int p2), .val (.int u0_1), .val (.int u0_2), .val (.int u0_3), .val (.int u0_4), .val (.int v0_6), .val (.int v0_9), .val (.ref a0c11), .val (.ref a0c12), .unset, .unset] [(.int u0_1)]))
              refine stp (fun t k => XS.iload X0c12.here hx rfl (hb hby at_143) rfl k) ?_
              show W (T0c12.setTop (mkF m 145 #[.val (.int p0), .val (.int p1), .val (.int p2), .val (.int u0_1), .val (.int u0_2), .val (.int u0_3), .val (.int u0_4), .val (.int v0_6), .val (.int v0_9), .val (.ref a0c11), .val (.ref a0c12), .unset, .unset] [(.int u0_2), (.int u0_1)]))
              refine stp (fun t k => XS.isub X0c12.here hx rfl (hb hby at_145) rfl k) ?_
              show W (T0c12.setTop (mkF m 146 #[.val (.int p0), .val (.int p1), .val (.int p2), .val (.int u0_1), .val (.int u0_2), .val (.int u0_3), .val (.int u0_4), .val (.int v0_6), .val (.int v0_9), .val (.ref a0c11), .val (.ref a0c12), .unset, .unset] [(.int (u0_1 - u0_2))]))
              obtain ⟨_, _, ⟨T0c36, L0c36, k0c36, n0c36⟩, -, X0c36, ⟨Lc0c36, hQ0c36, l0c36, y0c36, z0c36⟩, st0c36⟩ := Jvm.LawKit.callS X0c12 hx (y := (⟨"com/example/usher/usher/graph/CodePointOrderComparePinLaw", "sign", "(I)I"⟩ : MethodName)) hown (mvT hZ (hw _ (List.mem_of_getElem? (i := 26) rfl))) (mvT hZ (hw _ (List.mem_of_getElem? (i := 27) rfl))) (mvT hZ (hw _ (List.mem_of_getElem? (i := 2) rfl))) (mvT hZ (hw _ (List.mem_of_getElem? (i := 28) rfl))) (by decide) (backOf (W := 0) (rmsg l Z aa hw [] (u0_1 - u0_2)  h0c12 n0 Z0c12 ) hZ (hw _ (List.mem_of_getElem? (i := 28) rfl)) (hw _ (List.mem_of_getElem? (i := 2) rfl)) (by decide) (by decide)) (g := (mkF m 146 #[.val (.int p0), .val (.int p1), .val (.int p2), .val (.int u0_1), .val (.int u0_2), .val (.int u0_3), .val (.int u0_4), .val (.int v0_6), .val (.int v0_9), .val (.ref a0c11), .val (.ref a0c12), .unset, .unset] [(.int (u0_1 - u0_2))])) rfl (by rw [hml]; rfl) (argsL := [(.int (u0_1 - u0_2))]) (rest := []) (lenOf pd0_1 rfl) rfl (by show 2 * 0 + _ ≤ _; exact Nat.le_of_eq rfl) (hb hby at_146) (fun _ _ => ⟨rfl, e0c12, (by decide : 12 + 0 ≤ _), (by decide : 24 + 0 ≤ _)⟩)
              dsimp only [Pt.U, Pt.locs, Pt.cells, Pt.slots] at X0c36 l0c36 y0c36 z0c36 st0c36 hQ0c36
              subst l0c36 y0c36 z0c36
              obtain ⟨rfl, N0c36q, e0c36⟩ := hQ0c36
              have N0c36 := Fr.app N0c12 N0c36q
              obtain ⟨lc0t37, X0c36, N0c36⟩ : ∃ lc, Stand p l e room_1 (s.setVm vm0c12) m #[(.int p0), (.int p1), (.int p2)] below meth c T0c36 lc 12 24 ∧ Fr n0 lc := ⟨_, X0c36, N0c36⟩
              refine stp (fun t k => st0c36 t k) ?_
              show W (T0c36.setTop (mkF m 149 #[.val (.int p0), .val (.int p1), .val (.int p2), .val (.int u0_1), .val (.int u0_2), .val (.int u0_3), .val (.int u0_4), .val (.int v0_6), .val (.int v0_9), .val (.ref a0c11), .val (.ref a0c12), .unset, .unset] [(.int (fsg (u0_1 - u0_2)))]))
              refine stp (fun t k => XS.istore X0c36.here hx rfl (hb hby at_149) rfl (l' := #[.val (.int p0), .val (.int p1), .val (.int p2), .val (.int u0_1), .val (.int u0_2), .val (.int u0_3), .val (.int u0_4), .val (.int v0_6), .val (.int v0_9), .val (.ref a0c11), .val (.ref a0c12), .val (.int (fsg (u0_1 - u0_2))), .unset]) rfl k) ?_
              show W (T0c36.setTop (mkF m 151 #[.val (.int p0), .val (.int p1), .val (.int p2), .val (.int u0_1), .val (.int u0_2), .val (.int u0_3), .val (.int u0_4), .val (.int v0_6), .val (.int v0_9), .val (.ref a0c11), .val (.ref a0c12), .val (.int (fsg (u0_1 - u0_2))), .unset] []))
              exact J0_151_52 _ _ (fsg (u0_1 - u0_2)) (by first | rfl | simp only [if_pos hc0_13, if_neg hc0_14, if_pos hc0_29, if_neg hc0_30]) X0c36 e0c36 N0c36
          · refine stp (fun t k => XS.icmpYes X0c12.here hx rfl (pc0 := 114) (pc' := 142) rfl (hb hby at_114) rfl ((flt hc0_29).2.2.2) (by decide) (by decide) k) ?_
            show W (T0c12.setTop (mkF m 142 #[.val (.int p0), .val (.int p1), .val (.int p2), .val (.int u0_1), .val (.int u0_2), .val (.int u0_3), .val (.int u0_4), .val (.int v0_6), .val (.int v0_9), .val (.ref a0c11), .val (.ref a0c12), .unset, .unset] []))
            refine stp (fun t k => XS.iloadN X0c12.here hx rfl (hb hby at_142) rfl k) ?_
            show W (T0c12.setTop (mkF m 143 #[.val (.int p0), .val (.int p1), .val (.int p2), .val (.int u0_1), .val (.int u0_2), .val (.int u0_3), .val (.int u0_4), .val (.int v0_6), .val (.int v0_9), .val (.ref a0c11), .val (.ref a0c12), .unset, .unset] [(.int u0_1)]))
            refine stp (fun t k => XS.iload X0c12.here hx rfl (hb hby at_143) rfl k) ?_
            show W (T0c12.setTop (mkF m 145 #[.val (.int p0), .val (.int p1), .val (.int p2), .val (.int u0_1), .val (.int u0_2), .val (.int u0_3), .val (.int u0_4), .val (.int v0_6), .val (.int v0_9), .val (.ref a0c11), .val (.ref a0c12), .unset, .unset] [(.int u0_2), (.int u0_1)]))
            refine stp (fun t k => XS.isub X0c12.here hx rfl (hb hby at_145) rfl k) ?_
            show W (T0c12.setTop (mkF m 146 #[.val (.int p0), .val (.int p1), .val (.int p2), .val (.int u0_1), .val (.int u0_2), .val (.int u0_3), .val (.int u0_4), .val (.int v0_6), .val (.int v0_9), .val (.ref a0c11), .val (.ref a0c12), .unset, .unset] [(.int (u0_1 - u0_2))]))
            obtain ⟨_, _, ⟨T0c38, L0c38, k0c38, n0c38⟩, -, X0c38, ⟨Lc0c38, hQ0c38, l0c38, y0c38, z0c38⟩, st0c38⟩ := Jvm.LawKit.callS X0c12 hx (y := (⟨"com/example/usher/usher/graph/CodePointOrderComparePinLaw", "sign", "(I)I"⟩ : MethodName)) hown (mvT hZ (hw _ (List.mem_of_getElem? (i := 26) rfl))) (mvT hZ (hw _ (List.mem_of_getElem? (i := 27) rfl))) (mvT hZ (hw _ (List.mem_of_getElem? (i := 2) rfl))) (mvT hZ (hw _ (List.mem_of_getElem? (i := 28) rfl))) (by decide) (backOf (W := 0) (rmsg l Z aa hw [] (u0_1 - u0_2)  h0c12 n0 Z0c12 ) hZ (hw _ (List.mem_of_getElem? (i := 28) rfl)) (hw _ (List.mem_of_getElem? (i := 2) rfl)) (by decide) (by decide)) (g := (mkF m 146 #[.val (.int p0), .val (.int p1), .val (.int p2), .val (.int u0_1), .val (.int u0_2), .val (.int u0_3), .val (.int u0_4), .val (.int v0_6), .val (.int v0_9), .val (.ref a0c11), .val (.ref a0c12), .unset, .unset] [(.int (u0_1 - u0_2))])) rfl (by rw [hml]; rfl) (argsL := [(.int (u0_1 - u0_2))]) (rest := []) (lenOf pd0_1 rfl) rfl (by show 2 * 0 + _ ≤ _; exact Nat.le_of_eq rfl) (hb hby at_146) (fun _ _ => ⟨rfl, e0c12, (by decide : 12 + 0 ≤ _), (by decide : 24 + 0 ≤ _)⟩)
            dsimp only [Pt.U, Pt.locs, Pt.cells, Pt.slots] at X0c38 l0c38 y0c38 z0c38 st0c38 hQ0c38
            subst l0c38 y0c38 z0c38
            obtain ⟨rfl, N0c38q, e0c38⟩ := hQ0c38
            have N0c38 := Fr.app N0c12 N0c38q
            obtain ⟨lc0t39, X0c38, N0c38⟩ : ∃ lc, Stand p l e room_1 (s.setVm vm0c12) m #[(.int p0), (.int p1), (.int p2)] below meth c T0c38 lc 12 24 ∧ Fr n0 lc := ⟨_, X0c38, N0c38⟩
            refine stp (fun t k => st0c38 t k) ?_
            show W (T0c38.setTop (mkF m 149 #[.val (.int p0), .val (.int p1), .val (.int p2), .val (.int u0_1), .val (.int u0_2), .val (.int u0_3), .val (.int u0_4), .val (.int v0_6), .val (.int v0_9), .val (.ref a0c11), .val (.ref a0c12), .unset, .unset] [(.int (fsg (u0_1 - u0_2)))]))
            refine stp (fun t k => XS.istore X0c38.here hx rfl (hb hby at_149) rfl (l' := #[.val (.int p0), .val (.int p1), .val (.int p2), .val (.int u0_1), .val (.int u0_2), .val (.int u0_3), .val (.int u0_4), .val (.int v0_6), .val (.int v0_9), .val (.ref a0c11), .val (.ref a0c12), .val (.int (fsg (u0_1 - u0_2))), .unset]) rfl k) ?_
            show W (T0c38.setTop (mkF m 151 #[.val (.int p0), .val (.int p1), .val (.int p2), .val (.int u0_1), .val (.int u0_2), .val (.int u0_3), .val (.int u0_4), .val (.int v0_6), .val (.int v0_9), .val (.ref a0c11), .val (.ref a0c12), .val (.int (fsg (u0_1 - u0_2))), .unset] []))
            exact J0_151_52 _ _ (fsg (u0_1 - u0_2)) (by first | rfl | simp only [if_pos hc0_13, if_neg hc0_14, if_neg hc0_29]) X0c38 e0c38 N0c38
      · refine stp (fun t k => XS.ifYes X0c12.here hx rfl (pc0 := 85) (pc' := 112) rfl (hb hby at_85) rfl ((if0 _ _).trans (flt hc0_13).2.2.2) (by decide) (by decide) k) ?_
        show W (T0c12.setTop (mkF m 112 #[.val (.int p0), .val (.int p1), .val (.int p2), .val (.int u0_1), .val (.int u0_2), .val (.int u0_3), .val (.int u0_4), .val (.int v0_6), .val (.int v0_9), .val (.ref a0c11), .val (.ref a0c12), .unset, .unset] []))
        refine stp (fun t k => XS.iloadN X0c12.here hx rfl (hb hby at_112) rfl k) ?_
        show W (T0c12.setTop (mkF m 113 #[.val (.int p0), .val (.int p1), .val (.int p2), .val (.int u0_1), .val (.int u0_2), .val (.int u0_3), .val (.int u0_4), .val (.int v0_6), .val (.int v0_9), .val (.ref a0c11), .val (.ref a0c12), .unset, .unset] [(.int u0_1)]))
        refine stp (fun t k => XS.iconst X0c12.here hx rfl (hb hby at_113) k) ?_
        show W (T0c12.setTop (mkF m 114 #[.val (.int p0), .val (.int p1), .val (.int p2), .val (.int u0_1), .val (.int u0_2), .val (.int u0_3), .val (.int u0_4), .val (.int v0_6), .val (.int v0_9), .val (.ref a0c11), .val (.ref a0c12), .unset, .unset] [(.int (1 : Int32)), (.int u0_1)]))
        by_cases hc0_40 : (1 : Int32) < u0_1
        · refine stp (fun t k => XS.icmpNo X0c12.here hx rfl (hb hby at_114) rfl ((tlt hc0_40).2.2.2) k) ?_
          show W (T0c12.setTop (mkF m 117 #[.val (.int p0), .val (.int p1), .val (.int p2), .val (.int u0_1), .val (.int u0_2), .val (.int u0_3), .val (.int u0_4), .val (.int v0_6), .val (.int v0_9), .val (.ref a0c11), .val (.ref a0c12), .unset, .unset] []))
          refine stp (fun t k => XS.iload X0c12.here hx rfl (hb hby at_117) rfl k) ?_
          show W (T0c12.setTop (mkF m 119 #[.val (.int p0), .val (.int p1), .val (.int p2), .val (.int u0_1), .val (.int u0_2), .val (.int u0_3), .val (.int u0_4), .val (.int v0_6), .val (.int v0_9), .val (.ref a0c11), .val (.ref a0c12), .unset, .unset] [(.int u0_2)]))
          refine stp (fun t k => XS.iconst X0c12.here hx rfl (hb hby at_119) k) ?_
          show W (T0c12.setTop (mkF m 120 #[.val (.int p0), .val (.int p1), .val (.int p2), .val (.int u0_1), .val (.int u0_2), .val (.int u0_3), .val (.int u0_4), .val (.int v0_6), .val (.int v0_9), .val (.ref a0c11), .val (.ref a0c12), .unset, .unset] [(.int (1 : Int32)), (.int u0_2)]))
          by_cases hc0_41 : (1 : Int32) < u0_2
          · refine stp (fun t k => XS.icmpNo X0c12.here hx rfl (hb hby at_120) rfl ((tlt hc0_41).2.2.2) k) ?_
            show W (T0c12.setTop (mkF m 123 #[.val (.int p0), .val (.int p1), .val (.int p2), .val (.int u0_1), .val (.int u0_2), .val (.int u0_3), .val (.int u0_4), .val (.int v0_6), .val (.int v0_9), .val (.ref a0c11), .val (.ref a0c12), .unset, .unset] []))
            refine stp (fun t k => XS.iload X0c12.here hx rfl (hb hby at_123) rfl k) ?_
            show W (T0c12.setTop (mkF m 125 #[.val (.int p0), .val (.int p1), .val (.int p2), .val (.int u0_1), .val (.int u0_2), .val (.int u0_3), .val (.int u0_4), .val (.int v0_6), .val (.int v0_9), .val (.ref a0c11), .val (.ref a0c12), .unset, .unset] [(.int u0_4)]))
            refine stp (fun t k => XS.iload X0c12.here hx rfl (hb hby at_125) rfl k) ?_
            show W (T0c12.setTop (mkF m 127 #[.val (.int p0), .val (.int p1), .val (.int p2), .val (.int u0_1), .val (.int u0_2), .val (.int u0_3), .val (.int u0_4), .val (.int v0_6), .val (.int v0_9), .val (.ref a0c11), .val (.ref a0c12), .unset, .unset] [(.int v0_9), (.int u0_4)]))
            by_cases hc0_42 : u0_4 = v0_9
            · refine stp (fun t k => XS.icmpYes X0c12.here hx rfl (pc0 := 127) (pc' := 142) rfl (hb hby at_127) rfl ((teq hc0_42).1) (by decide) (by decide) k) ?_
              show W (T0c12.setTop (mkF m 142 #[.val (.int p0), .val (.int p1), .val (.int p2), .val (.int u0_1), .val (.int u0_2), .val (.int u0_3), .val (.int u0_4), .val (.int v0_6), .val (.int v0_9), .val (.ref a0c11), .val (.ref a0c12), .unset, .unset] []))
              refine stp (fun t k => XS.iloadN X0c12.here hx rfl (hb hby at_142) rfl k) ?_
              show W (T0c12.setTop (mkF m 143 #[.val (.int p0), .val (.int p1), .val (.int p2), .val (.int u0_1), .val (.int u0_2), .val (.int u0_3), .val (.int u0_4), .val (.int v0_6), .val (.int v0_9), .val (.ref a0c11), .val (.ref a0c12), .unset, .unset] [(.int u0_1)]))
              refine stp (fun t k => XS.iload X0c12.here hx rfl (hb hby at_143) rfl k) ?_
              show W (T0c12.setTop (mkF m 145 #[.val (.int p0), .val (.int p1), .val (.int p2), .val (.int u0_1), .val (.int u0_2), .val (.int u0_3), .val (.int u0_4), .val (.int v0_6), .val (.int v0_9), .val (.ref a0c11), .val (.ref a0c12), .unset, .unset] [(.int u0_2), (.int u0_1)]))
              refine stp (fun t k => XS.isub X0c12.here hx rfl (hb hby at_145) rfl k) ?_
              show W (T0c12.setTop (mkF m 146 #[.val (.int p0), .val (.int p1), .val (.int p2), .val (.int u0_1), .val (.int u0_2), .val (.int u0_3), .val (.int u0_4), .val (.int v0_6), .val (.int v0_9), .val (.ref a0c11), .val (.ref a0c12), .unset, .unset] [(.int (u0_1 - u0_2))]))
              obtain ⟨_, _, ⟨T0c43, L0c43, k0c43, n0c43⟩, -, X0c43, ⟨Lc0c43, hQ0c43, l0c43, y0c43, z0c43⟩, st0c43⟩ := Jvm.LawKit.callS X0c12 hx (y := (⟨"com/example/usher/usher/graph/CodePointOrderComparePinLaw", "sign", "(I)I"⟩ : MethodName)) hown (mvT hZ (hw _ (List.mem_of_getElem? (i := 26) rfl))) (mvT hZ (hw _ (List.mem_of_getElem? (i := 27) rfl))) (mvT hZ (hw _ (List.mem_of_getElem? (i := 2) rfl))) (mvT hZ (hw _ (List.mem_of_getElem? (i := 28) rfl))) (by decide) (backOf (W := 0) (rmsg l Z aa hw [] (u0_1 - u0_2)  h0c12 n0 Z0c12 ) hZ (hw _ (List.mem_of_getElem? (i := 28) rfl)) (hw _ (List.mem_of_getElem? (i := 2) rfl)) (by decide) (by decide)) (g := (mkF m 146 #[.val (.int p0), .val (.int p1), .val (.int p2), .val (.int u0_1), .val (.int u0_2), .val (.int u0_3), .val (.int u0_4), .val (.int v0_6), .val (.int v0_9), .val (.ref a0c11), .val (.ref a0c12), .unset, .unset] [(.int (u0_1 - u0_2))])) rfl (by rw [hml]; rfl) (argsL := [(.int (u0_1 - u0_2))]) (rest := []) (lenOf pd0_1 rfl) rfl (by show 2 * 0 + _ ≤ _; exact Nat.le_of_eq rfl) (hb hby at_146) (fun _ _ => ⟨rfl, e0c12, (by decide : 12 + 0 ≤ _), (by decide : 24 + 0 ≤ _)⟩)
              dsimp only [Pt.U, Pt.locs, Pt.cells, Pt.slots] at X0c43 l0c43 y0c43 z0c43 st0c43 hQ0c43
              subst l0c43 y0c43 z0c43
              obtain ⟨rfl, N0c43q, e0c43⟩ := hQ0c43
              have N0c43 := Fr.app N0c12 N0c43q
              obtain ⟨lc0t44, X0c43, N0c43⟩ : ∃ lc, Stand p l e room_1 (s.setVm vm0c12) m #[(.int p0), (.int p1), (.int p2)] below meth c T0c43 lc 12 24 ∧ Fr n0 lc := ⟨_, X0c43, N0c43⟩
              refine stp (fun t k => st0c43 t k) ?_
              show W (T0c43.setTop (mkF m 149 #[.val (.int p0), .val (.int p1), .val (.int p2), .val (.int u0_1), .val (.int u0_2), .val (.int u0_3), .val (.int u0_4), .val (.int v0_6), .val (.int v0_9), .val (.ref a0c11), .val (.ref a0c12), .unset, .unset] [(.int (fsg (u0_1 - u0_2)))]))
              refine stp (fun t k => XS.istore X0c43.here hx rfl (hb hby at_149) rfl (l' := #[.val (.int p0), .val (.int p1), .val (.int p2), .val (.int u0_1), .val (.int u0_2), .val (.int u0_3), .val (.int u0_4), .val (.int v0_6), .val (.int v0_9), .val (.ref a0c11), .val (.ref a0c12), .val (.int (fsg (u0_1 - u0_2))), .unset]) rfl k) ?_
              show W (T0c43.setTop (mkF m 151 #[.val (.int p0), .val (.int p1), .val (.int p2), .val (.int u0_1), .val (.int u0_2), .val (.int u0_3), .val (.int u0_4), .val (.int v0_6), .val (.int v0_9), .val (.ref a0c11), .val (.ref a0c12), .val (.int (fsg (u0_1 - u0_2))), .unset] []))
              exact J0_151_52 _ _ (fsg (u0_1 - u0_2)) (by first | rfl | simp only [if_neg hc0_13, if_pos hc0_40, if_pos hc0_41, if_pos hc0_42]) X0c43 e0c43 N0c43
            · refine stp (fun t k => XS.icmpNo X0c12.here hx rfl (hb hby at_127) rfl ((feq hc0_42).1) k) ?_
              show W (T0c12.setTop (mkF m 130 #[.val (.int p0), .val (.int p1), .val (.int p2), .val (.int u0_1), .val (.int u0_2), .val (.int u0_3), .val (.int u0_4), .val (.int v0_6), .val (.int v0_9), .val (.ref a0c11), .val (.ref a0c12), .unset, .unset] []))
              refine stp (fun t k => XS.iload X0c12.here hx rfl (hb hby at_130) rfl k) ?_
              show W (T0c12.setTop (mkF m 132 #[.val (.int p0), .val (.int p1), .val (.int p2), .val (.int u0_1), .val (.int u0_2), .val (.int u0_3), .val (.int u0_4), .val (.int v0_6), .val (.int v0_9), .val (.ref a0c11), .val (.ref a0c12), .unset, .unset] [(.int u0_4)]))
              refine stp (fun t k => XS.iload X0c12.here hx rfl (hb hby at_132) rfl k) ?_
              show W (T0c12.setTop (mkF m 134 #[.val (.int p0), .val (.int p1), .val (.int p2), .val (.int u0_1), .val (.int u0_2), .val (.int u0_3), .val (.int u0_4), .val (.int v0_6), .val (.int v0_9), .val (.ref a0c11), .val (.ref a0c12), .unset, .unset] [(.int v0_9), (.int u0_4)]))
              obtain ⟨_, _, ⟨T0c45, L0c45, k0c45, n0c45⟩, -, X0c45, ⟨Lc0c45, hQ0c45, l0c45, y0c45, z0c45⟩, st0c45⟩ := Jvm.LawKit.callS X0c12 hx (y := (⟨"com/example/usher/usher/graph/CodePointOrderComparePinLaw", "cmpUnit", "(CC)I"⟩ : MethodName)) hown (mvT hZ (hw _ (List.mem_of_getElem? (i := 91) rfl))) (mvT hZ (hw _ (List.mem_of_getElem? (i := 92) rfl))) (mvT hZ (hw _ (List.mem_of_getElem? (i := 2) rfl))) (mvT hZ (hw _ (List.mem_of_getElem? (i := 93) rfl))) (by decide) (backOf (W := 0) (rmcu l Z aa hw [] u0_4 v0_9  h0c12 n0 Z0c12 ) hZ (hw _ (List.mem_of_getElem? (i := 93) rfl)) (hw _ (List.mem_of_getElem? (i := 2) rfl)) (by decide) (by decide)) (g := (mkF m 134 #[.val (.int p0), .val (.int p1), .val (.int p2), .val (.int u0_1), .val (.int u0_2), .val (.int u0_3), .val (.int u0_4), .val (.int v0_6), .val (.int v0_9), .val (.ref a0c11), .val (.ref a0c12), .unset, .unset] [(.int v0_9), (.int u0_4)])) rfl (by rw [hml]; rfl) (argsL := [(.int u0_4), (.int v0_9)]) (rest := []) (lenOf pd0_2 rfl) rfl (by show 2 * 0 + _ ≤ _; exact Nat.le_of_eq rfl) (hb hby at_134) (fun _ _ => ⟨rfl, e0c12, (by decide : 12 + 0 ≤ _), (by decide : 24 + 0 ≤ _)⟩)
              dsimp only [Pt.U, Pt.locs, Pt.cells, Pt.slots] at X0c45 l0c45 y0c45 z0c45 st0c45 hQ0c45
              subst l0c45 y0c45 z0c45
              obtain ⟨rfl, N0c45q, e0c45⟩ := hQ0c45
              have N0c45 := Fr.app N0c12 N0c45q
              obtain ⟨lc0t46, X0c45, N0c45⟩ : ∃ lc, Stand p l e room_1 (s.setVm vm0c12) m #[(.int p0), (.int p1), (.int p2)] below meth c T0c45 lc 12 24 ∧ Fr n0 lc := ⟨_, X0c45, N0c45⟩
              refine stp (fun t k => st0c45 t k) ?_
              show W (T0c45.setTop (mkF m 137 #[.val (.int p0), .val (.int p1), .val (.int p2), .val (.int u0_1), .val (.int u0_2), .val (.int u0_3), .val (.int u0_4), .val (.int v0_6), .val (.int v0_9), .val (.ref a0c11), .val (.ref a0c12), .unset, .unset] [(.int (fcu u0_4 v0_9))]))
              refine stp (fun t k => XS.istore X0c45.here hx rfl (hb hby at_137) rfl (l' := #[.val (.int p0), .val (.int p1), .val (.int p2), .val (.int u0_1), .val (.int u0_2), .val (.int u0_3), .val (.int u0_4), .val (.int v0_6), .val (.int v0_9), .val (.ref a0c11), .val (.ref a0c12), .val (.int (fcu u0_4 v0_9)), .unset]) rfl k) ?_
              show W (T0c45.setTop (mkF m 139 #[.val (.int p0), .val (.int p1), .val (.int p2), .val (.int u0_1), .val (.int u0_2), .val (.int u0_3), .val (.int u0_4), .val (.int v0_6), .val (.int v0_9), .val (.ref a0c11), .val (.ref a0c12), .val (.int (fcu u0_4 v0_9)), .unset] []))
              refine stp (fun t k => XS.goto X0c45.here hx rfl (pc0 := 139) (pc' := 151) rfl (hb hby at_139) (by decide) (by decide) k) ?_
              show W (T0c45.setTop (mkF m 151 #[.val (.int p0), .val (.int p1), .val (.int p2), .val (.int u0_1), .val (.int u0_2), .val (.int u0_3), .val (.int u0_4), .val (.int v0_6), .val (.int v0_9), .val (.ref a0c11), .val (.ref a0c12), .val (.int (fcu u0_4 v0_9)), .unset] []))
              exact J0_151_52 _ _ (fcu u0_4 v0_9) (by first | rfl | simp only [if_neg hc0_13, if_pos hc0_40, if_pos hc0_41, if_neg hc0_42]) X0c45 e0c45 N0c45
          · refine stp (fun t k => XS.icmpYes X0c12.here hx rfl (pc0 := 120) (pc' := 142) rfl (hb hby at_120) rfl ((flt hc0_41).2.2.2) (by decide) (by decide) k) ?_
            show W (T0c12.setTop (mkF m 142 #[.val (.int p0), .val (.int p1), .val (.int p2), .val (.int u0_1), .val (.int u0_2), .val (.int u0_3), .val (.int u0_4), .val (.int v0_6), .val (.int v0_9), .val (.ref a0c11), .val (.ref a0c12), .unset, .unset] []))
            refine stp (fun t k => XS.iloadN X0c12.here hx rfl (hb hby at_142) rfl k) ?_
            show W (T0c12.setTop (mkF m 143 #[.val (.int p0), .val (.int p1), .val (.int p2), .val (.int u0_1), .val (.int u0_2), .val (.int u0_3), .val (.int u0_4), .val (.int v0_6), .val (.int v0_9), .val (.ref a0c11), .val (.ref a0c12), .unset, .unset] [(.int u0_1)]))
            refine stp (fun t k => XS.iload X0c12.here hx rfl (hb hby at_143) rfl k) ?_
            show W (T0c12.setTop (mkF m 145 #[.val (.int p0), .val (.int p1), .val (.int p2), .val (.int u0_1), .val (.int u0_2), .val (.int u0_3), .val (.int u0_4), .val (.int v0_6), .val (.int v0_9), .val (.ref a0c11), .val (.ref a0c12), .unset, .unset] [(.int u0_2), (.int u0_1)]))
            refine stp (fun t k => XS.isub X0c12.here hx rfl (hb hby at_145) rfl k) ?_
            show W (T0c12.setTop (mkF m 146 #[.val (.int p0), .val (.int p1), .val (.int p2), .val (.int u0_1), .val (.int u0_2), .val (.int u0_3), .val (.int u0_4), .val (.int v0_6), .val (.int v0_9), .val (.ref a0c11), .val (.ref a0c12), .unset, .unset] [(.int (u0_1 - u0_2))]))
            obtain ⟨_, _, ⟨T0c47, L0c47, k0c47, n0c47⟩, -, X0c47, ⟨Lc0c47, hQ0c47, l0c47, y0c47, z0c47⟩, st0c47⟩ := Jvm.LawKit.callS X0c12 hx (y := (⟨"com/example/usher/usher/graph/CodePointOrderComparePinLaw", "sign", "(I)I"⟩ : MethodName)) hown (mvT hZ (hw _ (List.mem_of_getElem? (i := 26) rfl))) (mvT hZ (hw _ (List.mem_of_getElem? (i := 27) rfl))) (mvT hZ (hw _ (List.mem_of_getElem? (i := 2) rfl))) (mvT hZ (hw _ (List.mem_of_getElem? (i := 28) rfl))) (by decide) (backOf (W := 0) (rmsg l Z aa hw [] (u0_1 - u0_2)  h0c12 n0 Z0c12 ) hZ (hw _ (List.mem_of_getElem? (i := 28) rfl)) (hw _ (List.mem_of_getElem? (i := 2) rfl)) (by decide) (by decide)) (g := (mkF m 146 #[.val (.int p0), .val (.int p1), .val (.int p2), .val (.int u0_1), .val (.int u0_2), .val (.int u0_3), .val (.int u0_4), .val (.int v0_6), .val (.int v0_9), .val (.ref a0c11), .val (.ref a0c12), .unset, .unset] [(.int (u0_1 - u0_2))])) rfl (by rw [hml]; rfl) (argsL := [(.int (u0_1 - u0_2))]) (rest := []) (lenOf pd0_1 rfl) rfl (by show 2 * 0 + _ ≤ _; exact Nat.le_of_eq rfl) (hb hby at_146) (fun _ _ => ⟨rfl, e0c12, (by decide : 12 + 0 ≤ _), (by decide : 24 + 0 ≤ _)⟩)
            dsimp only [Pt.U, Pt.locs, Pt.cells, Pt.slots] at X0c47 l0c47 y0c47 z0c47 st0c47 hQ0c47
            subst l0c47 y0c47 z0c47
            obtain ⟨rfl, N0c47q, e0c47⟩ := hQ0c47
            have N0c47 := Fr.app N0c12 N0c47q
            obtain ⟨lc0t48, X0c47, N0c47⟩ : ∃ lc, Stand p l e room_1 (s.setVm vm0c12) m #[(.int p0), (.int p1), (.int p2)] below meth c T0c47 lc 12 24 ∧ Fr n0 lc := ⟨_, X0c47, N0c47⟩
            refine stp (fun t k => st0c47 t k) ?_
            show W (T0c47.setTop (mkF m 149 #[.val (.int p0), .val (.int p1), .val (.int p2), .val (.int u0_1), .val (.int u0_2), .val (.int u0_3), .val (.int u0_4), .val (.int v0_6), .val (.int v0_9), .val (.ref a0c11), .val (.ref a0c12), .unset, .unset] [(.int (fsg (u0_1 - u0_2)))]))
            refine stp (fun t k => XS.istore X0c47.here hx rfl (hb hby at_149) rfl (l' := #[.val (.int p0), .val (.int p1), .val (.int p2), .val (.int u0_1), .val (.int u0_2), .val (.int u0_3), .val (.int u0_4), .val (.int v0_6), .val (.int v0_9), .val (.ref a0c11), .val (.ref a0c12), .val (.int (fsg (u0_1 - u0_2))), .unset]) rfl k) ?_
            show W (T0c47.setTop (mkF m 151 #[.val (.int p0), .val (.int p1), .val (.int p2), .val (.int u0_1), .val (.int u0_2), .val (.int u0_3), .val (.int u0_4), .val (.int v0_6), .val (.int v0_9), .val (.ref a0c11), .val (.ref a0c12), .val (.int (fsg (u0_1 - u0_2))), .unset] []))
            exact J0_151_52 _ _ (fsg (u0_1 - u0_2)) (by first | rfl | simp only [if_neg hc0_13, if_pos hc0_40, if_neg hc0_41]) X0c47 e0c47 N0c47
        · refine stp (fun t k => XS.icmpYes X0c12.here hx rfl (pc0 := 114) (pc' := 142) rfl (hb hby at_114) rfl ((flt hc0_40).2.2.2) (by decide) (by decide) k) ?_
          show W (T0c12.setTop (mkF m 142 #[.val (.int p0), .val (.int p1), .val (.int p2), .val (.int u0_1), .val (.int u0_2), .val (.int u0_3), .val (.int u0_4), .val (.int v0_6), .val (.int v0_9), .val (.ref a0c11), .val (.ref a0c12), .unset, .unset] []))
          refine stp (fun t k => XS.iloadN X0c12.here hx rfl (hb hby at_142) rfl k) ?_
          show W (T0c12.setTop (mkF m 143 #[.val (.int p0), .val (.int p1), .val (.int p2), .val (.int u0_1), .val (.int u0_2), .val (.int u0_3), .val (.int u0_4), .val (.int v0_6), .val (.int v0_9), .val (.ref a0c11), .val (.ref a0c12), .unset, .unset] [(.int u0_1)]))
          refine stp (fun t k => XS.iload X0c12.here hx rfl (hb hby at_143) rfl k) ?_
          show W (T0c12.setTop (mkF m 145 #[.val (.int p0), .val (.int p1), .val (.int p2), .val (.int u0_1), .val (.int u0_2), .val (.int u0_3), .val (.int u0_4), .val (.int v0_6), .val (.int v0_9), .val (.ref a0c11), .val (.ref a0c12), .unset, .unset] [(.int u0_2), (.int u0_1)]))
          refine stp (fun t k => XS.isub X0c12.here hx rfl (hb hby at_145) rfl k) ?_
          show W (T0c12.setTop (mkF m 146 #[.val (.int p0), .val (.int p1), .val (.int p2), .val (.int u0_1), .val (.int u0_2), .val (.int u0_3), .val (.int u0_4), .val (.int v0_6), .val (.int v0_9), .val (.ref a0c11), .val (.ref a0c12), .unset, .unset] [(.int (u0_1 - u0_2))]))
          obtain ⟨_, _, ⟨T0c49, L0c49, k0c49, n0c49⟩, -, X0c49, ⟨Lc0c49, hQ0c49, l0c49, y0c49, z0c49⟩, st0c49⟩ := Jvm.LawKit.callS X0c12 hx (y := (⟨"com/example/usher/usher/graph/CodePointOrderComparePinLaw", "sign", "(I)I"⟩ : MethodName)) hown (mvT hZ (hw _ (List.mem_of_getElem? (i := 26) rfl))) (mvT hZ (hw _ (List.mem_of_getElem? (i := 27) rfl))) (mvT hZ (hw _ (List.mem_of_getElem? (i := 2) rfl))) (mvT hZ (hw _ (List.mem_of_getElem? (i := 28) rfl))) (by decide) (backOf (W := 0) (rmsg l Z aa hw [] (u0_1 - u0_2)  h0c12 n0 Z0c12 ) hZ (hw _ (List.mem_of_getElem? (i := 28) rfl)) (hw _ (List.mem_of_getElem? (i := 2) rfl)) (by decide) (by decide)) (g := (mkF m 146 #[.val (.int p0), .val (.int p1), .val (.int p2), .val (.int u0_1), .val (.int u0_2), .val (.int u0_3), .val (.int u0_4), .val (.int v0_6), .val (.int v0_9), .val (.ref a0c11), .val (.ref a0c12), .unset, .unset] [(.int (u0_1 - u0_2))])) rfl (by rw [hml]; rfl) (argsL := [(.int (u0_1 - u0_2))]) (rest := []) (lenOf pd0_1 rfl) rfl (by show 2 * 0 + _ ≤ _; exact Nat.le_of_eq rfl) (hb hby at_146) (fun _ _ => ⟨rfl, e0c12, (by decide : 12 + 0 ≤ _), (by decide : 24 + 0 ≤ _)⟩)
          dsimp only [Pt.U, Pt.locs, Pt.cells, Pt.slots] at X0c49 l0c49 y0c49 z0c49 st0c49 hQ0c49
          subst l0c49 y0c49 z0c49
          obtain ⟨rfl, N0c49q, e0c49⟩ := hQ0c49
          have N0c49 := Fr.app N0c12 N0c49q
          obtain ⟨lc0t50, X0c49, N0c49⟩ : ∃ lc, Stand p l e room_1 (s.setVm vm0c12) m #[(.int p0), (.int p1), (.int p2)] below meth c T0c49 lc 12 24 ∧ Fr n0 lc := ⟨_, X0c49, N0c49⟩
          refine stp (fun t k => st0c49 t k) ?_
          show W (T0c49.setTop (mkF m 149 #[.val (.int p0), .val (.int p1), .val (.int p2), .val (.int u0_1), .val (.int u0_2), .val (.int u0_3), .val (.int u0_4), .val (.int v0_6), .val (.int v0_9), .val (.ref a0c11), .val (.ref a0c12), .unset, .unset] [(.int (fsg (u0_1 - u0_2)))]))
          refine stp (fun t k => XS.istore X0c49.here hx rfl (hb hby at_149) rfl (l' := #[.val (.int p0), .val (.int p1), .val (.int p2), .val (.int u0_1), .val (.int u0_2), .val (.int u0_3), .val (.int u0_4), .val (.int v0_6), .val (.int v0_9), .val (.ref a0c11), .val (.ref a0c12), .val (.int (fsg (u0_1 - u0_2))), .unset]) rfl k) ?_
          show W (T0c49.setTop (mkF m 151 #[.val (.int p0), .val (.int p1), .val (.int p2), .val (.int u0_1), .val (.int u0_2), .val (.int u0_3), .val (.int u0_4), .val (.int v0_6), .val (.int v0_9), .val (.ref a0c11), .val (.ref a0c12), .val (.int (fsg (u0_1 - u0_2))), .unset] []))
          exact J0_151_52 _ _ (fsg (u0_1 - u0_2)) (by first | rfl | simp only [if_neg hc0_13, if_neg hc0_40]) X0c49 e0c49 N0c49
    by_cases hc0_8 : (((p0.toUInt32 >>> ((5 : Int32) &&& 31).toUInt32).toInt32) &&& (1 : Int32)) = (0 : Int32)
    · refine stp (fun t k => XS.ifYes X07.here hx rfl (pc0 := 48) (pc' := 56) rfl (hb hby at_48) rfl ((if0 _ _).trans (teq hc0_8).1) (by decide) (by decide) k) ?_
      show W (T07.setTop (mkF m 56 #[.val (.int p0), .val (.int p1), .val (.int p2), .val (.int u0_1), .val (.int u0_2), .val (.int u0_3), .val (.int u0_4), .val (.int v0_6), .unset, .unset, .unset, .unset, .unset] []))
      refine stp (fun t k => XS.iloadN X07.here hx rfl (hb hby at_56) rfl k) ?_
      show W (T07.setTop (mkF m 57 #[.val (.int p0), .val (.int p1), .val (.int p2), .val (.int u0_1), .val (.int u0_2), .val (.int u0_3), .val (.int u0_4), .val (.int v0_6), .unset, .unset, .unset, .unset, .unset] [(.int p2)]))
      refine stp (fun t k => XS.bipush X07.here hx rfl (hb hby at_57) k) ?_
      show W (T07.setTop (mkF m 59 #[.val (.int p0), .val (.int p1), .val (.int p2), .val (.int u0_1), .val (.int u0_2), .val (.int u0_3), .val (.int u0_4), .val (.int v0_6), .unset, .unset, .unset, .unset, .unset] [(.int (16 : Int32)), (.int p2)]))
      refine stp (fun t k => XS.iushr X07.here hx rfl (hb hby at_59) rfl k) ?_
      show W (T07.setTop (mkF m 60 #[.val (.int p0), .val (.int p1), .val (.int p2), .val (.int u0_1), .val (.int u0_2), .val (.int u0_3), .val (.int u0_4), .val (.int v0_6), .unset, .unset, .unset, .unset, .unset] [(.int ((p2.toUInt32 >>> ((16 : Int32) &&& 31).toUInt32).toInt32))]))
      refine stp (fun t k => XS.i2c X07.here hx rfl (hb hby at_60) rfl k) ?_
      show W (T07.setTop (mkF m 61 #[.val (.int p0), .val (.int p1), .val (.int p2), .val (.int u0_1), .val (.int u0_2), .val (.int u0_3), .val (.int u0_4), .val (.int v0_6), .unset, .unset, .unset, .unset, .unset] [(.int (((p2.toUInt32 >>> ((16 : Int32) &&& 31).toUInt32).toInt32).toUInt32.toUInt16.toUInt32.toInt32))]))
      exact J0_61_10 _ _ (((p2.toUInt32 >>> ((16 : Int32) &&& 31).toUInt32).toInt32).toUInt32.toUInt16.toUInt32.toInt32) (by first | rfl | simp only [if_pos hc0_8]) X07 e07 N07
    · refine stp (fun t k => XS.ifNo X07.here hx rfl (hb hby at_48) rfl ((if0 _ _).trans (feq hc0_8).1) k) ?_
      show W (T07.setTop (mkF m 51 #[.val (.int p0), .val (.int p1), .val (.int p2), .val (.int u0_1), .val (.int u0_2), .val (.int u0_3), .val (.int u0_4), .val (.int v0_6), .unset, .unset, .unset, .unset, .unset] []))
      refine stp (fun t k => XS.iload X07.here hx rfl (hb hby at_51) rfl k) ?_
      show W (T07.setTop (mkF m 53 #[.val (.int p0), .val (.int p1), .val (.int p2), .val (.int u0_1), .val (.int u0_2), .val (.int u0_3), .val (.int u0_4), .val (.int v0_6), .unset, .unset, .unset, .unset, .unset] [(.int u0_4)]))
      refine stp (fun t k => XS.goto X07.here hx rfl (pc0 := 53) (pc' := 61) rfl (hb hby at_53) (by decide) (by decide) k) ?_
      show W (T07.setTop (mkF m 61 #[.val (.int p0), .val (.int p1), .val (.int p2), .val (.int u0_1), .val (.int u0_2), .val (.int u0_3), .val (.int u0_4), .val (.int v0_6), .unset, .unset, .unset, .unset, .unset] [(.int u0_4)]))
      exact J0_61_10 _ _ u0_4 (by first | rfl | simp only [if_neg hc0_8]) X07 e07 N07
  by_cases hc0_5 : (((p0.toUInt32 >>> ((4 : Int32) &&& 31).toUInt32).toInt32) &&& (1 : Int32)) = (0 : Int32)
  · refine stp (fun t k => XS.ifYes X0.here hx rfl (pc0 := 31) (pc' := 39) rfl (hb hby at_31) rfl ((if0 _ _).trans (teq hc0_5).1) (by decide) (by decide) k) ?_
    show W (s₁.setTop (mkF m 39 #[.val (.int p0), .val (.int p1), .val (.int p2), .val (.int u0_1), .val (.int u0_2), .val (.int u0_3), .val (.int u0_4), .unset, .unset, .unset, .unset, .unset, .unset] []))
    refine stp (fun t k => XS.iloadN X0.here hx rfl (hb hby at_39) rfl k) ?_
    show W (s₁.setTop (mkF m 40 #[.val (.int p0), .val (.int p1), .val (.int p2), .val (.int u0_1), .val (.int u0_2), .val (.int u0_3), .val (.int u0_4), .unset, .unset, .unset, .unset, .unset, .unset] [(.int p2)]))
    refine stp (fun t k => XS.i2c X0.here hx rfl (hb hby at_40) rfl k) ?_
    show W (s₁.setTop (mkF m 41 #[.val (.int p0), .val (.int p1), .val (.int p2), .val (.int u0_1), .val (.int u0_2), .val (.int u0_3), .val (.int u0_4), .unset, .unset, .unset, .unset, .unset, .unset] [(.int (p2.toUInt32.toUInt16.toUInt32.toInt32))]))
    exact J0_41_7 _ _ (p2.toUInt32.toUInt16.toUInt32.toInt32) (by first | rfl | simp only [if_pos hc0_5]) X0 e0 N0
  · refine stp (fun t k => XS.ifNo X0.here hx rfl (hb hby at_31) rfl ((if0 _ _).trans (feq hc0_5).1) k) ?_
    show W (s₁.setTop (mkF m 34 #[.val (.int p0), .val (.int p1), .val (.int p2), .val (.int u0_1), .val (.int u0_2), .val (.int u0_3), .val (.int u0_4), .unset, .unset, .unset, .unset, .unset, .unset] []))
    refine stp (fun t k => XS.iload X0.here hx rfl (hb hby at_34) rfl k) ?_
    show W (s₁.setTop (mkF m 36 #[.val (.int p0), .val (.int p1), .val (.int p2), .val (.int u0_1), .val (.int u0_2), .val (.int u0_3), .val (.int u0_4), .unset, .unset, .unset, .unset, .unset, .unset] [(.int u0_3)]))
    refine stp (fun t k => XS.goto X0.here hx rfl (pc0 := 36) (pc' := 41) rfl (hb hby at_36) (by decide) (by decide) k) ?_
    show W (s₁.setTop (mkF m 41 #[.val (.int p0), .val (.int p1), .val (.int p2), .val (.int u0_1), .val (.int u0_2), .val (.int u0_3), .val (.int u0_4), .unset, .unset, .unset, .unset, .unset, .unset] [(.int u0_3)]))
    exact J0_41_7 _ _ u0_3 (by first | rfl | simp only [if_neg hc0_5]) X0 e0 N0
theorem own_eqI {args : Array Value} {first s : State} {o : Option Outcome} {idx : List Nat} {a b : Term} {k : Int32} (h : (Jvm.Cond.eq a b).value args first o s idx = some true) (hb : b.eval args first o idx s = some (.int k)) : a.eval args first o idx s = some (.int k) := by
  obtain ⟨x, y, e1, e2, k1, k2⟩ := cmp_v (Or.inl h)
  cases hb.symm.trans e2
  obtain ⟨z, rfl⟩ := k2
  simp only [Cond.value, e1, hb] at h
  simp at h
  rw [e1, h]
set_option maxRecDepth 65536 in
set_option maxHeartbeats 40000000 in
theorem comes_1 {Post : Tables → Env → Array Value → State → Outcome → State → Prop} (hpost : ∀ tb e args s v u, (limb_1_1.after args s (.returned v) u = true ∧ limb_1_2.after args s (.returned v) u = true ∧ True) → ReturnedEndW s (.returned v) u (Jvm.fieldLocs frame_1_writes args s ++ Jvm.arrayLocs frame_1_arrays args s ++ Jvm.staticLocs frame_1_statics s) 32 1152 → Post tb e args s (.returned v) u) :
    ArmFor flags0 classFile x code maxLocals ret World_1 tables_1 room_1 Calls_1 rest_1 Pre_1 Post := by
  intro l hfl _ _ p e ha hc hk s m args below hf hA hF happ hP
  obtain ⟨hcalls, hrest, hpre⟩ := hP
  obtain ⟨-, -, -, hnamed, -, -, -, hat⟩ := (Spec.applies_iff hf).mp happ
  obtain ⟨hg, hn⟩ := and_e (Cond.before_iff.mp (show (Jvm.Cond.and given_1 narrow_1).before args s = true from hpre))
  obtain ⟨gc, hg⟩ := and_e hg
  obtain ⟨g0, hg⟩ := and_e hg
  obtain ⟨g1, hg⟩ := and_e hg
  have g2 := hg
  obtain ⟨w0, w1, w2, rfl⟩ : ∃ w0 w1 w2 : Value, args = #[w0, w1, w2] := by
    have hs : args.size = 3 := by simpa [Cond.value, given_1] using gc
    obtain ⟨L⟩ := args
    match L, hs with
    | [w0, w1, w2], _ => exact ⟨w0, w1, w2, rfl⟩
  have hw := fun d (hd : d ∈ tables_1) => atoms_spec (ws := Jvm.Cond.code x code maxLocals ret :: tables_1) hat d (List.mem_cons_of_mem _ hd)
  have hfit : Fit s := fun {y c} hc i hi => by
    obtain ⟨ha, rfl⟩ := Array.getElem?_eq_some_iff.mp hc
    have q := List.all_eq_true.mp ((Array.all_eq_true_iff_forall_mem.mp hF) _ (Array.getElem_mem ha)) i (List.mem_range.mpr hi)
    simpa [Array.getElem?_eq_getElem hi] using q
  obtain ⟨hsets, hown0⟩ := atoms_of _ (rest_1_c_eq ▸ (show rest_1_c.before _ s = true from hrest))
  have hr0 := Cond.before_iff.mp hown0
  obtain ⟨i0, ei0⟩ := is_v g0
  obtain rfl : w0 = (.int i0) := Option.some.inj ei0
  obtain ⟨i1, ei1⟩ := is_v g1
  obtain rfl : w1 = (.int i1) := Option.some.inj ei1
  obtain ⟨i2, ei2⟩ := is_v g2
  obtain rfl : w2 = (.int i2) := Option.some.inj ei2
  obtain ⟨wc, ewc⟩ := is_v (Cond.before_iff.mp (hsets _ (List.mem_of_getElem? (i := 1) rfl)))
  have S_cs := Sta.start ewc (Or.inl (hsets _ (List.mem_of_getElem? (i := 0) rfl)))
  have hcs : ¬ (wc = (0 : Int32)) := fun q => by
    have h2 := not_v (Cond.before_iff.mp (hsets _ (List.mem_of_getElem? (i := 2) rfl)))
    rw [q] at ewc
    rw [eq_i ewc (Term.int_eval 0) rfl] at h2
    cases h2
  obtain ⟨sx, esx, hr_sx⟩ := isR_v (Cond.before_iff.mp (hsets _ (List.mem_of_getElem? (i := 8) rfl)))
  have S_si := Sta.start esx (Or.inl (hsets _ (List.mem_of_getElem? (i := 7) rfl)))
  have S_ad := Sta.start (own_eqI (Cond.before_iff.mp (hsets _ (List.mem_of_getElem? (i := 12) rfl))) (Term.int_eval 1)) (Or.inl (hsets _ (List.mem_of_getElem? (i := 11) rfl)))
  have S_hi := Sta.start (own_eqI (Cond.before_iff.mp (hsets _ (List.mem_of_getElem? (i := 15) rfl))) (Term.int_eval 0)) (Or.inl (hsets _ (List.mem_of_getElem? (i := 14) rfl)))
  have S_lo := Sta.start (own_eqI (Cond.before_iff.mp (hsets _ (List.mem_of_getElem? (i := 18) rfl))) (Term.int_eval 8)) (Or.inl (hsets _ (List.mem_of_getElem? (i := 17) rfl)))
  have BW : OwnW s wc sx := ⟨S_cs, hcs, S_si, hr_sx, S_ad, S_hi, S_lo⟩
  have HH : CHv s ownEL s.vm s.heap := CHv.start (own_EW hw) (fun p hp => hcalls.1 p hp) (hsets _ (List.mem_of_getElem? (i := 2) rfl)) (hw _ (List.mem_of_getElem? (i := 19) rfl)) (hw _ (List.mem_of_getElem? (i := 5) rfl))
  obtain ⟨n, o, h1, h2, h3, _, L, rfl, ⟨rfl, N⟩, -, hq⟩ := rm0 l s _ hw tables_1 i0 i1 i2 wc sx s.heap s.heap.size (Nat.le_refl _) BW (Old.start s) p e ha hc hk s m _ below hf ((Spec.applies_iff_loose hf).mp happ).1 ⟨rfl, State.Warmed39.refl s, rfl, HH⟩ trivial
  refine ⟨n, _, h1, h2, h3, hpost _ _ _ _ _ _ ⟨Cond.after_iff.mpr rfl, Cond.after_iff.mpr (eq_i res_at (Term.int_eval (1)) rfl), trivial⟩ ⟨hq.1, hq.2.1, hq.2.2.1, (hq.2.2.2.sift fun y hy => Or.inr (N y hy)).mono (by decide) (by decide)⟩⟩
theorem main_1_1 : Claimed_1_1 := comes_1 fun _ _ _ _ _ _ h hF => ⟨h.1, hF⟩
theorem main_1_2 : Claimed_1_2 := comes_1 fun _ _ _ _ _ _ h hF => ⟨h.2.1, hF⟩
end Jvm.Pilot.@@N@@
namespace Jvm.Pilot.@@N@@
open Jvm Jvm.ClassFile Sem Op Lib Jvm.Free Jvm.Stand Jvm.Pilot.@@N@@.Jvm.D
/-! MADE BY PROGRAM (witnessworld.py) out of the Statement's table words and the real class files: 21 classes; the members and pool entries that the words name. The judged class is class 1, her method 1. -/
namespace start1
open Jvm.ClassFile
def u (s : String) : CpInfo := .utf8 (stringToUtf16 s)
/-- a pool by its gaps: so many unusable entries, then the entry; so many at the end -/
def gap : Nat → List CpInfo → List CpInfo
  | 0, r => r
  | n + 1, r => .unusable :: gap n r
def poolList (es : List (Nat × CpInfo)) (last : Nat) : List CpInfo := es.foldr (fun e r => gap e.1 (e.2 :: r)) (gap last [])
def pool (es : List (Nat × CpInfo)) (last : Nat) : Array CpInfo := ⟨poolList es last⟩
def fileOf (pool : Array CpInfo) (this : Nat) (attrs : Array Attribute := #[]) (ms : Array MethodInfo := #[]) (fl : Nat := 33) (sup : Nat := 0) (ifs : Array Nat := #[]) (fds : Array FieldInfo := #[]) : ClassFile where
  minorVersion := 0
  majorVersion := 65
  constantPool := pool
  accessFlags := fl
  thisClass := this
  superClass := sup
  interfaces := ifs
  fields := fds
  methods := ms
  attributes := attrs
def plain (name : String) (sup : Option ClassId) : Class where
  name := name
  kind := .ordinary
  loader := none
  accessFlags := 33
  super := sup
  interfaces := #[]
  cf := none
  fields := #[]
  methods := #[]
  instanceTypes := #[]
  staticTypes := #[]
  resolved := #[]
  callSites := []
  init := .initialized
  statics := none
  mirror := none

def pool0 : Array CpInfo := pool [(5, u "<init>"), (0, u "()V"), (1, .class_ 10), (1, u "java/lang/Object")] 113

def k0c0 : Code := { maxStack := 0, maxLocals := 1, code := object_method_1_code, exceptionTable := #[], attributes := #[] }
def k0m0 : Method := { name := "<init>", desc := "()V", sig := { parameters := [], returnType := none }, accessFlags := 1, code := some k0c0 }
/-- java/lang/Object -/
def k0 : Class := { plain "java/lang/Object" none with
  accessFlags := 33
  interfaces := #[]
  cf := some (fileOf pool0 8 #[] #[{ accessFlags := 1, nameIndex := 5, descriptorIndex := 6, attributes := #[] }] 33 0 #[] #[])
  fields := #[]
  methods := #[k0m0]
  instanceTypes := #[]
  staticTypes := #[]
  resolved := Array.replicate 124 none
  statics := none }

def pool1 : Array CpInfo := pool [(2, .class_ 4), (1, u "java/lang/Object"), (0, u "<init>"), (0, u "()V"), (0, .methodref 8 9), (0, .class_ 10), (0, .nameAndType 11 12), (0, u "com/example/usher/usher/graph/CodePointOrderComparePinLaw"), (0, u "make"), (0, u "(ICC)Ljava/lang/String;"), (0, .methodref 8 14), (0, .nameAndType 15 16), (0, u "cmpUnit"), (0, u "(CC)I"), (0, .methodref 8 18), (0, .nameAndType 19 20), (0, u "sign"), (0, u "(I)I"), (0, .methodref 22 23), (0, .class_ 24), (0, .nameAndType 25 26), (0, u "com/example/usher/usher/graph/CodePointOrder"), (0, u "compare"), (0, u "(Ljava/lang/String;Ljava/lang/String;)I"), (0, .class_ 28), (0, u "java/lang/String"), (0, .methodref 27 30), (0, .nameAndType 5 31), (0, u "([C)V"), (0, .methodref 27 33), (0, .nameAndType 34 35), (0, u "valueOf"), (0, u "(C)Ljava/lang/String;"), (0, .integer 55296), (0, .integer 57344), (0, .methodref 8 39), (0, .nameAndType 40 41), (0, u "group"), (0, u "(C)I"), (2, u "law"), (0, u "(III)Z")] 3

def k1m0 : Method := { name := "<init>", desc := "()V", sig := { parameters := [], returnType := none }, accessFlags := 2, code := none }
def k1c1 : Code := { maxStack := 3, maxLocals := 13, code := code, exceptionTable := #[], attributes := #[] }
def k1m1 : Method := { name := "law", desc := "(III)Z", sig := { parameters := [.int, .int, .int], returnType := some .boolean }, accessFlags := 9, code := some k1c1 }
def k1c2 : Code := { maxStack := 3, maxLocals := 4, code := method_3_code, exceptionTable := #[], attributes := #[] }
def k1m2 : Method := { name := "make", desc := "(ICC)Ljava/lang/String;", sig := { parameters := [.int, .char, .char], returnType := some (.object "java/lang/String") }, accessFlags := 10, code := some k1c2 }
def k1c3 : Code := { maxStack := 2, maxLocals := 1, code := method_4_code, exceptionTable := #[], attributes := #[] }
def k1m3 : Method := { name := "group", desc := "(C)I", sig := { parameters := [.char], returnType := some .int }, accessFlags := 10, code := some k1c3 }
def k1c4 : Code := { maxStack := 2, maxLocals := 4, code := method_5_code, exceptionTable := #[], attributes := #[] }
def k1m4 : Method := { name := "cmpUnit", desc := "(CC)I", sig := { parameters := [.char, .char], returnType := some .int }, accessFlags := 10, code := some k1c4 }
def k1c5 : Code := { maxStack := 1, maxLocals := 1, code := method_6_code, exceptionTable := #[], attributes := #[] }
def k1m5 : Method := { name := "sign", desc := "(I)I", sig := { parameters := [.int], returnType := some .int }, accessFlags := 10, code := some k1c5 }
/-- com/example/usher/usher/graph/CodePointOrderComparePinLaw -/
def k1 : Class := { plain "com/example/usher/usher/graph/CodePointOrderComparePinLaw" (some 0) with
  accessFlags := 49
  interfaces := #[]
  cf := some (fileOf pool1 8 #[] #[{ accessFlags := 2, nameIndex := 5, descriptorIndex := 6, attributes := #[] }, { accessFlags := 9, nameIndex := 44, descriptorIndex := 45, attributes := #[] }, { accessFlags := 10, nameIndex := 11, descriptorIndex := 12, attributes := #[] }, { accessFlags := 10, nameIndex := 40, descriptorIndex := 41, attributes := #[] }, { accessFlags := 10, nameIndex := 15, descriptorIndex := 16, attributes := #[] }, { accessFlags := 10, nameIndex := 19, descriptorIndex := 20, attributes := #[] }] 49 2 #[] #[])
  fields := #[]
  methods := #[k1m0, k1m1, k1m2, k1m3, k1m4, k1m5]
  instanceTypes := #[]
  staticTypes := #[]
  resolved := Array.replicate 49 none
  statics := none }

def pool2 : Array CpInfo := pool [(1, .class_ 2), (0, u "java/io/Serializable"), (0, .class_ 4), (0, u "java/lang/Object")] 2

/-- java/io/Serializable -/
def k2 : Class := { plain "java/io/Serializable" (some 0) with
  accessFlags := 1537
  interfaces := #[]
  cf := some (fileOf pool2 1 #[] #[] 1537 3 #[] #[])
  fields := #[]
  methods := #[]
  instanceTypes := #[]
  staticTypes := #[]
  resolved := Array.replicate 7 none
  statics := none }

def pool3 : Array CpInfo := pool [(1, .class_ 2), (0, u "java/lang/Comparable"), (0, .class_ 4), (0, u "java/lang/Object")] 7

/-- java/lang/Comparable -/
def k3 : Class := { plain "java/lang/Comparable" (some 0) with
  accessFlags := 1537
  interfaces := #[]
  cf := some (fileOf pool3 1 #[] #[] 1537 3 #[] #[])
  fields := #[]
  methods := #[]
  instanceTypes := #[]
  staticTypes := #[]
  resolved := Array.replicate 12 none
  statics := none }

def pool4 : Array CpInfo := pool [(2, .class_ 4), (1, u "java/lang/CharSequence"), (42, .class_ 48), (0, u "java/lang/CharSequence$1CodePointIterator"), (10, .class_ 60), (0, u "java/lang/CharSequence$1CharIterator"), (5, .class_ 67), (0, u "java/lang/Object")] 63

/-- java/lang/CharSequence -/
def k4 : Class := { plain "java/lang/CharSequence" (some 0) with
  accessFlags := 1537
  interfaces := #[]
  cf := some (fileOf pool4 2 #[.nestMembers #[47, 59]] #[] 1537 66 #[] #[])
  fields := #[]
  methods := #[]
  instanceTypes := #[]
  staticTypes := #[]
  resolved := Array.replicate 131 none
  statics := none }

def pool5 : Array CpInfo := pool [(1, .class_ 2), (0, u "java/lang/constant/Constable"), (0, .class_ 4), (0, u "java/lang/Object")] 6

/-- java/lang/constant/Constable -/
def k5 : Class := { plain "java/lang/constant/Constable" (some 0) with
  accessFlags := 1537
  interfaces := #[]
  cf := some (fileOf pool5 1 #[] #[] 1537 3 #[] #[])
  fields := #[]
  methods := #[]
  instanceTypes := #[]
  staticTypes := #[]
  resolved := Array.replicate 11 none
  statics := none }

def pool6 : Array CpInfo := pool [(1, .class_ 2), (0, u "java/lang/constant/ConstantDesc"), (0, .class_ 4), (0, u "java/lang/Object")] 32

/-- java/lang/constant/ConstantDesc -/
def k6 : Class := { plain "java/lang/constant/ConstantDesc" (some 0) with
  accessFlags := 1537
  interfaces := #[]
  cf := some (fileOf pool6 1 #[] #[] 1537 3 #[] #[])
  fields := #[]
  methods := #[]
  instanceTypes := #[]
  staticTypes := #[]
  resolved := Array.replicate 37 none
  statics := none }

def pool7 : Array CpInfo := pool [(1, .methodref 2 3), (0, .class_ 4), (0, .nameAndType 5 6), (0, u "java/lang/Object"), (0, u "<init>"), (0, u "()V"), (0, .string 8), (0, u ""), (0, .fieldref 10 11), (0, .class_ 12), (0, .nameAndType 13 14), (0, u "java/lang/String"), (0, u "value"), (0, u "[B"), (0, .fieldref 10 16), (0, .nameAndType 17 18), (0, u "coder"), (0, u "B"), (2, u "hash"), (0, u "I"), (2, u "hashIsZero"), (0, u "Z"), (0, .methodref 10 28), (0, .nameAndType 5 29), (0, u "([CIILjava/lang/Void;)V"), (8, .fieldref 10 39), (0, .nameAndType 40 26), (0, u "COMPACT_STRINGS"), (1, .class_ 44), (1, u "java/lang/StringUTF16"), (0, u "compress"), (1, .methodref 42 48), (0, .nameAndType 49 50), (0, u "coderFromArrayLen"), (0, u "([BI)B"), (2, u "toBytes"), (53, .class_ 109), (1, u "java/lang/StringLatin1"), (32, u "()Z"), (34, .methodref 42 178), (0, .nameAndType 45 179), (0, u "([CII)[B"), (29, .methodref 10 210), (0, .nameAndType 5 211), (0, u "([BB)V"), (122, u "()I"), (0, .methodref 10 336), (0, .nameAndType 17 337), (0, u "()B"), (25, u "([BI)C"), (5, u "(C)Z"), (21, u "(II)V"), (35, u "(I)C"), (64, .methodref 10 493), (0, .nameAndType 494 142), (0, u "isLatin1"), (0, .methodref 107 496), (0, .nameAndType 497 363), (0, u "charAt"), (0, .methodref 42 496), (2, u "checkIndex"), (5, u "length"), (67, .class_ 576), (0, u "java/lang/CharSequence"), (22, u "CASE_INSENSITIVE_ORDER"), (0, u "Ljava/util/Comparator;"), (181, u "valueOf"), (0, u "(C)Ljava/lang/String;"), (226, u "([C)V"), (4, .methodref 107 1016), (0, .nameAndType 1017 369), (0, u "canEncode"), (0, .methodref 107 1019), (0, .nameAndType 53 1020), (0, u "(C)[B"), (0, .methodref 42 1019), (31, .fieldref 1054 1055), (0, .class_ 1056), (0, .nameAndType 1057 1058), (0, u "jdk/internal/util/Preconditions"), (0, u "SIOOBE_FORMATTER"), (0, u "Ljava/util/function/BiFunction;"), (0, .methodref 1054 1060), (0, .nameAndType 501 1061), (0, u "(IILjava/util/function/BiFunction;)I"), (39, u "serialPersistentFields"), (0, u "[Ljava/io/ObjectStreamField;"), (0, .class_ 1104), (0, u "java/lang/String$CaseInsensitiveComparator"), (1, .class_ 1107), (0, u "java/io/Serializable"), (0, .class_ 1109), (0, u "java/lang/Comparable"), (0, .class_ 1111), (0, u "java/lang/constant/Constable"), (0, .class_ 1113), (0, u "java/lang/constant/ConstantDesc"), (2, u "serialVersionUID"), (0, u "J"), (3, u "REPL"), (0, u "C"), (2, u "LATIN1"), (1, u "UTF16")] 323

def k7m0 : Method := { name := "<init>", desc := "()V", sig := { parameters := [], returnType := none }, accessFlags := 1, code := none }
def k7c1 : Code := { maxStack := 5, maxLocals := 2, code := jdk_42_method_3_code, exceptionTable := #[], attributes := #[] }
def k7m1 : Method := { name := "<init>", desc := "([C)V", sig := { parameters := [(.array .char)], returnType := none }, accessFlags := 1, code := some k7c1 }
def k7c2 : Code := { maxStack := 2, maxLocals := 1, code := jdk_42_method_54_code, exceptionTable := #[], attributes := #[] }
def k7m2 : Method := { name := "length", desc := "()I", sig := { parameters := [], returnType := some .int }, accessFlags := 1, code := some k7c2 }
def k7c3 : Code := { maxStack := 2, maxLocals := 2, code := jdk_42_method_56_code, exceptionTable := #[], attributes := #[] }
def k7m3 : Method := { name := "charAt", desc := "(I)C", sig := { parameters := [.int], returnType := some .char }, accessFlags := 1, code := some k7c3 }
def k7c4 : Code := { maxStack := 4, maxLocals := 1, code := jdk_42_method_139_code, exceptionTable := #[], attributes := #[] }
def k7m4 : Method := { name := "valueOf", desc := "(C)Ljava/lang/String;", sig := { parameters := [.char], returnType := some (.object "java/lang/String") }, accessFlags := 9, code := some k7c4 }
def k7c5 : Code := { maxStack := 4, maxLocals := 6, code := jdk_42_method_149_code, exceptionTable := #[], attributes := #[] }
def k7m5 : Method := { name := "<init>", desc := "([CIILjava/lang/Void;)V", sig := { parameters := [(.array .char), .int, .int, (.object "java/lang/Void")], returnType := none }, accessFlags := 2, code := some k7c5 }
def k7c6 : Code := { maxStack := 2, maxLocals := 3, code := jdk_42_method_151_code, exceptionTable := #[], attributes := #[] }
def k7m6 : Method := { name := "<init>", desc := "([BB)V", sig := { parameters := [(.array .byte), .byte], returnType := none }, accessFlags := 0, code := some k7c6 }
def k7c7 : Code := { maxStack := 1, maxLocals := 1, code := jdk_42_method_152_code, exceptionTable := #[], attributes := #[] }
def k7m7 : Method := { name := "coder", desc := "()B", sig := { parameters := [], returnType := some .byte }, accessFlags := 0, code := some k7c7 }
def k7c8 : Code := { maxStack := 1, maxLocals := 1, code := jdk_42_method_154_code, exceptionTable := #[], attributes := #[] }
def k7m8 : Method := { name := "isLatin1", desc := "()Z", sig := { parameters := [], returnType := some .boolean }, accessFlags := 0, code := some k7c8 }
def k7c9 : Code := { maxStack := 3, maxLocals := 2, code := jdk_42_method_155_code, exceptionTable := #[], attributes := #[] }
def k7m9 : Method := { name := "checkIndex", desc := "(II)V", sig := { parameters := [.int, .int], returnType := none }, accessFlags := 8, code := some k7c9 }
/-- java/lang/String -/
def k7 : Class := { plain "java/lang/String" (some 0) with
  accessFlags := 49
  interfaces := #[2, 3, 4, 5, 6]
  cf := some (fileOf pool7 10 #[.nestMembers #[1103]] #[{ accessFlags := 1, nameIndex := 5, descriptorIndex := 6, attributes := #[] }, { accessFlags := 1, nameIndex := 5, descriptorIndex := 1010, attributes := #[] }, { accessFlags := 1, nameIndex := 507, descriptorIndex := 334, attributes := #[] }, { accessFlags := 1, nameIndex := 497, descriptorIndex := 427, attributes := #[] }, { accessFlags := 9, nameIndex := 782, descriptorIndex := 783, attributes := #[] }, { accessFlags := 2, nameIndex := 5, descriptorIndex := 29, attributes := #[] }, { accessFlags := 0, nameIndex := 5, descriptorIndex := 211, attributes := #[] }, { accessFlags := 0, nameIndex := 17, descriptorIndex := 337, attributes := #[] }, { accessFlags := 0, nameIndex := 494, descriptorIndex := 142, attributes := #[] }, { accessFlags := 8, nameIndex := 501, descriptorIndex := 391, attributes := #[] }] 49 2 #[1106, 1108, 575, 1110, 1112] #[{ accessFlags := 18, nameIndex := 13, descriptorIndex := 14, attributes := #[] }, { accessFlags := 18, nameIndex := 17, descriptorIndex := 18, attributes := #[] }, { accessFlags := 2, nameIndex := 21, descriptorIndex := 22, attributes := #[] }, { accessFlags := 2, nameIndex := 25, descriptorIndex := 26, attributes := #[] }, { accessFlags := 26, nameIndex := 1116, descriptorIndex := 1117, attributes := #[] }, { accessFlags := 24, nameIndex := 40, descriptorIndex := 26, attributes := #[] }, { accessFlags := 26, nameIndex := 1101, descriptorIndex := 1102, attributes := #[] }, { accessFlags := 26, nameIndex := 1121, descriptorIndex := 1122, attributes := #[] }, { accessFlags := 25, nameIndex := 599, descriptorIndex := 600, attributes := #[] }, { accessFlags := 24, nameIndex := 1125, descriptorIndex := 18, attributes := #[] }, { accessFlags := 24, nameIndex := 1127, descriptorIndex := 18, attributes := #[] }])
  fields := #[{ name := "value", type := (.array .byte), accessFlags := 18, slot := 0, constantValue := 0 }, { name := "coder", type := .byte, accessFlags := 18, slot := 1, constantValue := 0 }, { name := "hash", type := .int, accessFlags := 2, slot := 2, constantValue := 0 }, { name := "hashIsZero", type := .boolean, accessFlags := 2, slot := 3, constantValue := 0 }, { name := "serialVersionUID", type := .long, accessFlags := 26, slot := 0, constantValue := 0 }, { name := "COMPACT_STRINGS", type := .boolean, accessFlags := 24, slot := 1, constantValue := 0 }, { name := "serialPersistentFields", type := (.array (.object "java/io/ObjectStreamField")), accessFlags := 26, slot := 2, constantValue := 0 }, { name := "REPL", type := .char, accessFlags := 26, slot := 3, constantValue := 0 }, { name := "CASE_INSENSITIVE_ORDER", type := (.object "java/util/Comparator"), accessFlags := 25, slot := 4, constantValue := 0 }, { name := "LATIN1", type := .byte, accessFlags := 24, slot := 5, constantValue := 0 }, { name := "UTF16", type := .byte, accessFlags := 24, slot := 6, constantValue := 0 }]
  methods := #[k7m0, k7m1, k7m2, k7m3, k7m4, k7m5, k7m6, k7m7, k7m8, k7m9]
  instanceTypes := #[(.array .byte), .byte, .int, .boolean]
  staticTypes := #[.long, .boolean, (.array (.object "java/io/ObjectStreamField")), .char, (.object "java/util/Comparator"), .byte, .byte]
  resolved := Array.replicate 1451 none
  statics := some 0 }

def pool8 : Array CpInfo := pool [(2, .class_ 4), (1, u "java/lang/Object"), (0, u "<init>"), (0, u "()V"), (0, .methodref 8 9), (0, .class_ 10), (0, .nameAndType 11 12), (0, u "java/lang/String"), (0, u "length"), (0, u "()I"), (0, .methodref 14 15), (0, .class_ 16), (0, .nameAndType 17 18), (0, u "java/lang/Math"), (0, u "min"), (0, u "(II)I"), (0, .methodref 8 20), (0, .nameAndType 21 22), (0, u "charAt"), (0, u "(I)C"), (0, .methodref 24 25), (0, .class_ 26), (0, .nameAndType 27 28), (0, u "com/example/usher/usher/graph/CodePointOrder"), (0, u "rank"), (0, u "(C)I"), (0, .integer 57344), (0, .integer 55296), (2, u "FIRST_SURROGATE"), (0, u "C"), (1, u "FIRST_AFTER_SURROGATES"), (2, u "compare"), (0, u "(Ljava/lang/String;Ljava/lang/String;)I")] 3

def k8m0 : Method := { name := "<init>", desc := "()V", sig := { parameters := [], returnType := none }, accessFlags := 2, code := none }
def k8c1 : Code := { maxStack := 3, maxLocals := 5, code := prog_13_method_2_code, exceptionTable := #[], attributes := #[] }
def k8m1 : Method := { name := "compare", desc := "(Ljava/lang/String;Ljava/lang/String;)I", sig := { parameters := [(.object "java/lang/String"), (.object "java/lang/String")], returnType := some .int }, accessFlags := 9, code := some k8c1 }
def k8c2 : Code := { maxStack := 2, maxLocals := 2, code := prog_13_method_3_code, exceptionTable := #[], attributes := #[] }
def k8m2 : Method := { name := "rank", desc := "(C)I", sig := { parameters := [.char], returnType := some .int }, accessFlags := 10, code := some k8c2 }
/-- com/example/usher/usher/graph/CodePointOrder -/
def k8 : Class := { plain "com/example/usher/usher/graph/CodePointOrder" (some 0) with
  accessFlags := 33
  interfaces := #[]
  cf := some (fileOf pool8 24 #[] #[{ accessFlags := 2, nameIndex := 5, descriptorIndex := 6, attributes := #[] }, { accessFlags := 9, nameIndex := 39, descriptorIndex := 40, attributes := #[] }, { accessFlags := 10, nameIndex := 27, descriptorIndex := 28, attributes := #[] }] 33 2 #[] #[{ accessFlags := 26, nameIndex := 33, descriptorIndex := 34, attributes := #[] }, { accessFlags := 26, nameIndex := 36, descriptorIndex := 34, attributes := #[] }])
  fields := #[{ name := "FIRST_SURROGATE", type := .char, accessFlags := 26, slot := 0, constantValue := 0 }, { name := "FIRST_AFTER_SURROGATES", type := .char, accessFlags := 26, slot := 1, constantValue := 0 }]
  methods := #[k8m0, k8m1, k8m2]
  instanceTypes := #[]
  staticTypes := #[.char, .char]
  resolved := Array.replicate 44 none
  statics := none }

def pool9 : Array CpInfo := pool [(1, .class_ 2), (0, u "java/lang/Math"), (1, .class_ 6), (1, u "java/lang/Object"), (0, u "<init>"), (0, u "()V"), (89, .class_ 100), (1, u "java/lang/Math$RandomNumberGeneratorHolder"), (71, u "negativeZeroFloatBits"), (0, u "J"), (2, u "negativeZeroDoubleBits"), (24, u "min"), (43, u "$assertionsDisabled"), (0, u "Z"), (88, u "(II)I"), (2, u "twoToTheDoubleScaleDown"), (0, u "D"), (4, u "twoToTheDoubleScaleUp"), (9, u "E"), (3, u "PI"), (2, u "TAU"), (2, u "DEGREES_TO_RADIANS"), (0, u "RADIANS_TO_DEGREES")] 94

def k9m0 : Method := { name := "<init>", desc := "()V", sig := { parameters := [], returnType := none }, accessFlags := 2, code := none }
def k9c1 : Code := { maxStack := 2, maxLocals := 2, code := jdk_29_method_69_code, exceptionTable := #[], attributes := #[] }
def k9m1 : Method := { name := "min", desc := "(II)I", sig := { parameters := [.int, .int], returnType := some .int }, accessFlags := 9, code := some k9c1 }
/-- java/lang/Math -/
def k9 : Class := { plain "java/lang/Math" (some 0) with
  accessFlags := 49
  interfaces := #[]
  cf := some (fileOf pool9 1 #[.nestMembers #[98]] #[{ accessFlags := 2, nameIndex := 7, descriptorIndex := 8, attributes := #[] }, { accessFlags := 9, nameIndex := 201, descriptorIndex := 335, attributes := #[] }] 49 4 #[] #[{ accessFlags := 25, nameIndex := 354, descriptorIndex := 339, attributes := #[] }, { accessFlags := 25, nameIndex := 358, descriptorIndex := 339, attributes := #[] }, { accessFlags := 25, nameIndex := 361, descriptorIndex := 339, attributes := #[] }, { accessFlags := 26, nameIndex := 364, descriptorIndex := 339, attributes := #[] }, { accessFlags := 26, nameIndex := 365, descriptorIndex := 339, attributes := #[] }, { accessFlags := 26, nameIndex := 172, descriptorIndex := 173, attributes := #[] }, { accessFlags := 26, nameIndex := 176, descriptorIndex := 173, attributes := #[] }, { accessFlags := 8, nameIndex := 344, descriptorIndex := 339, attributes := #[] }, { accessFlags := 8, nameIndex := 338, descriptorIndex := 339, attributes := #[] }, { accessFlags := 4120, nameIndex := 245, descriptorIndex := 246, attributes := #[] }])
  fields := #[{ name := "E", type := .double, accessFlags := 25, slot := 0, constantValue := 0 }, { name := "PI", type := .double, accessFlags := 25, slot := 1, constantValue := 0 }, { name := "TAU", type := .double, accessFlags := 25, slot := 2, constantValue := 0 }, { name := "DEGREES_TO_RADIANS", type := .double, accessFlags := 26, slot := 3, constantValue := 0 }, { name := "RADIANS_TO_DEGREES", type := .double, accessFlags := 26, slot := 4, constantValue := 0 }, { name := "negativeZeroFloatBits", type := .long, accessFlags := 26, slot := 5, constantValue := 0 }, { name := "negativeZeroDoubleBits", type := .long, accessFlags := 26, slot := 6, constantValue := 0 }, { name := "twoToTheDoubleScaleUp", type := .double, accessFlags := 8, slot := 7, constantValue := 0 }, { name := "twoToTheDoubleScaleDown", type := .double, accessFlags := 8, slot := 8, constantValue := 0 }, { name := "$assertionsDisabled", type := .boolean, accessFlags := 4120, slot := 9, constantValue := 0 }]
  methods := #[k9m0, k9m1]
  instanceTypes := #[]
  staticTypes := #[.double, .double, .double, .double, .double, .long, .long, .double, .double, .boolean]
  resolved := Array.replicate 460 none
  statics := none }

def pool10 : Array CpInfo := pool [(1, .class_ 2), (0, u "java/lang/String"), (1, .class_ 6), (1, u "java/lang/Object"), (0, u "<init>"), (0, u "()V"), (0, .methodref 1 10), (0, .nameAndType 11 12), (0, u "checkIndex"), (0, u "(II)V"), (1, .class_ 16), (1, u "java/lang/StringLatin1"), (36, u "([BI)C"), (36, u "canEncode"), (14, u "(C)Z"), (15, u "$assertionsDisabled"), (0, u "Z"), (98, .class_ 223), (1, u "java/lang/StringLatin1$LinesSpliterator"), (28, u "charAt"), (127, u "toBytes"), (1, u "(C)[B"), (7, .class_ 391), (0, u "java/lang/StringLatin1$CharsSpliterator")] 3

def k10m0 : Method := { name := "<init>", desc := "()V", sig := { parameters := [], returnType := none }, accessFlags := 0, code := none }
def k10c1 : Code := { maxStack := 2, maxLocals := 2, code := jdk_43_method_2_code, exceptionTable := #[], attributes := #[] }
def k10m1 : Method := { name := "charAt", desc := "([BI)C", sig := { parameters := [(.array .byte), .int], returnType := some .char }, accessFlags := 9, code := some k10c1 }
def k10c2 : Code := { maxStack := 2, maxLocals := 1, code := jdk_43_method_3_code, exceptionTable := #[], attributes := #[] }
def k10m2 : Method := { name := "canEncode", desc := "(C)Z", sig := { parameters := [.char], returnType := some .boolean }, accessFlags := 9, code := some k10c2 }
def k10c3 : Code := { maxStack := 4, maxLocals := 1, code := jdk_43_method_46_code, exceptionTable := #[], attributes := #[] }
def k10m3 : Method := { name := "toBytes", desc := "(C)[B", sig := { parameters := [.char], returnType := some (.array .byte) }, accessFlags := 9, code := some k10c3 }
/-- java/lang/StringLatin1 -/
def k10 : Class := { plain "java/lang/StringLatin1" (some 0) with
  accessFlags := 48
  interfaces := #[]
  cf := some (fileOf pool10 14 #[.nestMembers #[390, 221]] #[{ accessFlags := 0, nameIndex := 7, descriptorIndex := 8, attributes := #[] }, { accessFlags := 9, nameIndex := 252, descriptorIndex := 53, attributes := #[] }, { accessFlags := 9, nameIndex := 90, descriptorIndex := 105, attributes := #[] }, { accessFlags := 9, nameIndex := 380, descriptorIndex := 382, attributes := #[] }] 48 4 #[] #[{ accessFlags := 4120, nameIndex := 121, descriptorIndex := 122, attributes := #[] }])
  fields := #[{ name := "$assertionsDisabled", type := .boolean, accessFlags := 4120, slot := 0, constantValue := 0 }]
  methods := #[k10m0, k10m1, k10m2, k10m3]
  instanceTypes := #[]
  staticTypes := #[.boolean]
  resolved := Array.replicate 395 none
  statics := none }

def pool11 : Array CpInfo := pool [(3, .class_ 4), (0, u "java/lang/String"), (1, .class_ 8), (1, u "java/lang/Object"), (0, u "<init>"), (0, u "()V"), (0, .methodref 12 13), (0, .class_ 14), (0, .nameAndType 15 16), (0, u "java/lang/StringUTF16"), (0, u "newBytesLength"), (0, u "(I)I"), (3, .integer 1073741823), (23, .fieldref 12 45), (0, .nameAndType 46 47), (0, u "$assertionsDisabled"), (0, u "Z"), (0, .methodref 12 49), (0, .nameAndType 50 51), (0, u "length"), (0, u "([B)I"), (7, .fieldref 12 60), (0, .nameAndType 61 62), (0, u "HI_BYTE_SHIFT"), (0, u "I"), (0, .fieldref 12 64), (0, .nameAndType 65 62), (0, u "LO_BYTE_SHIFT"), (1, .methodref 12 68), (0, .nameAndType 69 70), (0, u "checkIndex"), (0, u "(I[B)V"), (0, .methodref 12 72), (0, .nameAndType 73 74), (0, u "getChar"), (0, u "([BI)C"), (32, .methodref 12 108), (0, .nameAndType 109 110), (0, u "newBytesFor"), (0, u "(I)[B"), (0, .methodref 12 112), (0, .nameAndType 113 114), (0, u "putChar"), (0, u "([BII)V"), (0, .methodref 12 116), (0, .nameAndType 117 118), (0, u "compress"), (0, u "([CI[BII)I"), (0, .methodref 12 120), (0, .nameAndType 121 122), (0, u "toBytes"), (0, u "([CII)[B"), (138, u "coderFromArrayLen"), (0, u "([BI)B"), (106, .class_ 371), (1, u "java/lang/StringUTF16$LinesSpliterator"), (20, u "charAt"), (21, .methodref 3 415), (0, .nameAndType 69 416), (0, u "(II)V"), (13, u "MAX_LENGTH"), (44, u "(C)[B"), (151, .class_ 628), (0, u "java/lang/StringUTF16$CodePointsSpliterator"), (0, .class_ 630), (0, u "java/lang/StringUTF16$CharsSpliterator")] 4

def k11m0 : Method := { name := "<init>", desc := "()V", sig := { parameters := [], returnType := none }, accessFlags := 0, code := none }
def k11c1 : Code := { maxStack := 1, maxLocals := 1, code := jdk_52_method_2_code, exceptionTable := #[], attributes := #[] }
def k11m1 : Method := { name := "newBytesFor", desc := "(I)[B", sig := { parameters := [.int], returnType := some (.array .byte) }, accessFlags := 9, code := some k11c1 }
def k11c2 : Code := { maxStack := 4, maxLocals := 1, code := jdk_52_method_3_code, exceptionTable := #[], attributes := #[] }
def k11m2 : Method := { name := "newBytesLength", desc := "(I)I", sig := { parameters := [.int], returnType := some .int }, accessFlags := 9, code := some k11c2 }
def k11c3 : Code := { maxStack := 4, maxLocals := 3, code := jdk_52_method_4_code, exceptionTable := #[], attributes := #[] }
def k11m3 : Method := { name := "putChar", desc := "([BII)V", sig := { parameters := [(.array .byte), .int, .int], returnType := none }, accessFlags := 8, code := some k11c3 }
def k11c4 : Code := { maxStack := 3, maxLocals := 2, code := jdk_52_method_5_code, exceptionTable := #[], attributes := #[] }
def k11m4 : Method := { name := "getChar", desc := "([BI)C", sig := { parameters := [(.array .byte), .int], returnType := some .char }, accessFlags := 8, code := some k11c4 }
def k11c5 : Code := { maxStack := 2, maxLocals := 1, code := jdk_52_method_6_code, exceptionTable := #[], attributes := #[] }
def k11m5 : Method := { name := "length", desc := "([B)I", sig := { parameters := [(.array .byte)], returnType := some .int }, accessFlags := 9, code := some k11c5 }
def k11c6 : Code := { maxStack := 4, maxLocals := 5, code := jdk_52_method_14_code, exceptionTable := #[], attributes := #[] }
def k11m6 : Method := { name := "toBytes", desc := "([CII)[B", sig := { parameters := [(.array .char), .int, .int], returnType := some (.array .byte) }, accessFlags := 9, code := some k11c6 }
def k11c7 : Code := { maxStack := 2, maxLocals := 2, code := jdk_52_method_15_code, exceptionTable := #[], attributes := #[] }
def k11m7 : Method := { name := "coderFromArrayLen", desc := "([BI)B", sig := { parameters := [(.array .byte), .int], returnType := some .byte }, accessFlags := 8, code := some k11c7 }
def k11c8 : Code := { maxStack := 5, maxLocals := 6, code := jdk_52_method_16_code, exceptionTable := #[], attributes := #[] }
def k11m8 : Method := { name := "compress", desc := "([CII)[B", sig := { parameters := [(.array .char), .int, .int], returnType := some (.array .byte) }, accessFlags := 9, code := some k11c8 }
def k11c9 : Code := { maxStack := 3, maxLocals := 7, code := jdk_52_method_21_code, exceptionTable := #[], attributes := #[] }
def k11m9 : Method := { name := "compress", desc := "([CI[BII)I", sig := { parameters := [(.array .char), .int, (.array .byte), .int, .int], returnType := some .int }, accessFlags := 9, code := some k11c9 }
def k11c10 : Code := { maxStack := 3, maxLocals := 2, code := jdk_52_method_24_code, exceptionTable := #[], attributes := #[] }
def k11m10 : Method := { name := "toBytes", desc := "(C)[B", sig := { parameters := [.char], returnType := some (.array .byte) }, accessFlags := 9, code := some k11c10 }
def k11c11 : Code := { maxStack := 2, maxLocals := 2, code := jdk_52_method_83_code, exceptionTable := #[], attributes := #[] }
def k11m11 : Method := { name := "charAt", desc := "([BI)C", sig := { parameters := [(.array .byte), .int], returnType := some .char }, accessFlags := 9, code := some k11c11 }
def k11c12 : Code := { maxStack := 2, maxLocals := 2, code := jdk_52_method_91_code, exceptionTable := #[], attributes := #[] }
def k11m12 : Method := { name := "checkIndex", desc := "(I[B)V", sig := { parameters := [.int, (.array .byte)], returnType := none }, accessFlags := 9, code := some k11c12 }
/-- java/lang/StringUTF16 -/
def k11 : Class := { plain "java/lang/StringUTF16" (some 0) with
  accessFlags := 48
  interfaces := #[]
  cf := some (fileOf pool11 12 #[.nestMembers #[627, 629, 369]] #[{ accessFlags := 0, nameIndex := 9, descriptorIndex := 10, attributes := #[] }, { accessFlags := 9, nameIndex := 109, descriptorIndex := 110, attributes := #[] }, { accessFlags := 9, nameIndex := 15, descriptorIndex := 16, attributes := #[] }, { accessFlags := 8, nameIndex := 113, descriptorIndex := 114, attributes := #[] }, { accessFlags := 8, nameIndex := 73, descriptorIndex := 74, attributes := #[] }, { accessFlags := 9, nameIndex := 50, descriptorIndex := 51, attributes := #[] }, { accessFlags := 9, nameIndex := 121, descriptorIndex := 122, attributes := #[] }, { accessFlags := 8, nameIndex := 261, descriptorIndex := 262, attributes := #[] }, { accessFlags := 9, nameIndex := 117, descriptorIndex := 122, attributes := #[] }, { accessFlags := 9, nameIndex := 117, descriptorIndex := 118, attributes := #[] }, { accessFlags := 9, nameIndex := 121, descriptorIndex := 475, attributes := #[] }, { accessFlags := 9, nameIndex := 392, descriptorIndex := 74, attributes := #[] }, { accessFlags := 9, nameIndex := 69, descriptorIndex := 70, attributes := #[] }] 48 6 #[] #[{ accessFlags := 26, nameIndex := 61, descriptorIndex := 62, attributes := #[] }, { accessFlags := 26, nameIndex := 65, descriptorIndex := 62, attributes := #[] }, { accessFlags := 24, nameIndex := 430, descriptorIndex := 62, attributes := #[] }, { accessFlags := 4120, nameIndex := 46, descriptorIndex := 47, attributes := #[] }])
  fields := #[{ name := "HI_BYTE_SHIFT", type := .int, accessFlags := 26, slot := 0, constantValue := 0 }, { name := "LO_BYTE_SHIFT", type := .int, accessFlags := 26, slot := 1, constantValue := 0 }, { name := "MAX_LENGTH", type := .int, accessFlags := 24, slot := 2, constantValue := 0 }, { name := "$assertionsDisabled", type := .boolean, accessFlags := 4120, slot := 3, constantValue := 0 }]
  methods := #[k11m0, k11m1, k11m2, k11m3, k11m4, k11m5, k11m6, k11m7, k11m8, k11m9, k11m10, k11m11, k11m12]
  instanceTypes := #[]
  staticTypes := #[.int, .int, .int, .boolean]
  resolved := Array.replicate 635 none
  statics := some 1 }

def pool12 : Array CpInfo := pool [(2, .class_ 4), (1, u "java/lang/Object"), (0, u "<init>"), (0, u "()V"), (17, .class_ 26), (1, u "jdk/internal/util/Preconditions"), (6, u "checkIndex"), (21, .class_ 56), (0, u "jdk/internal/util/Preconditions$4"), (57, .class_ 115), (0, u "jdk/internal/util/Preconditions$1"), (7, u "SIOOBE_FORMATTER"), (0, u "Ljava/util/function/BiFunction;"), (0, .class_ 126), (0, u "jdk/internal/util/Preconditions$2"), (3, u "AIOOBE_FORMATTER"), (0, .class_ 132), (0, u "jdk/internal/util/Preconditions$3"), (3, u "IOOBE_FORMATTER"), (41, u "(IILjava/util/function/BiFunction;)I")] 15

def k12m0 : Method := { name := "<init>", desc := "()V", sig := { parameters := [], returnType := none }, accessFlags := 1, code := none }
def k12c1 : Code := { maxStack := 3, maxLocals := 3, code := jdk_41_method_11_code, exceptionTable := #[], attributes := #[] }
def k12m1 : Method := { name := "checkIndex", desc := "(IILjava/util/function/BiFunction;)I", sig := { parameters := [.int, .int, (.object "java/util/function/BiFunction")], returnType := some .int }, accessFlags := 9, code := some k12c1 }
/-- jdk/internal/util/Preconditions -/
def k12 : Class := { plain "jdk/internal/util/Preconditions" (some 0) with
  accessFlags := 33
  interfaces := #[]
  cf := some (fileOf pool12 24 #[.nestMembers #[55, 131, 125, 114]] #[{ accessFlags := 1, nameIndex := 5, descriptorIndex := 6, attributes := #[] }, { accessFlags := 9, nameIndex := 33, descriptorIndex := 178, attributes := #[] }] 33 2 #[] #[{ accessFlags := 25, nameIndex := 123, descriptorIndex := 124, attributes := #[] }, { accessFlags := 25, nameIndex := 130, descriptorIndex := 124, attributes := #[] }, { accessFlags := 25, nameIndex := 136, descriptorIndex := 124, attributes := #[] }])
  fields := #[{ name := "SIOOBE_FORMATTER", type := (.object "java/util/function/BiFunction"), accessFlags := 25, slot := 0, constantValue := 0 }, { name := "AIOOBE_FORMATTER", type := (.object "java/util/function/BiFunction"), accessFlags := 25, slot := 1, constantValue := 0 }, { name := "IOOBE_FORMATTER", type := (.object "java/util/function/BiFunction"), accessFlags := 25, slot := 2, constantValue := 0 }]
  methods := #[k12m0, k12m1]
  instanceTypes := #[]
  staticTypes := #[(.object "java/util/function/BiFunction"), (.object "java/util/function/BiFunction"), (.object "java/util/function/BiFunction")]
  resolved := Array.replicate 194 none
  statics := some 2 }

def pool13 : Array CpInfo := pool [(9, u "<init>"), (6, .class_ 18), (1, u "java/lang/Object"), (0, u "()V"), (1, .class_ 23), (1, u "jdk/internal/util/ArraysSupport"), (0, u "LOG2_ARRAY_LONG_INDEX_SCALE"), (0, u "I"), (2, u "U"), (0, u "Ljdk/internal/misc/Unsafe;"), (8, u "BIG_ENDIAN"), (0, u "Z"), (8, u "LOG2_BYTE_BIT_SIZE"), (4, u "LOG2_ARRAY_INT_INDEX_SCALE"), (54, u "JLA"), (0, u "Ljdk/internal/access/JavaLangAccess;"), (11, u "LOG2_ARRAY_BOOLEAN_INDEX_SCALE"), (9, u "LOG2_ARRAY_BYTE_INDEX_SCALE"), (5, u "LOG2_ARRAY_CHAR_INDEX_SCALE"), (5, u "LOG2_ARRAY_SHORT_INDEX_SCALE"), (18, u "LOG2_ARRAY_FLOAT_INDEX_SCALE"), (24, u "LOG2_ARRAY_DOUBLE_INDEX_SCALE"), (89, u "T_BOOLEAN"), (2, u "T_CHAR"), (1, u "T_FLOAT"), (1, u "T_DOUBLE"), (1, u "T_BYTE"), (1, u "T_SHORT"), (1, u "T_INT"), (1, u "T_LONG"), (1, u "SOFT_MAX_ARRAY_LENGTH")] 83

def k13m0 : Method := { name := "<init>", desc := "()V", sig := { parameters := [], returnType := none }, accessFlags := 2, code := none }
/-- jdk/internal/util/ArraysSupport -/
def k13 : Class := { plain "jdk/internal/util/ArraysSupport" (some 0) with
  accessFlags := 33
  interfaces := #[]
  cf := some (fileOf pool13 21 #[] #[{ accessFlags := 2, nameIndex := 9, descriptorIndex := 19, attributes := #[] }] 33 16 #[] #[{ accessFlags := 24, nameIndex := 28, descriptorIndex := 29, attributes := #[] }, { accessFlags := 26, nameIndex := 38, descriptorIndex := 39, attributes := #[] }, { accessFlags := 25, nameIndex := 121, descriptorIndex := 25, attributes := #[] }, { accessFlags := 25, nameIndex := 131, descriptorIndex := 25, attributes := #[] }, { accessFlags := 25, nameIndex := 137, descriptorIndex := 25, attributes := #[] }, { accessFlags := 25, nameIndex := 143, descriptorIndex := 25, attributes := #[] }, { accessFlags := 25, nameIndex := 53, descriptorIndex := 25, attributes := #[] }, { accessFlags := 25, nameIndex := 24, descriptorIndex := 25, attributes := #[] }, { accessFlags := 25, nameIndex := 162, descriptorIndex := 25, attributes := #[] }, { accessFlags := 25, nameIndex := 187, descriptorIndex := 25, attributes := #[] }, { accessFlags := 26, nameIndex := 48, descriptorIndex := 25, attributes := #[] }, { accessFlags := 25, nameIndex := 277, descriptorIndex := 25, attributes := #[] }, { accessFlags := 25, nameIndex := 280, descriptorIndex := 25, attributes := #[] }, { accessFlags := 25, nameIndex := 282, descriptorIndex := 25, attributes := #[] }, { accessFlags := 25, nameIndex := 284, descriptorIndex := 25, attributes := #[] }, { accessFlags := 25, nameIndex := 286, descriptorIndex := 25, attributes := #[] }, { accessFlags := 25, nameIndex := 288, descriptorIndex := 25, attributes := #[] }, { accessFlags := 25, nameIndex := 290, descriptorIndex := 25, attributes := #[] }, { accessFlags := 25, nameIndex := 292, descriptorIndex := 25, attributes := #[] }, { accessFlags := 26, nameIndex := 108, descriptorIndex := 109, attributes := #[] }, { accessFlags := 25, nameIndex := 294, descriptorIndex := 25, attributes := #[] }])
  fields := #[{ name := "U", type := (.object "jdk/internal/misc/Unsafe"), accessFlags := 24, slot := 0, constantValue := 0 }, { name := "BIG_ENDIAN", type := .boolean, accessFlags := 26, slot := 1, constantValue := 0 }, { name := "LOG2_ARRAY_BOOLEAN_INDEX_SCALE", type := .int, accessFlags := 25, slot := 2, constantValue := 0 }, { name := "LOG2_ARRAY_BYTE_INDEX_SCALE", type := .int, accessFlags := 25, slot := 3, constantValue := 0 }, { name := "LOG2_ARRAY_CHAR_INDEX_SCALE", type := .int, accessFlags := 25, slot := 4, constantValue := 0 }, { name := "LOG2_ARRAY_SHORT_INDEX_SCALE", type := .int, accessFlags := 25, slot := 5, constantValue := 0 }, { name := "LOG2_ARRAY_INT_INDEX_SCALE", type := .int, accessFlags := 25, slot := 6, constantValue := 0 }, { name := "LOG2_ARRAY_LONG_INDEX_SCALE", type := .int, accessFlags := 25, slot := 7, constantValue := 0 }, { name := "LOG2_ARRAY_FLOAT_INDEX_SCALE", type := .int, accessFlags := 25, slot := 8, constantValue := 0 }, { name := "LOG2_ARRAY_DOUBLE_INDEX_SCALE", type := .int, accessFlags := 25, slot := 9, constantValue := 0 }, { name := "LOG2_BYTE_BIT_SIZE", type := .int, accessFlags := 26, slot := 10, constantValue := 0 }, { name := "T_BOOLEAN", type := .int, accessFlags := 25, slot := 11, constantValue := 0 }, { name := "T_CHAR", type := .int, accessFlags := 25, slot := 12, constantValue := 0 }, { name := "T_FLOAT", type := .int, accessFlags := 25, slot := 13, constantValue := 0 }, { name := "T_DOUBLE", type := .int, accessFlags := 25, slot := 14, constantValue := 0 }, { name := "T_BYTE", type := .int, accessFlags := 25, slot := 15, constantValue := 0 }, { name := "T_SHORT", type := .int, accessFlags := 25, slot := 16, constantValue := 0 }, { name := "T_INT", type := .int, accessFlags := 25, slot := 17, constantValue := 0 }, { name := "T_LONG", type := .int, accessFlags := 25, slot := 18, constantValue := 0 }, { name := "JLA", type := (.object "jdk/internal/access/JavaLangAccess"), accessFlags := 26, slot := 19, constantValue := 0 }, { name := "SOFT_MAX_ARRAY_LENGTH", type := .int, accessFlags := 25, slot := 20, constantValue := 0 }]
  methods := #[k13m0]
  instanceTypes := #[]
  staticTypes := #[(.object "jdk/internal/misc/Unsafe"), .boolean, .int, .int, .int, .int, .int, .int, .int, .int, .int, .int, .int, .int, .int, .int, .int, .int, .int, (.object "jdk/internal/access/JavaLangAccess"), .int]
  resolved := Array.replicate 378 none
  statics := none }

def pool14 : Array CpInfo := pool [(1, u "java/lang/Cloneable"), (0, .class_ 1), (0, u "java/lang/Object"), (0, .class_ 3)] 3

/-- java/lang/Cloneable -/
def k14 : Class := { plain "java/lang/Cloneable" (some 0) with
  accessFlags := 1537
  interfaces := #[]
  cf := some (fileOf pool14 2 #[] #[] 1537 4 #[] #[])
  fields := #[]
  methods := #[]
  instanceTypes := #[]
  staticTypes := #[]
  resolved := Array.replicate 8 none
  statics := none }

/-- the primitive byte -/
def k15 : Class := { plain "byte" none with kind := .primitive 'B', accessFlags := 0x411 }
/-- [B -/
def k16 : Class := { plain "[B" (some 0) with kind := .array 15 .byte, interfaces := #[14, 2], accessFlags := 1041 }

/-- the primitive char -/
def k17 : Class := { plain "char" none with kind := .primitive 'C', accessFlags := 0x411 }
/-- [C -/
def k18 : Class := { plain "[C" (some 0) with kind := .array 17 .char, interfaces := #[14, 2], accessFlags := 1041 }

/-- the primitive int -/
def k19 : Class := { plain "int" none with kind := .primitive 'I', accessFlags := 0x411 }
/-- [I -/
def k20 : Class := { plain "[I" (some 0) with kind := .array 19 .int, interfaces := #[14, 2], accessFlags := 1041 }

def heap : Heap := #[{ cls := 7, slots := #[.long 0, .int 1, .null, .int 0, .null, .int 0, .int 0], vm := .statics 7 },
  { cls := 11, slots := #[.int 0, .int 8, .int 0, .int 1], vm := .statics 11 },
  { cls := 12, slots := #[.null, .null, .null], vm := .statics 12 }]
def classes : Array Class := #[k0, k1, k2, k3, k4, k5, k6, k7, k8, k9, k10, k11, k12, k13, k14, k15, k16, k17, k18, k19, k20]
def interned : List (Array UInt16 × Addr) := []
def slotsUsed : Nat := 14
def theMethod : MethodId := ⟨1, 1⟩
def args0 : Array Value := #[.int 5, .int 66, .int 67]
def aboutOver (below : List Frame) : State where
  vm := { classes := classes, interned := interned.toArray }
  heap := heap
  slotsUsed := slotsUsed
  threads := #[{ frames := .invoking theMethod args0 :: below }]
def below0 : List Frame := [.native { method := ⟨0, 0⟩, args := #[] }]
def about1 : State := aboutOver below0
def p0 : Program := .bare "" "" ""
def e0 : Env := launch0.env 0 0 0
theorem w_frames : about1.frames = Frame.invoking theMethod args0 :: below0 := rfl
set_option maxRecDepth 65536 in
theorem w_args : argsFit about1.vm theMethod args0 = true := by decide +kernel
set_option maxRecDepth 65536 in
theorem w_heap : heapFits about1 = true := by decide +kernel
set_option maxRecDepth 65536 in
theorem w_runnable : about1.curStatus? = some .runnable := by decide +kernel
set_option maxRecDepth 65536 in
theorem w_alone : about1.alone = true := by decide +kernel
set_option maxRecDepth 65536 in
theorem w_named : about1.methodNamed? x = some theMethod := by decide +kernel
set_option maxRecDepth 65536 in
theorem w_hears : about1.hears theMethod below0 = true := by decide +kernel
set_option maxRecDepth 65536 in
theorem w_ripe : about1.ripe theMethod args0 below0 = true := by decide +kernel
theorem w_running : about1.status = .running := rfl
set_option maxRecDepth 65536 in
theorem w_room : about1.hasRoom e0.platform room_1 = true :=
  launch0.hasRoom_least _ room_1 (by decide +kernel) (by decide +kernel) (by decide +kernel) (by decide +kernel) (by decide +kernel) (by decide +kernel)
theorem allAtoms_all (ts : List Jvm.Cond) (a : Array Jvm.Value) (st : Jvm.State) : (allAtoms ts).before a st = ts.all (fun c => c.before a st) := by
  induction ts with
  | nil => rfl
  | cons c t ih =>
    show (Jvm.Cond.and c (allAtoms t)).before a st = _
    rw [Jvm.Cond.before_and, ih, List.all_cons]
def words1 : List Jvm.Cond := Jvm.Cond.code x code maxLocals ret :: tables_1
/-- a 'code' word, met by the world's own term for the bytes: nothing is compared byte by byte -/
theorem code_word {y : MethodName} {bytes : ByteArray} {mx : Nat} {rt : Option FieldType} {a : Array Value} {s : State} {m : MethodId} {meth : Method} {c : Code} (h1 : s.methodNamed? y = some m) (h2 : s.vm.method? m = some meth) (h3 : meth.code = some c) (h4 : c.code = bytes)
    (h5 : (c.maxLocals == mx && c.exceptionTable.isEmpty && decide (c.maxStack ≤ mostOperands) && decide (meth.sig.returnType = rt) && !meth.locks && decide (parseMethodDescriptor y.desc = some meth.sig)) = true) : (Jvm.Cond.code y bytes mx rt).before a s = true := by
  simp only [Bool.and_eq_true, beq_iff_eq, Bool.not_eq_true', decide_eq_true_eq] at h5
  obtain ⟨⟨⟨⟨⟨g1, g2⟩, g3⟩, g4⟩, g5⟩, g6⟩ := h5
  simp [Cond.before, Cond.holds, Cond.value, h1, h2, h3, h4, g1, g2, g3, g4, g5, g6]
def isCode : Jvm.Cond → Bool
  | .code _ _ _ _ => true
  | _ => false
theorem all_split {L : List Jvm.Cond} {P : Jvm.Cond → Bool} (h1 : L.all (fun c => isCode c || P c) = true) (h2 : ∀ c ∈ L.filter isCode, P c = true) : L.all P = true := by
  refine List.all_eq_true.mpr fun c hc => ?_
  have h := List.all_eq_true.mp h1 c hc
  rcases Bool.eq_false_or_eq_true (isCode c) with hi | hi
  · exact h2 c (List.mem_filter.mpr ⟨hc, hi⟩)
  · simpa [hi] using h
set_option maxRecDepth 65536 in
theorem w_c0 : (Jvm.Cond.code x code maxLocals ret).before args0 about1 = true := code_word (m := ⟨1, 1⟩) (meth := k1m1) (c := k1c1) (by decide +kernel) rfl rfl rfl (by decide +kernel)
set_option maxRecDepth 65536 in
theorem w_c1 : (Jvm.Cond.code ({ cls := "com/example/usher/usher/graph/CodePointOrderComparePinLaw", name := "make", desc := "(ICC)Ljava/lang/String;" } : Jvm.MethodName) method_3_code (4 : Nat) (Option.some (Jvm.ClassFile.FieldType.object "java/lang/String"))).before args0 about1 = true := code_word (m := ⟨1, 2⟩) (meth := k1m2) (c := k1c2) (by decide +kernel) rfl rfl rfl (by decide +kernel)
set_option maxRecDepth 65536 in
theorem w_c2 : (Jvm.Cond.code ({ cls := "java/lang/String", name := "<init>", desc := "([C)V" } : Jvm.MethodName) jdk_42_method_3_code (2 : Nat) (Option.none : Option Jvm.ClassFile.FieldType)).before args0 about1 = true := code_word (m := ⟨7, 1⟩) (meth := k7m1) (c := k7c1) (by decide +kernel) rfl rfl rfl (by decide +kernel)
set_option maxRecDepth 65536 in
theorem w_c3 : (Jvm.Cond.code ({ cls := "java/lang/String", name := "<init>", desc := "([CIILjava/lang/Void;)V" } : Jvm.MethodName) jdk_42_method_149_code (6 : Nat) (Option.none : Option Jvm.ClassFile.FieldType)).before args0 about1 = true := code_word (m := ⟨7, 5⟩) (meth := k7m5) (c := k7c5) (by decide +kernel) rfl rfl rfl (by decide +kernel)
set_option maxRecDepth 65536 in
theorem w_c4 : (Jvm.Cond.code ({ cls := "java/lang/Object", name := "<init>", desc := "()V" } : Jvm.MethodName) object_method_1_code (1 : Nat) (Option.none : Option Jvm.ClassFile.FieldType)).before args0 about1 = true := code_word (m := ⟨0, 0⟩) (meth := k0m0) (c := k0c0) (by decide +kernel) rfl rfl rfl (by decide +kernel)
set_option maxRecDepth 65536 in
theorem w_c5 : (Jvm.Cond.code ({ cls := "com/example/usher/usher/graph/CodePointOrderComparePinLaw", name := "sign", desc := "(I)I" } : Jvm.MethodName) method_6_code (1 : Nat) (Option.some Jvm.ClassFile.FieldType.int)).before args0 about1 = true := code_word (m := ⟨1, 5⟩) (meth := k1m5) (c := k1c5) (by decide +kernel) rfl rfl rfl (by decide +kernel)
set_option maxRecDepth 65536 in
theorem w_c6 : (Jvm.Cond.code ({ cls := "com/example/usher/usher/graph/CodePointOrder", name := "compare", desc := "(Ljava/lang/String;Ljava/lang/String;)I" } : Jvm.MethodName) prog_13_method_2_code (5 : Nat) (Option.some Jvm.ClassFile.FieldType.int)).before args0 about1 = true := code_word (m := ⟨8, 1⟩) (meth := k8m1) (c := k8c1) (by decide +kernel) rfl rfl rfl (by decide +kernel)
set_option maxRecDepth 65536 in
theorem w_c7 : (Jvm.Cond.code ({ cls := "java/lang/String", name := "length", desc := "()I" } : Jvm.MethodName) jdk_42_method_54_code (1 : Nat) (Option.some Jvm.ClassFile.FieldType.int)).before args0 about1 = true := code_word (m := ⟨7, 2⟩) (meth := k7m2) (c := k7c2) (by decide +kernel) rfl rfl rfl (by decide +kernel)
set_option maxRecDepth 65536 in
theorem w_c8 : (Jvm.Cond.code ({ cls := "java/lang/String", name := "coder", desc := "()B" } : Jvm.MethodName) jdk_42_method_152_code (1 : Nat) (Option.some Jvm.ClassFile.FieldType.byte)).before args0 about1 = true := code_word (m := ⟨7, 7⟩) (meth := k7m7) (c := k7c7) (by decide +kernel) rfl rfl rfl (by decide +kernel)
set_option maxRecDepth 65536 in
theorem w_c9 : (Jvm.Cond.code ({ cls := "java/lang/Math", name := "min", desc := "(II)I" } : Jvm.MethodName) jdk_29_method_69_code (2 : Nat) (Option.some Jvm.ClassFile.FieldType.int)).before args0 about1 = true := code_word (m := ⟨9, 1⟩) (meth := k9m1) (c := k9c1) (by decide +kernel) rfl rfl rfl (by decide +kernel)
set_option maxRecDepth 65536 in
theorem w_c10 : (Jvm.Cond.code ({ cls := "java/lang/String", name := "valueOf", desc := "(C)Ljava/lang/String;" } : Jvm.MethodName) jdk_42_method_139_code (1 : Nat) (Option.some (Jvm.ClassFile.FieldType.object "java/lang/String"))).before args0 about1 = true := code_word (m := ⟨7, 4⟩) (meth := k7m4) (c := k7c4) (by decide +kernel) rfl rfl rfl (by decide +kernel)
set_option maxRecDepth 65536 in
theorem w_c11 : (Jvm.Cond.code ({ cls := "java/lang/StringLatin1", name := "canEncode", desc := "(C)Z" } : Jvm.MethodName) jdk_43_method_3_code (1 : Nat) (Option.some Jvm.ClassFile.FieldType.boolean)).before args0 about1 = true := code_word (m := ⟨10, 2⟩) (meth := k10m2) (c := k10c2) (by decide +kernel) rfl rfl rfl (by decide +kernel)
set_option maxRecDepth 65536 in
theorem w_c12 : (Jvm.Cond.code ({ cls := "java/lang/StringLatin1", name := "toBytes", desc := "(C)[B" } : Jvm.MethodName) jdk_43_method_46_code (1 : Nat) (Option.some (Jvm.ClassFile.FieldType.array Jvm.ClassFile.FieldType.byte))).before args0 about1 = true := code_word (m := ⟨10, 3⟩) (meth := k10m3) (c := k10c3) (by decide +kernel) rfl rfl rfl (by decide +kernel)
set_option maxRecDepth 65536 in
theorem w_c13 : (Jvm.Cond.code ({ cls := "java/lang/String", name := "<init>", desc := "([BB)V" } : Jvm.MethodName) jdk_42_method_151_code (3 : Nat) (Option.none : Option Jvm.ClassFile.FieldType)).before args0 about1 = true := code_word (m := ⟨7, 6⟩) (meth := k7m6) (c := k7c6) (by decide +kernel) rfl rfl rfl (by decide +kernel)
set_option maxRecDepth 65536 in
theorem w_c14 : (Jvm.Cond.code ({ cls := "java/lang/StringUTF16", name := "compress", desc := "([CII)[B" } : Jvm.MethodName) jdk_52_method_16_code (6 : Nat) (Option.some (Jvm.ClassFile.FieldType.array Jvm.ClassFile.FieldType.byte))).before args0 about1 = true := code_word (m := ⟨11, 8⟩) (meth := k11m8) (c := k11c8) (by decide +kernel) rfl rfl rfl (by decide +kernel)
set_option maxRecDepth 65536 in
theorem w_c15 : (Jvm.Cond.code ({ cls := "java/lang/StringUTF16", name := "compress", desc := "([CI[BII)I" } : Jvm.MethodName) jdk_52_method_21_code (7 : Nat) (Option.some Jvm.ClassFile.FieldType.int)).before args0 about1 = true := code_word (m := ⟨11, 9⟩) (meth := k11m9) (c := k11c9) (by decide +kernel) rfl rfl rfl (by decide +kernel)
set_option maxRecDepth 65536 in
theorem w_c16 : (Jvm.Cond.code ({ cls := "java/lang/StringUTF16", name := "toBytes", desc := "([CII)[B" } : Jvm.MethodName) jdk_52_method_14_code (5 : Nat) (Option.some (Jvm.ClassFile.FieldType.array Jvm.ClassFile.FieldType.byte))).before args0 about1 = true := code_word (m := ⟨11, 6⟩) (meth := k11m6) (c := k11c6) (by decide +kernel) rfl rfl rfl (by decide +kernel)
set_option maxRecDepth 65536 in
theorem w_c17 : (Jvm.Cond.code ({ cls := "java/lang/StringUTF16", name := "newBytesFor", desc := "(I)[B" } : Jvm.MethodName) jdk_52_method_2_code (1 : Nat) (Option.some (Jvm.ClassFile.FieldType.array Jvm.ClassFile.FieldType.byte))).before args0 about1 = true := code_word (m := ⟨11, 1⟩) (meth := k11m1) (c := k11c1) (by decide +kernel) rfl rfl rfl (by decide +kernel)
set_option maxRecDepth 65536 in
theorem w_c18 : (Jvm.Cond.code ({ cls := "java/lang/StringUTF16", name := "newBytesLength", desc := "(I)I" } : Jvm.MethodName) jdk_52_method_3_code (1 : Nat) (Option.some Jvm.ClassFile.FieldType.int)).before args0 about1 = true := code_word (m := ⟨11, 2⟩) (meth := k11m2) (c := k11c2) (by decide +kernel) rfl rfl rfl (by decide +kernel)
set_option maxRecDepth 65536 in
theorem w_c19 : (Jvm.Cond.code ({ cls := "java/lang/StringUTF16", name := "putChar", desc := "([BII)V" } : Jvm.MethodName) jdk_52_method_4_code (3 : Nat) (Option.none : Option Jvm.ClassFile.FieldType)).before args0 about1 = true := code_word (m := ⟨11, 3⟩) (meth := k11m3) (c := k11c3) (by decide +kernel) rfl rfl rfl (by decide +kernel)
set_option maxRecDepth 65536 in
theorem w_c20 : (Jvm.Cond.code ({ cls := "java/lang/StringUTF16", name := "getChar", desc := "([BI)C" } : Jvm.MethodName) jdk_52_method_5_code (2 : Nat) (Option.some Jvm.ClassFile.FieldType.char)).before args0 about1 = true := code_word (m := ⟨11, 4⟩) (meth := k11m4) (c := k11c4) (by decide +kernel) rfl rfl rfl (by decide +kernel)
set_option maxRecDepth 65536 in
theorem w_c21 : (Jvm.Cond.code ({ cls := "java/lang/StringUTF16", name := "coderFromArrayLen", desc := "([BI)B" } : Jvm.MethodName) jdk_52_method_15_code (2 : Nat) (Option.some Jvm.ClassFile.FieldType.byte)).before args0 about1 = true := code_word (m := ⟨11, 7⟩) (meth := k11m7) (c := k11c7) (by decide +kernel) rfl rfl rfl (by decide +kernel)
set_option maxRecDepth 65536 in
theorem w_c22 : (Jvm.Cond.code ({ cls := "com/example/usher/usher/graph/CodePointOrderComparePinLaw", name := "cmpUnit", desc := "(CC)I" } : Jvm.MethodName) method_5_code (4 : Nat) (Option.some Jvm.ClassFile.FieldType.int)).before args0 about1 = true := code_word (m := ⟨1, 4⟩) (meth := k1m4) (c := k1c4) (by decide +kernel) rfl rfl rfl (by decide +kernel)
set_option maxRecDepth 65536 in
theorem w_c23 : (Jvm.Cond.code ({ cls := "com/example/usher/usher/graph/CodePointOrderComparePinLaw", name := "group", desc := "(C)I" } : Jvm.MethodName) method_4_code (1 : Nat) (Option.some Jvm.ClassFile.FieldType.int)).before args0 about1 = true := code_word (m := ⟨1, 3⟩) (meth := k1m3) (c := k1c3) (by decide +kernel) rfl rfl rfl (by decide +kernel)
set_option maxRecDepth 65536 in
theorem w_c24 : (Jvm.Cond.code ({ cls := "java/lang/String", name := "charAt", desc := "(I)C" } : Jvm.MethodName) jdk_42_method_56_code (2 : Nat) (Option.some Jvm.ClassFile.FieldType.char)).before args0 about1 = true := code_word (m := ⟨7, 3⟩) (meth := k7m3) (c := k7c3) (by decide +kernel) rfl rfl rfl (by decide +kernel)
set_option maxRecDepth 65536 in
theorem w_c25 : (Jvm.Cond.code ({ cls := "java/lang/String", name := "isLatin1", desc := "()Z" } : Jvm.MethodName) jdk_42_method_154_code (1 : Nat) (Option.some Jvm.ClassFile.FieldType.boolean)).before args0 about1 = true := code_word (m := ⟨7, 8⟩) (meth := k7m8) (c := k7c8) (by decide +kernel) rfl rfl rfl (by decide +kernel)
set_option maxRecDepth 65536 in
theorem w_c26 : (Jvm.Cond.code ({ cls := "java/lang/StringLatin1", name := "charAt", desc := "([BI)C" } : Jvm.MethodName) jdk_43_method_2_code (2 : Nat) (Option.some Jvm.ClassFile.FieldType.char)).before args0 about1 = true := code_word (m := ⟨10, 1⟩) (meth := k10m1) (c := k10c1) (by decide +kernel) rfl rfl rfl (by decide +kernel)
set_option maxRecDepth 65536 in
theorem w_c27 : (Jvm.Cond.code ({ cls := "java/lang/String", name := "checkIndex", desc := "(II)V" } : Jvm.MethodName) jdk_42_method_155_code (2 : Nat) (Option.none : Option Jvm.ClassFile.FieldType)).before args0 about1 = true := code_word (m := ⟨7, 9⟩) (meth := k7m9) (c := k7c9) (by decide +kernel) rfl rfl rfl (by decide +kernel)
set_option maxRecDepth 65536 in
theorem w_c28 : (Jvm.Cond.code ({ cls := "jdk/internal/util/Preconditions", name := "checkIndex", desc := "(IILjava/util/function/BiFunction;)I" } : Jvm.MethodName) jdk_41_method_11_code (3 : Nat) (Option.some Jvm.ClassFile.FieldType.int)).before args0 about1 = true := code_word (m := ⟨12, 1⟩) (meth := k12m1) (c := k12c1) (by decide +kernel) rfl rfl rfl (by decide +kernel)
set_option maxRecDepth 65536 in
theorem w_c29 : (Jvm.Cond.code ({ cls := "com/example/usher/usher/graph/CodePointOrder", name := "rank", desc := "(C)I" } : Jvm.MethodName) prog_13_method_3_code (2 : Nat) (Option.some Jvm.ClassFile.FieldType.int)).before args0 about1 = true := code_word (m := ⟨8, 2⟩) (meth := k8m2) (c := k8c2) (by decide +kernel) rfl rfl rfl (by decide +kernel)
set_option maxRecDepth 65536 in
theorem w_c30 : (Jvm.Cond.code ({ cls := "java/lang/StringUTF16", name := "toBytes", desc := "(C)[B" } : Jvm.MethodName) jdk_52_method_24_code (2 : Nat) (Option.some (Jvm.ClassFile.FieldType.array Jvm.ClassFile.FieldType.byte))).before args0 about1 = true := code_word (m := ⟨11, 10⟩) (meth := k11m10) (c := k11c10) (by decide +kernel) rfl rfl rfl (by decide +kernel)
set_option maxRecDepth 65536 in
theorem w_c31 : (Jvm.Cond.code ({ cls := "java/lang/StringUTF16", name := "charAt", desc := "([BI)C" } : Jvm.MethodName) jdk_52_method_83_code (2 : Nat) (Option.some Jvm.ClassFile.FieldType.char)).before args0 about1 = true := code_word (m := ⟨11, 11⟩) (meth := k11m11) (c := k11c11) (by decide +kernel) rfl rfl rfl (by decide +kernel)
set_option maxRecDepth 65536 in
theorem w_c32 : (Jvm.Cond.code ({ cls := "java/lang/StringUTF16", name := "checkIndex", desc := "(I[B)V" } : Jvm.MethodName) jdk_52_method_91_code (2 : Nat) (Option.none : Option Jvm.ClassFile.FieldType)).before args0 about1 = true := code_word (m := ⟨11, 12⟩) (meth := k11m12) (c := k11c12) (by decide +kernel) rfl rfl rfl (by decide +kernel)
set_option maxRecDepth 65536 in
theorem w_c33 : (Jvm.Cond.code ({ cls := "java/lang/StringUTF16", name := "length", desc := "([B)I" } : Jvm.MethodName) jdk_52_method_6_code (1 : Nat) (Option.some Jvm.ClassFile.FieldType.int)).before args0 about1 = true := code_word (m := ⟨11, 5⟩) (meth := k11m5) (c := k11c5) (by decide +kernel) rfl rfl rfl (by decide +kernel)
def codes1 : List Jvm.Cond := [Jvm.Cond.code x code maxLocals ret, Jvm.Cond.code ({ cls := "com/example/usher/usher/graph/CodePointOrderComparePinLaw", name := "make", desc := "(ICC)Ljava/lang/String;" } : Jvm.MethodName) method_3_code (4 : Nat) (Option.some (Jvm.ClassFile.FieldType.object "java/lang/String")), Jvm.Cond.code ({ cls := "java/lang/String", name := "<init>", desc := "([C)V" } : Jvm.MethodName) jdk_42_method_3_code (2 : Nat) (Option.none : Option Jvm.ClassFile.FieldType), Jvm.Cond.code ({ cls := "java/lang/String", name := "<init>", desc := "([CIILjava/lang/Void;)V" } : Jvm.MethodName) jdk_42_method_149_code (6 : Nat) (Option.none : Option Jvm.ClassFile.FieldType), Jvm.Cond.code ({ cls := "java/lang/Object", name := "<init>", desc := "()V" } : Jvm.MethodName) object_method_1_code (1 : Nat) (Option.none : Option Jvm.ClassFile.FieldType), Jvm.Cond.code ({ cls := "com/example/usher/usher/graph/CodePointOrderComparePinLaw", name := "sign", desc := "(I)I" } : Jvm.MethodName) method_6_code (1 : Nat) (Option.some Jvm.ClassFile.FieldType.int), Jvm.Cond.code ({ cls := "com/example/usher/usher/graph/CodePointOrder", name := "compare", desc := "(Ljava/lang/String;Ljava/lang/String;)I" } : Jvm.MethodName) prog_13_method_2_code (5 : Nat) (Option.some Jvm.ClassFile.FieldType.int), Jvm.Cond.code ({ cls := "java/lang/String", name := "length", desc := "()I" } : Jvm.MethodName) jdk_42_method_54_code (1 : Nat) (Option.some Jvm.ClassFile.FieldType.int), Jvm.Cond.code ({ cls := "java/lang/String", name := "coder", desc := "()B" } : Jvm.MethodName) jdk_42_method_152_code (1 : Nat) (Option.some Jvm.ClassFile.FieldType.byte), Jvm.Cond.code ({ cls := "java/lang/Math", name := "min", desc := "(II)I" } : Jvm.MethodName) jdk_29_method_69_code (2 : Nat) (Option.some Jvm.ClassFile.FieldType.int), Jvm.Cond.code ({ cls := "java/lang/String", name := "valueOf", desc := "(C)Ljava/lang/String;" } : Jvm.MethodName) jdk_42_method_139_code (1 : Nat) (Option.some (Jvm.ClassFile.FieldType.object "java/lang/String")), Jvm.Cond.code ({ cls := "java/lang/StringLatin1", name := "canEncode", desc := "(C)Z" } : Jvm.MethodName) jdk_43_method_3_code (1 : Nat) (Option.some Jvm.ClassFile.FieldType.boolean), Jvm.Cond.code ({ cls := "java/lang/StringLatin1", name := "toBytes", desc := "(C)[B" } : Jvm.MethodName) jdk_43_method_46_code (1 : Nat) (Option.some (Jvm.ClassFile.FieldType.array Jvm.ClassFile.FieldType.byte)), Jvm.Cond.code ({ cls := "java/lang/String", name := "<init>", desc := "([BB)V" } : Jvm.MethodName) jdk_42_method_151_code (3 : Nat) (Option.none : Option Jvm.ClassFile.FieldType), Jvm.Cond.code ({ cls := "java/lang/StringUTF16", name := "compress", desc := "([CII)[B" } : Jvm.MethodName) jdk_52_method_16_code (6 : Nat) (Option.some (Jvm.ClassFile.FieldType.array Jvm.ClassFile.FieldType.byte)), Jvm.Cond.code ({ cls := "java/lang/StringUTF16", name := "compress", desc := "([CI[BII)I" } : Jvm.MethodName) jdk_52_method_21_code (7 : Nat) (Option.some Jvm.ClassFile.FieldType.int), Jvm.Cond.code ({ cls := "java/lang/StringUTF16", name := "toBytes", desc := "([CII)[B" } : Jvm.MethodName) jdk_52_method_14_code (5 : Nat) (Option.some (Jvm.ClassFile.FieldType.array Jvm.ClassFile.FieldType.byte)), Jvm.Cond.code ({ cls := "java/lang/StringUTF16", name := "newBytesFor", desc := "(I)[B" } : Jvm.MethodName) jdk_52_method_2_code (1 : Nat) (Option.some (Jvm.ClassFile.FieldType.array Jvm.ClassFile.FieldType.byte)), Jvm.Cond.code ({ cls := "java/lang/StringUTF16", name := "newBytesLength", desc := "(I)I" } : Jvm.MethodName) jdk_52_method_3_code (1 : Nat) (Option.some Jvm.ClassFile.FieldType.int), Jvm.Cond.code ({ cls := "java/lang/StringUTF16", name := "putChar", desc := "([BII)V" } : Jvm.MethodName) jdk_52_method_4_code (3 : Nat) (Option.none : Option Jvm.ClassFile.FieldType), Jvm.Cond.code ({ cls := "java/lang/StringUTF16", name := "getChar", desc := "([BI)C" } : Jvm.MethodName) jdk_52_method_5_code (2 : Nat) (Option.some Jvm.ClassFile.FieldType.char), Jvm.Cond.code ({ cls := "java/lang/StringUTF16", name := "coderFromArrayLen", desc := "([BI)B" } : Jvm.MethodName) jdk_52_method_15_code (2 : Nat) (Option.some Jvm.ClassFile.FieldType.byte), Jvm.Cond.code ({ cls := "com/example/usher/usher/graph/CodePointOrderComparePinLaw", name := "cmpUnit", desc := "(CC)I" } : Jvm.MethodName) method_5_code (4 : Nat) (Option.some Jvm.ClassFile.FieldType.int), Jvm.Cond.code ({ cls := "com/example/usher/usher/graph/CodePointOrderComparePinLaw", name := "group", desc := "(C)I" } : Jvm.MethodName) method_4_code (1 : Nat) (Option.some Jvm.ClassFile.FieldType.int), Jvm.Cond.code ({ cls := "java/lang/String", name := "charAt", desc := "(I)C" } : Jvm.MethodName) jdk_42_method_56_code (2 : Nat) (Option.some Jvm.ClassFile.FieldType.char), Jvm.Cond.code ({ cls := "java/lang/String", name := "isLatin1", desc := "()Z" } : Jvm.MethodName) jdk_42_method_154_code (1 : Nat) (Option.some Jvm.ClassFile.FieldType.boolean), Jvm.Cond.code ({ cls := "java/lang/StringLatin1", name := "charAt", desc := "([BI)C" } : Jvm.MethodName) jdk_43_method_2_code (2 : Nat) (Option.some Jvm.ClassFile.FieldType.char), Jvm.Cond.code ({ cls := "java/lang/String", name := "checkIndex", desc := "(II)V" } : Jvm.MethodName) jdk_42_method_155_code (2 : Nat) (Option.none : Option Jvm.ClassFile.FieldType), Jvm.Cond.code ({ cls := "jdk/internal/util/Preconditions", name := "checkIndex", desc := "(IILjava/util/function/BiFunction;)I" } : Jvm.MethodName) jdk_41_method_11_code (3 : Nat) (Option.some Jvm.ClassFile.FieldType.int), Jvm.Cond.code ({ cls := "com/example/usher/usher/graph/CodePointOrder", name := "rank", desc := "(C)I" } : Jvm.MethodName) prog_13_method_3_code (2 : Nat) (Option.some Jvm.ClassFile.FieldType.int), Jvm.Cond.code ({ cls := "java/lang/StringUTF16", name := "toBytes", desc := "(C)[B" } : Jvm.MethodName) jdk_52_method_24_code (2 : Nat) (Option.some (Jvm.ClassFile.FieldType.array Jvm.ClassFile.FieldType.byte)), Jvm.Cond.code ({ cls := "java/lang/StringUTF16", name := "charAt", desc := "([BI)C" } : Jvm.MethodName) jdk_52_method_83_code (2 : Nat) (Option.some Jvm.ClassFile.FieldType.char), Jvm.Cond.code ({ cls := "java/lang/StringUTF16", name := "checkIndex", desc := "(I[B)V" } : Jvm.MethodName) jdk_52_method_91_code (2 : Nat) (Option.none : Option Jvm.ClassFile.FieldType), Jvm.Cond.code ({ cls := "java/lang/StringUTF16", name := "length", desc := "([B)I" } : Jvm.MethodName) jdk_52_method_6_code (1 : Nat) (Option.some Jvm.ClassFile.FieldType.int)]
set_option maxRecDepth 65536 in
theorem codes_eq : words1.filter isCode = codes1 := rfl
theorem w_codes : ∀ c ∈ words1.filter isCode, c.before args0 about1 = true := by
  rw [codes_eq]
  intro c hc
  simp only [codes1, List.mem_cons, List.not_mem_nil, or_false] at hc
  rcases hc with rfl | rfl | rfl | rfl | rfl | rfl | rfl | rfl | rfl | rfl | rfl | rfl | rfl | rfl | rfl | rfl | rfl | rfl | rfl | rfl | rfl | rfl | rfl | rfl | rfl | rfl | rfl | rfl | rfl | rfl | rfl | rfl | rfl | rfl
  · exact w_c0
  · exact w_c1
  · exact w_c2
  · exact w_c3
  · exact w_c4
  · exact w_c5
  · exact w_c6
  · exact w_c7
  · exact w_c8
  · exact w_c9
  · exact w_c10
  · exact w_c11
  · exact w_c12
  · exact w_c13
  · exact w_c14
  · exact w_c15
  · exact w_c16
  · exact w_c17
  · exact w_c18
  · exact w_c19
  · exact w_c20
  · exact w_c21
  · exact w_c22
  · exact w_c23
  · exact w_c24
  · exact w_c25
  · exact w_c26
  · exact w_c27
  · exact w_c28
  · exact w_c29
  · exact w_c30
  · exact w_c31
  · exact w_c32
  · exact w_c33
set_option maxRecDepth 65536 in
theorem w_t1 : (words1.take 24).all (fun c => isCode c || c.before args0 about1) = true := by decide +kernel
set_option maxRecDepth 65536 in
theorem w_t2 : ((words1.drop 24).take 24).all (fun c => isCode c || c.before args0 about1) = true := by decide +kernel
set_option maxRecDepth 65536 in
theorem w_t3 : (((words1.drop 24).drop 24).take 24).all (fun c => isCode c || c.before args0 about1) = true := by decide +kernel
set_option maxRecDepth 65536 in
theorem w_t4 : ((((words1.drop 24).drop 24).drop 24).take 24).all (fun c => isCode c || c.before args0 about1) = true := by decide +kernel
set_option maxRecDepth 65536 in
theorem w_t5 : (((((words1.drop 24).drop 24).drop 24).drop 24).take 24).all (fun c => isCode c || c.before args0 about1) = true := by decide +kernel
set_option maxRecDepth 65536 in
theorem w_t6 : (((((words1.drop 24).drop 24).drop 24).drop 24).drop 24).all (fun c => isCode c || c.before args0 about1) = true := by decide +kernel
theorem w_tables : (allAtoms (Jvm.Cond.code x code maxLocals ret :: tables_1)).before args0 about1 = true := by
  rw [allAtoms_all]
  show words1.all (fun c => c.before args0 about1) = true
  refine all_split ?_ w_codes
  rw [← List.take_append_drop 24 words1, List.all_append, w_t1, ← List.take_append_drop 24 (words1.drop 24), List.all_append, w_t2, ← List.take_append_drop 24 ((words1.drop 24).drop 24), List.all_append, w_t3, ← List.take_append_drop 24 (((words1.drop 24).drop 24).drop 24), List.all_append, w_t4, ← List.take_append_drop 24 ((((words1.drop 24).drop 24).drop 24).drop 24), List.all_append, w_t5, w_t6]
  rfl
set_option maxRecDepth 65536 in
theorem w_rest : rest_1_c.before args0 about1 = true := by decide +kernel
set_option maxRecDepth 65536 in
theorem w_case : (Jvm.Cond.and given_1 narrow_1).before args0 about1 = true := by decide +kernel
set_option maxRecDepth 65536 in
theorem w_consts : constsHeld consts_1 about1 := Jvm.Lit.constsHeldB_iff.mp (by decide +kernel)
theorem w_applies : (headSpec (Jvm.Cond.code x code maxLocals ret :: tables_1) room_1).applies x e0.platform about1 = true :=
  (Spec.applies_iff w_frames).mpr ⟨w_running, w_runnable, w_alone, w_named, w_hears, w_ripe, w_room, w_tables⟩
theorem atStart : AtStart classFile x code maxLocals ret World_1 tables_1 room_1 Calls_1 rest_1 Pre_1 launch0 p0 e0 about1 theMethod args0 below0 :=
  ⟨lists_1, trivial, launch0.admits_env _ _ _, launch0.least_env, fairChoices_fair.cas, fairChoices_fair.clock, w_frames, w_args, w_heap, w_applies, ⟨w_consts, trivial⟩, w_rest, w_case⟩
end start1
theorem witness_1 : WitnessClaimed_1 := ⟨start1.p0, start1.e0, start1.about1, start1.theMethod, start1.args0, start1.below0, start1.atStart⟩
end Jvm.Pilot.@@N@@
