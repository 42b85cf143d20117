import JvmDerived
import JvmDerived.Pilot.@@N@@Statement
import JvmDerived.Pilot.@@N@@Code
set_option linter.unusedVariables false
set_option linter.unusedSimpArgs false
namespace Jvm.Pilot.@@N@@
open Jvm Jvm.ClassFile Sem Op Lib Jvm.Free Jvm.Stand Jvm.LawKit Jvm.RoadKit Bundle Jvm.Pilot.@@N@@.Jvm.D
/-! the walk's goal: from the state A the run ends, returning what Qv says -/
def OwnEnd (p : Program) (e : Env) (below : List Frame) (s : State) (Qv : Option Value → Heap → List Loc → Prop) (k n : Nat) (A : State) : Prop :=
  ∃ s₂ o, Steps p.tables e below A s₂ ∧ s₂.status = .running ∧ Ended s₂ below o ∧ ∃ v L, o = .returned v ∧ Qv v s₂.heap L ∧ FrameEnd s o s₂ L k n
theorem own_step {p : Program} {e : Env} {below : List Frame} {s : State} {Qv : Option Value → Heap → List Loc → Prop} {k n : Nat} {A B : State} (h : ∀ t, Steps p.tables e below B t → Steps p.tables e below A t) (q : OwnEnd p e below s Qv k n B) : OwnEnd p e below s Qv k n A := by
  obtain ⟨s₂, o, h1, h2⟩ := q
  exact ⟨s₂, o, h _ h1, h2⟩
theorem own_arvEq {Z : State} {h : Heap} {a : Addr} {k : ClassId} {ty : FieldType} {z : Int32} {vs vs' : List Value} {d : Value} (e : vs = vs') (F : Arv Z h a k ty z vs d) : Arv Z h a k ty z vs' d := by subst e; exact F
theorem own_fldEq {Z : State} {h : Heap} {a : Addr} {C n d : String} {x y : Int32} (e : x = y) (F : Fld Z h a C n d (.int x)) : Fld Z h a C n d (.int y) := by subst e; exact F
section OwnRet
variable {p : Program} {l : Launch} {e : Env} {R : Room} {s : State} {m : MethodId} {args : Array Value} {below : List Frame} {meth : Method} {c : Code} {T : State} {locs : List Loc} {cells slots k n : Nat} {Qv : Option Value → Heap → List Loc → Prop}
theorem own_retN (X : Stand p l e R s m args below meth c T locs cells slots) (hx : p.tables.exec = Jvm.exec) (hlocks : meth.locks = false) {pc : Nat} {Ls : Array Slot} {z w : Int32} {t : FieldType} {rest : List Value} (hret : meth.sig.returnType = some t) (ht : t = .boolean ∨ t = .byte ∨ t = .char ∨ t = .short) (hd : decode c.code pc = .ok (.ireturn, 1)) (hz : nar t z = w) (hq : Qv (some (.int w)) T.heap locs) (hk : cells ≤ k) (hn : slots ≤ n) :
    OwnEnd p e below s Qv k n (T.setTop (mkF m pc Ls (.int z :: rest))) := by
  obtain ⟨fs, hr, hrun, hended, hW, hsame⟩ := X.leave (v := some (.int w)) (fun h => by rw [hret] at h; cases h) hlocks
  exact ⟨_, _, retN X hx hret ht hd (fs := fs) (by rw [hz]; exact hr), hrun, hended, _, _, rfl, hq, ⟨_, rfl⟩, hW, hsame.mono hk hn⟩
theorem own_retI (X : Stand p l e R s m args below meth c T locs cells slots) (hx : p.tables.exec = Jvm.exec) (hlocks : meth.locks = false) {pc : Nat} {Ls : Array Slot} {z : Int32} {rest : List Value} (hret : meth.sig.returnType = some .int) (hd : decode c.code pc = .ok (.ireturn, 1)) (hq : Qv (some (.int z)) T.heap locs) (hk : cells ≤ k) (hn : slots ≤ n) :
    OwnEnd p e below s Qv k n (T.setTop (mkF m pc Ls (.int z :: rest))) := by
  obtain ⟨fs, hr, hrun, hended, hW, hsame⟩ := X.leave (v := some (.int z)) (fun h => by rw [hret] at h; cases h) hlocks
  refine ⟨T.setFrames fs, _, ?_, hrun, hended, _, _, rfl, hq, ⟨_, rfl⟩, hW, hsame.mono hk hn⟩
  have hm' : T.vm.method? m = some meth := X.method'
  have hn' : narrow .int (.int z) = .int z := rfl
  show Steps p.tables e below (T.setTop { method := m, pc := pc, locals := Ls, stack := _ :: rest, locked := none }) _
  jvm_step X.here [X.here.top, hx, hd, hm', hret, hn']
  first | (intro acts; rw [hr _ acts rfl rfl rfl]) | rw [hr _ _ rfl rfl rfl]
  exact Steps.refl _
theorem own_retJ (X : Stand p l e R s m args below meth c T locs cells slots) (hx : p.tables.exec = Jvm.exec) (hlocks : meth.locks = false) {pc : Nat} {Ls : Array Slot} {z : Int64} {rest : List Value} (hret : meth.sig.returnType = some .long) (hd : decode c.code pc = .ok (.lreturn, 1)) (hq : Qv (some (.long z)) T.heap locs) (hk : cells ≤ k) (hn : slots ≤ n) :
    OwnEnd p e below s Qv k n (T.setTop (mkF m pc Ls (.long z :: rest))) := by
  obtain ⟨fs, hr, hrun, hended, hW, hsame⟩ := X.leave (v := some (.long z)) (fun h => by rw [hret] at h; cases h) hlocks
  refine ⟨T.setFrames fs, _, ?_, hrun, hended, _, _, rfl, hq, ⟨_, rfl⟩, hW, hsame.mono hk hn⟩
  have hm' : T.vm.method? m = some meth := X.method'
  have hn' : narrow .long (.long z) = .long z := rfl
  show Steps p.tables e below (T.setTop { method := m, pc := pc, locals := Ls, stack := _ :: rest, locked := none }) _
  jvm_step X.here [X.here.top, hx, hd, hm', hret, hn']
  first | (intro acts; rw [hr _ acts rfl rfl rfl]) | rw [hr _ _ rfl rfl rfl]
  exact Steps.refl _
theorem own_retD (X : Stand p l e R s m args below meth c T locs cells slots) (hx : p.tables.exec = Jvm.exec) (hlocks : meth.locks = false) {pc : Nat} {Ls : Array Slot} {z : UInt64} {rest : List Value} (hret : meth.sig.returnType = some .double) (hd : decode c.code pc = .ok (.dreturn, 1)) (hq : Qv (some (.double z)) T.heap locs) (hk : cells ≤ k) (hn : slots ≤ n) :
    OwnEnd p e below s Qv k n (T.setTop (mkF m pc Ls (.double z :: rest))) := by
  obtain ⟨fs, hr, hrun, hended, hW, hsame⟩ := X.leave (v := some (.double z)) (fun h => by rw [hret] at h; cases h) hlocks
  refine ⟨T.setFrames fs, _, ?_, hrun, hended, _, _, rfl, hq, ⟨_, rfl⟩, hW, hsame.mono hk hn⟩
  have hm' : T.vm.method? m = some meth := X.method'
  have hn' : narrow .double (.double z) = .double z := rfl
  show Steps p.tables e below (T.setTop { method := m, pc := pc, locals := Ls, stack := _ :: rest, locked := none }) _
  jvm_step X.here [X.here.top, hx, hd, hm', hret, hn']
  first | (intro acts; rw [hr _ acts rfl rfl rfl]) | rw [hr _ _ rfl rfl rfl]
  exact Steps.refl _
theorem own_retR (X : Stand p l e R s m args below meth c T locs cells slots) (hx : p.tables.exec = Jvm.exec) (hlocks : meth.locks = false) {pc : Nat} {Ls : Array Slot} {z : Addr} {t : FieldType} {rest : List Value} (hret : meth.sig.returnType = some t) (ht : t.isReference = true) (hd : decode c.code pc = .ok (.areturn, 1)) (hq : Qv (some (.ref z)) T.heap locs) (hk : cells ≤ k) (hn : slots ≤ n) :
    OwnEnd p e below s Qv k n (T.setTop (mkF m pc Ls (.ref z :: rest))) := by
  obtain ⟨fs, hr, hrun, hended, hW, hsame⟩ := X.leave (v := some (.ref z)) (fun h => by rw [hret] at h; cases h) hlocks
  refine ⟨T.setFrames fs, _, ?_, hrun, hended, _, _, rfl, hq, ⟨_, rfl⟩, hW, hsame.mono hk hn⟩
  have hm' : T.vm.method? m = some meth := X.method'
  show Steps p.tables e below (T.setTop { method := m, pc := pc, locals := Ls, stack := _ :: rest, locked := none }) _
  jvm_step X.here [X.here.top, hx, hd, hm', hret, ht, Value.isRef]
  first | (intro acts; rw [hr _ acts rfl rfl rfl]) | rw [hr _ _ rfl rfl rfl]
  exact Steps.refl _
theorem own_ret0 (X : Stand p l e R s m args below meth c T locs cells slots) (hx : p.tables.exec = Jvm.exec) (hlocks : meth.locks = false) {pc : Nat} {Ls : Array Slot} (hret : meth.sig.returnType = none) (hd : decode c.code pc = .ok (.return_, 1)) (hq : Qv none T.heap locs) (hk : cells ≤ k) (hn : slots ≤ n) :
    OwnEnd p e below s Qv k n (T.setTop (mkF m pc Ls [])) := by
  obtain ⟨fs, hr, hrun, hended, hW, hsame⟩ := X.leave (v := none) (fun _ => rfl) hlocks
  exact ⟨_, _, X.returnOut hx hret hd hr, hrun, hended, _, _, rfl, hq, ⟨_, rfl⟩, hW, hsame.mono hk hn⟩
end OwnRet
/-! lists of ints by a function of the place -/
def own_vs (n : Nat) (F : Nat → Int32) : List Value := (List.range n).map fun j => Value.int (F j)
theorem own_vsLen (n : Nat) (F : Nat → Int32) : (own_vs n F).length = n := by simp [own_vs]
theorem own_vsGet {n : Nat} {F : Nat → Int32} {j : Nat} {d : Value} (h : j < n) : (own_vs n F).getD j d = .int (F j) := by
  simp [own_vs, List.getD_eq_getElem?_getD, h]
theorem own_vsCongr {n : Nat} {F G : Nat → Int32} (h : ∀ j, j < n → F j = G j) : own_vs n F = own_vs n G := by
  apply List.map_congr_left
  intro j hj
  rw [h j (List.mem_range.mp hj)]
theorem own_vsSet {n : Nat} {F : Nat → Int32} {i : Nat} {x : Int32} : (own_vs n F).set i (.int x) = own_vs n (fun j => if j = i then x else F j) := by
  apply List.ext_getElem?
  intro j
  rw [List.getElem?_set]
  by_cases hj : j < n
  · by_cases hi : i = j
    · subst hi; simp [own_vs, hj]
    · have hi' : ¬ j = i := fun q => hi q.symm
      simp [own_vs, hj, hi, hi']
  · by_cases hi : i = j
    · subst hi; simp [own_vs, hj]
    · simp [own_vs, hj, hi]
theorem own_vsPad (n : Nat) : ∀ i, (own_vs n fun _ => (0 : Int32)).getD i (.int (0 : Int32)) = ([] : List Value).getD i (.int (0 : Int32)) := by
  intro i
  by_cases h : i < n
  · rw [own_vsGet h]; rfl
  · simp [own_vs, List.getD_eq_getElem?_getD, h]
theorem own_clamp {p : Int32} {i : Nat} (h : p.toInt = i) : p.toNatClampNeg = i := by
  simp only [Int32.toNatClampNeg, h]; rfl
theorem own_inc {p : Int32} {i : Nat} (h : p.toInt = i) (hi : i < 2147483647) : (p + 1).toInt = ((i + 1 : Nat) : Int) := by
  have h1 := c_iadd p 1
  have h2 := rng32 (p + 1)
  have h3 : (1 : Int32).toInt = 1 := by decide
  omega
theorem own_lt32 {p q : Int32} {i j : Nat} (hp : p.toInt = i) (hq : q.toInt = j) : p < q ↔ i < j := by
  rw [Int32.lt_iff_toInt_lt, hp, hq]; omega
theorem own_nn {p : Int32} {i : Nat} (hp : p.toInt = i) : ¬ p < 0 := by
  rw [Int32.lt_iff_toInt_lt, hp, show (0 : Int32).toInt = 0 from by decide]; omega
theorem own_ofNat {n : Nat} (h : n < 2147483648) : (Int32.ofNat n).toInt = n := Int32.toInt_ofNat_of_lt h
/-! the bytes of a char -/
def own_b (c : Int32) : Int32 := (c.toInt8.toInt32).toInt8.toInt32
def own_lo (c : Int32) : Int32 := own_b (c >>> ((0 : Int32) &&& 31))
def own_hi (c : Int32) : Int32 := own_b (c >>> ((8 : Int32) &&& 31))
def own_u (g : Nat → Int32) (j : Nat) : Int32 := if j % 2 = 0 then own_lo (g (j / 2)) else own_hi (g (j / 2))
def own_cL (x : Int32) : Int32 := ((x &&& (255 : Int32)).toUInt32.toUInt16.toUInt32.toInt32)
def own_cU (x y : Int32) : Int32 := ((((x &&& (255 : Int32)) <<< ((0 : Int32) &&& 31)) ||| ((y &&& (255 : Int32)) <<< ((8 : Int32) &&& 31))).toUInt32.toUInt16.toUInt32.toInt32)
theorem own_bInt (c : Int32) : ((own_b c).toInt - c.toInt) % 256 = 0 := by
  have h1 := c_i2b (c.toInt8.toInt32)
  have h2 := c_i2b c
  unfold own_b
  omega
theorem own_i2c {x : Int32} (h0 : 0 ≤ x.toInt) (h1 : x.toInt < 65536) : x.toUInt32.toUInt16.toUInt32.toInt32 = x := by
  have h := c_i2c x
  apply Int32.toInt_inj.mp
  omega
theorem own_shr0 (c : Int32) : c >>> ((0 : Int32) &&& 31) = c := by
  have h := c_ishr c 0 0 (by decide)
  apply Int32.toInt_inj.mp
  rw [h]; simp
theorem own_shl0 (c : Int32) : c <<< ((0 : Int32) &&& 31) = c := by
  have h := c_ishl c 0 0 (by decide)
  have h2 := rng32 c
  have h3 := rng32 (c <<< ((0 : Int32) &&& 31))
  apply Int32.toInt_inj.mp
  simp only [Nat.pow_zero] at h
  omega
theorem own_decL {c : Int32} (h0 : 0 ≤ c.toInt) (h1 : c.toInt < 256) : own_cL (own_b c) = c := by
  have h2 := c_mask (own_b c) 255 8 (by decide) (by decide)
  have h3 := own_bInt c
  have e : own_b c &&& 255 = c := by apply Int32.toInt_inj.mp; rw [h2]; omega
  unfold own_cL
  rw [e]
  exact own_i2c h0 (by omega)
theorem own_decU {c : Int32} (h0 : 0 ≤ c.toInt) (h1 : c.toInt < 65536) : own_cU (own_lo c) (own_hi c) = c := by
  have a1 := c_mask (own_lo c) 255 8 (by decide) (by decide)
  have a2 := c_mask (own_hi c) 255 8 (by decide) (by decide)
  have a3 : ((own_lo c).toInt - c.toInt) % 256 = 0 := by
    have := own_bInt (c >>> ((0 : Int32) &&& 31)); rw [own_shr0] at this
    unfold own_lo; rw [own_shr0]; exact this
  have a4 : ((own_hi c).toInt - c.toInt / 256) % 256 = 0 := by
    have := own_bInt (c >>> ((8 : Int32) &&& 31)); rw [c_ishr c 8 8 (by decide)] at this
    exact this
  unfold own_cU
  rw [own_shl0]
  generalize own_lo c &&& 255 = x at *
  generalize own_hi c &&& 255 = y at *
  have b1 := c_ishl y 8 8 (by decide)
  have b2 := rng32 (y <<< ((8 : Int32) &&& 31))
  have b3 := c_or' x (y <<< ((8 : Int32) &&& 31)) 8 (by decide) 256 (by decide) (by omega) (by omega) (by omega)
  have b4 := rng32 (x ||| y <<< ((8 : Int32) &&& 31))
  have e : x ||| y <<< ((8 : Int32) &&& 31) = c := by apply Int32.toInt_inj.mp; omega
  rw [e]
  exact own_i2c h0 h1
/-! the statics on which the String bodies rest -/
def OwnW (Z : State) (wc : Int32) (sx : Value) : Prop := Sta Z Z.heap "java/lang/String" "COMPACT_STRINGS" "Z" (.int wc) ∧ ¬ (wc = (0 : Int32)) ∧ Sta Z Z.heap "jdk/internal/util/Preconditions" "SIOOBE_FORMATTER" "Ljava/util/function/BiFunction;" sx ∧ sx.isRef = true ∧ Sta Z Z.heap "java/lang/StringUTF16" "$assertionsDisabled" "Z" (.int (1 : Int32)) ∧ Sta Z Z.heap "java/lang/StringUTF16" "HI_BYTE_SHIFT" "I" (.int (0 : Int32)) ∧ Sta Z Z.heap "java/lang/StringUTF16" "LO_BYTE_SHIFT" "I" (.int (8 : Int32))
theorem own_mono {l : Launch} {x : MethodName} {S : Spec} {P : Array Value → State → Prop} {K : Program → Env → List Frame → State → Array Value → Prop} {Q Q' : Array Value → State → Outcome → State → Prop} (h : MetFree l x S P K Q) (hq : ∀ a s o t, Q a s o t → Q' a s o t) : MetFree l x S P K Q' := by
  intro p e ha hc hk s m args below hf happ hP hK
  obtain ⟨n, o, h1, h2, h3, h4⟩ := h p e ha hc hk s m args below hf happ hP hK
  exact ⟨n, o, h1, h2, h3, hq _ _ _ _ h4⟩
/-! a String object and its chars -/
def OwnStr (Z : State) (h : Heap) (a b : Addr) (n : Nat) (g : Nat → Int32) : Prop :=
  Exa Z h a "java/lang/String" ∧ Fld Z h a "java/lang/String" "value" "[B" (.ref b) ∧
  ((Fld Z h a "java/lang/String" "coder" "B" (.int (0 : Int32)) ∧ (∀ j, j < n → (g j).toInt < 256) ∧ ∃ k, Arv Z h b k .byte (Int32.ofNat n) (own_vs n fun j => own_b (g j)) (.int (0 : Int32))) ∨
   (Fld Z h a "java/lang/String" "coder" "B" (.int (1 : Int32)) ∧ ∃ k, Arv Z h b k .byte (Int32.ofNat (2 * n)) (own_vs (2 * n) (own_u g)) (.int (0 : Int32))))
section OwnStrLaws
variable {Z : State} {h h' : Heap} {a b o : Addr} {n : Nat} {g : Nat → Int32} {sl : Nat} {v : Value} {ws : List Addr}
theorem OwnStr.ext (S : OwnStr Z h a b n g) (E : Ext h h') : OwnStr Z h' a b n g := by
  obtain ⟨A, F, C⟩ := S
  refine ⟨A.ext E, F.ext E, ?_⟩
  rcases C with ⟨C, q, k, V⟩ | ⟨C, k, V⟩
  · exact Or.inl ⟨C.ext E, q, k, V.ext E⟩
  · exact Or.inr ⟨C.ext E, k, V.ext E⟩
theorem OwnStr.other (S : OwnStr Z h a b n g) (W : Wr h h' o sl v) (ha : a ≠ o) (hb : b ≠ o) : OwnStr Z h' a b n g := by
  obtain ⟨A, F, C⟩ := S
  refine ⟨A.wr W, F.other W (Or.inl ha), ?_⟩
  rcases C with ⟨C, q, k, V⟩ | ⟨C, k, V⟩
  · exact Or.inl ⟨C.other W (Or.inl ha), q, k, V.other W hb⟩
  · exact Or.inr ⟨C.other W (Or.inl ha), k, V.other W hb⟩
theorem OwnStr.keep (S : OwnStr Z h a b n g) (K : Keep h h' ws) (ha : a ∉ ws) (hb : b ∉ ws) : OwnStr Z h' a b n g := by
  obtain ⟨A, F, C⟩ := S
  refine ⟨A.keep K, F.keep K ha, ?_⟩
  rcases C with ⟨C, q, k, V⟩ | ⟨C, k, V⟩
  · exact Or.inl ⟨C.keep K ha, q, k, V.keep K hb⟩
  · exact Or.inr ⟨C.keep K ha, k, V.keep K hb⟩
theorem OwnStr.lt0 (S : OwnStr Z h a b n g) : a < h.size := S.1.lt
theorem OwnStr.lt1 (S : OwnStr Z h a b n g) : b < h.size := by
  rcases S.2.2 with ⟨-, -, k, V⟩ | ⟨-, k, V⟩ <;> exact V.lt
end OwnStrLaws
theorem own_len2 {p : Int32} {n : Nat} (hp : p.toInt = n) (hn : n ≤ 1000000) : p <<< ((1 : Int32) &&& 31) = Int32.ofNat (2 * n) := by
  apply Int32.toInt_inj.mp
  rw [own_ofNat (by omega)]
  have h := c_ishl p 1 1 (by decide)
  have h2 := rng32 (p <<< ((1 : Int32) &&& 31))
  omega
theorem own_shl1 {p : Int32} {i : Nat} (hp : p.toInt = i) (hn : i ≤ 1000000) : (p <<< ((1 : Int32) &&& 31)).toInt = ((2 * i : Nat) : Int) := by
  rw [own_len2 hp hn, own_ofNat (by omega)]
theorem own_shr1 {n : Nat} (hn : n ≤ 1000000) : (Int32.ofNat (2 * n) >>> ((1 : Int32) &&& 31)) = Int32.ofNat n := by
  apply Int32.toInt_inj.mp
  rw [c_ishr _ 1 1 (by decide), own_ofNat (by omega), own_ofNat (by omega)]
  omega
def ownEL : List (String × Nat) := [("java/lang/String", 7)]
theorem own_EW {Z : State} {aa : Array Value} (hw : ∀ d ∈ tables_1, d.before aa Z = true) : EW Z aa ownEL := EW.cons (text := "") (hw _ (List.mem_of_getElem? (i := 18) rfl)) (by decide) EW.nil
theorem own_wS {Z : State} {aa : Array Value} (hw : ∀ d ∈ tables_1, d.before aa Z = true) : ∀ a ∈ Bundle.stringAtoms, a.before aa Z = true := fun d hd => by
  simp only [Bundle.stringAtoms, List.mem_cons, List.not_mem_nil, or_false] at hd
  rcases hd with rfl | rfl | rfl | rfl | rfl | rfl | rfl
  · exact hw _ (List.mem_of_getElem? (i := 6) rfl)
  · exact hw _ (List.mem_of_getElem? (i := 5) rfl)
  · exact hw _ (List.mem_of_getElem? (i := 19) rfl)
  · exact hw _ (List.mem_of_getElem? (i := 20) rfl)
  · exact hw _ (List.mem_of_getElem? (i := 21) rfl)
  · exact hw _ (List.mem_of_getElem? (i := 22) rfl)
  · exact hw _ (List.mem_of_getElem? (i := 23) rfl)
/-! walks that may load String constants cold: the invariant of RW14 beside the Stand over the start with the tables at hand -/
def OwnC (Z : State) (EL : List (String × Nat)) (s : State) (vm : Vm) (h : Heap) : Prop := (∃ k0, s.Since vm k0 ∧ k0 ≤ h.size) ∧ CHr Z EL s.vm s.heap vm h
section OwnCold
variable {Z : State} {EL : List (String × Nat)} {s : State} {vm vm1 : Vm} {h h' : Heap} {aa : Array Value}
theorem OwnC.start (hh : s.heap = h) (H : CHv Z EL s.vm h) : OwnC Z EL s s.vm h := by
  subst hh
  exact ⟨⟨s.heap.size, ((State.WarmedH.refl s).since _), Nat.le_refl _⟩, CHr.refl H⟩
theorem OwnC.ext (C : OwnC Z EL s vm h) (E : Ext h h') : OwnC Z EL s vm h' := by
  obtain ⟨⟨k, a, b⟩, c⟩ := C
  exact ⟨⟨k, a, Nat.le_trans b E.1⟩, c.trans (CHr.ext E c.1)⟩
theorem OwnC.wr {a : Addr} {sl : Nat} {v : Value} (C : OwnC Z EL s vm h) (W : Wr h h' a sl v) (S : Safe Z EL vm h a) : OwnC Z EL s vm h' := by
  obtain ⟨⟨k, a, b⟩, c⟩ := C
  exact ⟨⟨k, a, Nat.le_trans b (Keep.of_wr W).1⟩, c.trans (CHr.wr W S c.1)⟩
theorem OwnC.keep {ws : List Addr} (C : OwnC Z EL s vm h) (K : Keep h h' ws) (S : ∀ x ∈ ws, Safe Z EL vm h x) : OwnC Z EL s vm h' := by
  obtain ⟨⟨k, a, b⟩, c⟩ := C
  exact ⟨⟨k, a, Nat.le_trans b K.1⟩, c.trans (CHr.keep K S c.1)⟩
theorem OwnC.reb (C : OwnC Z EL s vm h) (h2 : (s.setVm vm).Since vm1 h'.size) (g : h.size ≤ h'.size) (q : CHr Z EL vm h vm1 h') : OwnC Z EL s vm1 h' := by
  obtain ⟨⟨k, a, b⟩, c⟩ := C
  exact ⟨⟨h'.size, a.trans h2 (Nat.le_trans b g), Nat.le_refl _⟩, c.trans q⟩
theorem own_safeNull {x : Addr} (hal : Z.vm.Alike vm) (E : Exa Z h x "java/lang/String") (F : Fld Z h x "java/lang/String" "value" "[B" .null) : Safe Z EL vm h x := fun B => by
  obtain ⟨cell, k, e1, e2, e3, -, -⟩ := E
  obtain ⟨p, -, u, a, -, q, -, FB, rfl | rfl⟩ := B
  · obtain ⟨cS, ⟨⟨s1, s2, s3, ⟨cv, kv, iv, s4, s4'⟩, -, s6, s7, s8, -⟩, -⟩, -⟩ := FB
    obtain ⟨cell1, cf1, kf1, i1, fc, g1, g2, g3, g4, g5, g6, g7⟩ := F
    obtain ⟨kv', z4⟩ := ff_back (U := Wst Z vm h) hal s4
    cases (show h[q.sa]? = some q.sC from s1).symm.trans g1
    have e4 := z4.symm.trans g2
    simp only [Option.some.injEq, Prod.mk.injEq] at e4
    rw [← e4.2.2.2, s8] at g7
    cases g7
  · cases (show h[q.sd]? = some q.SA from FB.hd).symm.trans e1
    obtain ⟨cS, -, -, f, -⟩ := FB
    have f' : vm.findClass "[B" = some q.SA.cls := f
    rw [hal.findClass] at f'
    obtain ⟨k1, q1, q2⟩ := Vm.findClass_spec f'
    obtain ⟨k2, q3, q4⟩ := Vm.findClass_spec e2
    cases q1.symm.trans q3
    have := q2.symm.trans q4
    exact absurd this (by decide)
/-- the walk's goal: it ends, returning what Qv says; what is booked says its units -/
def OwnEndW (Z : State) (EL : List (String × Nat)) (p : Program) (e : Env) (below : List Frame) (s : State) (Qv : Option Value → Heap → List Loc → Prop) (k n : Nat) (A : State) : Prop :=
  ∃ s₂ o, Steps p.tables e below A s₂ ∧ s₂.status = .running ∧ Ended s₂ below o ∧ ∃ v L, o = .returned v ∧ Qv v s₂.heap L ∧ CHr Z EL s.vm s.heap s₂.vm s₂.heap ∧ ReturnedEndW s o s₂ L k n
theorem own_stepW {p : Program} {e : Env} {below : List Frame} {Qv : Option Value → Heap → List Loc → Prop} {k n : Nat} {A B : State} (h : ∀ t, Steps p.tables e below B t → Steps p.tables e below A t) (q : OwnEndW Z EL p e below s Qv k n B) : OwnEndW Z EL p e below s Qv k n A := by
  obtain ⟨s₂, o, h1, h2⟩ := q
  exact ⟨s₂, o, h _ h1, h2⟩
theorem own_W {p : Program} {e : Env} {below : List Frame} {Qv : Option Value → Heap → List Loc → Prop} {k n : Nat} {A : State} (hZ : Z.Warmed39 (s.setVm vm).vm) (w : EW Z aa EL) (C : OwnC Z EL s vm h) (q : OwnEnd p e below (s.setVm vm) (fun v g L => Qv v g L ∧ g = h) k n A) : OwnEndW Z EL p e below s Qv k n A := by
  obtain ⟨s₂, o, st, run, en, v, L, rfl, ⟨hq, hg⟩, hr, hW, hs⟩ := q
  obtain ⟨⟨k0, hS, hk⟩, hC⟩ := C
  obtain ⟨a, b, c⟩ := hS.ended (U := s₂) hW (by rw [hg]; exact hk) hs
  have z := CHv.later (h' := h) hZ (hW := (show (Wst Z vm h).Warmed39 s₂.vm from hW.wide)) w ⟨Nat.le_refl _, fun _ _ q => q⟩ (Or.inl hW.interned_eq) hC.1
  refine ⟨s₂, _, st, run, en, v, L, rfl, hq, ?_, ⟨v, rfl⟩, a, b, c⟩
  rw [hg]
  exact hC.trans ⟨z.1, Nat.le_refl _, z.2⟩
end OwnCold
theorem dci_0 : decode jdk_41_method_11_code 0 = .ok (.iload_n 0, 1) := by decide +kernel
theorem dci_1 : decode jdk_41_method_11_code 1 = .ok (.ifCond .lt 8, 3) := by decide +kernel
theorem dci_4 : decode jdk_41_method_11_code 4 = .ok (.iload_n 0, 1) := by decide +kernel
theorem dci_5 : decode jdk_41_method_11_code 5 = .ok (.iload_n 1, 1) := by decide +kernel
theorem dci_6 : decode jdk_41_method_11_code 6 = .ok (.if_icmp .lt 10, 3) := by decide +kernel
theorem dci_16 : decode jdk_41_method_11_code 16 = .ok (.iload_n 0, 1) := by decide +kernel
theorem dci_17 : decode jdk_41_method_11_code 17 = .ok (.ireturn, 1) := by decide +kernel
theorem pnci : plainName "jdk/internal/util/Preconditions" = true := by first | (simp [plainName, overriddenIn]; done) | decide +kernel
theorem efci (m : MethodId) (p0 : Int32) (p1 : Int32) (x2 : Value) (hr_x2 : x2.isRef = true) : entryFrame m #[(.int p0), (.int p1), x2] 3 = mkF m 0 #[.val (.int p0), .val (.int p1), .val x2] [] := by
  rcases ref_cases hr_x2 with rfl | ⟨_, rfl⟩
  · rfl
  rfl
def fci (p0 : Int32) : Int32 := p0
def Qci (Z : State) (p0 : Int32) (p1 : Int32) (x2 : Value) (h0 : Heap) (n0 : Nat) (v : Option Value) (h : Heap) (L : List Loc) : Prop := v = some (.int (fci p0)) ∧ Fr n0 L ∧ h = h0
set_option maxRecDepth 65536 in
set_option maxHeartbeats 40000000 in
theorem rmci (l : Launch) (Z : State) (aa : Array Value) (hw : ∀ d ∈ tables_1, d.before aa Z = true) (ws : List Jvm.Cond) (p0 : Int32) (p1 : Int32) (x2 : Value) (h0 : Heap) (n0 : Nat) (Z0 : n0 ≤ h0.size) (hr_x2 : x2.isRef = true) (hlo : ¬ p0 < (0 : Int32)) (hhi : p0 < p1) :
    MetFree l (⟨"jdk/internal/util/Preconditions", "checkIndex", "(IILjava/util/function/BiFunction;)I"⟩ : MethodName) (head1 (Jvm.Cond.code (⟨"jdk/internal/util/Preconditions", "checkIndex", "(IILjava/util/function/BiFunction;)I"⟩ : MethodName) jdk_41_method_11_code 3 (some .int) :: ws) ({ frames := 0, cells := 0, slots := 0, locals := 0 } : Room)) (fun a U => a = #[(.int p0), (.int p1), x2] ∧ Z.Warmed39 U.vm ∧ U.heap = h0) (fun _ _ _ _ _ => True) (fun _ U o U' => ∃ v L, o = .returned v ∧ Qci Z p0 p1 x2 h0 n0 v U'.heap L ∧ FrameEnd U o U' L ({ frames := 0, cells := 0, slots := 0, locals := 0 } : Room).cells ({ frames := 0, cells := 0, slots := 0, locals := 0 } : Room).slots) := by
  refine MetFree.of_bodySF (plainFor_of_name pnci) hisR ?_
  intro p e s m args below meth c s₁ Bd hml0 hP hK
  obtain ⟨rfl, hZ, hh⟩ := hP
  have hx := Bd.exec
  have hby := Bd.bytes
  have hml : c.maxLocals = 3 := hml0
  have hown : s.vm.findClass "jdk/internal/util/Preconditions" = some m.cls := findClass_of_methodNamed Bd.named
  have hnm := (name_of_methodNamed Bd.named Bd.method).1
  have X0 : Stand p l e ({ frames := 0, cells := 0, slots := 0, locals := 0 } : Room) s m #[(.int p0), (.int p1), x2] below meth c s₁ [] 0 0 := Stand.of_body Bd
  have e0 : s₁.heap = h0 := by rw [← hh, Bd.state]; rfl
  have N0 := Fr.nil n0
  show OwnEnd p e below s (fun v h L => Qci Z p0 p1 x2 h0 n0 v h L) ({ frames := 0, cells := 0, slots := 0, locals := 0 } : Room).cells ({ frames := 0, cells := 0, slots := 0, locals := 0 } : Room).slots (s₁.setTop (entryFrame m #[(.int p0), (.int p1), x2] 3))
  rw [efci m p0 p1 x2 hr_x2]
  generalize hW : OwnEnd p e below s (fun v h L => Qci Z p0 p1 x2 h0 n0 v h L) ({ frames := 0, cells := 0, slots := 0, locals := 0 } : Room).cells ({ frames := 0, cells := 0, slots := 0, locals := 0 } : Room).slots = W
  have stp : ∀ {A B : State}, (∀ t, Steps p.tables e below B t → Steps p.tables e below A t) → W B → W A := by subst hW; exact own_step
  show W (s₁.setTop (mkF m 0 #[.val (.int p0), .val (.int p1), .val x2] []))
  refine stp (fun t k => XS.iloadN X0.here hx rfl (hb hby dci_0) rfl k) ?_
  show W (s₁.setTop (mkF m 1 #[.val (.int p0), .val (.int p1), .val x2] [(.int p0)]))
  refine stp (fun t k => XS.ifNo X0.here hx rfl (hb hby dci_1) rfl ((if0 _ _).trans (flt (hlo)).1) k) ?_
  show W (s₁.setTop (mkF m 4 #[.val (.int p0), .val (.int p1), .val x2] []))
  refine stp (fun t k => XS.iloadN X0.here hx rfl (hb hby dci_4) rfl k) ?_
  show W (s₁.setTop (mkF m 5 #[.val (.int p0), .val (.int p1), .val x2] [(.int p0)]))
  refine stp (fun t k => XS.iloadN X0.here hx rfl (hb hby dci_5) rfl k) ?_
  show W (s₁.setTop (mkF m 6 #[.val (.int p0), .val (.int p1), .val x2] [(.int p1), (.int p0)]))
  refine stp (fun t k => XS.icmpYes X0.here hx rfl (pc0 := 6) (pc' := 16) rfl (hb hby dci_6) rfl ((tlt (hhi)).1) (by decide) (by decide) k) ?_
  show W (s₁.setTop (mkF m 16 #[.val (.int p0), .val (.int p1), .val x2] []))
  refine stp (fun t k => XS.iloadN X0.here hx rfl (hb hby dci_16) rfl k) ?_
  show W (s₁.setTop (mkF m 17 #[.val (.int p0), .val (.int p1), .val x2] [(.int p0)]))
  show W (s₁.setTop (mkF m 17 #[.val (.int p0), .val (.int p1), .val x2] [(.int p0)]))
  rw [← hW]
  exact own_retI X0 hx Bd.notSynchronized Bd.returns (hb hby dci_17) (by show Qci Z p0 p1 x2 h0 n0 _ s₁.heap _; rw [e0]; exact ⟨rfl, N0, rfl⟩) (by decide) (by decide)
theorem dsc_0 : decode jdk_42_method_155_code 0 = .ok (.iload_n 0, 1) := by decide +kernel
theorem dsc_1 : decode jdk_42_method_155_code 1 = .ok (.iload_n 1, 1) := by decide +kernel
theorem dsc_2 : decode jdk_42_method_155_code 2 = .ok (.getstatic 1053, 3) := by decide +kernel
theorem dsc_5 : decode jdk_42_method_155_code 5 = .ok (.invokestatic 1059, 3) := by decide +kernel
theorem dsc_8 : decode jdk_42_method_155_code 8 = .ok (.pop, 1) := by decide +kernel
theorem dsc_9 : decode jdk_42_method_155_code 9 = .ok (.return_, 1) := by decide +kernel
theorem pnsc : plainName "java/lang/String" = true := by first | (simp [plainName, overriddenIn]; done) | decide +kernel
theorem pdsc_0 : parseMethodDescriptor "(IILjava/util/function/BiFunction;)I" = some ⟨[.int, .int, (.object "java/util/function/BiFunction")], some .int⟩ := by decide +kernel
theorem efsc (m : MethodId) (p0 : Int32) (p1 : Int32) : entryFrame m #[(.int p0), (.int p1)] 2 = mkF m 0 #[.val (.int p0), .val (.int p1)] [] := by first | (simp [entryFrame, mkF, argsToLocals, Value.category]; done) | rfl
def Qsc (Z : State) (p0 : Int32) (p1 : Int32) (wc : Int32) (sx : Value) (h0 : Heap) (n0 : Nat) (v : Option Value) (h : Heap) (L : List Loc) : Prop := v = none ∧ Fr n0 L ∧ h = h0
set_option maxRecDepth 65536 in
set_option maxHeartbeats 40000000 in
theorem rmsc (l : Launch) (Z : State) (aa : Array Value) (hw : ∀ d ∈ tables_1, d.before aa Z = true) (ws : List Jvm.Cond) (p0 : Int32) (p1 : Int32) (wc : Int32) (sx : Value) (h0 : Heap) (n0 : Nat) (Z0 : n0 ≤ h0.size) (BW : OwnW Z wc sx) (O0 : Old Z n0 h0) (hlo : ¬ p0 < (0 : Int32)) (hhi : p0 < p1) :
    MetFree l (⟨"java/lang/String", "checkIndex", "(II)V"⟩ : MethodName) (head1 (Jvm.Cond.code (⟨"java/lang/String", "checkIndex", "(II)V"⟩ : MethodName) jdk_42_method_155_code 2 none :: ws) ({ frames := 1, cells := 0, slots := 0, locals := 14 } : Room)) (fun a U => a = #[(.int p0), (.int p1)] ∧ Z.Warmed39 U.vm ∧ U.heap = h0) (fun _ _ _ _ _ => True) (fun _ U o U' => ∃ v L, o = .returned v ∧ Qsc Z p0 p1 wc sx h0 n0 v U'.heap L ∧ FrameEnd U o U' L ({ frames := 1, cells := 0, slots := 0, locals := 14 } : Room).cells ({ frames := 1, cells := 0, slots := 0, locals := 14 } : Room).slots) := by
  refine MetFree.of_bodySF (plainFor_of_name pnsc) hisR ?_
  intro p e s m args below meth c s₁ Bd hml0 hP hK
  obtain ⟨rfl, hZ, hh⟩ := hP
  have hx := Bd.exec
  have hby := Bd.bytes
  have hml : c.maxLocals = 2 := hml0
  have hown : s.vm.findClass "java/lang/String" = some m.cls := findClass_of_methodNamed Bd.named
  have hnm := (name_of_methodNamed Bd.named Bd.method).1
  have X0 : Stand p l e ({ frames := 1, cells := 0, slots := 0, locals := 14 } : Room) s m #[(.int p0), (.int p1)] below meth c s₁ [] 0 0 := Stand.of_body Bd
  have e0 : s₁.heap = h0 := by rw [← hh, Bd.state]; rfl
  have N0 := Fr.nil n0
  show OwnEnd p e below s (fun v h L => Qsc Z p0 p1 wc sx h0 n0 v h L) ({ frames := 1, cells := 0, slots := 0, locals := 14 } : Room).cells ({ frames := 1, cells := 0, slots := 0, locals := 14 } : Room).slots (s₁.setTop (entryFrame m #[(.int p0), (.int p1)] 2))
  rw [efsc m p0 p1]
  generalize hW : OwnEnd p e below s (fun v h L => Qsc Z p0 p1 wc sx h0 n0 v h L) ({ frames := 1, cells := 0, slots := 0, locals := 14 } : Room).cells ({ frames := 1, cells := 0, slots := 0, locals := 14 } : Room).slots = W
  have stp : ∀ {A B : State}, (∀ t, Steps p.tables e below B t → Steps p.tables e below A t) → W B → W A := by subst hW; exact own_step
  obtain ⟨S_cs, hcs, S_si, hr_sx, S_ad, S_hi, S_lo⟩ := id BW
  show W (s₁.setTop (mkF m 0 #[.val (.int p0), .val (.int p1)] []))
  refine stp (fun t k => XS.iloadN X0.here hx rfl (hb hby dsc_0) rfl k) ?_
  show W (s₁.setTop (mkF m 1 #[.val (.int p0), .val (.int p1)] [(.int p0)]))
  refine stp (fun t k => XS.iloadN X0.here hx rfl (hb hby dsc_1) rfl k) ?_
  show W (s₁.setTop (mkF m 2 #[.val (.int p0), .val (.int p1)] [(.int p1), (.int p0)]))
  obtain ⟨Tsc1, Xsc1, esc1, stsc1⟩ := getS2 X0 hx hZ hown (host := "") (Or.inl (hw _ (List.mem_of_getElem? (i := 78) rfl))) Via.refl e0 (S_si.ext O0.2) (g := (mkF m 2 #[.val (.int p0), .val (.int p1)] [(.int p1), (.int p0)])) rfl (hb hby dsc_2)
  refine stp (fun t k => stsc1 t k) ?_
  show W (Tsc1.setTop (mkF m 5 #[.val (.int p0), .val (.int p1)] [sx, (.int p1), (.int p0)]))
  obtain ⟨_, _, ⟨Tscc2, Lscc2, kscc2, nscc2⟩, -, Xscc2, ⟨Lcscc2, hQscc2, lscc2, yscc2, zscc2⟩, stscc2⟩ := Jvm.LawKit.callS Xsc1 hx (y := (⟨"jdk/internal/util/Preconditions", "checkIndex", "(IILjava/util/function/BiFunction;)I"⟩ : MethodName)) hown (mvT hZ (hw _ (List.mem_of_getElem? (i := 80) rfl))) (mvT hZ (hw _ (List.mem_of_getElem? (i := 81) rfl))) (mvT hZ (hw _ (List.mem_of_getElem? (i := 79) rfl))) (mvT hZ (hw _ (List.mem_of_getElem? (i := 82) rfl))) (by decide) (backOf (W := 0) (rmci l Z aa hw [] p0 p1 sx  h0 n0 Z0 hr_sx hlo hhi) hZ (hw _ (List.mem_of_getElem? (i := 82) rfl)) (hw _ (List.mem_of_getElem? (i := 79) rfl)) (by decide) (by decide)) (g := (mkF m 5 #[.val (.int p0), .val (.int p1)] [sx, (.int p1), (.int p0)])) rfl (by rw [hml]; rfl) (argsL := [(.int p0), (.int p1), sx]) (rest := []) (lenOf pdsc_0 rfl) rfl (by show 2 * 0 + _ ≤ _; exact Nat.le_of_eq rfl) (hb hby dsc_5) (fun _ _ => ⟨rfl, esc1, (by decide : 0 + 0 ≤ _), (by decide : 0 + 0 ≤ _)⟩)
  dsimp only [Pt.U, Pt.locs, Pt.cells, Pt.slots] at Xscc2 lscc2 yscc2 zscc2 stscc2 hQscc2
  subst lscc2 yscc2 zscc2
  obtain ⟨rfl, Nscc2q, escc2⟩ := hQscc2
  have Nscc2 := Fr.app N0 Nscc2q
  obtain ⟨lcsct3, Xscc2, Nscc2⟩ : ∃ lc, Stand p l e ({ frames := 1, cells := 0, slots := 0, locals := 14 } : Room) s m #[(.int p0), (.int p1)] below meth c Tscc2 lc 0 0 ∧ Fr n0 lc := ⟨_, Xscc2, Nscc2⟩
  refine stp (fun t k => stscc2 t k) ?_
  show W (Tscc2.setTop (mkF m 8 #[.val (.int p0), .val (.int p1)] [(.int (fci p0))]))
  refine stp (fun t k => XS.pop Xscc2.here hx rfl (hb hby dsc_8) rfl rfl k) ?_
  show W (Tscc2.setTop (mkF m 9 #[.val (.int p0), .val (.int p1)] []))
  show W (Tscc2.setTop (mkF m 9 #[.val (.int p0), .val (.int p1)] []))
  rw [← hW]
  exact own_ret0 Xscc2 hx Bd.notSynchronized Bd.returns (hb hby dsc_9) (by show Qsc Z p0 p1 wc sx h0 n0 _ Tscc2.heap _; rw [escc2]; exact ⟨rfl, Nscc2, rfl⟩) (by decide) (by decide)
theorem dlc_0 : decode jdk_43_method_2_code 0 = .ok (.iload_n 1, 1) := by decide +kernel
theorem dlc_1 : decode jdk_43_method_2_code 1 = .ok (.aload_n 0, 1) := by decide +kernel
theorem dlc_2 : decode jdk_43_method_2_code 2 = .ok (.arraylength, 1) := by decide +kernel
theorem dlc_3 : decode jdk_43_method_2_code 3 = .ok (.invokestatic 9, 3) := by decide +kernel
theorem dlc_6 : decode jdk_43_method_2_code 6 = .ok (.aload_n 0, 1) := by decide +kernel
theorem dlc_7 : decode jdk_43_method_2_code 7 = .ok (.iload_n 1, 1) := by decide +kernel
theorem dlc_8 : decode jdk_43_method_2_code 8 = .ok (.baload, 1) := by decide +kernel
theorem dlc_9 : decode jdk_43_method_2_code 9 = .ok (.sipush 255, 3) := by decide +kernel
theorem dlc_12 : decode jdk_43_method_2_code 12 = .ok (.iand, 1) := by decide +kernel
theorem dlc_13 : decode jdk_43_method_2_code 13 = .ok (.i2c, 1) := by decide +kernel
theorem dlc_14 : decode jdk_43_method_2_code 14 = .ok (.ireturn, 1) := by decide +kernel
theorem pnlc : plainName "java/lang/StringLatin1" = true := by first | (simp [plainName, overriddenIn]; done) | decide +kernel
theorem pdlc_0 : parseMethodDescriptor "(II)V" = some ⟨[.int, .int], none⟩ := by decide +kernel
theorem eflc (m : MethodId) (a0 : Addr) (p1 : Int32) : entryFrame m #[(.ref a0), (.int p1)] 2 = mkF m 0 #[.val (.ref a0), .val (.int p1)] [] := by first | (simp [entryFrame, mkF, argsToLocals, Value.category]; done) | rfl
def flc (x : Int32) : Int32 := (nar .char ((x &&& (255 : Int32)).toUInt32.toUInt16.toUInt32.toInt32))
def Qlc (Z : State) (a0 : Addr) (p1 : Int32) (wc : Int32) (sx : Value) (kb : ClassId) (z : Int32) (vs : List Value) (x : Int32) (h0 : Heap) (n0 : Nat) (v : Option Value) (h : Heap) (L : List Loc) : Prop := v = some (.int (flc x)) ∧ Fr n0 L ∧ h = h0
set_option maxRecDepth 65536 in
set_option maxHeartbeats 40000000 in
theorem rmlc (l : Launch) (Z : State) (aa : Array Value) (hw : ∀ d ∈ tables_1, d.before aa Z = true) (ws : List Jvm.Cond) (a0 : Addr) (p1 : Int32) (wc : Int32) (sx : Value) (kb : ClassId) (z : Int32) (vs : List Value) (x : Int32) (h0 : Heap) (n0 : Nat) (Z0 : n0 ≤ h0.size) (BW : OwnW Z wc sx) (O0 : Old Z n0 h0) (V_a0 : Arv Z h0 a0 kb .byte z vs (.int (0 : Int32))) (hlo : ¬ p1 < (0 : Int32)) (hhi : p1 < z) (hgx : vs.getD p1.toNatClampNeg (.int (0 : Int32)) = .int x) :
    MetFree l (⟨"java/lang/StringLatin1", "charAt", "([BI)C"⟩ : MethodName) (head1 (Jvm.Cond.code (⟨"java/lang/StringLatin1", "charAt", "([BI)C"⟩ : MethodName) jdk_43_method_2_code 2 (some .char) :: ws) ({ frames := 2, cells := 0, slots := 0, locals := 27 } : Room)) (fun a U => a = #[(.ref a0), (.int p1)] ∧ Z.Warmed39 U.vm ∧ U.heap = h0) (fun _ _ _ _ _ => True) (fun _ U o U' => ∃ v L, o = .returned v ∧ Qlc Z a0 p1 wc sx kb z vs x h0 n0 v U'.heap L ∧ FrameEnd U o U' L ({ frames := 2, cells := 0, slots := 0, locals := 27 } : Room).cells ({ frames := 2, cells := 0, slots := 0, locals := 27 } : Room).slots) := by
  refine MetFree.of_bodySF (plainFor_of_name pnlc) hisR ?_
  intro p e s m args below meth c s₁ Bd hml0 hP hK
  obtain ⟨rfl, hZ, hh⟩ := hP
  have hx := Bd.exec
  have hby := Bd.bytes
  have hml : c.maxLocals = 2 := hml0
  have hown : s.vm.findClass "java/lang/StringLatin1" = some m.cls := findClass_of_methodNamed Bd.named
  have hnm := (name_of_methodNamed Bd.named Bd.method).1
  have X0 : Stand p l e ({ frames := 2, cells := 0, slots := 0, locals := 27 } : Room) s m #[(.ref a0), (.int p1)] below meth c s₁ [] 0 0 := Stand.of_body Bd
  have e0 : s₁.heap = h0 := by rw [← hh, Bd.state]; rfl
  have N0 := Fr.nil n0
  show OwnEnd p e below s (fun v h L => Qlc Z a0 p1 wc sx kb z vs x h0 n0 v h L) ({ frames := 2, cells := 0, slots := 0, locals := 27 } : Room).cells ({ frames := 2, cells := 0, slots := 0, locals := 27 } : Room).slots (s₁.setTop (entryFrame m #[(.ref a0), (.int p1)] 2))
  rw [eflc m a0 p1]
  generalize hW : OwnEnd p e below s (fun v h L => Qlc Z a0 p1 wc sx kb z vs x h0 n0 v h L) ({ frames := 2, cells := 0, slots := 0, locals := 27 } : Room).cells ({ frames := 2, cells := 0, slots := 0, locals := 27 } : Room).slots = W
  have stp : ∀ {A B : State}, (∀ t, Steps p.tables e below B t → Steps p.tables e below A t) → W B → W A := by subst hW; exact own_step
  obtain ⟨S_cs, hcs, S_si, hr_sx, S_ad, S_hi, S_lo⟩ := id BW
  show W (s₁.setTop (mkF m 0 #[.val (.ref a0), .val (.int p1)] []))
  refine stp (fun t k => XS.iloadN X0.here hx rfl (hb hby dlc_0) rfl k) ?_
  show W (s₁.setTop (mkF m 1 #[.val (.ref a0), .val (.int p1)] [(.int p1)]))
  refine stp (fun t k => XS.aloadN X0.here hx rfl (hb hby dlc_1) rfl rfl k) ?_
  show W (s₁.setTop (mkF m 2 #[.val (.ref a0), .val (.int p1)] [(.ref a0), (.int p1)]))
  obtain ⟨cllc1, Arlc1, qklc1, qslc1, qnlc1, qhlc1, qglc1⟩ := id V_a0
  refine stp (fun t k => X0.arraylength hx (by rw [e0]; exact Arlc1.1) (State.isArrayOf_alike hZ.alike Arlc1.2.1) (g := (mkF m 2 #[.val (.ref a0), .val (.int p1)] [(.ref a0), (.int p1)])) rfl rfl (hb hby dlc_2) _ k) ?_
  rw [len_of qslc1 qnlc1]
  show W (s₁.setTop (mkF m 3 #[.val (.ref a0), .val (.int p1)] [(.int z), (.int p1)]))
  obtain ⟨_, _, ⟨Tlcc2, Llcc2, klcc2, nlcc2⟩, -, Xlcc2, ⟨Lclcc2, hQlcc2, llcc2, ylcc2, zlcc2⟩, stlcc2⟩ := Jvm.LawKit.callS X0 hx (y := (⟨"java/lang/String", "checkIndex", "(II)V"⟩ : MethodName)) hown (mvT hZ (hw _ (List.mem_of_getElem? (i := 75) rfl))) (mvT hZ (hw _ (List.mem_of_getElem? (i := 76) rfl))) (mvT hZ (hw _ (List.mem_of_getElem? (i := 6) rfl))) (mvT hZ (hw _ (List.mem_of_getElem? (i := 77) rfl))) (by decide) (backOf (W := 0) (rmsc l Z aa hw [] p1 z wc sx h0 n0 Z0 BW O0 hlo hhi) hZ (hw _ (List.mem_of_getElem? (i := 77) rfl)) (hw _ (List.mem_of_getElem? (i := 6) rfl)) (by decide) (by decide)) (g := (mkF m 3 #[.val (.ref a0), .val (.int p1)] [(.int z), (.int p1)])) rfl (by rw [hml]; rfl) (argsL := [(.int p1), (.int z)]) (rest := []) (lenOf pdlc_0 rfl) rfl (by show 2 * 0 + _ ≤ _; exact Nat.le_of_eq rfl) (hb hby dlc_3) (fun _ _ => ⟨rfl, e0, (by decide : 0 + 0 ≤ _), (by decide : 0 + 0 ≤ _)⟩)
  dsimp only [Pt.U, Pt.locs, Pt.cells, Pt.slots] at Xlcc2 llcc2 ylcc2 zlcc2 stlcc2 hQlcc2
  subst llcc2 ylcc2 zlcc2
  obtain ⟨rfl, Nlcc2q, elcc2⟩ := hQlcc2
  have Nlcc2 := Fr.app N0 Nlcc2q
  obtain ⟨lclct3, Xlcc2, Nlcc2⟩ : ∃ lc, Stand p l e ({ frames := 2, cells := 0, slots := 0, locals := 27 } : Room) s m #[(.ref a0), (.int p1)] below meth c Tlcc2 lc 0 0 ∧ Fr n0 lc := ⟨_, Xlcc2, Nlcc2⟩
  refine stp (fun t k => stlcc2 t k) ?_
  show W (Tlcc2.setTop (mkF m 6 #[.val (.ref a0), .val (.int p1)] []))
  refine stp (fun t k => XS.aloadN Xlcc2.here hx rfl (hb hby dlc_6) rfl rfl k) ?_
  show W (Tlcc2.setTop (mkF m 7 #[.val (.ref a0), .val (.int p1)] [(.ref a0)]))
  refine stp (fun t k => XS.iloadN Xlcc2.here hx rfl (hb hby dlc_7) rfl k) ?_
  show W (Tlcc2.setTop (mkF m 8 #[.val (.ref a0), .val (.int p1)] [(.int p1), (.ref a0)]))
  obtain ⟨cllc4, Arlc4, qklc4, qslc4, qnlc4, qhlc4, qglc4⟩ := id V_a0
  have hinlc4 : ¬ (p1 < 0 ∨ cllc4.slots.size ≤ (p1).toNatClampNeg) := inb_of qslc4 ⟨hlo, hhi⟩
  have hatlc4 : cllc4.slots[(p1).toNatClampNeg]? = some (.int x) := qhlc4.at hinlc4 hgx
  refine stp (fun t k => Xlcc2.baloadBytes hx (j := p1) (v := (.int x)) (by rw [elcc2]; exact Arlc4.1) (State.isArrayOf_alike hZ.alike Arlc4.2.1) Arlc4.2.2 hinlc4 hatlc4 (g := (mkF m 8 #[.val (.ref a0), .val (.int p1)] [(.int p1), (.ref a0)])) rfl rfl (hb hby dlc_8) _ k) ?_
  show W (Tlcc2.setTop (mkF m 9 #[.val (.ref a0), .val (.int p1)] [(.int x)]))
  refine stp (fun t k => XS.sipush Xlcc2.here hx rfl (hb hby dlc_9) k) ?_
  show W (Tlcc2.setTop (mkF m 12 #[.val (.ref a0), .val (.int p1)] [(.int (255 : Int32)), (.int x)]))
  refine stp (fun t k => XS.iand Xlcc2.here hx rfl (hb hby dlc_12) rfl k) ?_
  show W (Tlcc2.setTop (mkF m 13 #[.val (.ref a0), .val (.int p1)] [(.int (x &&& (255 : Int32)))]))
  refine stp (fun t k => XS.i2c Xlcc2.here hx rfl (hb hby dlc_13) rfl k) ?_
  show W (Tlcc2.setTop (mkF m 14 #[.val (.ref a0), .val (.int p1)] [(.int ((x &&& (255 : Int32)).toUInt32.toUInt16.toUInt32.toInt32))]))
  show W (Tlcc2.setTop (mkF m 14 #[.val (.ref a0), .val (.int p1)] [(.int ((x &&& (255 : Int32)).toUInt32.toUInt16.toUInt32.toInt32))]))
  rw [← hW]
  exact own_retN Xlcc2 hx Bd.notSynchronized Bd.returns (w := (nar .char ((x &&& (255 : Int32)).toUInt32.toUInt16.toUInt32.toInt32))) (by simp) (hb hby dlc_14) rfl (by show Qlc Z a0 p1 wc sx kb z vs x h0 n0 _ Tlcc2.heap _; rw [elcc2]; exact ⟨rfl, Nlcc2, rfl⟩) (by decide) (by decide)
theorem dil_0 : decode jdk_42_method_154_code 0 = .ok (.getstatic 38, 3) := by decide +kernel
theorem dil_3 : decode jdk_42_method_154_code 3 = .ok (.ifCond .eq 14, 3) := by decide +kernel
theorem dil_6 : decode jdk_42_method_154_code 6 = .ok (.aload_n 0, 1) := by decide +kernel
theorem dil_7 : decode jdk_42_method_154_code 7 = .ok (.getfield 15, 3) := by decide +kernel
theorem dil_10 : decode jdk_42_method_154_code 10 = .ok (.ifCond .ne 7, 3) := by decide +kernel
theorem dil_13 : decode jdk_42_method_154_code 13 = .ok (.iconst 1, 1) := by decide +kernel
theorem dil_14 : decode jdk_42_method_154_code 14 = .ok (.goto 4, 3) := by decide +kernel
theorem dil_17 : decode jdk_42_method_154_code 17 = .ok (.iconst 0, 1) := by decide +kernel
theorem dil_18 : decode jdk_42_method_154_code 18 = .ok (.ireturn, 1) := by decide +kernel
theorem pnil : plainName "java/lang/String" = true := by first | (simp [plainName, overriddenIn]; done) | decide +kernel
theorem efil (m : MethodId) (a0 : Addr) : entryFrame m #[(.ref a0)] 1 = mkF m 0 #[.val (.ref a0)] [] := by first | (simp [entryFrame, mkF, argsToLocals, Value.category]; done) | rfl
def fil (cd : Int32) : Int32 := (if cd = (0 : Int32) then (1 : Int32) else (0 : Int32))
def Qil (Z : State) (a0 : Addr) (wc : Int32) (sx : Value) (cd : Int32) (h0 : Heap) (n0 : Nat) (v : Option Value) (h : Heap) (L : List Loc) : Prop := v = some (.int (fil cd)) ∧ Fr n0 L ∧ h = h0
set_option maxRecDepth 65536 in
set_option maxHeartbeats 40000000 in
theorem rmil (l : Launch) (Z : State) (aa : Array Value) (hw : ∀ d ∈ tables_1, d.before aa Z = true) (ws : List Jvm.Cond) (a0 : Addr) (wc : Int32) (sx : Value) (cd : Int32) (h0 : Heap) (n0 : Nat) (Z0 : n0 ≤ h0.size) (BW : OwnW Z wc sx) (O0 : Old Z n0 h0) (F_coder_a0 : Fld Z h0 a0 "java/lang/String" "coder" "B" (.int cd)) :
    MetFree l (⟨"java/lang/String", "isLatin1", "()Z"⟩ : MethodName) (head1 (Jvm.Cond.code (⟨"java/lang/String", "isLatin1", "()Z"⟩ : MethodName) jdk_42_method_154_code 1 (some .boolean) :: ws) ({ frames := 0, cells := 0, slots := 0, locals := 0 } : Room)) (fun a U => a = #[(.ref a0)] ∧ Z.Warmed39 U.vm ∧ U.heap = h0) (fun _ _ _ _ _ => True) (fun _ U o U' => ∃ v L, o = .returned v ∧ Qil Z a0 wc sx cd h0 n0 v U'.heap L ∧ FrameEnd U o U' L ({ frames := 0, cells := 0, slots := 0, locals := 0 } : Room).cells ({ frames := 0, cells := 0, slots := 0, locals := 0 } : Room).slots) := by
  refine MetFree.of_bodySF (plainFor_of_name pnil) hisR ?_
  intro p e s m args below meth c s₁ Bd hml0 hP hK
  obtain ⟨rfl, hZ, hh⟩ := hP
  have hx := Bd.exec
  have hby := Bd.bytes
  have hml : c.maxLocals = 1 := hml0
  have hown : s.vm.findClass "java/lang/String" = some m.cls := findClass_of_methodNamed Bd.named
  have hnm := (name_of_methodNamed Bd.named Bd.method).1
  have X0 : Stand p l e ({ frames := 0, cells := 0, slots := 0, locals := 0 } : Room) s m #[(.ref a0)] below meth c s₁ [] 0 0 := Stand.of_body Bd
  have e0 : s₁.heap = h0 := by rw [← hh, Bd.state]; rfl
  have N0 := Fr.nil n0
  show OwnEnd p e below s (fun v h L => Qil Z a0 wc sx cd h0 n0 v h L) ({ frames := 0, cells := 0, slots := 0, locals := 0 } : Room).cells ({ frames := 0, cells := 0, slots := 0, locals := 0 } : Room).slots (s₁.setTop (entryFrame m #[(.ref a0)] 1))
  rw [efil m a0]
  generalize hW : OwnEnd p e below s (fun v h L => Qil Z a0 wc sx cd h0 n0 v h L) ({ frames := 0, cells := 0, slots := 0, locals := 0 } : Room).cells ({ frames := 0, cells := 0, slots := 0, locals := 0 } : Room).slots = W
  have stp : ∀ {A B : State}, (∀ t, Steps p.tables e below B t → Steps p.tables e below A t) → W B → W A := by subst hW; exact own_step
  obtain ⟨S_cs, hcs, S_si, hr_sx, S_ad, S_hi, S_lo⟩ := id BW
  show W (s₁.setTop (mkF m 0 #[.val (.ref a0)] []))
  obtain ⟨Til1, Xil1, eil1, stil1⟩ := getS2 X0 hx hZ hown (host := "") (Or.inl (hw _ (List.mem_of_getElem? (i := 44) rfl))) Via.refl e0 (S_cs.ext O0.2) (g := (mkF m 0 #[.val (.ref a0)] [])) rfl (hb hby dil_0)
  refine stp (fun t k => stil1 t k) ?_
  show W (Til1.setTop (mkF m 3 #[.val (.ref a0)] [(.int wc)]))
  refine stp (fun t k => XS.ifNo Xil1.here hx rfl (hb hby dil_3) rfl ((if0 _ _).trans (feq (hcs)).1) k) ?_
  show W (Til1.setTop (mkF m 6 #[.val (.ref a0)] []))
  refine stp (fun t k => XS.aloadN Xil1.here hx rfl (hb hby dil_6) rfl rfl k) ?_
  show W (Til1.setTop (mkF m 7 #[.val (.ref a0)] [(.ref a0)]))
  obtain ⟨Til2, Xil2, eil2, stil2⟩ := getF Xil1 hx hZ hown (host := "") (Or.inl (hw _ (List.mem_of_getElem? (i := 25) rfl))) Via.refl eil1 F_coder_a0 (g := (mkF m 7 #[.val (.ref a0)] [(.ref a0)])) rfl rfl (hb hby dil_7)
  refine stp (fun t k => stil2 t k) ?_
  show W (Til2.setTop (mkF m 10 #[.val (.ref a0)] [(.int cd)]))
  by_cases hcil_3 : cd = (0 : Int32)
  · refine stp (fun t k => XS.ifNo Xil2.here hx rfl (hb hby dil_10) rfl ((if0 _ _).trans (teq hcil_3).2) k) ?_
    show W (Til2.setTop (mkF m 13 #[.val (.ref a0)] []))
    refine stp (fun t k => XS.iconst Xil2.here hx rfl (hb hby dil_13) k) ?_
    show W (Til2.setTop (mkF m 14 #[.val (.ref a0)] [(.int (1 : Int32))]))
    refine stp (fun t k => XS.goto Xil2.here hx rfl (pc0 := 14) (pc' := 18) rfl (hb hby dil_14) (by decide) (by decide) k) ?_
    show W (Til2.setTop (mkF m 18 #[.val (.ref a0)] [(.int (1 : Int32))]))
    show W (Til2.setTop (mkF m 18 #[.val (.ref a0)] [(.int (1 : Int32))]))
    rw [← hW]
    exact own_retN Xil2 hx Bd.notSynchronized Bd.returns (w := (1 : Int32)) (by simp) (hb hby dil_18) rfl (by show Qil Z a0 wc sx cd h0 n0 _ Til2.heap _; rw [eil2]; exact ⟨(by rw [fil, if_pos hcil_3]), N0, rfl⟩) (by decide) (by decide)
  · refine stp (fun t k => XS.ifYes Xil2.here hx rfl (pc0 := 10) (pc' := 17) rfl (hb hby dil_10) rfl ((if0 _ _).trans (feq hcil_3).2) (by decide) (by decide) k) ?_
    show W (Til2.setTop (mkF m 17 #[.val (.ref a0)] []))
    refine stp (fun t k => XS.iconst Xil2.here hx rfl (hb hby dil_17) k) ?_
    show W (Til2.setTop (mkF m 18 #[.val (.ref a0)] [(.int (0 : Int32))]))
    show W (Til2.setTop (mkF m 18 #[.val (.ref a0)] [(.int (0 : Int32))]))
    rw [← hW]
    exact own_retN Xil2 hx Bd.notSynchronized Bd.returns (w := (0 : Int32)) (by simp) (hb hby dil_18) rfl (by show Qil Z a0 wc sx cd h0 n0 _ Til2.heap _; rw [eil2]; exact ⟨(by rw [fil, if_neg hcil_3]), N0, rfl⟩) (by decide) (by decide)
theorem dco_0 : decode jdk_42_method_152_code 0 = .ok (.getstatic 38, 3) := by decide +kernel
theorem dco_3 : decode jdk_42_method_152_code 3 = .ok (.ifCond .eq 10, 3) := by decide +kernel
theorem dco_6 : decode jdk_42_method_152_code 6 = .ok (.aload_n 0, 1) := by decide +kernel
theorem dco_7 : decode jdk_42_method_152_code 7 = .ok (.getfield 15, 3) := by decide +kernel
theorem dco_10 : decode jdk_42_method_152_code 10 = .ok (.goto 4, 3) := by decide +kernel
theorem dco_14 : decode jdk_42_method_152_code 14 = .ok (.ireturn, 1) := by decide +kernel
theorem pnco : plainName "java/lang/String" = true := by first | (simp [plainName, overriddenIn]; done) | decide +kernel
theorem efco (m : MethodId) (a0 : Addr) : entryFrame m #[(.ref a0)] 1 = mkF m 0 #[.val (.ref a0)] [] := by first | (simp [entryFrame, mkF, argsToLocals, Value.category]; done) | rfl
def fco (cd : Int32) : Int32 := (nar .byte cd)
def Qco (Z : State) (a0 : Addr) (wc : Int32) (sx : Value) (cd : Int32) (h0 : Heap) (n0 : Nat) (v : Option Value) (h : Heap) (L : List Loc) : Prop := v = some (.int (fco cd)) ∧ Fr n0 L ∧ h = h0
set_option maxRecDepth 65536 in
set_option maxHeartbeats 40000000 in
theorem rmco (l : Launch) (Z : State) (aa : Array Value) (hw : ∀ d ∈ tables_1, d.before aa Z = true) (ws : List Jvm.Cond) (a0 : Addr) (wc : Int32) (sx : Value) (cd : Int32) (h0 : Heap) (n0 : Nat) (Z0 : n0 ≤ h0.size) (BW : OwnW Z wc sx) (O0 : Old Z n0 h0) (F_coder_a0 : Fld Z h0 a0 "java/lang/String" "coder" "B" (.int cd)) :
    MetFree l (⟨"java/lang/String", "coder", "()B"⟩ : MethodName) (head1 (Jvm.Cond.code (⟨"java/lang/String", "coder", "()B"⟩ : MethodName) jdk_42_method_152_code 1 (some .byte) :: ws) ({ frames := 0, cells := 0, slots := 0, locals := 0 } : Room)) (fun a U => a = #[(.ref a0)] ∧ Z.Warmed39 U.vm ∧ U.heap = h0) (fun _ _ _ _ _ => True) (fun _ U o U' => ∃ v L, o = .returned v ∧ Qco Z a0 wc sx cd h0 n0 v U'.heap L ∧ FrameEnd U o U' L ({ frames := 0, cells := 0, slots := 0, locals := 0 } : Room).cells ({ frames := 0, cells := 0, slots := 0, locals := 0 } : Room).slots) := by
  refine MetFree.of_bodySF (plainFor_of_name pnco) hisR ?_
  intro p e s m args below meth c s₁ Bd hml0 hP hK
  obtain ⟨rfl, hZ, hh⟩ := hP
  have hx := Bd.exec
  have hby := Bd.bytes
  have hml : c.maxLocals = 1 := hml0
  have hown : s.vm.findClass "java/lang/String" = some m.cls := findClass_of_methodNamed Bd.named
  have hnm := (name_of_methodNamed Bd.named Bd.method).1
  have X0 : Stand p l e ({ frames := 0, cells := 0, slots := 0, locals := 0 } : Room) s m #[(.ref a0)] below meth c s₁ [] 0 0 := Stand.of_body Bd
  have e0 : s₁.heap = h0 := by rw [← hh, Bd.state]; rfl
  have N0 := Fr.nil n0
  show OwnEnd p e below s (fun v h L => Qco Z a0 wc sx cd h0 n0 v h L) ({ frames := 0, cells := 0, slots := 0, locals := 0 } : Room).cells ({ frames := 0, cells := 0, slots := 0, locals := 0 } : Room).slots (s₁.setTop (entryFrame m #[(.ref a0)] 1))
  rw [efco m a0]
  generalize hW : OwnEnd p e below s (fun v h L => Qco Z a0 wc sx cd h0 n0 v h L) ({ frames := 0, cells := 0, slots := 0, locals := 0 } : Room).cells ({ frames := 0, cells := 0, slots := 0, locals := 0 } : Room).slots = W
  have stp : ∀ {A B : State}, (∀ t, Steps p.tables e below B t → Steps p.tables e below A t) → W B → W A := by subst hW; exact own_step
  obtain ⟨S_cs, hcs, S_si, hr_sx, S_ad, S_hi, S_lo⟩ := id BW
  show W (s₁.setTop (mkF m 0 #[.val (.ref a0)] []))
  obtain ⟨Tco1, Xco1, eco1, stco1⟩ := getS2 X0 hx hZ hown (host := "") (Or.inl (hw _ (List.mem_of_getElem? (i := 44) rfl))) Via.refl e0 (S_cs.ext O0.2) (g := (mkF m 0 #[.val (.ref a0)] [])) rfl (hb hby dco_0)
  refine stp (fun t k => stco1 t k) ?_
  show W (Tco1.setTop (mkF m 3 #[.val (.ref a0)] [(.int wc)]))
  refine stp (fun t k => XS.ifNo Xco1.here hx rfl (hb hby dco_3) rfl ((if0 _ _).trans (feq (hcs)).1) k) ?_
  show W (Tco1.setTop (mkF m 6 #[.val (.ref a0)] []))
  refine stp (fun t k => XS.aloadN Xco1.here hx rfl (hb hby dco_6) rfl rfl k) ?_
  show W (Tco1.setTop (mkF m 7 #[.val (.ref a0)] [(.ref a0)]))
  obtain ⟨Tco2, Xco2, eco2, stco2⟩ := getF Xco1 hx hZ hown (host := "") (Or.inl (hw _ (List.mem_of_getElem? (i := 25) rfl))) Via.refl eco1 F_coder_a0 (g := (mkF m 7 #[.val (.ref a0)] [(.ref a0)])) rfl rfl (hb hby dco_7)
  refine stp (fun t k => stco2 t k) ?_
  show W (Tco2.setTop (mkF m 10 #[.val (.ref a0)] [(.int cd)]))
  refine stp (fun t k => XS.goto Xco2.here hx rfl (pc0 := 10) (pc' := 14) rfl (hb hby dco_10) (by decide) (by decide) k) ?_
  show W (Tco2.setTop (mkF m 14 #[.val (.ref a0)] [(.int cd)]))
  show W (Tco2.setTop (mkF m 14 #[.val (.ref a0)] [(.int cd)]))
  rw [← hW]
  exact own_retN Xco2 hx Bd.notSynchronized Bd.returns (w := (nar .byte cd)) (by simp) (hb hby dco_14) rfl (by show Qco Z a0 wc sx cd h0 n0 _ Tco2.heap _; rw [eco2]; exact ⟨rfl, N0, rfl⟩) (by decide) (by decide)
theorem dul_0 : decode jdk_52_method_6_code 0 = .ok (.aload_n 0, 1) := by decide +kernel
theorem dul_1 : decode jdk_52_method_6_code 1 = .ok (.arraylength, 1) := by decide +kernel
theorem dul_2 : decode jdk_52_method_6_code 2 = .ok (.iconst 1, 1) := by decide +kernel
theorem dul_3 : decode jdk_52_method_6_code 3 = .ok (.ishr, 1) := by decide +kernel
theorem dul_4 : decode jdk_52_method_6_code 4 = .ok (.ireturn, 1) := by decide +kernel
theorem pnul : plainName "java/lang/StringUTF16" = true := by first | (simp [plainName, overriddenIn]; done) | decide +kernel
theorem eful (m : MethodId) (a0 : Addr) : entryFrame m #[(.ref a0)] 1 = mkF m 0 #[.val (.ref a0)] [] := by first | (simp [entryFrame, mkF, argsToLocals, Value.category]; done) | rfl
def ful (z : Int32) : Int32 := (z >>> ((1 : Int32) &&& 31))
def Qul (Z : State) (a0 : Addr) (wc : Int32) (sx : Value) (kb : ClassId) (z : Int32) (vs : List Value) (h0 : Heap) (n0 : Nat) (v : Option Value) (h : Heap) (L : List Loc) : Prop := v = some (.int (ful z)) ∧ Fr n0 L ∧ h = h0
set_option maxRecDepth 65536 in
set_option maxHeartbeats 40000000 in
theorem rmul (l : Launch) (Z : State) (aa : Array Value) (hw : ∀ d ∈ tables_1, d.before aa Z = true) (ws : List Jvm.Cond) (a0 : Addr) (wc : Int32) (sx : Value) (kb : ClassId) (z : Int32) (vs : List Value) (h0 : Heap) (n0 : Nat) (Z0 : n0 ≤ h0.size) (BW : OwnW Z wc sx) (O0 : Old Z n0 h0) (V_a0 : Arv Z h0 a0 kb .byte z vs (.int (0 : Int32))) :
    MetFree l (⟨"java/lang/StringUTF16", "length", "([B)I"⟩ : MethodName) (head1 (Jvm.Cond.code (⟨"java/lang/StringUTF16", "length", "([B)I"⟩ : MethodName) jdk_52_method_6_code 1 (some .int) :: ws) ({ frames := 0, cells := 0, slots := 0, locals := 0 } : Room)) (fun a U => a = #[(.ref a0)] ∧ Z.Warmed39 U.vm ∧ U.heap = h0) (fun _ _ _ _ _ => True) (fun _ U o U' => ∃ v L, o = .returned v ∧ Qul Z a0 wc sx kb z vs h0 n0 v U'.heap L ∧ FrameEnd U o U' L ({ frames := 0, cells := 0, slots := 0, locals := 0 } : Room).cells ({ frames := 0, cells := 0, slots := 0, locals := 0 } : Room).slots) := by
  refine MetFree.of_bodySF (plainFor_of_name pnul) hisR ?_
  intro p e s m args below meth c s₁ Bd hml0 hP hK
  obtain ⟨rfl, hZ, hh⟩ := hP
  have hx := Bd.exec
  have hby := Bd.bytes
  have hml : c.maxLocals = 1 := hml0
  have hown : s.vm.findClass "java/lang/StringUTF16" = some m.cls := findClass_of_methodNamed Bd.named
  have hnm := (name_of_methodNamed Bd.named Bd.method).1
  have X0 : Stand p l e ({ frames := 0, cells := 0, slots := 0, locals := 0 } : Room) s m #[(.ref a0)] below meth c s₁ [] 0 0 := Stand.of_body Bd
  have e0 : s₁.heap = h0 := by rw [← hh, Bd.state]; rfl
  have N0 := Fr.nil n0
  show OwnEnd p e below s (fun v h L => Qul Z a0 wc sx kb z vs h0 n0 v h L) ({ frames := 0, cells := 0, slots := 0, locals := 0 } : Room).cells ({ frames := 0, cells := 0, slots := 0, locals := 0 } : Room).slots (s₁.setTop (entryFrame m #[(.ref a0)] 1))
  rw [eful m a0]
  generalize hW : OwnEnd p e below s (fun v h L => Qul Z a0 wc sx kb z vs h0 n0 v h L) ({ frames := 0, cells := 0, slots := 0, locals := 0 } : Room).cells ({ frames := 0, cells := 0, slots := 0, locals := 0 } : Room).slots = W
  have stp : ∀ {A B : State}, (∀ t, Steps p.tables e below B t → Steps p.tables e below A t) → W B → W A := by subst hW; exact own_step
  obtain ⟨S_cs, hcs, S_si, hr_sx, S_ad, S_hi, S_lo⟩ := id BW
  show W (s₁.setTop (mkF m 0 #[.val (.ref a0)] []))
  refine stp (fun t k => XS.aloadN X0.here hx rfl (hb hby dul_0) rfl rfl k) ?_
  show W (s₁.setTop (mkF m 1 #[.val (.ref a0)] [(.ref a0)]))
  obtain ⟨clul1, Arul1, qkul1, qsul1, qnul1, qhul1, qgul1⟩ := id V_a0
  refine stp (fun t k => X0.arraylength hx (by rw [e0]; exact Arul1.1) (State.isArrayOf_alike hZ.alike Arul1.2.1) (g := (mkF m 1 #[.val (.ref a0)] [(.ref a0)])) rfl rfl (hb hby dul_1) _ k) ?_
  rw [len_of qsul1 qnul1]
  show W (s₁.setTop (mkF m 2 #[.val (.ref a0)] [(.int z)]))
  refine stp (fun t k => XS.iconst X0.here hx rfl (hb hby dul_2) k) ?_
  show W (s₁.setTop (mkF m 3 #[.val (.ref a0)] [(.int (1 : Int32)), (.int z)]))
  refine stp (fun t k => XS.ishr X0.here hx rfl (hb hby dul_3) rfl k) ?_
  show W (s₁.setTop (mkF m 4 #[.val (.ref a0)] [(.int (z >>> ((1 : Int32) &&& 31)))]))
  show W (s₁.setTop (mkF m 4 #[.val (.ref a0)] [(.int (z >>> ((1 : Int32) &&& 31)))]))
  rw [← hW]
  exact own_retI X0 hx Bd.notSynchronized Bd.returns (hb hby dul_4) (by show Qul Z a0 wc sx kb z vs h0 n0 _ s₁.heap _; rw [e0]; exact ⟨rfl, N0, rfl⟩) (by decide) (by decide)
theorem duc_0 : decode jdk_52_method_91_code 0 = .ok (.iload_n 0, 1) := by decide +kernel
theorem duc_1 : decode jdk_52_method_91_code 1 = .ok (.aload_n 1, 1) := by decide +kernel
theorem duc_2 : decode jdk_52_method_91_code 2 = .ok (.invokestatic 48, 3) := by decide +kernel
theorem duc_5 : decode jdk_52_method_91_code 5 = .ok (.invokestatic 414, 3) := by decide +kernel
theorem duc_8 : decode jdk_52_method_91_code 8 = .ok (.return_, 1) := by decide +kernel
theorem pnuc : plainName "java/lang/StringUTF16" = true := by first | (simp [plainName, overriddenIn]; done) | decide +kernel
theorem pduc_0 : parseMethodDescriptor "([B)I" = some ⟨[(.array .byte)], some .int⟩ := by decide +kernel
theorem pduc_1 : parseMethodDescriptor "(II)V" = some ⟨[.int, .int], none⟩ := by decide +kernel
theorem efuc (m : MethodId) (p0 : Int32) (a1 : Addr) : entryFrame m #[(.int p0), (.ref a1)] 2 = mkF m 0 #[.val (.int p0), .val (.ref a1)] [] := by first | (simp [entryFrame, mkF, argsToLocals, Value.category]; done) | rfl
def Quc (Z : State) (p0 : Int32) (a1 : Addr) (wc : Int32) (sx : Value) (kb : ClassId) (z : Int32) (vs : List Value) (h0 : Heap) (n0 : Nat) (v : Option Value) (h : Heap) (L : List Loc) : Prop := v = none ∧ Fr n0 L ∧ h = h0
set_option maxRecDepth 65536 in
set_option maxHeartbeats 40000000 in
theorem rmuc (l : Launch) (Z : State) (aa : Array Value) (hw : ∀ d ∈ tables_1, d.before aa Z = true) (ws : List Jvm.Cond) (p0 : Int32) (a1 : Addr) (wc : Int32) (sx : Value) (kb : ClassId) (z : Int32) (vs : List Value) (h0 : Heap) (n0 : Nat) (Z0 : n0 ≤ h0.size) (BW : OwnW Z wc sx) (O0 : Old Z n0 h0) (V_a1 : Arv Z h0 a1 kb .byte z vs (.int (0 : Int32))) (hlo : ¬ p0 < (0 : Int32)) (hhi : p0 < (ful z)) :
    MetFree l (⟨"java/lang/StringUTF16", "checkIndex", "(I[B)V"⟩ : MethodName) (head1 (Jvm.Cond.code (⟨"java/lang/StringUTF16", "checkIndex", "(I[B)V"⟩ : MethodName) jdk_52_method_91_code 2 none :: ws) ({ frames := 2, cells := 0, slots := 0, locals := 27 } : Room)) (fun a U => a = #[(.int p0), (.ref a1)] ∧ Z.Warmed39 U.vm ∧ U.heap = h0) (fun _ _ _ _ _ => True) (fun _ U o U' => ∃ v L, o = .returned v ∧ Quc Z p0 a1 wc sx kb z vs h0 n0 v U'.heap L ∧ FrameEnd U o U' L ({ frames := 2, cells := 0, slots := 0, locals := 27 } : Room).cells ({ frames := 2, cells := 0, slots := 0, locals := 27 } : Room).slots) := by
  refine MetFree.of_bodySF (plainFor_of_name pnuc) hisR ?_
  intro p e s m args below meth c s₁ Bd hml0 hP hK
  obtain ⟨rfl, hZ, hh⟩ := hP
  have hx := Bd.exec
  have hby := Bd.bytes
  have hml : c.maxLocals = 2 := hml0
  have hown : s.vm.findClass "java/lang/StringUTF16" = some m.cls := findClass_of_methodNamed Bd.named
  have hnm := (name_of_methodNamed Bd.named Bd.method).1
  have X0 : Stand p l e ({ frames := 2, cells := 0, slots := 0, locals := 27 } : Room) s m #[(.int p0), (.ref a1)] below meth c s₁ [] 0 0 := Stand.of_body Bd
  have e0 : s₁.heap = h0 := by rw [← hh, Bd.state]; rfl
  have N0 := Fr.nil n0
  show OwnEnd p e below s (fun v h L => Quc Z p0 a1 wc sx kb z vs h0 n0 v h L) ({ frames := 2, cells := 0, slots := 0, locals := 27 } : Room).cells ({ frames := 2, cells := 0, slots := 0, locals := 27 } : Room).slots (s₁.setTop (entryFrame m #[(.int p0), (.ref a1)] 2))
  rw [efuc m p0 a1]
  generalize hW : OwnEnd p e below s (fun v h L => Quc Z p0 a1 wc sx kb z vs h0 n0 v h L) ({ frames := 2, cells := 0, slots := 0, locals := 27 } : Room).cells ({ frames := 2, cells := 0, slots := 0, locals := 27 } : Room).slots = W
  have stp : ∀ {A B : State}, (∀ t, Steps p.tables e below B t → Steps p.tables e below A t) → W B → W A := by subst hW; exact own_step
  obtain ⟨S_cs, hcs, S_si, hr_sx, S_ad, S_hi, S_lo⟩ := id BW
  show W (s₁.setTop (mkF m 0 #[.val (.int p0), .val (.ref a1)] []))
  refine stp (fun t k => XS.iloadN X0.here hx rfl (hb hby duc_0) rfl k) ?_
  show W (s₁.setTop (mkF m 1 #[.val (.int p0), .val (.ref a1)] [(.int p0)]))
  refine stp (fun t k => XS.aloadN X0.here hx rfl (hb hby duc_1) rfl rfl k) ?_
  show W (s₁.setTop (mkF m 2 #[.val (.int p0), .val (.ref a1)] [(.ref a1), (.int p0)]))
  obtain ⟨_, _, ⟨Tucc1, Lucc1, kucc1, nucc1⟩, -, Xucc1, ⟨Lcucc1, hQucc1, lucc1, yucc1, zucc1⟩, stucc1⟩ := Jvm.LawKit.callS X0 hx (y := (⟨"java/lang/StringUTF16", "length", "([B)I"⟩ : MethodName)) hown (mvT hZ (hw _ (List.mem_of_getElem? (i := 111) rfl))) (mvT hZ (hw _ (List.mem_of_getElem? (i := 112) rfl))) (mvT hZ (hw _ (List.mem_of_getElem? (i := 47) rfl))) (mvT hZ (hw _ (List.mem_of_getElem? (i := 113) rfl))) (by decide) (backOf (W := 1) (rmul l Z aa hw [] a1 wc sx kb z vs h0 n0 Z0 BW O0 V_a1) hZ (hw _ (List.mem_of_getElem? (i := 113) rfl)) (hw _ (List.mem_of_getElem? (i := 47) rfl)) (by decide) (by decide)) (g := (mkF m 2 #[.val (.int p0), .val (.ref a1)] [(.ref a1), (.int p0)])) rfl (by rw [hml]; rfl) (argsL := [(.ref a1)]) (rest := [(.int p0)]) (lenOf pduc_0 rfl) rfl (by show 2 * 0 + _ ≤ _; exact Nat.le_of_eq rfl) (hb hby duc_2) (fun _ _ => ⟨rfl, e0, (by decide : 0 + 0 ≤ _), (by decide : 0 + 0 ≤ _)⟩)
  dsimp only [Pt.U, Pt.locs, Pt.cells, Pt.slots] at Xucc1 lucc1 yucc1 zucc1 stucc1 hQucc1
  subst lucc1 yucc1 zucc1
  obtain ⟨rfl, Nucc1q, eucc1⟩ := hQucc1
  have Nucc1 := Fr.app N0 Nucc1q
  obtain ⟨lcuct2, Xucc1, Nucc1⟩ : ∃ lc, Stand p l e ({ frames := 2, cells := 0, slots := 0, locals := 27 } : Room) s m #[(.int p0), (.ref a1)] below meth c Tucc1 lc 0 0 ∧ Fr n0 lc := ⟨_, Xucc1, Nucc1⟩
  refine stp (fun t k => stucc1 t k) ?_
  show W (Tucc1.setTop (mkF m 5 #[.val (.int p0), .val (.ref a1)] [(.int (ful z)), (.int p0)]))
  obtain ⟨_, _, ⟨Tucc3, Lucc3, kucc3, nucc3⟩, -, Xucc3, ⟨Lcucc3, hQucc3, lucc3, yucc3, zucc3⟩, stucc3⟩ := Jvm.LawKit.callS Xucc1 hx (y := (⟨"java/lang/String", "checkIndex", "(II)V"⟩ : MethodName)) hown (mvT hZ (hw _ (List.mem_of_getElem? (i := 114) rfl))) (mvT hZ (hw _ (List.mem_of_getElem? (i := 76) rfl))) (mvT hZ (hw _ (List.mem_of_getElem? (i := 6) rfl))) (mvT hZ (hw _ (List.mem_of_getElem? (i := 77) rfl))) (by decide) (backOf (W := 0) (rmsc l Z aa hw [] p0 (ful z) wc sx h0 n0 Z0 BW O0 hlo hhi) hZ (hw _ (List.mem_of_getElem? (i := 77) rfl)) (hw _ (List.mem_of_getElem? (i := 6) rfl)) (by decide) (by decide)) (g := (mkF m 5 #[.val (.int p0), .val (.ref a1)] [(.int (ful z)), (.int p0)])) rfl (by rw [hml]; rfl) (argsL := [(.int p0), (.int (ful z))]) (rest := []) (lenOf pduc_1 rfl) rfl (by show 2 * 0 + _ ≤ _; exact Nat.le_of_eq rfl) (hb hby duc_5) (fun _ _ => ⟨rfl, eucc1, (by decide : 0 + 0 ≤ _), (by decide : 0 + 0 ≤ _)⟩)
  dsimp only [Pt.U, Pt.locs, Pt.cells, Pt.slots] at Xucc3 lucc3 yucc3 zucc3 stucc3 hQucc3
  subst lucc3 yucc3 zucc3
  obtain ⟨rfl, Nucc3q, eucc3⟩ := hQucc3
  have Nucc3 := Fr.app Nucc1 Nucc3q
  obtain ⟨lcuct4, Xucc3, Nucc3⟩ : ∃ lc, Stand p l e ({ frames := 2, cells := 0, slots := 0, locals := 27 } : Room) s m #[(.int p0), (.ref a1)] below meth c Tucc3 lc 0 0 ∧ Fr n0 lc := ⟨_, Xucc3, Nucc3⟩
  refine stp (fun t k => stucc3 t k) ?_
  show W (Tucc3.setTop (mkF m 8 #[.val (.int p0), .val (.ref a1)] []))
  show W (Tucc3.setTop (mkF m 8 #[.val (.int p0), .val (.ref a1)] []))
  rw [← hW]
  exact own_ret0 Xucc3 hx Bd.notSynchronized Bd.returns (hb hby duc_8) (by show Quc Z p0 a1 wc sx kb z vs h0 n0 _ Tucc3.heap _; rw [eucc3]; exact ⟨rfl, Nucc3, rfl⟩) (by decide) (by decide)
theorem dgc_0 : decode jdk_52_method_5_code 0 = .ok (.getstatic 44, 3) := by decide +kernel
theorem dgc_3 : decode jdk_52_method_5_code 3 = .ok (.ifCond .ne 25, 3) := by decide +kernel
theorem dgc_28 : decode jdk_52_method_5_code 28 = .ok (.iload_n 1, 1) := by decide +kernel
theorem dgc_29 : decode jdk_52_method_5_code 29 = .ok (.iconst 1, 1) := by decide +kernel
theorem dgc_30 : decode jdk_52_method_5_code 30 = .ok (.ishl, 1) := by decide +kernel
theorem dgc_31 : decode jdk_52_method_5_code 31 = .ok (.istore_n 1, 1) := by decide +kernel
theorem dgc_32 : decode jdk_52_method_5_code 32 = .ok (.aload_n 0, 1) := by decide +kernel
theorem dgc_33 : decode jdk_52_method_5_code 33 = .ok (.iload_n 1, 1) := by decide +kernel
theorem dgc_34 : decode jdk_52_method_5_code 34 = .ok (.iinc 1 1, 3) := by decide +kernel
theorem dgc_37 : decode jdk_52_method_5_code 37 = .ok (.baload, 1) := by decide +kernel
theorem dgc_38 : decode jdk_52_method_5_code 38 = .ok (.sipush 255, 3) := by decide +kernel
theorem dgc_41 : decode jdk_52_method_5_code 41 = .ok (.iand, 1) := by decide +kernel
theorem dgc_42 : decode jdk_52_method_5_code 42 = .ok (.getstatic 59, 3) := by decide +kernel
theorem dgc_45 : decode jdk_52_method_5_code 45 = .ok (.ishl, 1) := by decide +kernel
theorem dgc_46 : decode jdk_52_method_5_code 46 = .ok (.aload_n 0, 1) := by decide +kernel
theorem dgc_47 : decode jdk_52_method_5_code 47 = .ok (.iload_n 1, 1) := by decide +kernel
theorem dgc_48 : decode jdk_52_method_5_code 48 = .ok (.baload, 1) := by decide +kernel
theorem dgc_49 : decode jdk_52_method_5_code 49 = .ok (.sipush 255, 3) := by decide +kernel
theorem dgc_52 : decode jdk_52_method_5_code 52 = .ok (.iand, 1) := by decide +kernel
theorem dgc_53 : decode jdk_52_method_5_code 53 = .ok (.getstatic 63, 3) := by decide +kernel
theorem dgc_56 : decode jdk_52_method_5_code 56 = .ok (.ishl, 1) := by decide +kernel
theorem dgc_57 : decode jdk_52_method_5_code 57 = .ok (.ior, 1) := by decide +kernel
theorem dgc_58 : decode jdk_52_method_5_code 58 = .ok (.i2c, 1) := by decide +kernel
theorem dgc_59 : decode jdk_52_method_5_code 59 = .ok (.ireturn, 1) := by decide +kernel
theorem pngc : plainName "java/lang/StringUTF16" = true := by first | (simp [plainName, overriddenIn]; done) | decide +kernel
theorem efgc (m : MethodId) (a0 : Addr) (p1 : Int32) : entryFrame m #[(.ref a0), (.int p1)] 2 = mkF m 0 #[.val (.ref a0), .val (.int p1)] [] := by first | (simp [entryFrame, mkF, argsToLocals, Value.category]; done) | rfl
def fgc (x : Int32) (y : Int32) : Int32 := (nar .char ((((x &&& (255 : Int32)) <<< ((0 : Int32) &&& 31)) ||| ((y &&& (255 : Int32)) <<< ((8 : Int32) &&& 31))).toUInt32.toUInt16.toUInt32.toInt32))
def Qgc (Z : State) (a0 : Addr) (p1 : Int32) (wc : Int32) (sx : Value) (kb : ClassId) (z : Int32) (vs : List Value) (x : Int32) (y : Int32) (h0 : Heap) (n0 : Nat) (v : Option Value) (h : Heap) (L : List Loc) : Prop := v = some (.int (fgc x y)) ∧ Fr n0 L ∧ h = h0
set_option maxRecDepth 65536 in
set_option maxHeartbeats 40000000 in
theorem rmgc (l : Launch) (Z : State) (aa : Array Value) (hw : ∀ d ∈ tables_1, d.before aa Z = true) (ws : List Jvm.Cond) (a0 : Addr) (p1 : Int32) (wc : Int32) (sx : Value) (kb : ClassId) (z : Int32) (vs : List Value) (x : Int32) (y : Int32) (h0 : Heap) (n0 : Nat) (Z0 : n0 ≤ h0.size) (BW : OwnW Z wc sx) (O0 : Old Z n0 h0) (V_a0 : Arv Z h0 a0 kb .byte z vs (.int (0 : Int32))) (hi0 : ¬ (p1 <<< ((1 : Int32) &&& 31)) < 0 ∧ (p1 <<< ((1 : Int32) &&& 31)) < z) (hi1 : ¬ ((p1 <<< ((1 : Int32) &&& 31)) + (1 : Int32)) < 0 ∧ ((p1 <<< ((1 : Int32) &&& 31)) + (1 : Int32)) < z) (hg0 : vs.getD (p1 <<< ((1 : Int32) &&& 31)).toNatClampNeg (.int (0 : Int32)) = .int x) (hg1 : vs.getD ((p1 <<< ((1 : Int32) &&& 31)) + (1 : Int32)).toNatClampNeg (.int (0 : Int32)) = .int y) :
    MetFree l (⟨"java/lang/StringUTF16", "getChar", "([BI)C"⟩ : MethodName) (head1 (Jvm.Cond.code (⟨"java/lang/StringUTF16", "getChar", "([BI)C"⟩ : MethodName) jdk_52_method_5_code 2 (some .char) :: ws) ({ frames := 0, cells := 0, slots := 0, locals := 0 } : Room)) (fun a U => a = #[(.ref a0), (.int p1)] ∧ Z.Warmed39 U.vm ∧ U.heap = h0) (fun _ _ _ _ _ => True) (fun _ U o U' => ∃ v L, o = .returned v ∧ Qgc Z a0 p1 wc sx kb z vs x y h0 n0 v U'.heap L ∧ FrameEnd U o U' L ({ frames := 0, cells := 0, slots := 0, locals := 0 } : Room).cells ({ frames := 0, cells := 0, slots := 0, locals := 0 } : Room).slots) := by
  refine MetFree.of_bodySF (plainFor_of_name pngc) hisR ?_
  intro p e s m args below meth c s₁ Bd hml0 hP hK
  obtain ⟨rfl, hZ, hh⟩ := hP
  have hx := Bd.exec
  have hby := Bd.bytes
  have hml : c.maxLocals = 2 := hml0
  have hown : s.vm.findClass "java/lang/StringUTF16" = some m.cls := findClass_of_methodNamed Bd.named
  have hnm := (name_of_methodNamed Bd.named Bd.method).1
  have X0 : Stand p l e ({ frames := 0, cells := 0, slots := 0, locals := 0 } : Room) s m #[(.ref a0), (.int p1)] below meth c s₁ [] 0 0 := Stand.of_body Bd
  have e0 : s₁.heap = h0 := by rw [← hh, Bd.state]; rfl
  have N0 := Fr.nil n0
  show OwnEnd p e below s (fun v h L => Qgc Z a0 p1 wc sx kb z vs x y h0 n0 v h L) ({ frames := 0, cells := 0, slots := 0, locals := 0 } : Room).cells ({ frames := 0, cells := 0, slots := 0, locals := 0 } : Room).slots (s₁.setTop (entryFrame m #[(.ref a0), (.int p1)] 2))
  rw [efgc m a0 p1]
  generalize hW : OwnEnd p e below s (fun v h L => Qgc Z a0 p1 wc sx kb z vs x y h0 n0 v h L) ({ frames := 0, cells := 0, slots := 0, locals := 0 } : Room).cells ({ frames := 0, cells := 0, slots := 0, locals := 0 } : Room).slots = W
  have stp : ∀ {A B : State}, (∀ t, Steps p.tables e below B t → Steps p.tables e below A t) → W B → W A := by subst hW; exact own_step
  obtain ⟨S_cs, hcs, S_si, hr_sx, S_ad, S_hi, S_lo⟩ := id BW
  show W (s₁.setTop (mkF m 0 #[.val (.ref a0), .val (.int p1)] []))
  obtain ⟨Tgc1, Xgc1, egc1, stgc1⟩ := getS2 X0 hx hZ hown (host := "") (Or.inl (hw _ (List.mem_of_getElem? (i := 99) rfl))) Via.refl e0 (S_ad.ext O0.2) (g := (mkF m 0 #[.val (.ref a0), .val (.int p1)] [])) rfl (hb hby dgc_0)
  refine stp (fun t k => stgc1 t k) ?_
  show W (Tgc1.setTop (mkF m 3 #[.val (.ref a0), .val (.int p1)] [(.int (1 : Int32))]))
  refine stp (fun t k => XS.ifYes Xgc1.here hx rfl (pc0 := 3) (pc' := 28) rfl (hb hby dgc_3) rfl ((if0 _ _).trans (feq (by decide)).2) (by decide) (by decide) k) ?_
  show W (Tgc1.setTop (mkF m 28 #[.val (.ref a0), .val (.int p1)] []))
  refine stp (fun t k => XS.iloadN Xgc1.here hx rfl (hb hby dgc_28) rfl k) ?_
  show W (Tgc1.setTop (mkF m 29 #[.val (.ref a0), .val (.int p1)] [(.int p1)]))
  refine stp (fun t k => XS.iconst Xgc1.here hx rfl (hb hby dgc_29) k) ?_
  show W (Tgc1.setTop (mkF m 30 #[.val (.ref a0), .val (.int p1)] [(.int (1 : Int32)), (.int p1)]))
  refine stp (fun t k => XS.ishl Xgc1.here hx rfl (hb hby dgc_30) rfl k) ?_
  show W (Tgc1.setTop (mkF m 31 #[.val (.ref a0), .val (.int p1)] [(.int (p1 <<< ((1 : Int32) &&& 31)))]))
  refine stp (fun t k => XS.istoreN Xgc1.here hx rfl (hb hby dgc_31) rfl (l' := #[.val (.ref a0), .val (.int (p1 <<< ((1 : Int32) &&& 31)))]) rfl k) ?_
  show W (Tgc1.setTop (mkF m 32 #[.val (.ref a0), .val (.int (p1 <<< ((1 : Int32) &&& 31)))] []))
  refine stp (fun t k => XS.aloadN Xgc1.here hx rfl (hb hby dgc_32) rfl rfl k) ?_
  show W (Tgc1.setTop (mkF m 33 #[.val (.ref a0), .val (.int (p1 <<< ((1 : Int32) &&& 31)))] [(.ref a0)]))
  refine stp (fun t k => XS.iloadN Xgc1.here hx rfl (hb hby dgc_33) rfl k) ?_
  show W (Tgc1.setTop (mkF m 34 #[.val (.ref a0), .val (.int (p1 <<< ((1 : Int32) &&& 31)))] [(.int (p1 <<< ((1 : Int32) &&& 31))), (.ref a0)]))
  refine stp (fun t k => XS.iinc Xgc1.here hx rfl (hb hby dgc_34) rfl (l' := #[.val (.ref a0), .val (.int ((p1 <<< ((1 : Int32) &&& 31)) + (1 : Int32)))]) rfl k) ?_
  show W (Tgc1.setTop (mkF m 37 #[.val (.ref a0), .val (.int ((p1 <<< ((1 : Int32) &&& 31)) + (1 : Int32)))] [(.int (p1 <<< ((1 : Int32) &&& 31))), (.ref a0)]))
  obtain ⟨clgc2, Argc2, qkgc2, qsgc2, qngc2, qhgc2, qggc2⟩ := id V_a0
  have hingc2 : ¬ ((p1 <<< ((1 : Int32) &&& 31)) < 0 ∨ clgc2.slots.size ≤ ((p1 <<< ((1 : Int32) &&& 31))).toNatClampNeg) := inb_of qsgc2 hi0
  have hatgc2 : clgc2.slots[((p1 <<< ((1 : Int32) &&& 31))).toNatClampNeg]? = some (.int x) := qhgc2.at hingc2 hg0
  refine stp (fun t k => Xgc1.baloadBytes hx (j := (p1 <<< ((1 : Int32) &&& 31))) (v := (.int x)) (by rw [egc1]; exact Argc2.1) (State.isArrayOf_alike hZ.alike Argc2.2.1) Argc2.2.2 hingc2 hatgc2 (g := (mkF m 37 #[.val (.ref a0), .val (.int ((p1 <<< ((1 : Int32) &&& 31)) + (1 : Int32)))] [(.int (p1 <<< ((1 : Int32) &&& 31))), (.ref a0)])) rfl rfl (hb hby dgc_37) _ k) ?_
  show W (Tgc1.setTop (mkF m 38 #[.val (.ref a0), .val (.int ((p1 <<< ((1 : Int32) &&& 31)) + (1 : Int32)))] [(.int x)]))
  refine stp (fun t k => XS.sipush Xgc1.here hx rfl (hb hby dgc_38) k) ?_
  show W (Tgc1.setTop (mkF m 41 #[.val (.ref a0), .val (.int ((p1 <<< ((1 : Int32) &&& 31)) + (1 : Int32)))] [(.int (255 : Int32)), (.int x)]))
  refine stp (fun t k => XS.iand Xgc1.here hx rfl (hb hby dgc_41) rfl k) ?_
  show W (Tgc1.setTop (mkF m 42 #[.val (.ref a0), .val (.int ((p1 <<< ((1 : Int32) &&& 31)) + (1 : Int32)))] [(.int (x &&& (255 : Int32)))]))
  obtain ⟨Tgc3, Xgc3, egc3, stgc3⟩ := getS2 Xgc1 hx hZ hown (host := "") (Or.inl (hw _ (List.mem_of_getElem? (i := 100) rfl))) Via.refl egc1 (S_hi.ext O0.2) (g := (mkF m 42 #[.val (.ref a0), .val (.int ((p1 <<< ((1 : Int32) &&& 31)) + (1 : Int32)))] [(.int (x &&& (255 : Int32)))])) rfl (hb hby dgc_42)
  refine stp (fun t k => stgc3 t k) ?_
  show W (Tgc3.setTop (mkF m 45 #[.val (.ref a0), .val (.int ((p1 <<< ((1 : Int32) &&& 31)) + (1 : Int32)))] [(.int (0 : Int32)), (.int (x &&& (255 : Int32)))]))
  refine stp (fun t k => XS.ishl Xgc3.here hx rfl (hb hby dgc_45) rfl k) ?_
  show W (Tgc3.setTop (mkF m 46 #[.val (.ref a0), .val (.int ((p1 <<< ((1 : Int32) &&& 31)) + (1 : Int32)))] [(.int ((x &&& (255 : Int32)) <<< ((0 : Int32) &&& 31)))]))
  refine stp (fun t k => XS.aloadN Xgc3.here hx rfl (hb hby dgc_46) rfl rfl k) ?_
  show W (Tgc3.setTop (mkF m 47 #[.val (.ref a0), .val (.int ((p1 <<< ((1 : Int32) &&& 31)) + (1 : Int32)))] [(.ref a0), (.int ((x &&& (255 : Int32)) <<< ((0 : Int32) &&& 31)))]))
  refine stp (fun t k => XS.iloadN Xgc3.here hx rfl (hb hby dgc_47) rfl k) ?_
  show W (Tgc3.setTop (mkF m 48 #[.val (.ref a0), .val (.int ((p1 <<< ((1 : Int32) &&& 31)) + (1 : Int32)))] [(.int ((p1 <<< ((1 : Int32) &&& 31)) + (1 : Int32))), (.ref a0), (.int ((x &&& (255 : Int32)) <<< ((0 : Int32) &&& 31)))]))
  obtain ⟨clgc4, Argc4, qkgc4, qsgc4, qngc4, qhgc4, qggc4⟩ := id V_a0
  have hingc4 : ¬ (((p1 <<< ((1 : Int32) &&& 31)) + (1 : Int32)) < 0 ∨ clgc4.slots.size ≤ (((p1 <<< ((1 : Int32) &&& 31)) + (1 : Int32))).toNatClampNeg) := inb_of qsgc4 hi1
  have hatgc4 : clgc4.slots[(((p1 <<< ((1 : Int32) &&& 31)) + (1 : Int32))).toNatClampNeg]? = some (.int y) := qhgc4.at hingc4 hg1
  refine stp (fun t k => Xgc3.baloadBytes hx (j := ((p1 <<< ((1 : Int32) &&& 31)) + (1 : Int32))) (v := (.int y)) (by rw [egc3]; exact Argc4.1) (State.isArrayOf_alike hZ.alike Argc4.2.1) Argc4.2.2 hingc4 hatgc4 (g := (mkF m 48 #[.val (.ref a0), .val (.int ((p1 <<< ((1 : Int32) &&& 31)) + (1 : Int32)))] [(.int ((p1 <<< ((1 : Int32) &&& 31)) + (1 : Int32))), (.ref a0), (.int ((x &&& (255 : Int32)) <<< ((0 : Int32) &&& 31)))])) rfl rfl (hb hby dgc_48) _ k) ?_
  show W (Tgc3.setTop (mkF m 49 #[.val (.ref a0), .val (.int ((p1 <<< ((1 : Int32) &&& 31)) + (1 : Int32)))] [(.int y), (.int ((x &&& (255 : Int32)) <<< ((0 : Int32) &&& 31)))]))
  refine stp (fun t k => XS.sipush Xgc3.here hx rfl (hb hby dgc_49) k) ?_
  show W (Tgc3.setTop (mkF m 52 #[.val (.ref a0), .val (.int ((p1 <<< ((1 : Int32) &&& 31)) + (1 : Int32)))] [(.int (255 : Int32)), (.int y), (.int ((x &&& (255 : Int32)) <<< ((0 : Int32) &&& 31)))]))
  refine stp (fun t k => XS.iand Xgc3.here hx rfl (hb hby dgc_52) rfl k) ?_
  show W (Tgc3.setTop (mkF m 53 #[.val (.ref a0), .val (.int ((p1 <<< ((1 : Int32) &&& 31)) + (1 : Int32)))] [(.int (y &&& (255 : Int32))), (.int ((x &&& (255 : Int32)) <<< ((0 : Int32) &&& 31)))]))
  obtain ⟨Tgc5, Xgc5, egc5, stgc5⟩ := getS2 Xgc3 hx hZ hown (host := "") (Or.inl (hw _ (List.mem_of_getElem? (i := 101) rfl))) Via.refl egc3 (S_lo.ext O0.2) (g := (mkF m 53 #[.val (.ref a0), .val (.int ((p1 <<< ((1 : Int32) &&& 31)) + (1 : Int32)))] [(.int (y &&& (255 : Int32))), (.int ((x &&& (255 : Int32)) <<< ((0 : Int32) &&& 31)))])) rfl (hb hby dgc_53)
  refine stp (fun t k => stgc5 t k) ?_
  show W (Tgc5.setTop (mkF m 56 #[.val (.ref a0), .val (.int ((p1 <<< ((1 : Int32) &&& 31)) + (1 : Int32)))] [(.int (8 : Int32)), (.int (y &&& (255 : Int32))), (.int ((x &&& (255 : Int32)) <<< ((0 : Int32) &&& 31)))]))
  refine stp (fun t k => XS.ishl Xgc5.here hx rfl (hb hby dgc_56) rfl k) ?_
  show W (Tgc5.setTop (mkF m 57 #[.val (.ref a0), .val (.int ((p1 <<< ((1 : Int32) &&& 31)) + (1 : Int32)))] [(.int ((y &&& (255 : Int32)) <<< ((8 : Int32) &&& 31))), (.int ((x &&& (255 : Int32)) <<< ((0 : Int32) &&& 31)))]))
  refine stp (fun t k => XS.ior Xgc5.here hx rfl (hb hby dgc_57) rfl k) ?_
  show W (Tgc5.setTop (mkF m 58 #[.val (.ref a0), .val (.int ((p1 <<< ((1 : Int32) &&& 31)) + (1 : Int32)))] [(.int (((x &&& (255 : Int32)) <<< ((0 : Int32) &&& 31)) ||| ((y &&& (255 : Int32)) <<< ((8 : Int32) &&& 31))))]))
  refine stp (fun t k => XS.i2c Xgc5.here hx rfl (hb hby dgc_58) rfl k) ?_
  show W (Tgc5.setTop (mkF m 59 #[.val (.ref a0), .val (.int ((p1 <<< ((1 : Int32) &&& 31)) + (1 : Int32)))] [(.int ((((x &&& (255 : Int32)) <<< ((0 : Int32) &&& 31)) ||| ((y &&& (255 : Int32)) <<< ((8 : Int32) &&& 31))).toUInt32.toUInt16.toUInt32.toInt32))]))
  show W (Tgc5.setTop (mkF m 59 #[.val (.ref a0), .val (.int ((p1 <<< ((1 : Int32) &&& 31)) + (1 : Int32)))] [(.int ((((x &&& (255 : Int32)) <<< ((0 : Int32) &&& 31)) ||| ((y &&& (255 : Int32)) <<< ((8 : Int32) &&& 31))).toUInt32.toUInt16.toUInt32.toInt32))]))
  rw [← hW]
  exact own_retN Xgc5 hx Bd.notSynchronized Bd.returns (w := (nar .char ((((x &&& (255 : Int32)) <<< ((0 : Int32) &&& 31)) ||| ((y &&& (255 : Int32)) <<< ((8 : Int32) &&& 31))).toUInt32.toUInt16.toUInt32.toInt32))) (by simp) (hb hby dgc_59) rfl (by show Qgc Z a0 p1 wc sx kb z vs x y h0 n0 _ Tgc5.heap _; rw [egc5]; exact ⟨rfl, N0, rfl⟩) (by decide) (by decide)
theorem dua_0 : decode jdk_52_method_83_code 0 = .ok (.iload_n 1, 1) := by decide +kernel
theorem dua_1 : decode jdk_52_method_83_code 1 = .ok (.aload_n 0, 1) := by decide +kernel
theorem dua_2 : decode jdk_52_method_83_code 2 = .ok (.invokestatic 67, 3) := by decide +kernel
theorem dua_5 : decode jdk_52_method_83_code 5 = .ok (.aload_n 0, 1) := by decide +kernel
theorem dua_6 : decode jdk_52_method_83_code 6 = .ok (.iload_n 1, 1) := by decide +kernel
theorem dua_7 : decode jdk_52_method_83_code 7 = .ok (.invokestatic 71, 3) := by decide +kernel
theorem dua_10 : decode jdk_52_method_83_code 10 = .ok (.ireturn, 1) := by decide +kernel
theorem pnua : plainName "java/lang/StringUTF16" = true := by first | (simp [plainName, overriddenIn]; done) | decide +kernel
theorem pdua_0 : parseMethodDescriptor "(I[B)V" = some ⟨[.int, (.array .byte)], none⟩ := by decide +kernel
theorem pdua_1 : parseMethodDescriptor "([BI)C" = some ⟨[(.array .byte), .int], some .char⟩ := by decide +kernel
theorem efua (m : MethodId) (a0 : Addr) (p1 : Int32) : entryFrame m #[(.ref a0), (.int p1)] 2 = mkF m 0 #[.val (.ref a0), .val (.int p1)] [] := by first | (simp [entryFrame, mkF, argsToLocals, Value.category]; done) | rfl
def fua (x : Int32) (y : Int32) : Int32 := (nar .char (fgc x y))
def Qua (Z : State) (a0 : Addr) (p1 : Int32) (wc : Int32) (sx : Value) (kb : ClassId) (z : Int32) (vs : List Value) (x : Int32) (y : Int32) (h0 : Heap) (n0 : Nat) (v : Option Value) (h : Heap) (L : List Loc) : Prop := v = some (.int (fua x y)) ∧ Fr n0 L ∧ h = h0
set_option maxRecDepth 65536 in
set_option maxHeartbeats 40000000 in
theorem rmua (l : Launch) (Z : State) (aa : Array Value) (hw : ∀ d ∈ tables_1, d.before aa Z = true) (ws : List Jvm.Cond) (a0 : Addr) (p1 : Int32) (wc : Int32) (sx : Value) (kb : ClassId) (z : Int32) (vs : List Value) (x : Int32) (y : Int32) (h0 : Heap) (n0 : Nat) (Z0 : n0 ≤ h0.size) (BW : OwnW Z wc sx) (O0 : Old Z n0 h0) (V_a0 : Arv Z h0 a0 kb .byte z vs (.int (0 : Int32))) (hlo : ¬ p1 < (0 : Int32)) (hhi : p1 < (ful z)) (hi0 : ¬ (p1 <<< ((1 : Int32) &&& 31)) < 0 ∧ (p1 <<< ((1 : Int32) &&& 31)) < z) (hi1 : ¬ ((p1 <<< ((1 : Int32) &&& 31)) + (1 : Int32)) < 0 ∧ ((p1 <<< ((1 : Int32) &&& 31)) + (1 : Int32)) < z) (hg0 : vs.getD (p1 <<< ((1 : Int32) &&& 31)).toNatClampNeg (.int (0 : Int32)) = .int x) (hg1 : vs.getD ((p1 <<< ((1 : Int32) &&& 31)) + (1 : Int32)).toNatClampNeg (.int (0 : Int32)) = .int y) :
    MetFree l (⟨"java/lang/StringUTF16", "charAt", "([BI)C"⟩ : MethodName) (head1 (Jvm.Cond.code (⟨"java/lang/StringUTF16", "charAt", "([BI)C"⟩ : MethodName) jdk_52_method_83_code 2 (some .char) :: ws) ({ frames := 3, cells := 0, slots := 0, locals := 40 } : Room)) (fun a U => a = #[(.ref a0), (.int p1)] ∧ Z.Warmed39 U.vm ∧ U.heap = h0) (fun _ _ _ _ _ => True) (fun _ U o U' => ∃ v L, o = .returned v ∧ Qua Z a0 p1 wc sx kb z vs x y h0 n0 v U'.heap L ∧ FrameEnd U o U' L ({ frames := 3, cells := 0, slots := 0, locals := 40 } : Room).cells ({ frames := 3, cells := 0, slots := 0, locals := 40 } : Room).slots) := by
  refine MetFree.of_bodySF (plainFor_of_name pnua) hisR ?_
  intro p e s m args below meth c s₁ Bd hml0 hP hK
  obtain ⟨rfl, hZ, hh⟩ := hP
  have hx := Bd.exec
  have hby := Bd.bytes
  have hml : c.maxLocals = 2 := hml0
  have hown : s.vm.findClass "java/lang/StringUTF16" = some m.cls := findClass_of_methodNamed Bd.named
  have hnm := (name_of_methodNamed Bd.named Bd.method).1
  have X0 : Stand p l e ({ frames := 3, cells := 0, slots := 0, locals := 40 } : Room) s m #[(.ref a0), (.int p1)] below meth c s₁ [] 0 0 := Stand.of_body Bd
  have e0 : s₁.heap = h0 := by rw [← hh, Bd.state]; rfl
  have N0 := Fr.nil n0
  show OwnEnd p e below s (fun v h L => Qua Z a0 p1 wc sx kb z vs x y h0 n0 v h L) ({ frames := 3, cells := 0, slots := 0, locals := 40 } : Room).cells ({ frames := 3, cells := 0, slots := 0, locals := 40 } : Room).slots (s₁.setTop (entryFrame m #[(.ref a0), (.int p1)] 2))
  rw [efua m a0 p1]
  generalize hW : OwnEnd p e below s (fun v h L => Qua Z a0 p1 wc sx kb z vs x y h0 n0 v h L) ({ frames := 3, cells := 0, slots := 0, locals := 40 } : Room).cells ({ frames := 3, cells := 0, slots := 0, locals := 40 } : Room).slots = W
  have stp : ∀ {A B : State}, (∀ t, Steps p.tables e below B t → Steps p.tables e below A t) → W B → W A := by subst hW; exact own_step
  obtain ⟨S_cs, hcs, S_si, hr_sx, S_ad, S_hi, S_lo⟩ := id BW
  show W (s₁.setTop (mkF m 0 #[.val (.ref a0), .val (.int p1)] []))
  refine stp (fun t k => XS.iloadN X0.here hx rfl (hb hby dua_0) rfl k) ?_
  show W (s₁.setTop (mkF m 1 #[.val (.ref a0), .val (.int p1)] [(.int p1)]))
  refine stp (fun t k => XS.aloadN X0.here hx rfl (hb hby dua_1) rfl rfl k) ?_
  show W (s₁.setTop (mkF m 2 #[.val (.ref a0), .val (.int p1)] [(.ref a0), (.int p1)]))
  obtain ⟨_, _, ⟨Tuac1, Luac1, kuac1, nuac1⟩, -, Xuac1, ⟨Lcuac1, hQuac1, luac1, yuac1, zuac1⟩, stuac1⟩ := Jvm.LawKit.callS X0 hx (y := (⟨"java/lang/StringUTF16", "checkIndex", "(I[B)V"⟩ : MethodName)) hown (mvT hZ (hw _ (List.mem_of_getElem? (i := 108) rfl))) (mvT hZ (hw _ (List.mem_of_getElem? (i := 109) rfl))) (mvT hZ (hw _ (List.mem_of_getElem? (i := 47) rfl))) (mvT hZ (hw _ (List.mem_of_getElem? (i := 110) rfl))) (by decide) (backOf (W := 0) (rmuc l Z aa hw [] p1 a0 wc sx kb z vs h0 n0 Z0 BW O0 V_a0 hlo hhi) hZ (hw _ (List.mem_of_getElem? (i := 110) rfl)) (hw _ (List.mem_of_getElem? (i := 47) rfl)) (by decide) (by decide)) (g := (mkF m 2 #[.val (.ref a0), .val (.int p1)] [(.ref a0), (.int p1)])) rfl (by rw [hml]; rfl) (argsL := [(.int p1), (.ref a0)]) (rest := []) (lenOf pdua_0 rfl) rfl (by show 2 * 0 + _ ≤ _; exact Nat.le_of_eq rfl) (hb hby dua_2) (fun _ _ => ⟨rfl, e0, (by decide : 0 + 0 ≤ _), (by decide : 0 + 0 ≤ _)⟩)
  dsimp only [Pt.U, Pt.locs, Pt.cells, Pt.slots] at Xuac1 luac1 yuac1 zuac1 stuac1 hQuac1
  subst luac1 yuac1 zuac1
  obtain ⟨rfl, Nuac1q, euac1⟩ := hQuac1
  have Nuac1 := Fr.app N0 Nuac1q
  obtain ⟨lcuat2, Xuac1, Nuac1⟩ : ∃ lc, Stand p l e ({ frames := 3, cells := 0, slots := 0, locals := 40 } : Room) s m #[(.ref a0), (.int p1)] below meth c Tuac1 lc 0 0 ∧ Fr n0 lc := ⟨_, Xuac1, Nuac1⟩
  refine stp (fun t k => stuac1 t k) ?_
  show W (Tuac1.setTop (mkF m 5 #[.val (.ref a0), .val (.int p1)] []))
  refine stp (fun t k => XS.aloadN Xuac1.here hx rfl (hb hby dua_5) rfl rfl k) ?_
  show W (Tuac1.setTop (mkF m 6 #[.val (.ref a0), .val (.int p1)] [(.ref a0)]))
  refine stp (fun t k => XS.iloadN Xuac1.here hx rfl (hb hby dua_6) rfl k) ?_
  show W (Tuac1.setTop (mkF m 7 #[.val (.ref a0), .val (.int p1)] [(.int p1), (.ref a0)]))
  obtain ⟨_, _, ⟨Tuac3, Luac3, kuac3, nuac3⟩, -, Xuac3, ⟨Lcuac3, hQuac3, luac3, yuac3, zuac3⟩, stuac3⟩ := Jvm.LawKit.callS Xuac1 hx (y := (⟨"java/lang/StringUTF16", "getChar", "([BI)C"⟩ : MethodName)) hown (mvT hZ (hw _ (List.mem_of_getElem? (i := 102) rfl))) (mvT hZ (hw _ (List.mem_of_getElem? (i := 103) rfl))) (mvT hZ (hw _ (List.mem_of_getElem? (i := 47) rfl))) (mvT hZ (hw _ (List.mem_of_getElem? (i := 104) rfl))) (by decide) (backOf (W := 0) (rmgc l Z aa hw [] a0 p1 wc sx kb z vs x y h0 n0 Z0 BW O0 V_a0 hi0 hi1 hg0 hg1) hZ (hw _ (List.mem_of_getElem? (i := 104) rfl)) (hw _ (List.mem_of_getElem? (i := 47) rfl)) (by decide) (by decide)) (g := (mkF m 7 #[.val (.ref a0), .val (.int p1)] [(.int p1), (.ref a0)])) rfl (by rw [hml]; rfl) (argsL := [(.ref a0), (.int p1)]) (rest := []) (lenOf pdua_1 rfl) rfl (by show 2 * 0 + _ ≤ _; exact Nat.le_of_eq rfl) (hb hby dua_7) (fun _ _ => ⟨rfl, euac1, (by decide : 0 + 0 ≤ _), (by decide : 0 + 0 ≤ _)⟩)
  dsimp only [Pt.U, Pt.locs, Pt.cells, Pt.slots] at Xuac3 luac3 yuac3 zuac3 stuac3 hQuac3
  subst luac3 yuac3 zuac3
  obtain ⟨rfl, Nuac3q, euac3⟩ := hQuac3
  have Nuac3 := Fr.app Nuac1 Nuac3q
  obtain ⟨lcuat4, Xuac3, Nuac3⟩ : ∃ lc, Stand p l e ({ frames := 3, cells := 0, slots := 0, locals := 40 } : Room) s m #[(.ref a0), (.int p1)] below meth c Tuac3 lc 0 0 ∧ Fr n0 lc := ⟨_, Xuac3, Nuac3⟩
  refine stp (fun t k => stuac3 t k) ?_
  show W (Tuac3.setTop (mkF m 10 #[.val (.ref a0), .val (.int p1)] [(.int (fgc x y))]))
  show W (Tuac3.setTop (mkF m 10 #[.val (.ref a0), .val (.int p1)] [(.int (fgc x y))]))
  rw [← hW]
  exact own_retN Xuac3 hx Bd.notSynchronized Bd.returns (w := (nar .char (fgc x y))) (by simp) (hb hby dua_10) rfl (by show Qua Z a0 p1 wc sx kb z vs x y h0 n0 _ Tuac3.heap _; rw [euac3]; exact ⟨rfl, Nuac3, rfl⟩) (by decide) (by decide)
theorem dcL_0 : decode jdk_42_method_56_code 0 = .ok (.aload_n 0, 1) := by decide +kernel
theorem dcL_1 : decode jdk_42_method_56_code 1 = .ok (.invokevirtual 492, 3) := by decide +kernel
theorem dcL_4 : decode jdk_42_method_56_code 4 = .ok (.ifCond .eq 12, 3) := by decide +kernel
theorem dcL_7 : decode jdk_42_method_56_code 7 = .ok (.aload_n 0, 1) := by decide +kernel
theorem dcL_8 : decode jdk_42_method_56_code 8 = .ok (.getfield 9, 3) := by decide +kernel
theorem dcL_11 : decode jdk_42_method_56_code 11 = .ok (.iload_n 1, 1) := by decide +kernel
theorem dcL_12 : decode jdk_42_method_56_code 12 = .ok (.invokestatic 495, 3) := by decide +kernel
theorem dcL_15 : decode jdk_42_method_56_code 15 = .ok (.ireturn, 1) := by decide +kernel
theorem pncL : plainName "java/lang/String" = true := by first | (simp [plainName, overriddenIn]; done) | decide +kernel
theorem pdcL_0 : parseMethodDescriptor "()Z" = some ⟨[], some .boolean⟩ := by decide +kernel
theorem pdcL_1 : parseMethodDescriptor "([BI)C" = some ⟨[(.array .byte), .int], some .char⟩ := by decide +kernel
theorem efcL (m : MethodId) (a0 : Addr) (p1 : Int32) : entryFrame m #[(.ref a0), (.int p1)] 2 = mkF m 0 #[.val (.ref a0), .val (.int p1)] [] := by first | (simp [entryFrame, mkF, argsToLocals, Value.category]; done) | rfl
def fcL (x : Int32) : Int32 := (nar .char (flc x))
def QcL (Z : State) (a0 : Addr) (p1 : Int32) (wc : Int32) (sx : Value) (b : Addr) (kb : ClassId) (z : Int32) (vs : List Value) (x : Int32) (h0 : Heap) (n0 : Nat) (v : Option Value) (h : Heap) (L : List Loc) : Prop := v = some (.int (fcL x)) ∧ Fr n0 L ∧ h = h0
set_option maxRecDepth 65536 in
set_option maxHeartbeats 40000000 in
theorem rmcL (l : Launch) (Z : State) (aa : Array Value) (hw : ∀ d ∈ tables_1, d.before aa Z = true) (ws : List Jvm.Cond) (a0 : Addr) (p1 : Int32) (wc : Int32) (sx : Value) (b : Addr) (kb : ClassId) (z : Int32) (vs : List Value) (x : Int32) (h0 : Heap) (n0 : Nat) (Z0 : n0 ≤ h0.size) (BW : OwnW Z wc sx) (O0 : Old Z n0 h0) (E_a0 : Exa Z h0 a0 "java/lang/String") (F_value_a0 : Fld Z h0 a0 "java/lang/String" "value" "[B" (.ref b)) (F_coder_a0 : Fld Z h0 a0 "java/lang/String" "coder" "B" (.int (0 : Int32))) (V_b : Arv Z h0 b kb .byte z vs (.int (0 : Int32))) (hlo : ¬ p1 < (0 : Int32)) (hhi : p1 < z) (hgx : vs.getD p1.toNatClampNeg (.int (0 : Int32)) = .int x) :
    MetFree l (⟨"java/lang/String", "charAt", "(I)C"⟩ : MethodName) (head1 (Jvm.Cond.code (⟨"java/lang/String", "charAt", "(I)C"⟩ : MethodName) jdk_42_method_56_code 2 (some .char) :: ws) ({ frames := 4, cells := 0, slots := 0, locals := 53 } : Room)) (fun a U => a = #[(.ref a0), (.int p1)] ∧ Z.Warmed39 U.vm ∧ U.heap = h0) (fun _ _ _ _ _ => True) (fun _ U o U' => ∃ v L, o = .returned v ∧ QcL Z a0 p1 wc sx b kb z vs x h0 n0 v U'.heap L ∧ FrameEnd U o U' L ({ frames := 4, cells := 0, slots := 0, locals := 53 } : Room).cells ({ frames := 4, cells := 0, slots := 0, locals := 53 } : Room).slots) := by
  refine MetFree.of_bodySF (plainFor_of_name pncL) hisR ?_
  intro p e s m args below meth c s₁ Bd hml0 hP hK
  obtain ⟨rfl, hZ, hh⟩ := hP
  have hx := Bd.exec
  have hby := Bd.bytes
  have hml : c.maxLocals = 2 := hml0
  have hown : s.vm.findClass "java/lang/String" = some m.cls := findClass_of_methodNamed Bd.named
  have hnm := (name_of_methodNamed Bd.named Bd.method).1
  have X0 : Stand p l e ({ frames := 4, cells := 0, slots := 0, locals := 53 } : Room) s m #[(.ref a0), (.int p1)] below meth c s₁ [] 0 0 := Stand.of_body Bd
  have e0 : s₁.heap = h0 := by rw [← hh, Bd.state]; rfl
  have N0 := Fr.nil n0
  show OwnEnd p e below s (fun v h L => QcL Z a0 p1 wc sx b kb z vs x h0 n0 v h L) ({ frames := 4, cells := 0, slots := 0, locals := 53 } : Room).cells ({ frames := 4, cells := 0, slots := 0, locals := 53 } : Room).slots (s₁.setTop (entryFrame m #[(.ref a0), (.int p1)] 2))
  rw [efcL m a0 p1]
  generalize hW : OwnEnd p e below s (fun v h L => QcL Z a0 p1 wc sx b kb z vs x h0 n0 v h L) ({ frames := 4, cells := 0, slots := 0, locals := 53 } : Room).cells ({ frames := 4, cells := 0, slots := 0, locals := 53 } : Room).slots = W
  have stp : ∀ {A B : State}, (∀ t, Steps p.tables e below B t → Steps p.tables e below A t) → W B → W A := by subst hW; exact own_step
  obtain ⟨S_cs, hcs, S_si, hr_sx, S_ad, S_hi, S_lo⟩ := id BW
  show W (s₁.setTop (mkF m 0 #[.val (.ref a0), .val (.int p1)] []))
  refine stp (fun t k => XS.aloadN X0.here hx rfl (hb hby dcL_0) rfl rfl k) ?_
  show W (s₁.setTop (mkF m 1 #[.val (.ref a0), .val (.int p1)] [(.ref a0)]))
  obtain ⟨cqcLc1, kqcLc1, qcLc1a, qcLc1b, qcLc1c⟩ := isOf hZ e0 E_a0
  obtain ⟨_, _, ⟨TcLc1, LcLc1, kcLc1, ncLc1⟩, -, XcLc1, ⟨LccLc1, hQcLc1, lcLc1, ycLc1, zcLc1⟩, stcLc1⟩ := X0.virtualBack hx (y := (⟨"java/lang/String", "isLatin1", "()Z"⟩ : MethodName)) (z := (⟨"java/lang/String", "isLatin1", "()Z"⟩ : MethodName)) hown (mvT hZ (hw _ (List.mem_of_getElem? (i := 66) rfl))) (mvT hZ (hw _ (List.mem_of_getElem? (i := 67) rfl))) (notFace_of_selects (args := #[]) (mvT hZ (hw _ (List.mem_of_getElem? (i := 69) rfl)))) (mvT hZ (hw _ (List.mem_of_getElem? (i := 69) rfl))) (mvT hZ (hw _ (List.mem_of_getElem? (i := 68) rfl))) (by decide) (backOf (W := 0) (rmil l Z aa hw [] a0 wc sx (0 : Int32) h0 n0 Z0 BW O0 F_coder_a0) hZ (hw _ (List.mem_of_getElem? (i := 70) rfl)) (hw _ (List.mem_of_getElem? (i := 6) rfl)) (by decide) (by decide)) qcLc1a qcLc1c (g := (mkF m 1 #[.val (.ref a0), .val (.int p1)] [(.ref a0)])) rfl (by rw [hml]; rfl) (Steps.refl _) (argsL := []) (rest := []) (lenOf pdcL_0 rfl) rfl (by show 2 * 0 + _ ≤ _; exact Nat.le_of_eq rfl) (hb hby dcL_1) (fun _ _ => ⟨rfl, e0, (by decide : 0 + 0 ≤ _), (by decide : 0 + 0 ≤ _)⟩)
  dsimp only [Pt.U, Pt.locs, Pt.cells, Pt.slots] at XcLc1 lcLc1 ycLc1 zcLc1 stcLc1 hQcLc1
  subst lcLc1 ycLc1 zcLc1
  obtain ⟨rfl, NcLc1q, ecLc1⟩ := hQcLc1
  have NcLc1 := Fr.app N0 NcLc1q
  obtain ⟨lccLt2, XcLc1, NcLc1⟩ : ∃ lc, Stand p l e ({ frames := 4, cells := 0, slots := 0, locals := 53 } : Room) s m #[(.ref a0), (.int p1)] below meth c TcLc1 lc 0 0 ∧ Fr n0 lc := ⟨_, XcLc1, NcLc1⟩
  refine stp (fun t k => stcLc1.trans k) ?_
  show W (TcLc1.setTop (mkF m 4 #[.val (.ref a0), .val (.int p1)] [(.int (fil (0 : Int32)))]))
  refine stp (fun t k => XS.ifNo XcLc1.here hx rfl (hb hby dcL_4) rfl ((if0 _ _).trans (feq (by decide)).1) k) ?_
  show W (TcLc1.setTop (mkF m 7 #[.val (.ref a0), .val (.int p1)] []))
  refine stp (fun t k => XS.aloadN XcLc1.here hx rfl (hb hby dcL_7) rfl rfl k) ?_
  show W (TcLc1.setTop (mkF m 8 #[.val (.ref a0), .val (.int p1)] [(.ref a0)]))
  obtain ⟨TcL3, XcL3, ecL3, stcL3⟩ := getF XcLc1 hx hZ hown (host := "") (Or.inl (hw _ (List.mem_of_getElem? (i := 24) rfl))) Via.refl ecLc1 F_value_a0 (g := (mkF m 8 #[.val (.ref a0), .val (.int p1)] [(.ref a0)])) rfl rfl (hb hby dcL_8)
  refine stp (fun t k => stcL3 t k) ?_
  show W (TcL3.setTop (mkF m 11 #[.val (.ref a0), .val (.int p1)] [(.ref b)]))
  refine stp (fun t k => XS.iloadN XcL3.here hx rfl (hb hby dcL_11) rfl k) ?_
  show W (TcL3.setTop (mkF m 12 #[.val (.ref a0), .val (.int p1)] [(.int p1), (.ref b)]))
  obtain ⟨_, _, ⟨TcLc4, LcLc4, kcLc4, ncLc4⟩, -, XcLc4, ⟨LccLc4, hQcLc4, lcLc4, ycLc4, zcLc4⟩, stcLc4⟩ := Jvm.LawKit.callS XcL3 hx (y := (⟨"java/lang/StringLatin1", "charAt", "([BI)C"⟩ : MethodName)) hown (mvT hZ (hw _ (List.mem_of_getElem? (i := 71) rfl))) (mvT hZ (hw _ (List.mem_of_getElem? (i := 72) rfl))) (mvT hZ (hw _ (List.mem_of_getElem? (i := 73) rfl))) (mvT hZ (hw _ (List.mem_of_getElem? (i := 74) rfl))) (by decide) (backOf (W := 0) (rmlc l Z aa hw [] b p1 wc sx kb z vs x h0 n0 Z0 BW O0 V_b hlo hhi hgx) hZ (hw _ (List.mem_of_getElem? (i := 74) rfl)) (hw _ (List.mem_of_getElem? (i := 73) rfl)) (by decide) (by decide)) (g := (mkF m 12 #[.val (.ref a0), .val (.int p1)] [(.int p1), (.ref b)])) rfl (by rw [hml]; rfl) (argsL := [(.ref b), (.int p1)]) (rest := []) (lenOf pdcL_1 rfl) rfl (by show 2 * 0 + _ ≤ _; exact Nat.le_of_eq rfl) (hb hby dcL_12) (fun _ _ => ⟨rfl, ecL3, (by decide : 0 + 0 ≤ _), (by decide : 0 + 0 ≤ _)⟩)
  dsimp only [Pt.U, Pt.locs, Pt.cells, Pt.slots] at XcLc4 lcLc4 ycLc4 zcLc4 stcLc4 hQcLc4
  subst lcLc4 ycLc4 zcLc4
  obtain ⟨rfl, NcLc4q, ecLc4⟩ := hQcLc4
  have NcLc4 := Fr.app NcLc1 NcLc4q
  obtain ⟨lccLt5, XcLc4, NcLc4⟩ : ∃ lc, Stand p l e ({ frames := 4, cells := 0, slots := 0, locals := 53 } : Room) s m #[(.ref a0), (.int p1)] below meth c TcLc4 lc 0 0 ∧ Fr n0 lc := ⟨_, XcLc4, NcLc4⟩
  refine stp (fun t k => stcLc4 t k) ?_
  show W (TcLc4.setTop (mkF m 15 #[.val (.ref a0), .val (.int p1)] [(.int (flc x))]))
  show W (TcLc4.setTop (mkF m 15 #[.val (.ref a0), .val (.int p1)] [(.int (flc x))]))
  rw [← hW]
  exact own_retN XcLc4 hx Bd.notSynchronized Bd.returns (w := (nar .char (flc x))) (by simp) (hb hby dcL_15) rfl (by show QcL Z a0 p1 wc sx b kb z vs x h0 n0 _ TcLc4.heap _; rw [ecLc4]; exact ⟨rfl, NcLc4, rfl⟩) (by decide) (by decide)
theorem dcU_0 : decode jdk_42_method_56_code 0 = .ok (.aload_n 0, 1) := by decide +kernel
theorem dcU_1 : decode jdk_42_method_56_code 1 = .ok (.invokevirtual 492, 3) := by decide +kernel
theorem dcU_4 : decode jdk_42_method_56_code 4 = .ok (.ifCond .eq 12, 3) := by decide +kernel
theorem dcU_16 : decode jdk_42_method_56_code 16 = .ok (.aload_n 0, 1) := by decide +kernel
theorem dcU_17 : decode jdk_42_method_56_code 17 = .ok (.getfield 9, 3) := by decide +kernel
theorem dcU_20 : decode jdk_42_method_56_code 20 = .ok (.iload_n 1, 1) := by decide +kernel
theorem dcU_21 : decode jdk_42_method_56_code 21 = .ok (.invokestatic 498, 3) := by decide +kernel
theorem dcU_24 : decode jdk_42_method_56_code 24 = .ok (.ireturn, 1) := by decide +kernel
theorem pncU : plainName "java/lang/String" = true := by first | (simp [plainName, overriddenIn]; done) | decide +kernel
theorem pdcU_0 : parseMethodDescriptor "()Z" = some ⟨[], some .boolean⟩ := by decide +kernel
theorem pdcU_1 : parseMethodDescriptor "([BI)C" = some ⟨[(.array .byte), .int], some .char⟩ := by decide +kernel
theorem efcU (m : MethodId) (a0 : Addr) (p1 : Int32) : entryFrame m #[(.ref a0), (.int p1)] 2 = mkF m 0 #[.val (.ref a0), .val (.int p1)] [] := by first | (simp [entryFrame, mkF, argsToLocals, Value.category]; done) | rfl
def fcU (x : Int32) (y : Int32) : Int32 := (nar .char (fua x y))
def QcU (Z : State) (a0 : Addr) (p1 : Int32) (wc : Int32) (sx : Value) (b : Addr) (kb : ClassId) (z : Int32) (vs : List Value) (x : Int32) (y : Int32) (h0 : Heap) (n0 : Nat) (v : Option Value) (h : Heap) (L : List Loc) : Prop := v = some (.int (fcU x y)) ∧ Fr n0 L ∧ h = h0
set_option maxRecDepth 65536 in
set_option maxHeartbeats 40000000 in
theorem rmcU (l : Launch) (Z : State) (aa : Array Value) (hw : ∀ d ∈ tables_1, d.before aa Z = true) (ws : List Jvm.Cond) (a0 : Addr) (p1 : Int32) (wc : Int32) (sx : Value) (b : Addr) (kb : ClassId) (z : Int32) (vs : List Value) (x : Int32) (y : Int32) (h0 : Heap) (n0 : Nat) (Z0 : n0 ≤ h0.size) (BW : OwnW Z wc sx) (O0 : Old Z n0 h0) (E_a0 : Exa Z h0 a0 "java/lang/String") (F_value_a0 : Fld Z h0 a0 "java/lang/String" "value" "[B" (.ref b)) (F_coder_a0 : Fld Z h0 a0 "java/lang/String" "coder" "B" (.int (1 : Int32))) (V_b : Arv Z h0 b kb .byte z vs (.int (0 : Int32))) (hlo : ¬ p1 < (0 : Int32)) (hhi : p1 < (ful z)) (hi0 : ¬ (p1 <<< ((1 : Int32) &&& 31)) < 0 ∧ (p1 <<< ((1 : Int32) &&& 31)) < z) (hi1 : ¬ ((p1 <<< ((1 : Int32) &&& 31)) + (1 : Int32)) < 0 ∧ ((p1 <<< ((1 : Int32) &&& 31)) + (1 : Int32)) < z) (hg0 : vs.getD (p1 <<< ((1 : Int32) &&& 31)).toNatClampNeg (.int (0 : Int32)) = .int x) (hg1 : vs.getD ((p1 <<< ((1 : Int32) &&& 31)) + (1 : Int32)).toNatClampNeg (.int (0 : Int32)) = .int y) :
    MetFree l (⟨"java/lang/String", "charAt", "(I)C"⟩ : MethodName) (head1 (Jvm.Cond.code (⟨"java/lang/String", "charAt", "(I)C"⟩ : MethodName) jdk_42_method_56_code 2 (some .char) :: ws) ({ frames := 4, cells := 0, slots := 0, locals := 53 } : Room)) (fun a U => a = #[(.ref a0), (.int p1)] ∧ Z.Warmed39 U.vm ∧ U.heap = h0) (fun _ _ _ _ _ => True) (fun _ U o U' => ∃ v L, o = .returned v ∧ QcU Z a0 p1 wc sx b kb z vs x y h0 n0 v U'.heap L ∧ FrameEnd U o U' L ({ frames := 4, cells := 0, slots := 0, locals := 53 } : Room).cells ({ frames := 4, cells := 0, slots := 0, locals := 53 } : Room).slots) := by
  refine MetFree.of_bodySF (plainFor_of_name pncU) hisR ?_
  intro p e s m args below meth c s₁ Bd hml0 hP hK
  obtain ⟨rfl, hZ, hh⟩ := hP
  have hx := Bd.exec
  have hby := Bd.bytes
  have hml : c.maxLocals = 2 := hml0
  have hown : s.vm.findClass "java/lang/String" = some m.cls := findClass_of_methodNamed Bd.named
  have hnm := (name_of_methodNamed Bd.named Bd.method).1
  have X0 : Stand p l e ({ frames := 4, cells := 0, slots := 0, locals := 53 } : Room) s m #[(.ref a0), (.int p1)] below meth c s₁ [] 0 0 := Stand.of_body Bd
  have e0 : s₁.heap = h0 := by rw [← hh, Bd.state]; rfl
  have N0 := Fr.nil n0
  show OwnEnd p e below s (fun v h L => QcU Z a0 p1 wc sx b kb z vs x y h0 n0 v h L) ({ frames := 4, cells := 0, slots := 0, locals := 53 } : Room).cells ({ frames := 4, cells := 0, slots := 0, locals := 53 } : Room).slots (s₁.setTop (entryFrame m #[(.ref a0), (.int p1)] 2))
  rw [efcU m a0 p1]
  generalize hW : OwnEnd p e below s (fun v h L => QcU Z a0 p1 wc sx b kb z vs x y h0 n0 v h L) ({ frames := 4, cells := 0, slots := 0, locals := 53 } : Room).cells ({ frames := 4, cells := 0, slots := 0, locals := 53 } : Room).slots = W
  have stp : ∀ {A B : State}, (∀ t, Steps p.tables e below B t → Steps p.tables e below A t) → W B → W A := by subst hW; exact own_step
  obtain ⟨S_cs, hcs, S_si, hr_sx, S_ad, S_hi, S_lo⟩ := id BW
  show W (s₁.setTop (mkF m 0 #[.val (.ref a0), .val (.int p1)] []))
  refine stp (fun t k => XS.aloadN X0.here hx rfl (hb hby dcU_0) rfl rfl k) ?_
  show W (s₁.setTop (mkF m 1 #[.val (.ref a0), .val (.int p1)] [(.ref a0)]))
  obtain ⟨cqcUc1, kqcUc1, qcUc1a, qcUc1b, qcUc1c⟩ := isOf hZ e0 E_a0
  obtain ⟨_, _, ⟨TcUc1, LcUc1, kcUc1, ncUc1⟩, -, XcUc1, ⟨LccUc1, hQcUc1, lcUc1, ycUc1, zcUc1⟩, stcUc1⟩ := X0.virtualBack hx (y := (⟨"java/lang/String", "isLatin1", "()Z"⟩ : MethodName)) (z := (⟨"java/lang/String", "isLatin1", "()Z"⟩ : MethodName)) hown (mvT hZ (hw _ (List.mem_of_getElem? (i := 66) rfl))) (mvT hZ (hw _ (List.mem_of_getElem? (i := 67) rfl))) (notFace_of_selects (args := #[]) (mvT hZ (hw _ (List.mem_of_getElem? (i := 69) rfl)))) (mvT hZ (hw _ (List.mem_of_getElem? (i := 69) rfl))) (mvT hZ (hw _ (List.mem_of_getElem? (i := 68) rfl))) (by decide) (backOf (W := 0) (rmil l Z aa hw [] a0 wc sx (1 : Int32) h0 n0 Z0 BW O0 F_coder_a0) hZ (hw _ (List.mem_of_getElem? (i := 70) rfl)) (hw _ (List.mem_of_getElem? (i := 6) rfl)) (by decide) (by decide)) qcUc1a qcUc1c (g := (mkF m 1 #[.val (.ref a0), .val (.int p1)] [(.ref a0)])) rfl (by rw [hml]; rfl) (Steps.refl _) (argsL := []) (rest := []) (lenOf pdcU_0 rfl) rfl (by show 2 * 0 + _ ≤ _; exact Nat.le_of_eq rfl) (hb hby dcU_1) (fun _ _ => ⟨rfl, e0, (by decide : 0 + 0 ≤ _), (by decide : 0 + 0 ≤ _)⟩)
  dsimp only [Pt.U, Pt.locs, Pt.cells, Pt.slots] at XcUc1 lcUc1 ycUc1 zcUc1 stcUc1 hQcUc1
  subst lcUc1 ycUc1 zcUc1
  obtain ⟨rfl, NcUc1q, ecUc1⟩ := hQcUc1
  have NcUc1 := Fr.app N0 NcUc1q
  obtain ⟨lccUt2, XcUc1, NcUc1⟩ : ∃ lc, Stand p l e ({ frames := 4, cells := 0, slots := 0, locals := 53 } : Room) s m #[(.ref a0), (.int p1)] below meth c TcUc1 lc 0 0 ∧ Fr n0 lc := ⟨_, XcUc1, NcUc1⟩
  refine stp (fun t k => stcUc1.trans k) ?_
  show W (TcUc1.setTop (mkF m 4 #[.val (.ref a0), .val (.int p1)] [(.int (fil (1 : Int32)))]))
  refine stp (fun t k => XS.ifYes XcUc1.here hx rfl (pc0 := 4) (pc' := 16) rfl (hb hby dcU_4) rfl ((if0 _ _).trans (teq (by decide)).1) (by decide) (by decide) k) ?_
  show W (TcUc1.setTop (mkF m 16 #[.val (.ref a0), .val (.int p1)] []))
  refine stp (fun t k => XS.aloadN XcUc1.here hx rfl (hb hby dcU_16) rfl rfl k) ?_
  show W (TcUc1.setTop (mkF m 17 #[.val (.ref a0), .val (.int p1)] [(.ref a0)]))
  obtain ⟨TcU3, XcU3, ecU3, stcU3⟩ := getF XcUc1 hx hZ hown (host := "") (Or.inl (hw _ (List.mem_of_getElem? (i := 24) rfl))) Via.refl ecUc1 F_value_a0 (g := (mkF m 17 #[.val (.ref a0), .val (.int p1)] [(.ref a0)])) rfl rfl (hb hby dcU_17)
  refine stp (fun t k => stcU3 t k) ?_
  show W (TcU3.setTop (mkF m 20 #[.val (.ref a0), .val (.int p1)] [(.ref b)]))
  refine stp (fun t k => XS.iloadN XcU3.here hx rfl (hb hby dcU_20) rfl k) ?_
  show W (TcU3.setTop (mkF m 21 #[.val (.ref a0), .val (.int p1)] [(.int p1), (.ref b)]))
  obtain ⟨_, _, ⟨TcUc4, LcUc4, kcUc4, ncUc4⟩, -, XcUc4, ⟨LccUc4, hQcUc4, lcUc4, ycUc4, zcUc4⟩, stcUc4⟩ := Jvm.LawKit.callS XcU3 hx (y := (⟨"java/lang/StringUTF16", "charAt", "([BI)C"⟩ : MethodName)) hown (mvT hZ (hw _ (List.mem_of_getElem? (i := 105) rfl))) (mvT hZ (hw _ (List.mem_of_getElem? (i := 106) rfl))) (mvT hZ (hw _ (List.mem_of_getElem? (i := 47) rfl))) (mvT hZ (hw _ (List.mem_of_getElem? (i := 107) rfl))) (by decide) (backOf (W := 0) (rmua l Z aa hw [] b p1 wc sx kb z vs x y h0 n0 Z0 BW O0 V_b hlo hhi hi0 hi1 hg0 hg1) hZ (hw _ (List.mem_of_getElem? (i := 107) rfl)) (hw _ (List.mem_of_getElem? (i := 47) rfl)) (by decide) (by decide)) (g := (mkF m 21 #[.val (.ref a0), .val (.int p1)] [(.int p1), (.ref b)])) rfl (by rw [hml]; rfl) (argsL := [(.ref b), (.int p1)]) (rest := []) (lenOf pdcU_1 rfl) rfl (by show 2 * 0 + _ ≤ _; exact Nat.le_of_eq rfl) (hb hby dcU_21) (fun _ _ => ⟨rfl, ecU3, (by decide : 0 + 0 ≤ _), (by decide : 0 + 0 ≤ _)⟩)
  dsimp only [Pt.U, Pt.locs, Pt.cells, Pt.slots] at XcUc4 lcUc4 ycUc4 zcUc4 stcUc4 hQcUc4
  subst lcUc4 ycUc4 zcUc4
  obtain ⟨rfl, NcUc4q, ecUc4⟩ := hQcUc4
  have NcUc4 := Fr.app NcUc1 NcUc4q
  obtain ⟨lccUt5, XcUc4, NcUc4⟩ : ∃ lc, Stand p l e ({ frames := 4, cells := 0, slots := 0, locals := 53 } : Room) s m #[(.ref a0), (.int p1)] below meth c TcUc4 lc 0 0 ∧ Fr n0 lc := ⟨_, XcUc4, NcUc4⟩
  refine stp (fun t k => stcUc4 t k) ?_
  show W (TcUc4.setTop (mkF m 24 #[.val (.ref a0), .val (.int p1)] [(.int (fua x y))]))
  show W (TcUc4.setTop (mkF m 24 #[.val (.ref a0), .val (.int p1)] [(.int (fua x y))]))
  rw [← hW]
  exact own_retN XcUc4 hx Bd.notSynchronized Bd.returns (w := (nar .char (fua x y))) (by simp) (hb hby dcU_24) rfl (by show QcU Z a0 p1 wc sx b kb z vs x y h0 n0 _ TcUc4.heap _; rw [ecUc4]; exact ⟨rfl, NcUc4, rfl⟩) (by decide) (by decide)
theorem own_narC {c : Int32} (h0 : 0 ≤ c.toInt) (h1 : c.toInt < 65536) : nar .char c = c := own_i2c h0 h1
theorem own_fcL {c : Int32} (h0 : 0 ≤ c.toInt) (h1 : c.toInt < 256) : fcL (own_b c) = c := by
  have e : flc (own_b c) = c := by
    show nar .char (own_cL (own_b c)) = c
    rw [own_decL h0 h1, own_narC h0 (by omega)]
  show nar .char (flc (own_b c)) = c
  rw [e, own_narC h0 (by omega)]
theorem own_fgc {c : Int32} (h0 : 0 ≤ c.toInt) (h1 : c.toInt < 65536) : fgc (own_lo c) (own_hi c) = c := by
  show nar .char (own_cU (own_lo c) (own_hi c)) = c
  rw [own_decU h0 h1, own_narC h0 h1]
theorem own_fcU {c : Int32} (h0 : 0 ≤ c.toInt) (h1 : c.toInt < 65536) : fcU (own_lo c) (own_hi c) = c := by
  have e : fua (own_lo c) (own_hi c) = c := by
    show nar .char (fgc (own_lo c) (own_hi c)) = c
    rw [own_fgc h0 h1, own_narC h0 h1]
  show nar .char (fua (own_lo c) (own_hi c)) = c
  rw [e, own_narC h0 h1]
theorem own_u0 (g : Nat → Int32) (i : Nat) : own_u g (2 * i) = own_lo (g i) := by
  unfold own_u
  rw [if_pos (by omega), show 2 * i / 2 = i from by omega]
theorem own_u1 (g : Nat → Int32) (i : Nat) : own_u g (2 * i + 1) = own_hi (g i) := by
  unfold own_u
  rw [if_neg (by omega), show (2 * i + 1) / 2 = i from by omega]
/-- charAt on a String whose chars are known -/
def QcA (Z : State) (a0_ : Addr) (p1 : Int32) (g : Nat → Int32) (i : Nat) (h0 : Heap) (n0 : Nat) (v : Option Value) (h : Heap) (L : List Loc) : Prop := v = some (.int (g i)) ∧ Fr n0 L ∧ h = h0
theorem rmcA (l : Launch) (Z : State) (aa : Array Value) (hw : ∀ d ∈ tables_1, d.before aa Z = true) (ws : List Jvm.Cond) (a0_ : Addr) (p1 : Int32) (wc : Int32) (sx : Value) (b : Addr) (n : Nat) (g : Nat → Int32) (i : Nat) (h0 : Heap) (n0 : Nat) (Z0 : n0 ≤ h0.size) (BW : OwnW Z wc sx) (O0 : Old Z n0 h0) (S : OwnStr Z h0 a0_ b n g) (hn : n ≤ 4000) (hch : ∀ j, j < n → 0 ≤ (g j).toInt ∧ (g j).toInt < 65536) (hi : p1.toInt = i) (hlt : i < n) :
    MetFree l (⟨"java/lang/String", "charAt", "(I)C"⟩ : MethodName) (head1 (Jvm.Cond.code (⟨"java/lang/String", "charAt", "(I)C"⟩ : MethodName) jdk_42_method_56_code 2 (some .char) :: ws) ({ frames := 4, cells := 0, slots := 0, locals := 53 } : Room)) (fun a U => a = #[(.ref a0_), (.int p1)] ∧ Z.Warmed39 U.vm ∧ U.heap = h0) (fun _ _ _ _ _ => True) (fun _ U o U' => ∃ v L, o = .returned v ∧ QcA Z a0_ p1 g i h0 n0 v U'.heap L ∧ FrameEnd U o U' L ({ frames := 4, cells := 0, slots := 0, locals := 53 } : Room).cells ({ frames := 4, cells := 0, slots := 0, locals := 53 } : Room).slots) := by
  obtain ⟨E, F, ⟨C, q, k, V⟩ | ⟨C, k, V⟩⟩ := S
  · have hz := own_ofNat (n := n) (by omega)
    refine own_mono (rmcL l Z aa hw ws a0_ p1 wc sx b k (Int32.ofNat n) (own_vs n fun j => own_b (g j)) (own_b (g i)) h0 n0 Z0 BW O0 E F C V (own_nn hi) ((own_lt32 hi hz).mpr hlt) (by rw [own_clamp hi, own_vsGet hlt])) ?_
    rintro a s o t ⟨v, L, ho, ⟨hv, N, hh⟩, hF⟩
    exact ⟨v, L, ho, ⟨by rw [hv, own_fcL (hch i hlt).1 (q i hlt)], N, hh⟩, hF⟩
  · have e0 := own_shl1 hi (by omega)
    have e1 := own_inc e0 (by omega)
    have hz := own_ofNat (n := 2 * n) (by omega)
    refine own_mono (rmcU l Z aa hw ws a0_ p1 wc sx b k (Int32.ofNat (2 * n)) (own_vs (2 * n) (own_u g)) (own_lo (g i)) (own_hi (g i)) h0 n0 Z0 BW O0 E F C V (own_nn hi) (by show p1 < Int32.ofNat (2 * n) >>> ((1 : Int32) &&& 31); rw [own_shr1 (by omega)]; exact (own_lt32 hi (own_ofNat (by omega))).mpr hlt) ⟨own_nn e0, (own_lt32 e0 hz).mpr (by omega)⟩ ⟨own_nn e1, (own_lt32 e1 hz).mpr (by omega)⟩ (by rw [own_clamp e0, own_vsGet (by omega), own_u0]) (by rw [own_clamp e1, own_vsGet (by omega), own_u1])) ?_
    rintro a s o t ⟨v, L, ho, ⟨hv, N, hh⟩, hF⟩
    exact ⟨v, L, ho, ⟨by rw [hv, own_fcU (hch i hlt).1 (hch i hlt).2], N, hh⟩, hF⟩
theorem dln_0 : decode jdk_42_method_54_code 0 = .ok (.aload_n 0, 1) := by decide +kernel
theorem dln_1 : decode jdk_42_method_54_code 1 = .ok (.getfield 9, 3) := by decide +kernel
theorem dln_4 : decode jdk_42_method_54_code 4 = .ok (.arraylength, 1) := by decide +kernel
theorem dln_5 : decode jdk_42_method_54_code 5 = .ok (.aload_n 0, 1) := by decide +kernel
theorem dln_6 : decode jdk_42_method_54_code 6 = .ok (.invokevirtual 335, 3) := by decide +kernel
theorem dln_9 : decode jdk_42_method_54_code 9 = .ok (.ishr, 1) := by decide +kernel
theorem dln_10 : decode jdk_42_method_54_code 10 = .ok (.ireturn, 1) := by decide +kernel
theorem pnln : plainName "java/lang/String" = true := by first | (simp [plainName, overriddenIn]; done) | decide +kernel
theorem pdln_0 : parseMethodDescriptor "()B" = some ⟨[], some .byte⟩ := by decide +kernel
theorem efln (m : MethodId) (a0 : Addr) : entryFrame m #[(.ref a0)] 1 = mkF m 0 #[.val (.ref a0)] [] := by first | (simp [entryFrame, mkF, argsToLocals, Value.category]; done) | rfl
def fln (z : Int32) (cd : Int32) : Int32 := (z >>> ((fco cd) &&& 31))
def Qln (Z : State) (a0 : Addr) (wc : Int32) (sx : Value) (cd : Int32) (b : Addr) (kb : ClassId) (z : Int32) (vs : List Value) (h0 : Heap) (n0 : Nat) (v : Option Value) (h : Heap) (L : List Loc) : Prop := v = some (.int (fln z cd)) ∧ Fr n0 L ∧ h = h0
set_option maxRecDepth 65536 in
set_option maxHeartbeats 40000000 in
theorem rmln (l : Launch) (Z : State) (aa : Array Value) (hw : ∀ d ∈ tables_1, d.before aa Z = true) (ws : List Jvm.Cond) (a0 : Addr) (wc : Int32) (sx : Value) (cd : Int32) (b : Addr) (kb : ClassId) (z : Int32) (vs : List Value) (h0 : Heap) (n0 : Nat) (Z0 : n0 ≤ h0.size) (BW : OwnW Z wc sx) (O0 : Old Z n0 h0) (E_a0 : Exa Z h0 a0 "java/lang/String") (F_value_a0 : Fld Z h0 a0 "java/lang/String" "value" "[B" (.ref b)) (F_coder_a0 : Fld Z h0 a0 "java/lang/String" "coder" "B" (.int cd)) (V_b : Arv Z h0 b kb .byte z vs (.int (0 : Int32))) :
    MetFree l (⟨"java/lang/String", "length", "()I"⟩ : MethodName) (head1 (Jvm.Cond.code (⟨"java/lang/String", "length", "()I"⟩ : MethodName) jdk_42_method_54_code 1 (some .int) :: ws) ({ frames := 1, cells := 0, slots := 0, locals := 13 } : Room)) (fun a U => a = #[(.ref a0)] ∧ Z.Warmed39 U.vm ∧ U.heap = h0) (fun _ _ _ _ _ => True) (fun _ U o U' => ∃ v L, o = .returned v ∧ Qln Z a0 wc sx cd b kb z vs h0 n0 v U'.heap L ∧ FrameEnd U o U' L ({ frames := 1, cells := 0, slots := 0, locals := 13 } : Room).cells ({ frames := 1, cells := 0, slots := 0, locals := 13 } : Room).slots) := by
  refine MetFree.of_bodySF (plainFor_of_name pnln) hisR ?_
  intro p e s m args below meth c s₁ Bd hml0 hP hK
  obtain ⟨rfl, hZ, hh⟩ := hP
  have hx := Bd.exec
  have hby := Bd.bytes
  have hml : c.maxLocals = 1 := hml0
  have hown : s.vm.findClass "java/lang/String" = some m.cls := findClass_of_methodNamed Bd.named
  have hnm := (name_of_methodNamed Bd.named Bd.method).1
  have X0 : Stand p l e ({ frames := 1, cells := 0, slots := 0, locals := 13 } : Room) s m #[(.ref a0)] below meth c s₁ [] 0 0 := Stand.of_body Bd
  have e0 : s₁.heap = h0 := by rw [← hh, Bd.state]; rfl
  have N0 := Fr.nil n0
  show OwnEnd p e below s (fun v h L => Qln Z a0 wc sx cd b kb z vs h0 n0 v h L) ({ frames := 1, cells := 0, slots := 0, locals := 13 } : Room).cells ({ frames := 1, cells := 0, slots := 0, locals := 13 } : Room).slots (s₁.setTop (entryFrame m #[(.ref a0)] 1))
  rw [efln m a0]
  generalize hW : OwnEnd p e below s (fun v h L => Qln Z a0 wc sx cd b kb z vs h0 n0 v h L) ({ frames := 1, cells := 0, slots := 0, locals := 13 } : Room).cells ({ frames := 1, cells := 0, slots := 0, locals := 13 } : Room).slots = W
  have stp : ∀ {A B : State}, (∀ t, Steps p.tables e below B t → Steps p.tables e below A t) → W B → W A := by subst hW; exact own_step
  obtain ⟨S_cs, hcs, S_si, hr_sx, S_ad, S_hi, S_lo⟩ := id BW
  show W (s₁.setTop (mkF m 0 #[.val (.ref a0)] []))
  refine stp (fun t k => XS.aloadN X0.here hx rfl (hb hby dln_0) rfl rfl k) ?_
  show W (s₁.setTop (mkF m 1 #[.val (.ref a0)] [(.ref a0)]))
  obtain ⟨Tln1, Xln1, eln1, stln1⟩ := getF X0 hx hZ hown (host := "") (Or.inl (hw _ (List.mem_of_getElem? (i := 24) rfl))) Via.refl e0 F_value_a0 (g := (mkF m 1 #[.val (.ref a0)] [(.ref a0)])) rfl rfl (hb hby dln_1)
  refine stp (fun t k => stln1 t k) ?_
  show W (Tln1.setTop (mkF m 4 #[.val (.ref a0)] [(.ref b)]))
  obtain ⟨clln2, Arln2, qkln2, qsln2, qnln2, qhln2, qgln2⟩ := id V_b
  refine stp (fun t k => Xln1.arraylength hx (by rw [eln1]; exact Arln2.1) (State.isArrayOf_alike hZ.alike Arln2.2.1) (g := (mkF m 4 #[.val (.ref a0)] [(.ref b)])) rfl rfl (hb hby dln_4) _ k) ?_
  rw [len_of qsln2 qnln2]
  show W (Tln1.setTop (mkF m 5 #[.val (.ref a0)] [(.int z)]))
  refine stp (fun t k => XS.aloadN Xln1.here hx rfl (hb hby dln_5) rfl rfl k) ?_
  show W (Tln1.setTop (mkF m 6 #[.val (.ref a0)] [(.ref a0), (.int z)]))
  obtain ⟨cqlnc3, kqlnc3, qlnc3a, qlnc3b, qlnc3c⟩ := isOf hZ eln1 E_a0
  obtain ⟨_, _, ⟨Tlnc3, Llnc3, klnc3, nlnc3⟩, -, Xlnc3, ⟨Lclnc3, hQlnc3, llnc3, ylnc3, zlnc3⟩, stlnc3⟩ := Xln1.virtualBack hx (y := (⟨"java/lang/String", "coder", "()B"⟩ : MethodName)) (z := (⟨"java/lang/String", "coder", "()B"⟩ : MethodName)) hown (mvT hZ (hw _ (List.mem_of_getElem? (i := 39) rfl))) (mvT hZ (hw _ (List.mem_of_getElem? (i := 40) rfl))) (notFace_of_selects (args := #[]) (mvT hZ (hw _ (List.mem_of_getElem? (i := 42) rfl)))) (mvT hZ (hw _ (List.mem_of_getElem? (i := 42) rfl))) (mvT hZ (hw _ (List.mem_of_getElem? (i := 41) rfl))) (by decide) (backOf (W := 1) (rmco l Z aa hw [] a0 wc sx cd h0 n0 Z0 BW O0 F_coder_a0) hZ (hw _ (List.mem_of_getElem? (i := 43) rfl)) (hw _ (List.mem_of_getElem? (i := 6) rfl)) (by decide) (by decide)) qlnc3a qlnc3c (g := (mkF m 6 #[.val (.ref a0)] [(.ref a0), (.int z)])) rfl (by rw [hml]; rfl) (Steps.refl _) (argsL := []) (rest := [(.int z)]) (lenOf pdln_0 rfl) rfl (by show 2 * 0 + _ ≤ _; exact Nat.le_of_eq rfl) (hb hby dln_6) (fun _ _ => ⟨rfl, eln1, (by decide : 0 + 0 ≤ _), (by decide : 0 + 0 ≤ _)⟩)
  dsimp only [Pt.U, Pt.locs, Pt.cells, Pt.slots] at Xlnc3 llnc3 ylnc3 zlnc3 stlnc3 hQlnc3
  subst llnc3 ylnc3 zlnc3
  obtain ⟨rfl, Nlnc3q, elnc3⟩ := hQlnc3
  have Nlnc3 := Fr.app N0 Nlnc3q
  obtain ⟨lclnt4, Xlnc3, Nlnc3⟩ : ∃ lc, Stand p l e ({ frames := 1, cells := 0, slots := 0, locals := 13 } : Room) s m #[(.ref a0)] below meth c Tlnc3 lc 0 0 ∧ Fr n0 lc := ⟨_, Xlnc3, Nlnc3⟩
  refine stp (fun t k => stlnc3.trans k) ?_
  show W (Tlnc3.setTop (mkF m 9 #[.val (.ref a0)] [(.int (fco cd)), (.int z)]))
  refine stp (fun t k => XS.ishr Xlnc3.here hx rfl (hb hby dln_9) rfl k) ?_
  show W (Tlnc3.setTop (mkF m 10 #[.val (.ref a0)] [(.int (z >>> ((fco cd) &&& 31)))]))
  show W (Tlnc3.setTop (mkF m 10 #[.val (.ref a0)] [(.int (z >>> ((fco cd) &&& 31)))]))
  rw [← hW]
  exact own_retI Xlnc3 hx Bd.notSynchronized Bd.returns (hb hby dln_10) (by show Qln Z a0 wc sx cd b kb z vs h0 n0 _ Tlnc3.heap _; rw [elnc3]; exact ⟨rfl, Nlnc3, rfl⟩) (by decide) (by decide)
theorem own_fln0 (z : Int32) : fln z (0 : Int32) = z := by
  show z >>> (nar .byte (0 : Int32) &&& 31) = z
  exact own_shr0 z
theorem own_fln1 {n : Nat} (hn : n ≤ 1000000) : fln (Int32.ofNat (2 * n)) (1 : Int32) = Int32.ofNat n := by
  show Int32.ofNat (2 * n) >>> (nar .byte (1 : Int32) &&& 31) = Int32.ofNat n
  exact own_shr1 hn
def QlA (Z : State) (a0_ : Addr) (n : Nat) (h0 : Heap) (n0 : Nat) (v : Option Value) (h : Heap) (L : List Loc) : Prop := v = some (.int (Int32.ofNat n)) ∧ Fr n0 L ∧ h = h0
theorem rmlA (l : Launch) (Z : State) (aa : Array Value) (hw : ∀ d ∈ tables_1, d.before aa Z = true) (ws : List Jvm.Cond) (a0_ : Addr) (wc : Int32) (sx : Value) (b : Addr) (n : Nat) (g : Nat → Int32) (h0 : Heap) (n0 : Nat) (Z0 : n0 ≤ h0.size) (BW : OwnW Z wc sx) (O0 : Old Z n0 h0) (S : OwnStr Z h0 a0_ b n g) (hn : n ≤ 4000) :
    MetFree l (⟨"java/lang/String", "length", "()I"⟩ : MethodName) (head1 (Jvm.Cond.code (⟨"java/lang/String", "length", "()I"⟩ : MethodName) jdk_42_method_54_code 1 (some .int) :: ws) ({ frames := 1, cells := 0, slots := 0, locals := 13 } : Room)) (fun a U => a = #[(.ref a0_)] ∧ Z.Warmed39 U.vm ∧ U.heap = h0) (fun _ _ _ _ _ => True) (fun _ U o U' => ∃ v L, o = .returned v ∧ QlA Z a0_ n h0 n0 v U'.heap L ∧ FrameEnd U o U' L ({ frames := 1, cells := 0, slots := 0, locals := 13 } : Room).cells ({ frames := 1, cells := 0, slots := 0, locals := 13 } : Room).slots) := by
  obtain ⟨E, F, ⟨C, q, k, V⟩ | ⟨C, k, V⟩⟩ := S
  · refine own_mono (rmln l Z aa hw ws a0_ wc sx (0 : Int32) b k (Int32.ofNat n) (own_vs n fun j => own_b (g j)) h0 n0 Z0 BW O0 E F C V) ?_
    rintro a s o t ⟨v, L, ho, ⟨hv, N, hh⟩, hF⟩
    exact ⟨v, L, ho, ⟨by rw [hv, own_fln0], N, hh⟩, hF⟩
  · refine own_mono (rmln l Z aa hw ws a0_ wc sx (1 : Int32) b k (Int32.ofNat (2 * n)) (own_vs (2 * n) (own_u g)) h0 n0 Z0 BW O0 E F C V) ?_
    rintro a s o t ⟨v, L, ho, ⟨hv, N, hh⟩, hF⟩
    exact ⟨v, L, ho, ⟨by rw [hv, own_fln1 (by omega)], N, hh⟩, hF⟩
theorem own_c256 {c : Int32} (h : ¬ ((255 : Int32) < c)) : c.toInt < 256 := by
  rw [Int32.lt_iff_toInt_lt, show (255 : Int32).toInt = 255 from by decide] at h; omega
theorem own_c255 {c : Int32} (h : (255 : Int32) < c) : 256 ≤ c.toInt := by
  rw [Int32.lt_iff_toInt_lt, show (255 : Int32).toInt = 255 from by decide] at h; omega
theorem own_step1 (n i : Nat) (g : Nat → Int32) : (own_vs n fun j => if j < i then own_b (g j) else (0 : Int32)).set i (.int (own_b (g i))) = own_vs n fun j => if j < i + 1 then own_b (g j) else (0 : Int32) := by
  rw [own_vsSet]
  apply own_vsCongr
  intro j _
  by_cases h : j = i
  · subst h; simp
  · by_cases h2 : j < i
    · simp [h, h2, Nat.lt_succ_of_lt h2]
    · have h3 : ¬ j < i + 1 := by omega
      simp [h, h2, h3]
theorem dk1_0 : decode jdk_52_method_21_code 0 = .ok (.iconst 0, 1) := by decide +kernel
theorem dk1_1 : decode jdk_52_method_21_code 1 = .ok (.istore 5, 2) := by decide +kernel
theorem dk1_3 : decode jdk_52_method_21_code 3 = .ok (.iload 5, 2) := by decide +kernel
theorem dk1_5 : decode jdk_52_method_21_code 5 = .ok (.iload 4, 2) := by decide +kernel
theorem dk1_7 : decode jdk_52_method_21_code 7 = .ok (.if_icmp .ge 37, 3) := by decide +kernel
theorem dk1_10 : decode jdk_52_method_21_code 10 = .ok (.aload_n 0, 1) := by decide +kernel
theorem dk1_11 : decode jdk_52_method_21_code 11 = .ok (.iload_n 1, 1) := by decide +kernel
theorem dk1_12 : decode jdk_52_method_21_code 12 = .ok (.caload, 1) := by decide +kernel
theorem dk1_13 : decode jdk_52_method_21_code 13 = .ok (.istore 6, 2) := by decide +kernel
theorem dk1_15 : decode jdk_52_method_21_code 15 = .ok (.iload 6, 2) := by decide +kernel
theorem dk1_17 : decode jdk_52_method_21_code 17 = .ok (.sipush 255, 3) := by decide +kernel
theorem dk1_20 : decode jdk_52_method_21_code 20 = .ok (.if_icmp .le 6, 3) := by decide +kernel
theorem dk1_23 : decode jdk_52_method_21_code 23 = .ok (.iload 5, 2) := by decide +kernel
theorem dk1_25 : decode jdk_52_method_21_code 25 = .ok (.ireturn, 1) := by decide +kernel
theorem dk1_26 : decode jdk_52_method_21_code 26 = .ok (.aload_n 2, 1) := by decide +kernel
theorem dk1_27 : decode jdk_52_method_21_code 27 = .ok (.iload_n 3, 1) := by decide +kernel
theorem dk1_28 : decode jdk_52_method_21_code 28 = .ok (.iload 6, 2) := by decide +kernel
theorem dk1_30 : decode jdk_52_method_21_code 30 = .ok (.i2b, 1) := by decide +kernel
theorem dk1_31 : decode jdk_52_method_21_code 31 = .ok (.bastore, 1) := by decide +kernel
theorem dk1_32 : decode jdk_52_method_21_code 32 = .ok (.iinc 1 1, 3) := by decide +kernel
theorem dk1_35 : decode jdk_52_method_21_code 35 = .ok (.iinc 3 1, 3) := by decide +kernel
theorem dk1_38 : decode jdk_52_method_21_code 38 = .ok (.iinc 5 1, 3) := by decide +kernel
theorem dk1_41 : decode jdk_52_method_21_code 41 = .ok (.goto (-38), 3) := by decide +kernel
theorem dk1_44 : decode jdk_52_method_21_code 44 = .ok (.iload 4, 2) := by decide +kernel
theorem dk1_46 : decode jdk_52_method_21_code 46 = .ok (.ireturn, 1) := by decide +kernel
theorem pnk1 : plainName "java/lang/StringUTF16" = true := by first | (simp [plainName, overriddenIn]; done) | decide +kernel
theorem efk1 (m : MethodId) (a0 : Addr) (p1 : Int32) (a2 : Addr) (p3 : Int32) (p4 : Int32) : entryFrame m #[(.ref a0), (.int p1), (.ref a2), (.int p3), (.int p4)] 7 = mkF m 0 #[.val (.ref a0), .val (.int p1), .val (.ref a2), .val (.int p3), .val (.int p4), .unset, .unset] [] := by first | (simp [entryFrame, mkF, argsToLocals, Value.category]; done) | rfl
def Qk1 (Z : State) (a0 : Addr) (p1 : Int32) (a2 : Addr) (p3 : Int32) (p4 : Int32) (wc : Int32) (sx : Value) (n : Nat) (g : Nat → Int32) (ka : ClassId) (kb : ClassId) (h0 : Heap) (n0 : Nat) (v : Option Value) (h : Heap) (L : List Loc) : Prop := ∃ r : Int32, v = some (.int r) ∧ Fr n0 L ∧ Keep h0 h [a2] ∧ ((r = (Int32.ofNat n) ∧ (∀ j, j < n → (g j).toInt < 256) ∧ Arv Z h a2 kb .byte (Int32.ofNat n) (own_vs n fun j => own_b (g j)) (.int (0 : Int32))) ∨ ∃ i, i < n ∧ r.toInt = (i : Int) ∧ 256 ≤ (g i).toInt)
set_option maxRecDepth 65536 in
set_option maxHeartbeats 40000000 in
theorem rmk1 (l : Launch) (Z : State) (aa : Array Value) (hw : ∀ d ∈ tables_1, d.before aa Z = true) (ws : List Jvm.Cond) (a0 : Addr) (p1 : Int32) (a2 : Addr) (p3 : Int32) (p4 : Int32) (wc : Int32) (sx : Value) (n : Nat) (g : Nat → Int32) (ka : ClassId) (kb : ClassId) (h0 : Heap) (n0 : Nat) (Z0 : n0 ≤ h0.size) (BW : OwnW Z wc sx) (O0 : Old Z n0 h0) (hn : n ≤ 4) (hch : ∀ j, j < n → 0 ≤ (g j).toInt ∧ (g j).toInt < 65536) (V_a0 : Arv Z h0 a0 ka .char (Int32.ofNat n) (own_vs n g) (.int (0 : Int32))) (V_a2 : Arv Z h0 a2 kb .byte (Int32.ofNat n) (own_vs n fun _ => (0 : Int32)) (.int (0 : Int32))) (ne_a0_a2 : a0 ≠ a2) (g_a2 : n0 ≤ a2) (hp1 : p1 = (0 : Int32)) (hp3 : p3 = (0 : Int32)) (hp4 : p4 = (Int32.ofNat n)) :
    MetFree l (⟨"java/lang/StringUTF16", "compress", "([CI[BII)I"⟩ : MethodName) (head1 (Jvm.Cond.code (⟨"java/lang/StringUTF16", "compress", "([CI[BII)I"⟩ : MethodName) jdk_52_method_21_code 7 (some .int) :: ws) ({ frames := 0, cells := 0, slots := 0, locals := 0 } : Room)) (fun a U => a = #[(.ref a0), (.int p1), (.ref a2), (.int p3), (.int p4)] ∧ Z.Warmed39 U.vm ∧ U.heap = h0) (fun _ _ _ _ _ => True) (fun _ U o U' => ∃ v L, o = .returned v ∧ Qk1 Z a0 p1 a2 p3 p4 wc sx n g ka kb h0 n0 v U'.heap L ∧ FrameEnd U o U' L ({ frames := 0, cells := 0, slots := 0, locals := 0 } : Room).cells ({ frames := 0, cells := 0, slots := 0, locals := 0 } : Room).slots) := by
  refine MetFree.of_bodySF (plainFor_of_name pnk1) hisR ?_
  intro p e s m args below meth c s₁ Bd hml0 hP hK
  obtain ⟨rfl, hZ, hh⟩ := hP
  have hx := Bd.exec
  have hby := Bd.bytes
  have hml : c.maxLocals = 7 := hml0
  have hown : s.vm.findClass "java/lang/StringUTF16" = some m.cls := findClass_of_methodNamed Bd.named
  have hnm := (name_of_methodNamed Bd.named Bd.method).1
  have X0 : Stand p l e ({ frames := 0, cells := 0, slots := 0, locals := 0 } : Room) s m #[(.ref a0), (.int p1), (.ref a2), (.int p3), (.int p4)] below meth c s₁ [] 0 0 := Stand.of_body Bd
  have e0 : s₁.heap = h0 := by rw [← hh, Bd.state]; rfl
  have N0 := Fr.nil n0
  show OwnEnd p e below s (fun v h L => Qk1 Z a0 p1 a2 p3 p4 wc sx n g ka kb h0 n0 v h L) ({ frames := 0, cells := 0, slots := 0, locals := 0 } : Room).cells ({ frames := 0, cells := 0, slots := 0, locals := 0 } : Room).slots (s₁.setTop (entryFrame m #[(.ref a0), (.int p1), (.ref a2), (.int p3), (.int p4)] 7))
  rw [efk1 m a0 p1 a2 p3 p4]
  generalize hW : OwnEnd p e below s (fun v h L => Qk1 Z a0 p1 a2 p3 p4 wc sx n g ka kb h0 n0 v h L) ({ frames := 0, cells := 0, slots := 0, locals := 0 } : Room).cells ({ frames := 0, cells := 0, slots := 0, locals := 0 } : Room).slots = W
  have stp : ∀ {A B : State}, (∀ t, Steps p.tables e below B t → Steps p.tables e below A t) → W B → W A := by subst hW; exact own_step
  obtain ⟨S_cs, hcs, S_si, hr_sx, S_ad, S_hi, S_lo⟩ := id BW
  have hz := own_ofNat (n := n) (by omega)
  subst hp1 hp3 hp4
  show W (s₁.setTop (mkF m 0 #[.val (.ref a0), .val (.int (0 : Int32)), .val (.ref a2), .val (.int (0 : Int32)), .val (.int (Int32.ofNat n)), .unset, .unset] []))
  refine stp (fun t k => XS.iconst X0.here hx rfl (hb hby dk1_0) k) ?_
  show W (s₁.setTop (mkF m 1 #[.val (.ref a0), .val (.int (0 : Int32)), .val (.ref a2), .val (.int (0 : Int32)), .val (.int (Int32.ofNat n)), .unset, .unset] [(.int (0 : Int32))]))
  refine stp (fun t k => XS.istore X0.here hx rfl (hb hby dk1_1) rfl (l' := #[.val (.ref a0), .val (.int (0 : Int32)), .val (.ref a2), .val (.int (0 : Int32)), .val (.int (Int32.ofNat n)), .val (.int (0 : Int32)), .unset]) rfl k) ?_
  have LP : ∀ (r i : Nat) (x1 : Int32) (x3 : Int32) (x5 : Int32) (s6 : Slot) (T' : State) (lc : List Loc) (h' : Heap) (hir : i + r = n) (hx1 : x1.toInt = (i : Int)) (hx3 : x3.toInt = (i : Int)) (hx5 : x5.toInt = (i : Int)) (hs6 : One s6) (hlat : ∀ j, j < i → (g j).toInt < 256) (XL : Stand p l e ({ frames := 0, cells := 0, slots := 0, locals := 0 } : Room) s m #[(.ref a0), (.int (0 : Int32)), (.ref a2), (.int (0 : Int32)), (.int (Int32.ofNat n))] below meth c T' lc 0 0) (eL : T'.heap = h') (NL : Fr n0 lc) (KL : Keep h0 h' [a2]) (OL : Old Z n0 h') (V_a0 : Arv Z h' a0 ka .char (Int32.ofNat n) (own_vs n g) (.int (0 : Int32))) (V_a2 : Arv Z h' a2 kb .byte (Int32.ofNat n) (own_vs n fun j => if j < i then own_b (g j) else (0 : Int32)) (.int (0 : Int32))), W (T'.setTop (mkF m 3 #[.val (.ref a0), .val (.int x1), .val (.ref a2), .val (.int x3), .val (.int (Int32.ofNat n)), .val (.int x5), s6] [])) := by
    intro r
    induction r with
    | zero =>
      intro i x1 x3 x5 s6 T' lc h' hir hx1 hx3 hx5 hs6 hlat XL eL NL KL OL V_a0 V_a2
      have ZL : n0 ≤ h'.size := Nat.le_trans Z0 KL.1
      show W (T'.setTop (mkF m 3 #[.val (.ref a0), .val (.int x1), .val (.ref a2), .val (.int x3), .val (.int (Int32.ofNat n)), .val (.int x5), s6] []))
      refine stp (fun t k => XS.iload XL.here hx rfl (hb hby dk1_3) rfl k) ?_
      show W (T'.setTop (mkF m 5 #[.val (.ref a0), .val (.int x1), .val (.ref a2), .val (.int x3), .val (.int (Int32.ofNat n)), .val (.int x5), s6] [(.int x5)]))
      refine stp (fun t k => XS.iload XL.here hx rfl (hb hby dk1_5) rfl k) ?_
      show W (T'.setTop (mkF m 7 #[.val (.ref a0), .val (.int x1), .val (.ref a2), .val (.int x3), .val (.int (Int32.ofNat n)), .val (.int x5), s6] [(.int (Int32.ofNat n)), (.int x5)]))
      refine stp (fun t k => XS.icmpYes XL.here hx rfl (pc0 := 7) (pc' := 44) rfl (hb hby dk1_7) rfl ((flt (fun q => by have := (own_lt32 hx5 hz).mp q; omega)).2.1) (by decide) (by decide) k) ?_
      show W (T'.setTop (mkF m 44 #[.val (.ref a0), .val (.int x1), .val (.ref a2), .val (.int x3), .val (.int (Int32.ofNat n)), .val (.int x5), s6] []))
      refine stp (fun t k => XS.iload XL.here hx rfl (hb hby dk1_44) rfl k) ?_
      show W (T'.setTop (mkF m 46 #[.val (.ref a0), .val (.int x1), .val (.ref a2), .val (.int x3), .val (.int (Int32.ofNat n)), .val (.int x5), s6] [(.int (Int32.ofNat n))]))
      show W (T'.setTop (mkF m 46 #[.val (.ref a0), .val (.int x1), .val (.ref a2), .val (.int x3), .val (.int (Int32.ofNat n)), .val (.int x5), s6] [(.int (Int32.ofNat n))]))
      rw [← hW]
      exact own_retI XL hx Bd.notSynchronized Bd.returns (hb hby dk1_46) (by show Qk1 Z a0 (0 : Int32) a2 (0 : Int32) (Int32.ofNat n) wc sx n g ka kb h0 n0 _ T'.heap _; rw [eL]; exact ⟨(Int32.ofNat n), rfl, NL, KL, Or.inl ⟨rfl, (by obtain rfl : i = n := (by omega); exact hlat), (by obtain rfl : i = n := (by omega); exact own_arvEq (own_vsCongr (fun j hj => if_pos hj)) V_a2)⟩⟩) (by decide) (by decide)
    | succ r ih =>
      intro i x1 x3 x5 s6 T' lc h' hir hx1 hx3 hx5 hs6 hlat XL eL NL KL OL V_a0 V_a2
      have ZL : n0 ≤ h'.size := Nat.le_trans Z0 KL.1
      show W (T'.setTop (mkF m 3 #[.val (.ref a0), .val (.int x1), .val (.ref a2), .val (.int x3), .val (.int (Int32.ofNat n)), .val (.int x5), s6] []))
      refine stp (fun t k => XS.iload XL.here hx rfl (hb hby dk1_3) rfl k) ?_
      show W (T'.setTop (mkF m 5 #[.val (.ref a0), .val (.int x1), .val (.ref a2), .val (.int x3), .val (.int (Int32.ofNat n)), .val (.int x5), s6] [(.int x5)]))
      refine stp (fun t k => XS.iload XL.here hx rfl (hb hby dk1_5) rfl k) ?_
      show W (T'.setTop (mkF m 7 #[.val (.ref a0), .val (.int x1), .val (.ref a2), .val (.int x3), .val (.int (Int32.ofNat n)), .val (.int x5), s6] [(.int (Int32.ofNat n)), (.int x5)]))
      refine stp (fun t k => XS.icmpNo XL.here hx rfl (hb hby dk1_7) rfl ((tlt ((own_lt32 hx5 hz).mpr (by omega))).2.1) k) ?_
      show W (T'.setTop (mkF m 10 #[.val (.ref a0), .val (.int x1), .val (.ref a2), .val (.int x3), .val (.int (Int32.ofNat n)), .val (.int x5), s6] []))
      refine stp (fun t k => XS.aloadN XL.here hx rfl (hb hby dk1_10) rfl rfl k) ?_
      show W (T'.setTop (mkF m 11 #[.val (.ref a0), .val (.int x1), .val (.ref a2), .val (.int x3), .val (.int (Int32.ofNat n)), .val (.int x5), s6] [(.ref a0)]))
      refine stp (fun t k => XS.iloadN XL.here hx rfl (hb hby dk1_11) rfl k) ?_
      show W (T'.setTop (mkF m 12 #[.val (.ref a0), .val (.int x1), .val (.ref a2), .val (.int x3), .val (.int (Int32.ofNat n)), .val (.int x5), s6] [(.int x1), (.ref a0)]))
      obtain ⟨clk11, Ark11, qkk11, qsk11, qnk11, qhk11, qgk11⟩ := id V_a0
      have hink11 : ¬ (x1 < 0 ∨ clk11.slots.size ≤ (x1).toNatClampNeg) := inb_of qsk11 ⟨own_nn hx1, (own_lt32 hx1 hz).mpr (by omega)⟩
      have hatk11 : clk11.slots[(x1).toNatClampNeg]? = some (.int (g i)) := qhk11.at hink11 (by rw [own_clamp hx1, own_vsGet (by omega)])
      refine stp (fun t k => XL.caload hx (j := x1) (v := (.int (g i))) (by rw [eL]; exact Ark11.1) (State.isArrayOf_alike hZ.alike Ark11.2.1) Ark11.2.2 hink11 hatk11 (g := (mkF m 12 #[.val (.ref a0), .val (.int x1), .val (.ref a2), .val (.int x3), .val (.int (Int32.ofNat n)), .val (.int x5), s6] [(.int x1), (.ref a0)])) rfl rfl (hb hby dk1_12) _ k) ?_
      show W (T'.setTop (mkF m 13 #[.val (.ref a0), .val (.int x1), .val (.ref a2), .val (.int x3), .val (.int (Int32.ofNat n)), .val (.int x5), s6] [(.int (g i))]))
      refine stp (fun t k => XS.istoreS XL.here hx rfl (hb hby dk1_13) rfl rfl hs6 k) ?_
      show W (T'.setTop (mkF m 15 #[.val (.ref a0), .val (.int x1), .val (.ref a2), .val (.int x3), .val (.int (Int32.ofNat n)), .val (.int x5), .val (.int (g i))] []))
      show W (T'.setTop (mkF m 15 #[.val (.ref a0), .val (.int x1), .val (.ref a2), .val (.int x3), .val (.int (Int32.ofNat n)), .val (.int x5), .val (.int (g i))] []))
      refine stp (fun t k => XS.iload XL.here hx rfl (hb hby dk1_15) rfl k) ?_
      show W (T'.setTop (mkF m 17 #[.val (.ref a0), .val (.int x1), .val (.ref a2), .val (.int x3), .val (.int (Int32.ofNat n)), .val (.int x5), .val (.int (g i))] [(.int (g i))]))
      refine stp (fun t k => XS.sipush XL.here hx rfl (hb hby dk1_17) k) ?_
      show W (T'.setTop (mkF m 20 #[.val (.ref a0), .val (.int x1), .val (.ref a2), .val (.int x3), .val (.int (Int32.ofNat n)), .val (.int x5), .val (.int (g i))] [(.int (255 : Int32)), (.int (g i))]))
      by_cases hck1_2 : (255 : Int32) < (g i)
      · refine stp (fun t k => XS.icmpNo XL.here hx rfl (hb hby dk1_20) rfl ((tlt hck1_2).2.2.2) k) ?_
        show W (T'.setTop (mkF m 23 #[.val (.ref a0), .val (.int x1), .val (.ref a2), .val (.int x3), .val (.int (Int32.ofNat n)), .val (.int x5), .val (.int (g i))] []))
        refine stp (fun t k => XS.iload XL.here hx rfl (hb hby dk1_23) rfl k) ?_
        show W (T'.setTop (mkF m 25 #[.val (.ref a0), .val (.int x1), .val (.ref a2), .val (.int x3), .val (.int (Int32.ofNat n)), .val (.int x5), .val (.int (g i))] [(.int x5)]))
        show W (T'.setTop (mkF m 25 #[.val (.ref a0), .val (.int x1), .val (.ref a2), .val (.int x3), .val (.int (Int32.ofNat n)), .val (.int x5), .val (.int (g i))] [(.int x5)]))
        rw [← hW]
        exact own_retI XL hx Bd.notSynchronized Bd.returns (hb hby dk1_25) (by show Qk1 Z a0 (0 : Int32) a2 (0 : Int32) (Int32.ofNat n) wc sx n g ka kb h0 n0 _ T'.heap _; rw [eL]; exact ⟨x5, rfl, NL, KL, Or.inr ⟨i, by omega, hx5, own_c255 hck1_2⟩⟩) (by decide) (by decide)
      · refine stp (fun t k => XS.icmpYes XL.here hx rfl (pc0 := 20) (pc' := 26) rfl (hb hby dk1_20) rfl ((flt hck1_2).2.2.2) (by decide) (by decide) k) ?_
        show W (T'.setTop (mkF m 26 #[.val (.ref a0), .val (.int x1), .val (.ref a2), .val (.int x3), .val (.int (Int32.ofNat n)), .val (.int x5), .val (.int (g i))] []))
        refine stp (fun t k => XS.aloadN XL.here hx rfl (hb hby dk1_26) rfl rfl k) ?_
        show W (T'.setTop (mkF m 27 #[.val (.ref a0), .val (.int x1), .val (.ref a2), .val (.int x3), .val (.int (Int32.ofNat n)), .val (.int x5), .val (.int (g i))] [(.ref a2)]))
        refine stp (fun t k => XS.iloadN XL.here hx rfl (hb hby dk1_27) rfl k) ?_
        show W (T'.setTop (mkF m 28 #[.val (.ref a0), .val (.int x1), .val (.ref a2), .val (.int x3), .val (.int (Int32.ofNat n)), .val (.int x5), .val (.int (g i))] [(.int x3), (.ref a2)]))
        refine stp (fun t k => XS.iload XL.here hx rfl (hb hby dk1_28) rfl k) ?_
        show W (T'.setTop (mkF m 30 #[.val (.ref a0), .val (.int x1), .val (.ref a2), .val (.int x3), .val (.int (Int32.ofNat n)), .val (.int x5), .val (.int (g i))] [(.int (g i)), (.int x3), (.ref a2)]))
        refine stp (fun t k => XS.i2b XL.here hx rfl (hb hby dk1_30) rfl k) ?_
        show W (T'.setTop (mkF m 31 #[.val (.ref a0), .val (.int x1), .val (.ref a2), .val (.int x3), .val (.int (Int32.ofNat n)), .val (.int x5), .val (.int (g i))] [(.int ((g i).toInt8.toInt32)), (.int x3), (.ref a2)]))
        obtain ⟨clk13, Ark13, qkk13, qsk13, qnk13, qhk13, qgk13⟩ := id V_a2
        have hink13 : ¬ (x3 < 0 ∨ clk13.slots.size ≤ (x3).toNatClampNeg) := inb_of qsk13 ⟨own_nn hx3, (own_lt32 hx3 hz).mpr (by omega)⟩
        obtain ⟨Tk13, hk13, Xk13, ek13, Wk13, stk13⟩ := stB XL hx hZ eL Ark13 (j := x3) hink13 (g := (mkF m 31 #[.val (.ref a0), .val (.int x1), .val (.ref a2), .val (.int x3), .val (.int (Int32.ofNat n)), .val (.int x5), .val (.int (g i))] [(.int ((g i).toInt8.toInt32)), (.int x3), (.ref a2)])) rfl rfl (hb hby dk1_31)
        have V_a2x := Arv.set Ark13 qkk13 qsk13 qnk13 qhk13 qgk13 (fits_nar_byte _) Wk13 i (own_clamp hx3) (by rw [own_vsLen]; omega)
        have Nk13 := Fr.snoc Xk13 NL g_a2
        obtain ⟨lck1t4, Xk13, Nk13⟩ : ∃ lc, Stand p l e ({ frames := 0, cells := 0, slots := 0, locals := 0 } : Room) s m #[(.ref a0), (.int (0 : Int32)), (.ref a2), (.int (0 : Int32)), (.int (Int32.ofNat n))] below meth c Tk13 lc 0 0 ∧ Fr n0 lc := ⟨_, Xk13, Nk13⟩
        replace V_a0 := V_a0.other Wk13 ne_a0_a2
        have Kk13 := KL.wr Wk13 (Or.inl (List.mem_of_getElem? (i := 0) rfl))
        have Zk13 := Nat.le_trans ZL (Keep.of_wr Wk13).1
        have Ok13 := OL.wr Wk13 g_a2
        replace V_a2 : Arv Z hk13 a2 kb .byte (Int32.ofNat n) (own_vs n fun j => if j < i + 1 then own_b (g j) else (0 : Int32)) (.int (0 : Int32)) := own_arvEq (own_step1 n i g) V_a2x
        refine stp (fun t k => stk13 t k) ?_
        show W (Tk13.setTop (mkF m 32 #[.val (.ref a0), .val (.int x1), .val (.ref a2), .val (.int x3), .val (.int (Int32.ofNat n)), .val (.int x5), .val (.int (g i))] []))
        refine stp (fun t k => XS.iinc Xk13.here hx rfl (hb hby dk1_32) rfl (l' := #[.val (.ref a0), .val (.int (x1 + (1 : Int32))), .val (.ref a2), .val (.int x3), .val (.int (Int32.ofNat n)), .val (.int x5), .val (.int (g i))]) rfl k) ?_
        show W (Tk13.setTop (mkF m 35 #[.val (.ref a0), .val (.int (x1 + (1 : Int32))), .val (.ref a2), .val (.int x3), .val (.int (Int32.ofNat n)), .val (.int x5), .val (.int (g i))] []))
        refine stp (fun t k => XS.iinc Xk13.here hx rfl (hb hby dk1_35) rfl (l' := #[.val (.ref a0), .val (.int (x1 + (1 : Int32))), .val (.ref a2), .val (.int (x3 + (1 : Int32))), .val (.int (Int32.ofNat n)), .val (.int x5), .val (.int (g i))]) rfl k) ?_
        show W (Tk13.setTop (mkF m 38 #[.val (.ref a0), .val (.int (x1 + (1 : Int32))), .val (.ref a2), .val (.int (x3 + (1 : Int32))), .val (.int (Int32.ofNat n)), .val (.int x5), .val (.int (g i))] []))
        refine stp (fun t k => XS.iinc Xk13.here hx rfl (hb hby dk1_38) rfl (l' := #[.val (.ref a0), .val (.int (x1 + (1 : Int32))), .val (.ref a2), .val (.int (x3 + (1 : Int32))), .val (.int (Int32.ofNat n)), .val (.int (x5 + (1 : Int32))), .val (.int (g i))]) rfl k) ?_
        show W (Tk13.setTop (mkF m 41 #[.val (.ref a0), .val (.int (x1 + (1 : Int32))), .val (.ref a2), .val (.int (x3 + (1 : Int32))), .val (.int (Int32.ofNat n)), .val (.int (x5 + (1 : Int32))), .val (.int (g i))] []))
        refine stp (fun t k => XS.goto Xk13.here hx rfl (pc0 := 41) (pc' := 3) rfl (hb hby dk1_41) (by decide) (by decide) k) ?_
        exact ih (i + 1) _ _ _ _ _ _ _ (by omega) (own_inc hx1 (by omega)) (own_inc hx3 (by omega)) (own_inc hx5 (by omega)) (One.val rfl) (fun j hj => (Nat.lt_succ_iff_lt_or_eq.mp hj).elim (hlat j) (fun q => by subst q; exact own_c256 hck1_2)) Xk13 ek13 Nk13 Kk13 Ok13 V_a0 V_a2
  exact LP n 0 (0 : Int32) (0 : Int32) (0 : Int32) .unset _ _ _ (by omega) rfl rfl rfl One.u (fun j hj => absurd hj (Nat.not_lt_zero j)) X0 e0 N0 (Keep.refl h0 [a2]) O0 V_a0 (by simpa using V_a2)
theorem dnl_0 : decode jdk_52_method_3_code 0 = .ok (.iload_n 0, 1) := by decide +kernel
theorem dnl_1 : decode jdk_52_method_3_code 1 = .ok (.ifCond .ge 11, 3) := by decide +kernel
theorem dnl_12 : decode jdk_52_method_3_code 12 = .ok (.iload_n 0, 1) := by decide +kernel
theorem dnl_13 : decode jdk_52_method_3_code 13 = .ok (.ldc 20, 2) := by decide +kernel
theorem dnl_15 : decode jdk_52_method_3_code 15 = .ok (.if_icmp .lt 40, 3) := by decide +kernel
theorem dnl_55 : decode jdk_52_method_3_code 55 = .ok (.iload_n 0, 1) := by decide +kernel
theorem dnl_56 : decode jdk_52_method_3_code 56 = .ok (.iconst 1, 1) := by decide +kernel
theorem dnl_57 : decode jdk_52_method_3_code 57 = .ok (.ishl, 1) := by decide +kernel
theorem dnl_58 : decode jdk_52_method_3_code 58 = .ok (.ireturn, 1) := by decide +kernel
theorem pnnl : plainName "java/lang/StringUTF16" = true := by first | (simp [plainName, overriddenIn]; done) | decide +kernel
theorem efnl (m : MethodId) (p0 : Int32) : entryFrame m #[(.int p0)] 1 = mkF m 0 #[.val (.int p0)] [] := by first | (simp [entryFrame, mkF, argsToLocals, Value.category]; done) | rfl
def fnl (p0 : Int32) : Int32 := (p0 <<< ((1 : Int32) &&& 31))
def Qnl (Z : State) (p0 : Int32) (h0 : Heap) (n0 : Nat) (v : Option Value) (h : Heap) (L : List Loc) : Prop := v = some (.int (fnl p0)) ∧ Fr n0 L ∧ h = h0
set_option maxRecDepth 65536 in
set_option maxHeartbeats 40000000 in
theorem rmnl (l : Launch) (Z : State) (aa : Array Value) (hw : ∀ d ∈ tables_1, d.before aa Z = true) (ws : List Jvm.Cond) (p0 : Int32) (h0 : Heap) (n0 : Nat) (Z0 : n0 ≤ h0.size) (hlo : ¬ p0 < (0 : Int32)) (hhi : p0 < (1073741823 : Int32)) :
    MetFree l (⟨"java/lang/StringUTF16", "newBytesLength", "(I)I"⟩ : MethodName) (head1 (Jvm.Cond.code (⟨"java/lang/StringUTF16", "newBytesLength", "(I)I"⟩ : MethodName) jdk_52_method_3_code 1 (some .int) :: ws) ({ frames := 0, cells := 0, slots := 0, locals := 0 } : Room)) (fun a U => a = #[(.int p0)] ∧ Z.Warmed39 U.vm ∧ U.heap = h0) (fun _ _ _ _ _ => True) (fun _ U o U' => ∃ v L, o = .returned v ∧ Qnl Z p0 h0 n0 v U'.heap L ∧ FrameEnd U o U' L ({ frames := 0, cells := 0, slots := 0, locals := 0 } : Room).cells ({ frames := 0, cells := 0, slots := 0, locals := 0 } : Room).slots) := by
  refine MetFree.of_bodySF (plainFor_of_name pnnl) hisR ?_
  intro p e s m args below meth c s₁ Bd hml0 hP hK
  obtain ⟨rfl, hZ, hh⟩ := hP
  have hx := Bd.exec
  have hby := Bd.bytes
  have hml : c.maxLocals = 1 := hml0
  have hown : s.vm.findClass "java/lang/StringUTF16" = some m.cls := findClass_of_methodNamed Bd.named
  have hnm := (name_of_methodNamed Bd.named Bd.method).1
  have X0 : Stand p l e ({ frames := 0, cells := 0, slots := 0, locals := 0 } : Room) s m #[(.int p0)] below meth c s₁ [] 0 0 := Stand.of_body Bd
  have e0 : s₁.heap = h0 := by rw [← hh, Bd.state]; rfl
  have N0 := Fr.nil n0
  show OwnEnd p e below s (fun v h L => Qnl Z p0 h0 n0 v h L) ({ frames := 0, cells := 0, slots := 0, locals := 0 } : Room).cells ({ frames := 0, cells := 0, slots := 0, locals := 0 } : Room).slots (s₁.setTop (entryFrame m #[(.int p0)] 1))
  rw [efnl m p0]
  generalize hW : OwnEnd p e below s (fun v h L => Qnl Z p0 h0 n0 v h L) ({ frames := 0, cells := 0, slots := 0, locals := 0 } : Room).cells ({ frames := 0, cells := 0, slots := 0, locals := 0 } : Room).slots = W
  have stp : ∀ {A B : State}, (∀ t, Steps p.tables e below B t → Steps p.tables e below A t) → W B → W A := by subst hW; exact own_step
  show W (s₁.setTop (mkF m 0 #[.val (.int p0)] []))
  refine stp (fun t k => XS.iloadN X0.here hx rfl (hb hby dnl_0) rfl k) ?_
  show W (s₁.setTop (mkF m 1 #[.val (.int p0)] [(.int p0)]))
  refine stp (fun t k => XS.ifYes X0.here hx rfl (pc0 := 1) (pc' := 12) rfl (hb hby dnl_1) rfl ((if0 _ _).trans (flt (hlo)).2.1) (by decide) (by decide) k) ?_
  show W (s₁.setTop (mkF m 12 #[.val (.int p0)] []))
  refine stp (fun t k => XS.iloadN X0.here hx rfl (hb hby dnl_12) rfl k) ?_
  show W (s₁.setTop (mkF m 13 #[.val (.int p0)] [(.int p0)]))
  refine stp (fun t k => X0.ldcInt hx hown (mvT hZ (hw _ (List.mem_of_getElem? (i := 95) rfl))) (g := (mkF m 13 #[.val (.int p0)] [(.int p0)])) rfl (hb hby dnl_13) _ k) ?_
  show W (s₁.setTop (mkF m 15 #[.val (.int p0)] [(.int (1073741823 : Int32)), (.int p0)]))
  refine stp (fun t k => XS.icmpYes X0.here hx rfl (pc0 := 15) (pc' := 55) rfl (hb hby dnl_15) rfl ((tlt (hhi)).1) (by decide) (by decide) k) ?_
  show W (s₁.setTop (mkF m 55 #[.val (.int p0)] []))
  refine stp (fun t k => XS.iloadN X0.here hx rfl (hb hby dnl_55) rfl k) ?_
  show W (s₁.setTop (mkF m 56 #[.val (.int p0)] [(.int p0)]))
  refine stp (fun t k => XS.iconst X0.here hx rfl (hb hby dnl_56) k) ?_
  show W (s₁.setTop (mkF m 57 #[.val (.int p0)] [(.int (1 : Int32)), (.int p0)]))
  refine stp (fun t k => XS.ishl X0.here hx rfl (hb hby dnl_57) rfl k) ?_
  show W (s₁.setTop (mkF m 58 #[.val (.int p0)] [(.int (p0 <<< ((1 : Int32) &&& 31)))]))
  show W (s₁.setTop (mkF m 58 #[.val (.int p0)] [(.int (p0 <<< ((1 : Int32) &&& 31)))]))
  rw [← hW]
  exact own_retI X0 hx Bd.notSynchronized Bd.returns (hb hby dnl_58) (by show Qnl Z p0 h0 n0 _ s₁.heap _; rw [e0]; exact ⟨rfl, N0, rfl⟩) (by decide) (by decide)
theorem dnf_0 : decode jdk_52_method_2_code 0 = .ok (.iload_n 0, 1) := by decide +kernel
theorem dnf_1 : decode jdk_52_method_2_code 1 = .ok (.invokestatic 11, 3) := by decide +kernel
theorem dnf_4 : decode jdk_52_method_2_code 4 = .ok (.newarray .byte, 2) := by decide +kernel
theorem dnf_6 : decode jdk_52_method_2_code 6 = .ok (.areturn, 1) := by decide +kernel
theorem pnnf : plainName "java/lang/StringUTF16" = true := by first | (simp [plainName, overriddenIn]; done) | decide +kernel
theorem pdnf_0 : parseMethodDescriptor "(I)I" = some ⟨[.int], some .int⟩ := by decide +kernel
theorem efnf (m : MethodId) (p0 : Int32) : entryFrame m #[(.int p0)] 1 = mkF m 0 #[.val (.int p0)] [] := by first | (simp [entryFrame, mkF, argsToLocals, Value.category]; done) | rfl
def Qnf (Z : State) (p0 : Int32) (wc : Int32) (sx : Value) (n : Nat) (h0 : Heap) (n0 : Nat) (v : Option Value) (h : Heap) (L : List Loc) : Prop := ∃ (b : Addr) (kb : ClassId), v = some (.ref b) ∧ Fr n0 L ∧ Keep h0 h [] ∧ h0.size ≤ b ∧ Arv Z h b kb .byte (Int32.ofNat (2 * n)) (own_vs (2 * n) fun _ => (0 : Int32)) (.int (0 : Int32))
set_option maxRecDepth 65536 in
set_option maxHeartbeats 40000000 in
theorem rmnf (l : Launch) (Z : State) (aa : Array Value) (hw : ∀ d ∈ tables_1, d.before aa Z = true) (ws : List Jvm.Cond) (p0 : Int32) (wc : Int32) (sx : Value) (n : Nat) (h0 : Heap) (n0 : Nat) (Z0 : n0 ≤ h0.size) (BW : OwnW Z wc sx) (O0 : Old Z n0 h0) (hn : n ≤ 4) (hp : p0.toInt = (n : Int)) :
    MetFree l (⟨"java/lang/StringUTF16", "newBytesFor", "(I)[B"⟩ : MethodName) (head1 (Jvm.Cond.code (⟨"java/lang/StringUTF16", "newBytesFor", "(I)[B"⟩ : MethodName) jdk_52_method_2_code 1 (some (.array .byte)) :: ws) ({ frames := 1, cells := 1, slots := 8, locals := 12 } : Room)) (fun a U => a = #[(.int p0)] ∧ Z.Warmed39 U.vm ∧ U.heap = h0) (fun _ _ _ _ _ => True) (fun _ U o U' => ∃ v L, o = .returned v ∧ Qnf Z p0 wc sx n h0 n0 v U'.heap L ∧ FrameEnd U o U' L ({ frames := 1, cells := 1, slots := 8, locals := 12 } : Room).cells ({ frames := 1, cells := 1, slots := 8, locals := 12 } : Room).slots) := by
  refine MetFree.of_bodySF (plainFor_of_name pnnf) hisR ?_
  intro p e s m args below meth c s₁ Bd hml0 hP hK
  obtain ⟨rfl, hZ, hh⟩ := hP
  have hx := Bd.exec
  have hby := Bd.bytes
  have hml : c.maxLocals = 1 := hml0
  have hown : s.vm.findClass "java/lang/StringUTF16" = some m.cls := findClass_of_methodNamed Bd.named
  have hnm := (name_of_methodNamed Bd.named Bd.method).1
  have X0 : Stand p l e ({ frames := 1, cells := 1, slots := 8, locals := 12 } : Room) s m #[(.int p0)] below meth c s₁ [] 0 0 := Stand.of_body Bd
  have e0 : s₁.heap = h0 := by rw [← hh, Bd.state]; rfl
  have N0 := Fr.nil n0
  show OwnEnd p e below s (fun v h L => Qnf Z p0 wc sx n h0 n0 v h L) ({ frames := 1, cells := 1, slots := 8, locals := 12 } : Room).cells ({ frames := 1, cells := 1, slots := 8, locals := 12 } : Room).slots (s₁.setTop (entryFrame m #[(.int p0)] 1))
  rw [efnf m p0]
  generalize hW : OwnEnd p e below s (fun v h L => Qnf Z p0 wc sx n h0 n0 v h L) ({ frames := 1, cells := 1, slots := 8, locals := 12 } : Room).cells ({ frames := 1, cells := 1, slots := 8, locals := 12 } : Room).slots = W
  have stp : ∀ {A B : State}, (∀ t, Steps p.tables e below B t → Steps p.tables e below A t) → W B → W A := by subst hW; exact own_step
  obtain ⟨S_cs, hcs, S_si, hr_sx, S_ad, S_hi, S_lo⟩ := id BW
  show W (s₁.setTop (mkF m 0 #[.val (.int p0)] []))
  refine stp (fun t k => XS.iloadN X0.here hx rfl (hb hby dnf_0) rfl k) ?_
  show W (s₁.setTop (mkF m 1 #[.val (.int p0)] [(.int p0)]))
  obtain ⟨_, _, ⟨Tnfc1, Lnfc1, knfc1, nnfc1⟩, -, Xnfc1, ⟨Lcnfc1, hQnfc1, lnfc1, ynfc1, znfc1⟩, stnfc1⟩ := Jvm.LawKit.callS X0 hx (y := (⟨"java/lang/StringUTF16", "newBytesLength", "(I)I"⟩ : MethodName)) hown (mvT hZ (hw _ (List.mem_of_getElem? (i := 92) rfl))) (mvT hZ (hw _ (List.mem_of_getElem? (i := 93) rfl))) (mvT hZ (hw _ (List.mem_of_getElem? (i := 47) rfl))) (mvT hZ (hw _ (List.mem_of_getElem? (i := 94) rfl))) (by decide) (backOf (W := 0) (rmnl l Z aa hw [] p0  h0 n0 Z0 (own_nn hp) ((own_lt32 hp (j := 1073741823) rfl).mpr (by omega))) hZ (hw _ (List.mem_of_getElem? (i := 94) rfl)) (hw _ (List.mem_of_getElem? (i := 47) rfl)) (by decide) (by decide)) (g := (mkF m 1 #[.val (.int p0)] [(.int p0)])) rfl (by rw [hml]; rfl) (argsL := [(.int p0)]) (rest := []) (lenOf pdnf_0 rfl) rfl (by show 2 * 0 + _ ≤ _; exact Nat.le_of_eq rfl) (hb hby dnf_1) (fun _ _ => ⟨rfl, e0, (by decide : 0 + 0 ≤ _), (by decide : 0 + 0 ≤ _)⟩)
  dsimp only [Pt.U, Pt.locs, Pt.cells, Pt.slots] at Xnfc1 lnfc1 ynfc1 znfc1 stnfc1 hQnfc1
  subst lnfc1 ynfc1 znfc1
  obtain ⟨rfl, Nnfc1q, enfc1⟩ := hQnfc1
  have Nnfc1 := Fr.app N0 Nnfc1q
  obtain ⟨lcnft2, Xnfc1, Nnfc1⟩ : ∃ lc, Stand p l e ({ frames := 1, cells := 1, slots := 8, locals := 12 } : Room) s m #[(.int p0)] below meth c Tnfc1 lc 0 0 ∧ Fr n0 lc := ⟨_, Xnfc1, Nnfc1⟩
  refine stp (fun t k => stnfc1 t k) ?_
  show W (Tnfc1.setTop (mkF m 4 #[.val (.int p0)] [(.int (fnl p0))]))
  rw [show (fnl p0) = (Int32.ofNat (2 * n)) from own_len2 hp (by omega)]
  show W (Tnfc1.setTop (mkF m 4 #[.val (.int p0)] [(.int (Int32.ofNat (2 * n)))]))
  obtain ⟨Tnf3, hnf3, knf3, Xnf3, enf3, Enf3, Anf3, stnf3⟩ := newP Xnfc1 hx hZ (hw _ (List.mem_of_getElem? (i := 19) rfl)) enfc1 (g := (mkF m 4 #[.val (.int p0)] [(.int (Int32.ofNat (2 * n)))])) rfl (hb hby dnf_4) rfl (own_nn (own_ofNat (n := 2 * n) (by omega))) (cap := 8) (by rw [own_clamp (own_ofNat (n := 2 * n) (by omega))]; omega) (by decide) (by decide) (by decide)
  obtain ⟨bnf3, gqnf3⟩ : ∃ z, z = h0.size := ⟨_, rfl⟩
  rw [← gqnf3] at Anf3 stnf3
  have g_bnf3 : n0 ≤ bnf3 := Nat.le_trans Z0 (Nat.le_of_eq gqnf3.symm)
  have sz_bnf3 : h0.size ≤ bnf3 := Nat.le_trans (Keep.refl h0 []).1 (Nat.le_of_eq gqnf3.symm)
  have Knf3 := (Keep.refl h0 []).ext Enf3
  have Znf3 := Nat.le_trans Z0 Enf3.1
  have Onf3 := O0.ext Enf3
  have V_bnf3 : Arv Z hnf3 bnf3 knf3 .byte (Int32.ofNat (2 * n)) (own_vs (2 * n) fun _ => (0 : Int32)) (.int (0 : Int32)) := (Arv.new Anf3 (own_nn (own_ofNat (n := 2 * n) (by omega)))).pad (own_vsPad _)
  refine stp (fun t k => stnf3 t k) ?_
  show W (Tnf3.setTop (mkF m 6 #[.val (.int p0)] [(.ref bnf3)]))
  show W (Tnf3.setTop (mkF m 6 #[.val (.int p0)] [(.ref bnf3)]))
  rw [← hW]
  exact own_retR Xnf3 hx Bd.notSynchronized Bd.returns rfl (hb hby dnf_6) (by show Qnf Z p0 wc sx n h0 n0 _ Tnf3.heap _; rw [enf3]; exact ⟨bnf3, knf3, rfl, Nnfc1, Knf3, sz_bnf3, V_bnf3⟩) (by decide) (by decide)
theorem dpc_0 : decode jdk_52_method_4_code 0 = .ok (.getstatic 44, 3) := by decide +kernel
theorem dpc_3 : decode jdk_52_method_4_code 3 = .ok (.ifCond .ne 25, 3) := by decide +kernel
theorem dpc_28 : decode jdk_52_method_4_code 28 = .ok (.iload_n 1, 1) := by decide +kernel
theorem dpc_29 : decode jdk_52_method_4_code 29 = .ok (.iconst 1, 1) := by decide +kernel
theorem dpc_30 : decode jdk_52_method_4_code 30 = .ok (.ishl, 1) := by decide +kernel
theorem dpc_31 : decode jdk_52_method_4_code 31 = .ok (.istore_n 1, 1) := by decide +kernel
theorem dpc_32 : decode jdk_52_method_4_code 32 = .ok (.aload_n 0, 1) := by decide +kernel
theorem dpc_33 : decode jdk_52_method_4_code 33 = .ok (.iload_n 1, 1) := by decide +kernel
theorem dpc_34 : decode jdk_52_method_4_code 34 = .ok (.iinc 1 1, 3) := by decide +kernel
theorem dpc_37 : decode jdk_52_method_4_code 37 = .ok (.iload_n 2, 1) := by decide +kernel
theorem dpc_38 : decode jdk_52_method_4_code 38 = .ok (.getstatic 59, 3) := by decide +kernel
theorem dpc_41 : decode jdk_52_method_4_code 41 = .ok (.ishr, 1) := by decide +kernel
theorem dpc_42 : decode jdk_52_method_4_code 42 = .ok (.i2b, 1) := by decide +kernel
theorem dpc_43 : decode jdk_52_method_4_code 43 = .ok (.bastore, 1) := by decide +kernel
theorem dpc_44 : decode jdk_52_method_4_code 44 = .ok (.aload_n 0, 1) := by decide +kernel
theorem dpc_45 : decode jdk_52_method_4_code 45 = .ok (.iload_n 1, 1) := by decide +kernel
theorem dpc_46 : decode jdk_52_method_4_code 46 = .ok (.iload_n 2, 1) := by decide +kernel
theorem dpc_47 : decode jdk_52_method_4_code 47 = .ok (.getstatic 63, 3) := by decide +kernel
theorem dpc_50 : decode jdk_52_method_4_code 50 = .ok (.ishr, 1) := by decide +kernel
theorem dpc_51 : decode jdk_52_method_4_code 51 = .ok (.i2b, 1) := by decide +kernel
theorem dpc_52 : decode jdk_52_method_4_code 52 = .ok (.bastore, 1) := by decide +kernel
theorem dpc_53 : decode jdk_52_method_4_code 53 = .ok (.return_, 1) := by decide +kernel
theorem pnpc : plainName "java/lang/StringUTF16" = true := by first | (simp [plainName, overriddenIn]; done) | decide +kernel
theorem efpc (m : MethodId) (a0 : Addr) (p1 : Int32) (p2 : Int32) : entryFrame m #[(.ref a0), (.int p1), (.int p2)] 3 = mkF m 0 #[.val (.ref a0), .val (.int p1), .val (.int p2)] [] := by first | (simp [entryFrame, mkF, argsToLocals, Value.category]; done) | rfl
def Qpc (Z : State) (a0 : Addr) (p1 : Int32) (p2 : Int32) (wc : Int32) (sx : Value) (kb : ClassId) (z : Int32) (vs : List Value) (i : Nat) (h0 : Heap) (n0 : Nat) (v : Option Value) (h : Heap) (L : List Loc) : Prop := v = none ∧ Fr n0 L ∧ Keep h0 h [a0] ∧ Arv Z h a0 kb .byte z ((vs.set (2 * i) (.int (own_lo p2))).set (2 * i + 1) (.int (own_hi p2))) (.int (0 : Int32))
set_option maxRecDepth 65536 in
set_option maxHeartbeats 40000000 in
theorem rmpc (l : Launch) (Z : State) (aa : Array Value) (hw : ∀ d ∈ tables_1, d.before aa Z = true) (ws : List Jvm.Cond) (a0 : Addr) (p1 : Int32) (p2 : Int32) (wc : Int32) (sx : Value) (kb : ClassId) (z : Int32) (vs : List Value) (i : Nat) (h0 : Heap) (n0 : Nat) (Z0 : n0 ≤ h0.size) (BW : OwnW Z wc sx) (O0 : Old Z n0 h0) (V_a0 : Arv Z h0 a0 kb .byte z vs (.int (0 : Int32))) (g_a0 : n0 ≤ a0) (hi : p1.toInt = (i : Int)) (hib : i ≤ 4000) (hz : z.toInt = (vs.length : Int)) (hil : 2 * i + 1 < vs.length) :
    MetFree l (⟨"java/lang/StringUTF16", "putChar", "([BII)V"⟩ : MethodName) (head1 (Jvm.Cond.code (⟨"java/lang/StringUTF16", "putChar", "([BII)V"⟩ : MethodName) jdk_52_method_4_code 3 none :: ws) ({ frames := 0, cells := 0, slots := 0, locals := 0 } : Room)) (fun a U => a = #[(.ref a0), (.int p1), (.int p2)] ∧ Z.Warmed39 U.vm ∧ U.heap = h0) (fun _ _ _ _ _ => True) (fun _ U o U' => ∃ v L, o = .returned v ∧ Qpc Z a0 p1 p2 wc sx kb z vs i h0 n0 v U'.heap L ∧ FrameEnd U o U' L ({ frames := 0, cells := 0, slots := 0, locals := 0 } : Room).cells ({ frames := 0, cells := 0, slots := 0, locals := 0 } : Room).slots) := by
  refine MetFree.of_bodySF (plainFor_of_name pnpc) hisR ?_
  intro p e s m args below meth c s₁ Bd hml0 hP hK
  obtain ⟨rfl, hZ, hh⟩ := hP
  have hx := Bd.exec
  have hby := Bd.bytes
  have hml : c.maxLocals = 3 := hml0
  have hown : s.vm.findClass "java/lang/StringUTF16" = some m.cls := findClass_of_methodNamed Bd.named
  have hnm := (name_of_methodNamed Bd.named Bd.method).1
  have X0 : Stand p l e ({ frames := 0, cells := 0, slots := 0, locals := 0 } : Room) s m #[(.ref a0), (.int p1), (.int p2)] below meth c s₁ [] 0 0 := Stand.of_body Bd
  have e0 : s₁.heap = h0 := by rw [← hh, Bd.state]; rfl
  have N0 := Fr.nil n0
  show OwnEnd p e below s (fun v h L => Qpc Z a0 p1 p2 wc sx kb z vs i h0 n0 v h L) ({ frames := 0, cells := 0, slots := 0, locals := 0 } : Room).cells ({ frames := 0, cells := 0, slots := 0, locals := 0 } : Room).slots (s₁.setTop (entryFrame m #[(.ref a0), (.int p1), (.int p2)] 3))
  rw [efpc m a0 p1 p2]
  generalize hW : OwnEnd p e below s (fun v h L => Qpc Z a0 p1 p2 wc sx kb z vs i h0 n0 v h L) ({ frames := 0, cells := 0, slots := 0, locals := 0 } : Room).cells ({ frames := 0, cells := 0, slots := 0, locals := 0 } : Room).slots = W
  have stp : ∀ {A B : State}, (∀ t, Steps p.tables e below B t → Steps p.tables e below A t) → W B → W A := by subst hW; exact own_step
  obtain ⟨S_cs, hcs, S_si, hr_sx, S_ad, S_hi, S_lo⟩ := id BW
  have d0 := own_shl1 hi (by omega)
  have d1 := own_inc d0 (by omega)
  show W (s₁.setTop (mkF m 0 #[.val (.ref a0), .val (.int p1), .val (.int p2)] []))
  obtain ⟨Tpc1, Xpc1, epc1, stpc1⟩ := getS2 X0 hx hZ hown (host := "") (Or.inl (hw _ (List.mem_of_getElem? (i := 99) rfl))) Via.refl e0 (S_ad.ext O0.2) (g := (mkF m 0 #[.val (.ref a0), .val (.int p1), .val (.int p2)] [])) rfl (hb hby dpc_0)
  refine stp (fun t k => stpc1 t k) ?_
  show W (Tpc1.setTop (mkF m 3 #[.val (.ref a0), .val (.int p1), .val (.int p2)] [(.int (1 : Int32))]))
  refine stp (fun t k => XS.ifYes Xpc1.here hx rfl (pc0 := 3) (pc' := 28) rfl (hb hby dpc_3) rfl ((if0 _ _).trans (feq (by decide)).2) (by decide) (by decide) k) ?_
  show W (Tpc1.setTop (mkF m 28 #[.val (.ref a0), .val (.int p1), .val (.int p2)] []))
  refine stp (fun t k => XS.iloadN Xpc1.here hx rfl (hb hby dpc_28) rfl k) ?_
  show W (Tpc1.setTop (mkF m 29 #[.val (.ref a0), .val (.int p1), .val (.int p2)] [(.int p1)]))
  refine stp (fun t k => XS.iconst Xpc1.here hx rfl (hb hby dpc_29) k) ?_
  show W (Tpc1.setTop (mkF m 30 #[.val (.ref a0), .val (.int p1), .val (.int p2)] [(.int (1 : Int32)), (.int p1)]))
  refine stp (fun t k => XS.ishl Xpc1.here hx rfl (hb hby dpc_30) rfl k) ?_
  show W (Tpc1.setTop (mkF m 31 #[.val (.ref a0), .val (.int p1), .val (.int p2)] [(.int (p1 <<< ((1 : Int32) &&& 31)))]))
  refine stp (fun t k => XS.istoreN Xpc1.here hx rfl (hb hby dpc_31) rfl (l' := #[.val (.ref a0), .val (.int (p1 <<< ((1 : Int32) &&& 31))), .val (.int p2)]) rfl k) ?_
  show W (Tpc1.setTop (mkF m 32 #[.val (.ref a0), .val (.int (p1 <<< ((1 : Int32) &&& 31))), .val (.int p2)] []))
  refine stp (fun t k => XS.aloadN Xpc1.here hx rfl (hb hby dpc_32) rfl rfl k) ?_
  show W (Tpc1.setTop (mkF m 33 #[.val (.ref a0), .val (.int (p1 <<< ((1 : Int32) &&& 31))), .val (.int p2)] [(.ref a0)]))
  refine stp (fun t k => XS.iloadN Xpc1.here hx rfl (hb hby dpc_33) rfl k) ?_
  show W (Tpc1.setTop (mkF m 34 #[.val (.ref a0), .val (.int (p1 <<< ((1 : Int32) &&& 31))), .val (.int p2)] [(.int (p1 <<< ((1 : Int32) &&& 31))), (.ref a0)]))
  refine stp (fun t k => XS.iinc Xpc1.here hx rfl (hb hby dpc_34) rfl (l' := #[.val (.ref a0), .val (.int ((p1 <<< ((1 : Int32) &&& 31)) + (1 : Int32))), .val (.int p2)]) rfl k) ?_
  show W (Tpc1.setTop (mkF m 37 #[.val (.ref a0), .val (.int ((p1 <<< ((1 : Int32) &&& 31)) + (1 : Int32))), .val (.int p2)] [(.int (p1 <<< ((1 : Int32) &&& 31))), (.ref a0)]))
  refine stp (fun t k => XS.iloadN Xpc1.here hx rfl (hb hby dpc_37) rfl k) ?_
  show W (Tpc1.setTop (mkF m 38 #[.val (.ref a0), .val (.int ((p1 <<< ((1 : Int32) &&& 31)) + (1 : Int32))), .val (.int p2)] [(.int p2), (.int (p1 <<< ((1 : Int32) &&& 31))), (.ref a0)]))
  obtain ⟨Tpc2, Xpc2, epc2, stpc2⟩ := getS2 Xpc1 hx hZ hown (host := "") (Or.inl (hw _ (List.mem_of_getElem? (i := 100) rfl))) Via.refl epc1 (S_hi.ext O0.2) (g := (mkF m 38 #[.val (.ref a0), .val (.int ((p1 <<< ((1 : Int32) &&& 31)) + (1 : Int32))), .val (.int p2)] [(.int p2), (.int (p1 <<< ((1 : Int32) &&& 31))), (.ref a0)])) rfl (hb hby dpc_38)
  refine stp (fun t k => stpc2 t k) ?_
  show W (Tpc2.setTop (mkF m 41 #[.val (.ref a0), .val (.int ((p1 <<< ((1 : Int32) &&& 31)) + (1 : Int32))), .val (.int p2)] [(.int (0 : Int32)), (.int p2), (.int (p1 <<< ((1 : Int32) &&& 31))), (.ref a0)]))
  refine stp (fun t k => XS.ishr Xpc2.here hx rfl (hb hby dpc_41) rfl k) ?_
  show W (Tpc2.setTop (mkF m 42 #[.val (.ref a0), .val (.int ((p1 <<< ((1 : Int32) &&& 31)) + (1 : Int32))), .val (.int p2)] [(.int (p2 >>> ((0 : Int32) &&& 31))), (.int (p1 <<< ((1 : Int32) &&& 31))), (.ref a0)]))
  refine stp (fun t k => XS.i2b Xpc2.here hx rfl (hb hby dpc_42) rfl k) ?_
  show W (Tpc2.setTop (mkF m 43 #[.val (.ref a0), .val (.int ((p1 <<< ((1 : Int32) &&& 31)) + (1 : Int32))), .val (.int p2)] [(.int ((p2 >>> ((0 : Int32) &&& 31)).toInt8.toInt32)), (.int (p1 <<< ((1 : Int32) &&& 31))), (.ref a0)]))
  obtain ⟨clpc3, Arpc3, qkpc3, qspc3, qnpc3, qhpc3, qgpc3⟩ := id V_a0
  have hinpc3 : ¬ ((p1 <<< ((1 : Int32) &&& 31)) < 0 ∨ clpc3.slots.size ≤ ((p1 <<< ((1 : Int32) &&& 31))).toNatClampNeg) := inb_of qspc3 ⟨own_nn d0, (own_lt32 d0 hz).mpr (by omega)⟩
  obtain ⟨Tpc3, hpc3, Xpc3, epc3, Wpc3, stpc3⟩ := stB Xpc2 hx hZ epc2 Arpc3 (j := (p1 <<< ((1 : Int32) &&& 31))) hinpc3 (g := (mkF m 43 #[.val (.ref a0), .val (.int ((p1 <<< ((1 : Int32) &&& 31)) + (1 : Int32))), .val (.int p2)] [(.int ((p2 >>> ((0 : Int32) &&& 31)).toInt8.toInt32)), (.int (p1 <<< ((1 : Int32) &&& 31))), (.ref a0)])) rfl rfl (hb hby dpc_43)
  have V_a0x := Arv.set Arpc3 qkpc3 qspc3 qnpc3 qhpc3 qgpc3 (fits_nar_byte _) Wpc3 (2 * i) (own_clamp d0) (by omega)
  have Npc3 := Fr.snoc Xpc3 N0 g_a0
  obtain ⟨lcpct4, Xpc3, Npc3⟩ : ∃ lc, Stand p l e ({ frames := 0, cells := 0, slots := 0, locals := 0 } : Room) s m #[(.ref a0), (.int p1), (.int p2)] below meth c Tpc3 lc 0 0 ∧ Fr n0 lc := ⟨_, Xpc3, Npc3⟩
  have Kpc3 := (Keep.refl h0 [a0]).wr Wpc3 (Or.inl (List.mem_of_getElem? (i := 0) rfl))
  have Zpc3 := Nat.le_trans Z0 (Keep.of_wr Wpc3).1
  have Opc3 := O0.wr Wpc3 g_a0
  replace V_a0 : Arv Z hpc3 a0 kb .byte z (vs.set (2 * i) (.int (own_lo p2))) (.int (0 : Int32)) := own_arvEq (rfl) V_a0x
  refine stp (fun t k => stpc3 t k) ?_
  show W (Tpc3.setTop (mkF m 44 #[.val (.ref a0), .val (.int ((p1 <<< ((1 : Int32) &&& 31)) + (1 : Int32))), .val (.int p2)] []))
  refine stp (fun t k => XS.aloadN Xpc3.here hx rfl (hb hby dpc_44) rfl rfl k) ?_
  show W (Tpc3.setTop (mkF m 45 #[.val (.ref a0), .val (.int ((p1 <<< ((1 : Int32) &&& 31)) + (1 : Int32))), .val (.int p2)] [(.ref a0)]))
  refine stp (fun t k => XS.iloadN Xpc3.here hx rfl (hb hby dpc_45) rfl k) ?_
  show W (Tpc3.setTop (mkF m 46 #[.val (.ref a0), .val (.int ((p1 <<< ((1 : Int32) &&& 31)) + (1 : Int32))), .val (.int p2)] [(.int ((p1 <<< ((1 : Int32) &&& 31)) + (1 : Int32))), (.ref a0)]))
  refine stp (fun t k => XS.iloadN Xpc3.here hx rfl (hb hby dpc_46) rfl k) ?_
  show W (Tpc3.setTop (mkF m 47 #[.val (.ref a0), .val (.int ((p1 <<< ((1 : Int32) &&& 31)) + (1 : Int32))), .val (.int p2)] [(.int p2), (.int ((p1 <<< ((1 : Int32) &&& 31)) + (1 : Int32))), (.ref a0)]))
  obtain ⟨Tpc5, Xpc5, epc5, stpc5⟩ := getS2 Xpc3 hx hZ hown (host := "") (Or.inl (hw _ (List.mem_of_getElem? (i := 101) rfl))) Via.refl epc3 (S_lo.ext Opc3.2) (g := (mkF m 47 #[.val (.ref a0), .val (.int ((p1 <<< ((1 : Int32) &&& 31)) + (1 : Int32))), .val (.int p2)] [(.int p2), (.int ((p1 <<< ((1 : Int32) &&& 31)) + (1 : Int32))), (.ref a0)])) rfl (hb hby dpc_47)
  refine stp (fun t k => stpc5 t k) ?_
  show W (Tpc5.setTop (mkF m 50 #[.val (.ref a0), .val (.int ((p1 <<< ((1 : Int32) &&& 31)) + (1 : Int32))), .val (.int p2)] [(.int (8 : Int32)), (.int p2), (.int ((p1 <<< ((1 : Int32) &&& 31)) + (1 : Int32))), (.ref a0)]))
  refine stp (fun t k => XS.ishr Xpc5.here hx rfl (hb hby dpc_50) rfl k) ?_
  show W (Tpc5.setTop (mkF m 51 #[.val (.ref a0), .val (.int ((p1 <<< ((1 : Int32) &&& 31)) + (1 : Int32))), .val (.int p2)] [(.int (p2 >>> ((8 : Int32) &&& 31))), (.int ((p1 <<< ((1 : Int32) &&& 31)) + (1 : Int32))), (.ref a0)]))
  refine stp (fun t k => XS.i2b Xpc5.here hx rfl (hb hby dpc_51) rfl k) ?_
  show W (Tpc5.setTop (mkF m 52 #[.val (.ref a0), .val (.int ((p1 <<< ((1 : Int32) &&& 31)) + (1 : Int32))), .val (.int p2)] [(.int ((p2 >>> ((8 : Int32) &&& 31)).toInt8.toInt32)), (.int ((p1 <<< ((1 : Int32) &&& 31)) + (1 : Int32))), (.ref a0)]))
  obtain ⟨clpc6, Arpc6, qkpc6, qspc6, qnpc6, qhpc6, qgpc6⟩ := id V_a0
  have hinpc6 : ¬ (((p1 <<< ((1 : Int32) &&& 31)) + (1 : Int32)) < 0 ∨ clpc6.slots.size ≤ (((p1 <<< ((1 : Int32) &&& 31)) + (1 : Int32))).toNatClampNeg) := inb_of qspc6 ⟨own_nn d1, (own_lt32 d1 hz).mpr (by omega)⟩
  obtain ⟨Tpc6, hpc6, Xpc6, epc6, Wpc6, stpc6⟩ := stB Xpc5 hx hZ epc5 Arpc6 (j := ((p1 <<< ((1 : Int32) &&& 31)) + (1 : Int32))) hinpc6 (g := (mkF m 52 #[.val (.ref a0), .val (.int ((p1 <<< ((1 : Int32) &&& 31)) + (1 : Int32))), .val (.int p2)] [(.int ((p2 >>> ((8 : Int32) &&& 31)).toInt8.toInt32)), (.int ((p1 <<< ((1 : Int32) &&& 31)) + (1 : Int32))), (.ref a0)])) rfl rfl (hb hby dpc_52)
  have V_a0x := Arv.set Arpc6 qkpc6 qspc6 qnpc6 qhpc6 qgpc6 (fits_nar_byte _) Wpc6 (2 * i + 1) (own_clamp d1) (by simp only [List.length_set]; omega)
  have Npc6 := Fr.snoc Xpc6 Npc3 g_a0
  obtain ⟨lcpct7, Xpc6, Npc6⟩ : ∃ lc, Stand p l e ({ frames := 0, cells := 0, slots := 0, locals := 0 } : Room) s m #[(.ref a0), (.int p1), (.int p2)] below meth c Tpc6 lc 0 0 ∧ Fr n0 lc := ⟨_, Xpc6, Npc6⟩
  have Kpc6 := Kpc3.wr Wpc6 (Or.inl (List.mem_of_getElem? (i := 0) rfl))
  have Zpc6 := Nat.le_trans Zpc3 (Keep.of_wr Wpc6).1
  have Opc6 := Opc3.wr Wpc6 g_a0
  replace V_a0 : Arv Z hpc6 a0 kb .byte z ((vs.set (2 * i) (.int (own_lo p2))).set (2 * i + 1) (.int (own_hi p2))) (.int (0 : Int32)) := own_arvEq (rfl) V_a0x
  refine stp (fun t k => stpc6 t k) ?_
  show W (Tpc6.setTop (mkF m 53 #[.val (.ref a0), .val (.int ((p1 <<< ((1 : Int32) &&& 31)) + (1 : Int32))), .val (.int p2)] []))
  show W (Tpc6.setTop (mkF m 53 #[.val (.ref a0), .val (.int ((p1 <<< ((1 : Int32) &&& 31)) + (1 : Int32))), .val (.int p2)] []))
  rw [← hW]
  exact own_ret0 Xpc6 hx Bd.notSynchronized Bd.returns (hb hby dpc_53) (by show Qpc Z a0 p1 p2 wc sx kb z vs i h0 n0 _ Tpc6.heap _; rw [epc6]; exact ⟨rfl, Npc6, Kpc6, V_a0⟩) (by decide) (by decide)
theorem own_step2 (n i : Nat) (g : Nat → Int32) : ((own_vs (2 * n) fun j => if j < 2 * i then own_u g j else (0 : Int32)).set (2 * i) (.int (own_lo (g i)))).set (2 * i + 1) (.int (own_hi (g i))) = own_vs (2 * n) fun j => if j < 2 * (i + 1) then own_u g j else (0 : Int32) := by
  rw [own_vsSet, own_vsSet]
  apply own_vsCongr
  intro j _
  by_cases h : j = 2 * i + 1
  · subst h; simp [own_u1, show 2 * i + 1 < 2 * (i + 1) from by omega]
  · by_cases h2 : j = 2 * i
    · subst h2; simp [h, own_u0, show 2 * i < 2 * (i + 1) from by omega]
    · by_cases h3 : j < 2 * i
      · simp [h, h2, h3, show j < 2 * (i + 1) from by omega]
      · simp [h, h2, h3, show ¬ j < 2 * (i + 1) from by omega]
theorem dtb_0 : decode jdk_52_method_14_code 0 = .ok (.iload_n 2, 1) := by decide +kernel
theorem dtb_1 : decode jdk_52_method_14_code 1 = .ok (.invokestatic 107, 3) := by decide +kernel
theorem dtb_4 : decode jdk_52_method_14_code 4 = .ok (.astore_n 3, 1) := by decide +kernel
theorem dtb_5 : decode jdk_52_method_14_code 5 = .ok (.iconst 0, 1) := by decide +kernel
theorem dtb_6 : decode jdk_52_method_14_code 6 = .ok (.istore 4, 2) := by decide +kernel
theorem dtb_8 : decode jdk_52_method_14_code 8 = .ok (.iload 4, 2) := by decide +kernel
theorem dtb_10 : decode jdk_52_method_14_code 10 = .ok (.iload_n 2, 1) := by decide +kernel
theorem dtb_11 : decode jdk_52_method_14_code 11 = .ok (.if_icmp .ge 21, 3) := by decide +kernel
theorem dtb_14 : decode jdk_52_method_14_code 14 = .ok (.aload_n 3, 1) := by decide +kernel
theorem dtb_15 : decode jdk_52_method_14_code 15 = .ok (.iload 4, 2) := by decide +kernel
theorem dtb_17 : decode jdk_52_method_14_code 17 = .ok (.aload_n 0, 1) := by decide +kernel
theorem dtb_18 : decode jdk_52_method_14_code 18 = .ok (.iload_n 1, 1) := by decide +kernel
theorem dtb_19 : decode jdk_52_method_14_code 19 = .ok (.caload, 1) := by decide +kernel
theorem dtb_20 : decode jdk_52_method_14_code 20 = .ok (.invokestatic 111, 3) := by decide +kernel
theorem dtb_23 : decode jdk_52_method_14_code 23 = .ok (.iinc 1 1, 3) := by decide +kernel
theorem dtb_26 : decode jdk_52_method_14_code 26 = .ok (.iinc 4 1, 3) := by decide +kernel
theorem dtb_29 : decode jdk_52_method_14_code 29 = .ok (.goto (-21), 3) := by decide +kernel
theorem dtb_32 : decode jdk_52_method_14_code 32 = .ok (.aload_n 3, 1) := by decide +kernel
theorem dtb_33 : decode jdk_52_method_14_code 33 = .ok (.areturn, 1) := by decide +kernel
theorem pntb : plainName "java/lang/StringUTF16" = true := by first | (simp [plainName, overriddenIn]; done) | decide +kernel
theorem pdtb_0 : parseMethodDescriptor "(I)[B" = some ⟨[.int], some (.array .byte)⟩ := by decide +kernel
theorem pdtb_1 : parseMethodDescriptor "([BII)V" = some ⟨[(.array .byte), .int, .int], none⟩ := by decide +kernel
theorem eftb (m : MethodId) (a0 : Addr) (p1 : Int32) (p2 : Int32) : entryFrame m #[(.ref a0), (.int p1), (.int p2)] 5 = mkF m 0 #[.val (.ref a0), .val (.int p1), .val (.int p2), .unset, .unset] [] := by first | (simp [entryFrame, mkF, argsToLocals, Value.category]; done) | rfl
def Qtb (Z : State) (a0 : Addr) (p1 : Int32) (p2 : Int32) (wc : Int32) (sx : Value) (n : Nat) (g : Nat → Int32) (ka : ClassId) (h0 : Heap) (n0 : Nat) (v : Option Value) (h : Heap) (L : List Loc) : Prop := ∃ (b : Addr) (kb : ClassId), v = some (.ref b) ∧ Fr n0 L ∧ Keep h0 h [] ∧ h0.size ≤ b ∧ Arv Z h b kb .byte (Int32.ofNat (2 * n)) (own_vs (2 * n) (own_u g)) (.int (0 : Int32))
set_option maxRecDepth 65536 in
set_option maxHeartbeats 40000000 in
theorem rmtb (l : Launch) (Z : State) (aa : Array Value) (hw : ∀ d ∈ tables_1, d.before aa Z = true) (ws : List Jvm.Cond) (a0 : Addr) (p1 : Int32) (p2 : Int32) (wc : Int32) (sx : Value) (n : Nat) (g : Nat → Int32) (ka : ClassId) (h0 : Heap) (n0 : Nat) (Z0 : n0 ≤ h0.size) (BW : OwnW Z wc sx) (O0 : Old Z n0 h0) (hn : n ≤ 4) (hch : ∀ j, j < n → 0 ≤ (g j).toInt ∧ (g j).toInt < 65536) (V_a0 : Arv Z h0 a0 ka .char (Int32.ofNat n) (own_vs n g) (.int (0 : Int32))) (hp1 : p1 = (0 : Int32)) (hp2 : p2 = (Int32.ofNat n)) :
    MetFree l (⟨"java/lang/StringUTF16", "toBytes", "([CII)[B"⟩ : MethodName) (head1 (Jvm.Cond.code (⟨"java/lang/StringUTF16", "toBytes", "([CII)[B"⟩ : MethodName) jdk_52_method_14_code 5 (some (.array .byte)) :: ws) ({ frames := 2, cells := 1, slots := 8, locals := 24 } : Room)) (fun a U => a = #[(.ref a0), (.int p1), (.int p2)] ∧ Z.Warmed39 U.vm ∧ U.heap = h0) (fun _ _ _ _ _ => True) (fun _ U o U' => ∃ v L, o = .returned v ∧ Qtb Z a0 p1 p2 wc sx n g ka h0 n0 v U'.heap L ∧ FrameEnd U o U' L ({ frames := 2, cells := 1, slots := 8, locals := 24 } : Room).cells ({ frames := 2, cells := 1, slots := 8, locals := 24 } : Room).slots) := by
  refine MetFree.of_bodySF (plainFor_of_name pntb) hisR ?_
  intro p e s m args below meth c s₁ Bd hml0 hP hK
  obtain ⟨rfl, hZ, hh⟩ := hP
  have hx := Bd.exec
  have hby := Bd.bytes
  have hml : c.maxLocals = 5 := hml0
  have hown : s.vm.findClass "java/lang/StringUTF16" = some m.cls := findClass_of_methodNamed Bd.named
  have hnm := (name_of_methodNamed Bd.named Bd.method).1
  have X0 : Stand p l e ({ frames := 2, cells := 1, slots := 8, locals := 24 } : Room) s m #[(.ref a0), (.int p1), (.int p2)] below meth c s₁ [] 0 0 := Stand.of_body Bd
  have e0 : s₁.heap = h0 := by rw [← hh, Bd.state]; rfl
  have N0 := Fr.nil n0
  show OwnEnd p e below s (fun v h L => Qtb Z a0 p1 p2 wc sx n g ka h0 n0 v h L) ({ frames := 2, cells := 1, slots := 8, locals := 24 } : Room).cells ({ frames := 2, cells := 1, slots := 8, locals := 24 } : Room).slots (s₁.setTop (entryFrame m #[(.ref a0), (.int p1), (.int p2)] 5))
  rw [eftb m a0 p1 p2]
  generalize hW : OwnEnd p e below s (fun v h L => Qtb Z a0 p1 p2 wc sx n g ka h0 n0 v h L) ({ frames := 2, cells := 1, slots := 8, locals := 24 } : Room).cells ({ frames := 2, cells := 1, slots := 8, locals := 24 } : Room).slots = W
  have stp : ∀ {A B : State}, (∀ t, Steps p.tables e below B t → Steps p.tables e below A t) → W B → W A := by subst hW; exact own_step
  obtain ⟨S_cs, hcs, S_si, hr_sx, S_ad, S_hi, S_lo⟩ := id BW
  have hz := own_ofNat (n := n) (by omega)
  have hz2 := own_ofNat (n := 2 * n) (by omega)
  subst hp1 hp2
  show W (s₁.setTop (mkF m 0 #[.val (.ref a0), .val (.int (0 : Int32)), .val (.int (Int32.ofNat n)), .unset, .unset] []))
  refine stp (fun t k => XS.iloadN X0.here hx rfl (hb hby dtb_0) rfl k) ?_
  show W (s₁.setTop (mkF m 1 #[.val (.ref a0), .val (.int (0 : Int32)), .val (.int (Int32.ofNat n)), .unset, .unset] [(.int (Int32.ofNat n))]))
  obtain ⟨_, _, ⟨Ttbc1, Ltbc1, ktbc1, ntbc1⟩, -, Xtbc1, ⟨Lctbc1, hQtbc1, ltbc1, ytbc1, ztbc1⟩, sttbc1⟩ := Jvm.LawKit.callS X0 hx (y := (⟨"java/lang/StringUTF16", "newBytesFor", "(I)[B"⟩ : MethodName)) hown (mvT hZ (hw _ (List.mem_of_getElem? (i := 89) rfl))) (mvT hZ (hw _ (List.mem_of_getElem? (i := 90) rfl))) (mvT hZ (hw _ (List.mem_of_getElem? (i := 47) rfl))) (mvT hZ (hw _ (List.mem_of_getElem? (i := 91) rfl))) (by decide) (backOf (W := 0) (rmnf l Z aa hw [] (Int32.ofNat n) wc sx n h0 n0 Z0 BW O0 hn hz) hZ (hw _ (List.mem_of_getElem? (i := 91) rfl)) (hw _ (List.mem_of_getElem? (i := 47) rfl)) (by decide) (by decide)) (g := (mkF m 1 #[.val (.ref a0), .val (.int (0 : Int32)), .val (.int (Int32.ofNat n)), .unset, .unset] [(.int (Int32.ofNat n))])) rfl (by rw [hml]; rfl) (argsL := [(.int (Int32.ofNat n))]) (rest := []) (lenOf pdtb_0 rfl) rfl (by show 2 * 0 + _ ≤ _; exact Nat.le_of_eq rfl) (hb hby dtb_1) (fun _ _ => ⟨rfl, e0, (by decide : 0 + 1 ≤ _), (by decide : 0 + 8 ≤ _)⟩)
  dsimp only [Pt.U, Pt.locs, Pt.cells, Pt.slots] at Xtbc1 ltbc1 ytbc1 ztbc1 sttbc1 hQtbc1
  subst ltbc1 ytbc1 ztbc1
  obtain ⟨btbc1, kbtbc1, rfl, Ntbc1q, Kqtbc1, sz_btbc1, V_btbc1⟩ := hQtbc1
  have Ntbc1 := Fr.app N0 Ntbc1q
  obtain ⟨lctbt2, Xtbc1, Ntbc1⟩ : ∃ lc, Stand p l e ({ frames := 2, cells := 1, slots := 8, locals := 24 } : Room) s m #[(.ref a0), (.int (0 : Int32)), (.int (Int32.ofNat n))] below meth c Ttbc1 lc 1 8 ∧ Fr n0 lc := ⟨_, Xtbc1, Ntbc1⟩
  obtain ⟨htbc1, etbc1⟩ : ∃ h, Ttbc1.heap = h := ⟨_, rfl⟩
  rw [etbc1] at Kqtbc1 V_btbc1
  have ne_a0_btbc1 : a0 ≠ btbc1 := Nat.ne_of_lt (Nat.lt_of_lt_of_le V_a0.lt sz_btbc1)
  have g_btbc1 : n0 ≤ btbc1 := Nat.le_trans Z0 sz_btbc1
  have sz_btbc1 : h0.size ≤ btbc1 := Nat.le_trans (Keep.refl h0 []).1 sz_btbc1
  replace V_a0 := V_a0.keep Kqtbc1 nin0
  have KKtbc1 := Keep.trans (Keep.refl h0 []) Kqtbc1 all0
  have Ztbc1 := Nat.le_trans Z0 Kqtbc1.1
  have Otbc1 := O0.keep Kqtbc1 all0
  refine stp (fun t k => sttbc1 t k) ?_
  show W (Ttbc1.setTop (mkF m 4 #[.val (.ref a0), .val (.int (0 : Int32)), .val (.int (Int32.ofNat n)), .unset, .unset] [(.ref btbc1)]))
  refine stp (fun t k => XS.astoreN Xtbc1.here hx rfl (hb hby dtb_4) rfl rfl (l' := #[.val (.ref a0), .val (.int (0 : Int32)), .val (.int (Int32.ofNat n)), .val (.ref btbc1), .unset]) rfl k) ?_
  show W (Ttbc1.setTop (mkF m 5 #[.val (.ref a0), .val (.int (0 : Int32)), .val (.int (Int32.ofNat n)), .val (.ref btbc1), .unset] []))
  refine stp (fun t k => XS.iconst Xtbc1.here hx rfl (hb hby dtb_5) k) ?_
  show W (Ttbc1.setTop (mkF m 6 #[.val (.ref a0), .val (.int (0 : Int32)), .val (.int (Int32.ofNat n)), .val (.ref btbc1), .unset] [(.int (0 : Int32))]))
  refine stp (fun t k => XS.istore Xtbc1.here hx rfl (hb hby dtb_6) rfl (l' := #[.val (.ref a0), .val (.int (0 : Int32)), .val (.int (Int32.ofNat n)), .val (.ref btbc1), .val (.int (0 : Int32))]) rfl k) ?_
  have LP : ∀ (r i : Nat) (x1 : Int32) (x4 : Int32) (T' : State) (lc : List Loc) (h' : Heap) (hir : i + r = n) (hx1 : x1.toInt = (i : Int)) (hx4 : x4.toInt = (i : Int)) (XL : Stand p l e ({ frames := 2, cells := 1, slots := 8, locals := 24 } : Room) s m #[(.ref a0), (.int (0 : Int32)), (.int (Int32.ofNat n))] below meth c T' lc 1 8) (eL : T'.heap = h') (NL : Fr n0 lc) (KL : Keep h0 h' []) (OL : Old Z n0 h') (V_a0 : Arv Z h' a0 ka .char (Int32.ofNat n) (own_vs n g) (.int (0 : Int32))) (V_btbc1 : Arv Z h' btbc1 kbtbc1 .byte (Int32.ofNat (2 * n)) (own_vs (2 * n) fun j => if j < 2 * i then own_u g j else (0 : Int32)) (.int (0 : Int32))), W (T'.setTop (mkF m 8 #[.val (.ref a0), .val (.int x1), .val (.int (Int32.ofNat n)), .val (.ref btbc1), .val (.int x4)] [])) := by
    intro r
    induction r with
    | zero =>
      intro i x1 x4 T' lc h' hir hx1 hx4 XL eL NL KL OL V_a0 V_btbc1
      have ZL : n0 ≤ h'.size := Nat.le_trans Z0 KL.1
      show W (T'.setTop (mkF m 8 #[.val (.ref a0), .val (.int x1), .val (.int (Int32.ofNat n)), .val (.ref btbc1), .val (.int x4)] []))
      refine stp (fun t k => XS.iload XL.here hx rfl (hb hby dtb_8) rfl k) ?_
      show W (T'.setTop (mkF m 10 #[.val (.ref a0), .val (.int x1), .val (.int (Int32.ofNat n)), .val (.ref btbc1), .val (.int x4)] [(.int x4)]))
      refine stp (fun t k => XS.iloadN XL.here hx rfl (hb hby dtb_10) rfl k) ?_
      show W (T'.setTop (mkF m 11 #[.val (.ref a0), .val (.int x1), .val (.int (Int32.ofNat n)), .val (.ref btbc1), .val (.int x4)] [(.int (Int32.ofNat n)), (.int x4)]))
      refine stp (fun t k => XS.icmpYes XL.here hx rfl (pc0 := 11) (pc' := 32) rfl (hb hby dtb_11) rfl ((flt (fun q => by have := (own_lt32 hx4 hz).mp q; omega)).2.1) (by decide) (by decide) k) ?_
      show W (T'.setTop (mkF m 32 #[.val (.ref a0), .val (.int x1), .val (.int (Int32.ofNat n)), .val (.ref btbc1), .val (.int x4)] []))
      refine stp (fun t k => XS.aloadN XL.here hx rfl (hb hby dtb_32) rfl rfl k) ?_
      show W (T'.setTop (mkF m 33 #[.val (.ref a0), .val (.int x1), .val (.int (Int32.ofNat n)), .val (.ref btbc1), .val (.int x4)] [(.ref btbc1)]))
      show W (T'.setTop (mkF m 33 #[.val (.ref a0), .val (.int x1), .val (.int (Int32.ofNat n)), .val (.ref btbc1), .val (.int x4)] [(.ref btbc1)]))
      rw [← hW]
      exact own_retR XL hx Bd.notSynchronized Bd.returns rfl (hb hby dtb_33) (by show Qtb Z a0 (0 : Int32) (Int32.ofNat n) wc sx n g ka h0 n0 _ T'.heap _; rw [eL]; exact ⟨btbc1, kbtbc1, rfl, NL, KL, sz_btbc1, (by obtain rfl : i = n := (by omega); exact own_arvEq (own_vsCongr (fun j hj => if_pos hj)) V_btbc1)⟩) (by decide) (by decide)
    | succ r ih =>
      intro i x1 x4 T' lc h' hir hx1 hx4 XL eL NL KL OL V_a0 V_btbc1
      have ZL : n0 ≤ h'.size := Nat.le_trans Z0 KL.1
      show W (T'.setTop (mkF m 8 #[.val (.ref a0), .val (.int x1), .val (.int (Int32.ofNat n)), .val (.ref btbc1), .val (.int x4)] []))
      refine stp (fun t k => XS.iload XL.here hx rfl (hb hby dtb_8) rfl k) ?_
      show W (T'.setTop (mkF m 10 #[.val (.ref a0), .val (.int x1), .val (.int (Int32.ofNat n)), .val (.ref btbc1), .val (.int x4)] [(.int x4)]))
      refine stp (fun t k => XS.iloadN XL.here hx rfl (hb hby dtb_10) rfl k) ?_
      show W (T'.setTop (mkF m 11 #[.val (.ref a0), .val (.int x1), .val (.int (Int32.ofNat n)), .val (.ref btbc1), .val (.int x4)] [(.int (Int32.ofNat n)), (.int x4)]))
      refine stp (fun t k => XS.icmpNo XL.here hx rfl (hb hby dtb_11) rfl ((tlt ((own_lt32 hx4 hz).mpr (by omega))).2.1) k) ?_
      show W (T'.setTop (mkF m 14 #[.val (.ref a0), .val (.int x1), .val (.int (Int32.ofNat n)), .val (.ref btbc1), .val (.int x4)] []))
      refine stp (fun t k => XS.aloadN XL.here hx rfl (hb hby dtb_14) rfl rfl k) ?_
      show W (T'.setTop (mkF m 15 #[.val (.ref a0), .val (.int x1), .val (.int (Int32.ofNat n)), .val (.ref btbc1), .val (.int x4)] [(.ref btbc1)]))
      refine stp (fun t k => XS.iload XL.here hx rfl (hb hby dtb_15) rfl k) ?_
      show W (T'.setTop (mkF m 17 #[.val (.ref a0), .val (.int x1), .val (.int (Int32.ofNat n)), .val (.ref btbc1), .val (.int x4)] [(.int x4), (.ref btbc1)]))
      refine stp (fun t k => XS.aloadN XL.here hx rfl (hb hby dtb_17) rfl rfl k) ?_
      show W (T'.setTop (mkF m 18 #[.val (.ref a0), .val (.int x1), .val (.int (Int32.ofNat n)), .val (.ref btbc1), .val (.int x4)] [(.ref a0), (.int x4), (.ref btbc1)]))
      refine stp (fun t k => XS.iloadN XL.here hx rfl (hb hby dtb_18) rfl k) ?_
      show W (T'.setTop (mkF m 19 #[.val (.ref a0), .val (.int x1), .val (.int (Int32.ofNat n)), .val (.ref btbc1), .val (.int x4)] [(.int x1), (.ref a0), (.int x4), (.ref btbc1)]))
      obtain ⟨cltb3, Artb3, qktb3, qstb3, qntb3, qhtb3, qgtb3⟩ := id V_a0
      have hintb3 : ¬ (x1 < 0 ∨ cltb3.slots.size ≤ (x1).toNatClampNeg) := inb_of qstb3 ⟨own_nn hx1, (own_lt32 hx1 hz).mpr (by omega)⟩
      have hattb3 : cltb3.slots[(x1).toNatClampNeg]? = some (.int (g i)) := qhtb3.at hintb3 (by rw [own_clamp hx1, own_vsGet (by omega)])
      refine stp (fun t k => XL.caload hx (j := x1) (v := (.int (g i))) (by rw [eL]; exact Artb3.1) (State.isArrayOf_alike hZ.alike Artb3.2.1) Artb3.2.2 hintb3 hattb3 (g := (mkF m 19 #[.val (.ref a0), .val (.int x1), .val (.int (Int32.ofNat n)), .val (.ref btbc1), .val (.int x4)] [(.int x1), (.ref a0), (.int x4), (.ref btbc1)])) rfl rfl (hb hby dtb_19) _ k) ?_
      show W (T'.setTop (mkF m 20 #[.val (.ref a0), .val (.int x1), .val (.int (Int32.ofNat n)), .val (.ref btbc1), .val (.int x4)] [(.int (g i)), (.int x4), (.ref btbc1)]))
      obtain ⟨_, _, ⟨Ttbc4, Ltbc4, ktbc4, ntbc4⟩, -, Xtbc4, ⟨Lctbc4, hQtbc4, ltbc4, ytbc4, ztbc4⟩, sttbc4⟩ := Jvm.LawKit.callS XL hx (y := (⟨"java/lang/StringUTF16", "putChar", "([BII)V"⟩ : MethodName)) hown (mvT hZ (hw _ (List.mem_of_getElem? (i := 96) rfl))) (mvT hZ (hw _ (List.mem_of_getElem? (i := 97) rfl))) (mvT hZ (hw _ (List.mem_of_getElem? (i := 47) rfl))) (mvT hZ (hw _ (List.mem_of_getElem? (i := 98) rfl))) (by decide) (backOf (W := 0) (rmpc l Z aa hw [] btbc1 x4 (g i) wc sx kbtbc1 (Int32.ofNat (2 * n)) (own_vs (2 * n) fun j => if j < 2 * i then own_u g j else (0 : Int32)) i h' n0 ZL BW OL V_btbc1 g_btbc1 hx4 (by omega) (by rw [own_vsLen]; exact hz2) (by rw [own_vsLen]; omega)) hZ (hw _ (List.mem_of_getElem? (i := 98) rfl)) (hw _ (List.mem_of_getElem? (i := 47) rfl)) (by decide) (by decide)) (g := (mkF m 20 #[.val (.ref a0), .val (.int x1), .val (.int (Int32.ofNat n)), .val (.ref btbc1), .val (.int x4)] [(.int (g i)), (.int x4), (.ref btbc1)])) rfl (by rw [hml]; rfl) (argsL := [(.ref btbc1), (.int x4), (.int (g i))]) (rest := []) (lenOf pdtb_1 rfl) rfl (by show 2 * 0 + _ ≤ _; exact Nat.le_of_eq rfl) (hb hby dtb_20) (fun _ _ => ⟨rfl, eL, (by decide : 1 + 0 ≤ _), (by decide : 8 + 0 ≤ _)⟩)
      dsimp only [Pt.U, Pt.locs, Pt.cells, Pt.slots] at Xtbc4 ltbc4 ytbc4 ztbc4 sttbc4 hQtbc4
      subst ltbc4 ytbc4 ztbc4
      obtain ⟨rfl, Ntbc4q, Kqtbc4, Vtbc4⟩ := hQtbc4
      have Ntbc4 := Fr.app NL Ntbc4q
      obtain ⟨lctbt5, Xtbc4, Ntbc4⟩ : ∃ lc, Stand p l e ({ frames := 2, cells := 1, slots := 8, locals := 24 } : Room) s m #[(.ref a0), (.int (0 : Int32)), (.int (Int32.ofNat n))] below meth c Ttbc4 lc 1 8 ∧ Fr n0 lc := ⟨_, Xtbc4, Ntbc4⟩
      obtain ⟨htbc4, etbc4⟩ : ∃ h, Ttbc4.heap = h := ⟨_, rfl⟩
      rw [etbc4] at Kqtbc4 Vtbc4
      replace V_a0 := V_a0.keep Kqtbc4 (ninS ne_a0_btbc1 nin0)
      have KKtbc4 := Keep.trans KL Kqtbc4 (allS (Or.inr sz_btbc1) all0)
      have Ztbc4 := Nat.le_trans ZL Kqtbc4.1
      have Otbc4 := OL.keep Kqtbc4 (allS g_btbc1 all0)
      have V_btbc1 : Arv Z htbc4 btbc1 kbtbc1 .byte (Int32.ofNat (2 * n)) (own_vs (2 * n) fun j => if j < 2 * (i + 1) then own_u g j else (0 : Int32)) (.int (0 : Int32)) := own_arvEq (own_step2 n i g) Vtbc4
      refine stp (fun t k => sttbc4 t k) ?_
      show W (Ttbc4.setTop (mkF m 23 #[.val (.ref a0), .val (.int x1), .val (.int (Int32.ofNat n)), .val (.ref btbc1), .val (.int x4)] []))
      refine stp (fun t k => XS.iinc Xtbc4.here hx rfl (hb hby dtb_23) rfl (l' := #[.val (.ref a0), .val (.int (x1 + (1 : Int32))), .val (.int (Int32.ofNat n)), .val (.ref btbc1), .val (.int x4)]) rfl k) ?_
      show W (Ttbc4.setTop (mkF m 26 #[.val (.ref a0), .val (.int (x1 + (1 : Int32))), .val (.int (Int32.ofNat n)), .val (.ref btbc1), .val (.int x4)] []))
      refine stp (fun t k => XS.iinc Xtbc4.here hx rfl (hb hby dtb_26) rfl (l' := #[.val (.ref a0), .val (.int (x1 + (1 : Int32))), .val (.int (Int32.ofNat n)), .val (.ref btbc1), .val (.int (x4 + (1 : Int32)))]) rfl k) ?_
      show W (Ttbc4.setTop (mkF m 29 #[.val (.ref a0), .val (.int (x1 + (1 : Int32))), .val (.int (Int32.ofNat n)), .val (.ref btbc1), .val (.int (x4 + (1 : Int32)))] []))
      refine stp (fun t k => XS.goto Xtbc4.here hx rfl (pc0 := 29) (pc' := 8) rfl (hb hby dtb_29) (by decide) (by decide) k) ?_
      exact ih (i + 1) _ _ _ _ _ (by omega) (own_inc hx1 (by omega)) (own_inc hx4 (by omega)) Xtbc4 etbc4 Ntbc4 KKtbc4 Otbc4 V_a0 V_btbc1
  exact LP n 0 (0 : Int32) (0 : Int32) _ _ _ (by omega) rfl rfl Xtbc1 etbc1 Ntbc1 KKtbc1 Otbc1 V_a0 (by simpa using V_btbc1)
theorem own_gt255 {c : Int32} (h : 256 ≤ c.toInt) : (255 : Int32) < c := by
  rw [Int32.lt_iff_toInt_lt, show (255 : Int32).toInt = 255 from by decide]; omega
theorem dk2_0 : decode jdk_52_method_16_code 0 = .ok (.iload_n 2, 1) := by decide +kernel
theorem dk2_1 : decode jdk_52_method_16_code 1 = .ok (.newarray .byte, 2) := by decide +kernel
theorem dk2_3 : decode jdk_52_method_16_code 3 = .ok (.astore_n 3, 1) := by decide +kernel
theorem dk2_4 : decode jdk_52_method_16_code 4 = .ok (.aload_n 0, 1) := by decide +kernel
theorem dk2_5 : decode jdk_52_method_16_code 5 = .ok (.iload_n 1, 1) := by decide +kernel
theorem dk2_6 : decode jdk_52_method_16_code 6 = .ok (.aload_n 3, 1) := by decide +kernel
theorem dk2_7 : decode jdk_52_method_16_code 7 = .ok (.iconst 0, 1) := by decide +kernel
theorem dk2_8 : decode jdk_52_method_16_code 8 = .ok (.iload_n 2, 1) := by decide +kernel
theorem dk2_9 : decode jdk_52_method_16_code 9 = .ok (.invokestatic 115, 3) := by decide +kernel
theorem dk2_12 : decode jdk_52_method_16_code 12 = .ok (.istore 4, 2) := by decide +kernel
theorem dk2_14 : decode jdk_52_method_16_code 14 = .ok (.iload 4, 2) := by decide +kernel
theorem dk2_16 : decode jdk_52_method_16_code 16 = .ok (.iload_n 2, 1) := by decide +kernel
theorem dk2_17 : decode jdk_52_method_16_code 17 = .ok (.if_icmp .eq 40, 3) := by decide +kernel
theorem dk2_20 : decode jdk_52_method_16_code 20 = .ok (.aload_n 0, 1) := by decide +kernel
theorem dk2_21 : decode jdk_52_method_16_code 21 = .ok (.iload_n 1, 1) := by decide +kernel
theorem dk2_22 : decode jdk_52_method_16_code 22 = .ok (.iload_n 2, 1) := by decide +kernel
theorem dk2_23 : decode jdk_52_method_16_code 23 = .ok (.invokestatic 119, 3) := by decide +kernel
theorem dk2_26 : decode jdk_52_method_16_code 26 = .ok (.astore 5, 2) := by decide +kernel
theorem dk2_28 : decode jdk_52_method_16_code 28 = .ok (.aload 5, 2) := by decide +kernel
theorem dk2_30 : decode jdk_52_method_16_code 30 = .ok (.iload 4, 2) := by decide +kernel
theorem dk2_32 : decode jdk_52_method_16_code 32 = .ok (.invokestatic 71, 3) := by decide +kernel
theorem dk2_35 : decode jdk_52_method_16_code 35 = .ok (.sipush 255, 3) := by decide +kernel
theorem dk2_38 : decode jdk_52_method_16_code 38 = .ok (.if_icmp .gt 16, 3) := by decide +kernel
theorem dk2_54 : decode jdk_52_method_16_code 54 = .ok (.aload 5, 2) := by decide +kernel
theorem dk2_56 : decode jdk_52_method_16_code 56 = .ok (.areturn, 1) := by decide +kernel
theorem dk2_57 : decode jdk_52_method_16_code 57 = .ok (.aload_n 3, 1) := by decide +kernel
theorem dk2_58 : decode jdk_52_method_16_code 58 = .ok (.areturn, 1) := by decide +kernel
theorem pnk2 : plainName "java/lang/StringUTF16" = true := by first | (simp [plainName, overriddenIn]; done) | decide +kernel
theorem pdk2_0 : parseMethodDescriptor "([CI[BII)I" = some ⟨[(.array .char), .int, (.array .byte), .int, .int], some .int⟩ := by decide +kernel
theorem pdk2_1 : parseMethodDescriptor "([CII)[B" = some ⟨[(.array .char), .int, .int], some (.array .byte)⟩ := by decide +kernel
theorem pdk2_2 : parseMethodDescriptor "([BI)C" = some ⟨[(.array .byte), .int], some .char⟩ := by decide +kernel
theorem efk2 (m : MethodId) (a0 : Addr) (p1 : Int32) (p2 : Int32) : entryFrame m #[(.ref a0), (.int p1), (.int p2)] 6 = mkF m 0 #[.val (.ref a0), .val (.int p1), .val (.int p2), .unset, .unset, .unset] [] := by first | (simp [entryFrame, mkF, argsToLocals, Value.category]; done) | rfl
def Qk2 (Z : State) (a0 : Addr) (p1 : Int32) (p2 : Int32) (wc : Int32) (sx : Value) (n : Nat) (g : Nat → Int32) (ka : ClassId) (h0 : Heap) (n0 : Nat) (v : Option Value) (h : Heap) (L : List Loc) : Prop := ∃ (b : Addr) (kb : ClassId), v = some (.ref b) ∧ Fr n0 L ∧ Keep h0 h [] ∧ h0.size ≤ b ∧ (((∀ j, j < n → (g j).toInt < 256) ∧ Arv Z h b kb .byte (Int32.ofNat n) (own_vs n fun j => own_b (g j)) (.int (0 : Int32))) ∨ ((∃ j, j < n ∧ 256 ≤ (g j).toInt) ∧ Arv Z h b kb .byte (Int32.ofNat (2 * n)) (own_vs (2 * n) (own_u g)) (.int (0 : Int32))))
set_option maxRecDepth 65536 in
set_option maxHeartbeats 40000000 in
theorem rmk2 (l : Launch) (Z : State) (aa : Array Value) (hw : ∀ d ∈ tables_1, d.before aa Z = true) (ws : List Jvm.Cond) (a0 : Addr) (p1 : Int32) (p2 : Int32) (wc : Int32) (sx : Value) (n : Nat) (g : Nat → Int32) (ka : ClassId) (h0 : Heap) (n0 : Nat) (Z0 : n0 ≤ h0.size) (BW : OwnW Z wc sx) (O0 : Old Z n0 h0) (hn : n ≤ 4) (hch : ∀ j, j < n → 0 ≤ (g j).toInt ∧ (g j).toInt < 65536) (V_a0 : Arv Z h0 a0 ka .char (Int32.ofNat n) (own_vs n g) (.int (0 : Int32))) (hp1 : p1 = (0 : Int32)) (hp2 : p2 = (Int32.ofNat n)) :
    MetFree l (⟨"java/lang/StringUTF16", "compress", "([CII)[B"⟩ : MethodName) (head1 (Jvm.Cond.code (⟨"java/lang/StringUTF16", "compress", "([CII)[B"⟩ : MethodName) jdk_52_method_16_code 6 (some (.array .byte)) :: ws) ({ frames := 3, cells := 2, slots := 12, locals := 40 } : Room)) (fun a U => a = #[(.ref a0), (.int p1), (.int p2)] ∧ Z.Warmed39 U.vm ∧ U.heap = h0) (fun _ _ _ _ _ => True) (fun _ U o U' => ∃ v L, o = .returned v ∧ Qk2 Z a0 p1 p2 wc sx n g ka h0 n0 v U'.heap L ∧ FrameEnd U o U' L ({ frames := 3, cells := 2, slots := 12, locals := 40 } : Room).cells ({ frames := 3, cells := 2, slots := 12, locals := 40 } : Room).slots) := by
  refine MetFree.of_bodySF (plainFor_of_name pnk2) hisR ?_
  intro p e s m args below meth c s₁ Bd hml0 hP hK
  obtain ⟨rfl, hZ, hh⟩ := hP
  have hx := Bd.exec
  have hby := Bd.bytes
  have hml : c.maxLocals = 6 := hml0
  have hown : s.vm.findClass "java/lang/StringUTF16" = some m.cls := findClass_of_methodNamed Bd.named
  have hnm := (name_of_methodNamed Bd.named Bd.method).1
  have X0 : Stand p l e ({ frames := 3, cells := 2, slots := 12, locals := 40 } : Room) s m #[(.ref a0), (.int p1), (.int p2)] below meth c s₁ [] 0 0 := Stand.of_body Bd
  have e0 : s₁.heap = h0 := by rw [← hh, Bd.state]; rfl
  have N0 := Fr.nil n0
  show OwnEnd p e below s (fun v h L => Qk2 Z a0 p1 p2 wc sx n g ka h0 n0 v h L) ({ frames := 3, cells := 2, slots := 12, locals := 40 } : Room).cells ({ frames := 3, cells := 2, slots := 12, locals := 40 } : Room).slots (s₁.setTop (entryFrame m #[(.ref a0), (.int p1), (.int p2)] 6))
  rw [efk2 m a0 p1 p2]
  generalize hW : OwnEnd p e below s (fun v h L => Qk2 Z a0 p1 p2 wc sx n g ka h0 n0 v h L) ({ frames := 3, cells := 2, slots := 12, locals := 40 } : Room).cells ({ frames := 3, cells := 2, slots := 12, locals := 40 } : Room).slots = W
  have stp : ∀ {A B : State}, (∀ t, Steps p.tables e below B t → Steps p.tables e below A t) → W B → W A := by subst hW; exact own_step
  obtain ⟨S_cs, hcs, S_si, hr_sx, S_ad, S_hi, S_lo⟩ := id BW
  have hz := own_ofNat (n := n) (by omega)
  have hz2 := own_ofNat (n := 2 * n) (by omega)
  subst hp1 hp2
  show W (s₁.setTop (mkF m 0 #[.val (.ref a0), .val (.int (0 : Int32)), .val (.int (Int32.ofNat n)), .unset, .unset, .unset] []))
  refine stp (fun t k => XS.iloadN X0.here hx rfl (hb hby dk2_0) rfl k) ?_
  show W (s₁.setTop (mkF m 1 #[.val (.ref a0), .val (.int (0 : Int32)), .val (.int (Int32.ofNat n)), .unset, .unset, .unset] [(.int (Int32.ofNat n))]))
  obtain ⟨Tk21, hk21, kk21, Xk21, ek21, Ek21, Ak21, stk21⟩ := newP X0 hx hZ (hw _ (List.mem_of_getElem? (i := 19) rfl)) e0 (g := (mkF m 1 #[.val (.ref a0), .val (.int (0 : Int32)), .val (.int (Int32.ofNat n)), .unset, .unset, .unset] [(.int (Int32.ofNat n))])) rfl (hb hby dk2_1) rfl (own_nn hz) (cap := 4) (by rw [own_clamp hz]; exact hn) (by decide) (by decide) (by decide)
  obtain ⟨bk21, gqk21⟩ : ∃ z, z = h0.size := ⟨_, rfl⟩
  rw [← gqk21] at Ak21 stk21
  have ne_a0_bk21 : a0 ≠ bk21 := Nat.ne_of_lt (Nat.lt_of_lt_of_le V_a0.lt (Nat.le_of_eq gqk21.symm))
  have g_bk21 : n0 ≤ bk21 := Nat.le_trans Z0 (Nat.le_of_eq gqk21.symm)
  have sz_bk21 : h0.size ≤ bk21 := Nat.le_trans (Keep.refl h0 []).1 (Nat.le_of_eq gqk21.symm)
  replace V_a0 := V_a0.ext Ek21
  have Kk21 := (Keep.refl h0 []).ext Ek21
  have Zk21 := Nat.le_trans Z0 Ek21.1
  have Ok21 := O0.ext Ek21
  have V_bk21 : Arv Z hk21 bk21 kk21 .byte (Int32.ofNat n) (own_vs n fun _ => (0 : Int32)) (.int (0 : Int32)) := (Arv.new Ak21 (own_nn hz)).pad (own_vsPad _)
  refine stp (fun t k => stk21 t k) ?_
  show W (Tk21.setTop (mkF m 3 #[.val (.ref a0), .val (.int (0 : Int32)), .val (.int (Int32.ofNat n)), .unset, .unset, .unset] [(.ref bk21)]))
  refine stp (fun t k => XS.astoreN Xk21.here hx rfl (hb hby dk2_3) rfl rfl (l' := #[.val (.ref a0), .val (.int (0 : Int32)), .val (.int (Int32.ofNat n)), .val (.ref bk21), .unset, .unset]) rfl k) ?_
  show W (Tk21.setTop (mkF m 4 #[.val (.ref a0), .val (.int (0 : Int32)), .val (.int (Int32.ofNat n)), .val (.ref bk21), .unset, .unset] []))
  refine stp (fun t k => XS.aloadN Xk21.here hx rfl (hb hby dk2_4) rfl rfl k) ?_
  show W (Tk21.setTop (mkF m 5 #[.val (.ref a0), .val (.int (0 : Int32)), .val (.int (Int32.ofNat n)), .val (.ref bk21), .unset, .unset] [(.ref a0)]))
  refine stp (fun t k => XS.iloadN Xk21.here hx rfl (hb hby dk2_5) rfl k) ?_
  show W (Tk21.setTop (mkF m 6 #[.val (.ref a0), .val (.int (0 : Int32)), .val (.int (Int32.ofNat n)), .val (.ref bk21), .unset, .unset] [(.int (0 : Int32)), (.ref a0)]))
  refine stp (fun t k => XS.aloadN Xk21.here hx rfl (hb hby dk2_6) rfl rfl k) ?_
  show W (Tk21.setTop (mkF m 7 #[.val (.ref a0), .val (.int (0 : Int32)), .val (.int (Int32.ofNat n)), .val (.ref bk21), .unset, .unset] [(.ref bk21), (.int (0 : Int32)), (.ref a0)]))
  refine stp (fun t k => XS.iconst Xk21.here hx rfl (hb hby dk2_7) k) ?_
  show W (Tk21.setTop (mkF m 8 #[.val (.ref a0), .val (.int (0 : Int32)), .val (.int (Int32.ofNat n)), .val (.ref bk21), .unset, .unset] [(.int (0 : Int32)), (.ref bk21), (.int (0 : Int32)), (.ref a0)]))
  refine stp (fun t k => XS.iloadN Xk21.here hx rfl (hb hby dk2_8) rfl k) ?_
  show W (Tk21.setTop (mkF m 9 #[.val (.ref a0), .val (.int (0 : Int32)), .val (.int (Int32.ofNat n)), .val (.ref bk21), .unset, .unset] [(.int (Int32.ofNat n)), (.int (0 : Int32)), (.ref bk21), (.int (0 : Int32)), (.ref a0)]))
  obtain ⟨_, _, ⟨Tk2c2, Lk2c2, kk2c2, nk2c2⟩, -, Xk2c2, ⟨Lck2c2, hQk2c2, lk2c2, yk2c2, zk2c2⟩, stk2c2⟩ := Jvm.LawKit.callS Xk21 hx (y := (⟨"java/lang/StringUTF16", "compress", "([CI[BII)I"⟩ : MethodName)) hown (mvT hZ (hw _ (List.mem_of_getElem? (i := 49) rfl))) (mvT hZ (hw _ (List.mem_of_getElem? (i := 50) rfl))) (mvT hZ (hw _ (List.mem_of_getElem? (i := 47) rfl))) (mvT hZ (hw _ (List.mem_of_getElem? (i := 51) rfl))) (by decide) (backOf (W := 0) (rmk1 l Z aa hw [] a0 (0 : Int32) bk21 (0 : Int32) (Int32.ofNat n) wc sx n g ka kk21 hk21 n0 Zk21 BW Ok21 hn hch V_a0 V_bk21 ne_a0_bk21 g_bk21 rfl rfl rfl) hZ (hw _ (List.mem_of_getElem? (i := 51) rfl)) (hw _ (List.mem_of_getElem? (i := 47) rfl)) (by decide) (by decide)) (g := (mkF m 9 #[.val (.ref a0), .val (.int (0 : Int32)), .val (.int (Int32.ofNat n)), .val (.ref bk21), .unset, .unset] [(.int (Int32.ofNat n)), (.int (0 : Int32)), (.ref bk21), (.int (0 : Int32)), (.ref a0)])) rfl (by rw [hml]; rfl) (argsL := [(.ref a0), (.int (0 : Int32)), (.ref bk21), (.int (0 : Int32)), (.int (Int32.ofNat n))]) (rest := []) (lenOf pdk2_0 rfl) rfl (by show 2 * 0 + _ ≤ _; exact Nat.le_of_eq rfl) (hb hby dk2_9) (fun _ _ => ⟨rfl, ek21, (by decide : 1 + 0 ≤ _), (by decide : 4 + 0 ≤ _)⟩)
  dsimp only [Pt.U, Pt.locs, Pt.cells, Pt.slots] at Xk2c2 lk2c2 yk2c2 zk2c2 stk2c2 hQk2c2
  subst lk2c2 yk2c2 zk2c2
  obtain ⟨rk2c2, rfl, Nk2c2q, Kqk2c2, Ck2c2⟩ := hQk2c2
  have Nk2c2 := Fr.app N0 Nk2c2q
  obtain ⟨lck2t3, Xk2c2, Nk2c2⟩ : ∃ lc, Stand p l e ({ frames := 3, cells := 2, slots := 12, locals := 40 } : Room) s m #[(.ref a0), (.int (0 : Int32)), (.int (Int32.ofNat n))] below meth c Tk2c2 lc 1 4 ∧ Fr n0 lc := ⟨_, Xk2c2, Nk2c2⟩
  obtain ⟨hk2c2, ek2c2⟩ : ∃ h, Tk2c2.heap = h := ⟨_, rfl⟩
  rw [ek2c2] at Kqk2c2 Ck2c2
  replace V_a0 := V_a0.keep Kqk2c2 (ninS ne_a0_bk21 nin0)
  have KKk2c2 := Keep.trans Kk21 Kqk2c2 (allS (Or.inr sz_bk21) all0)
  have Zk2c2 := Nat.le_trans Zk21 Kqk2c2.1
  have Ok2c2 := Ok21.keep Kqk2c2 (allS g_bk21 all0)
  refine stp (fun t k => stk2c2 t k) ?_
  show W (Tk2c2.setTop (mkF m 12 #[.val (.ref a0), .val (.int (0 : Int32)), .val (.int (Int32.ofNat n)), .val (.ref bk21), .unset, .unset] [(.int rk2c2)]))
  refine stp (fun t k => XS.istore Xk2c2.here hx rfl (hb hby dk2_12) rfl (l' := #[.val (.ref a0), .val (.int (0 : Int32)), .val (.int (Int32.ofNat n)), .val (.ref bk21), .val (.int rk2c2), .unset]) rfl k) ?_
  show W (Tk2c2.setTop (mkF m 14 #[.val (.ref a0), .val (.int (0 : Int32)), .val (.int (Int32.ofNat n)), .val (.ref bk21), .val (.int rk2c2), .unset] []))
  refine stp (fun t k => XS.iload Xk2c2.here hx rfl (hb hby dk2_14) rfl k) ?_
  show W (Tk2c2.setTop (mkF m 16 #[.val (.ref a0), .val (.int (0 : Int32)), .val (.int (Int32.ofNat n)), .val (.ref bk21), .val (.int rk2c2), .unset] [(.int rk2c2)]))
  refine stp (fun t k => XS.iloadN Xk2c2.here hx rfl (hb hby dk2_16) rfl k) ?_
  show W (Tk2c2.setTop (mkF m 17 #[.val (.ref a0), .val (.int (0 : Int32)), .val (.int (Int32.ofNat n)), .val (.ref bk21), .val (.int rk2c2), .unset] [(.int (Int32.ofNat n)), (.int rk2c2)]))
  rcases Ck2c2 with Ck2c2 | Ck2c2
  · obtain ⟨rfl, hlat, V_bk21⟩ := Ck2c2
    show W (Tk2c2.setTop (mkF m 17 #[.val (.ref a0), .val (.int (0 : Int32)), .val (.int (Int32.ofNat n)), .val (.ref bk21), .val (.int (Int32.ofNat n)), .unset] [(.int (Int32.ofNat n)), (.int (Int32.ofNat n))]))
    refine stp (fun t k => XS.icmpYes Xk2c2.here hx rfl (pc0 := 17) (pc' := 57) rfl (hb hby dk2_17) rfl ((teq (rfl)).1) (by decide) (by decide) k) ?_
    show W (Tk2c2.setTop (mkF m 57 #[.val (.ref a0), .val (.int (0 : Int32)), .val (.int (Int32.ofNat n)), .val (.ref bk21), .val (.int (Int32.ofNat n)), .unset] []))
    refine stp (fun t k => XS.aloadN Xk2c2.here hx rfl (hb hby dk2_57) rfl rfl k) ?_
    show W (Tk2c2.setTop (mkF m 58 #[.val (.ref a0), .val (.int (0 : Int32)), .val (.int (Int32.ofNat n)), .val (.ref bk21), .val (.int (Int32.ofNat n)), .unset] [(.ref bk21)]))
    show W (Tk2c2.setTop (mkF m 58 #[.val (.ref a0), .val (.int (0 : Int32)), .val (.int (Int32.ofNat n)), .val (.ref bk21), .val (.int (Int32.ofNat n)), .unset] [(.ref bk21)]))
    rw [← hW]
    exact own_retR Xk2c2 hx Bd.notSynchronized Bd.returns rfl (hb hby dk2_58) (by show Qk2 Z a0 (0 : Int32) (Int32.ofNat n) wc sx n g ka h0 n0 _ Tk2c2.heap _; rw [ek2c2]; exact ⟨bk21, kk21, rfl, Nk2c2, KKk2c2, sz_bk21, Or.inl ⟨hlat, V_bk21⟩⟩) (by decide) (by decide)
  · obtain ⟨i, hi, hr, hbig⟩ := Ck2c2
    show W (Tk2c2.setTop (mkF m 17 #[.val (.ref a0), .val (.int (0 : Int32)), .val (.int (Int32.ofNat n)), .val (.ref bk21), .val (.int rk2c2), .unset] [(.int (Int32.ofNat n)), (.int rk2c2)]))
    refine stp (fun t k => XS.icmpNo Xk2c2.here hx rfl (hb hby dk2_17) rfl ((feq (fun q => by rw [q, hz] at hr; omega)).1) k) ?_
    show W (Tk2c2.setTop (mkF m 20 #[.val (.ref a0), .val (.int (0 : Int32)), .val (.int (Int32.ofNat n)), .val (.ref bk21), .val (.int rk2c2), .unset] []))
    refine stp (fun t k => XS.aloadN Xk2c2.here hx rfl (hb hby dk2_20) rfl rfl k) ?_
    show W (Tk2c2.setTop (mkF m 21 #[.val (.ref a0), .val (.int (0 : Int32)), .val (.int (Int32.ofNat n)), .val (.ref bk21), .val (.int rk2c2), .unset] [(.ref a0)]))
    refine stp (fun t k => XS.iloadN Xk2c2.here hx rfl (hb hby dk2_21) rfl k) ?_
    show W (Tk2c2.setTop (mkF m 22 #[.val (.ref a0), .val (.int (0 : Int32)), .val (.int (Int32.ofNat n)), .val (.ref bk21), .val (.int rk2c2), .unset] [(.int (0 : Int32)), (.ref a0)]))
    refine stp (fun t k => XS.iloadN Xk2c2.here hx rfl (hb hby dk2_22) rfl k) ?_
    show W (Tk2c2.setTop (mkF m 23 #[.val (.ref a0), .val (.int (0 : Int32)), .val (.int (Int32.ofNat n)), .val (.ref bk21), .val (.int rk2c2), .unset] [(.int (Int32.ofNat n)), (.int (0 : Int32)), (.ref a0)]))
    obtain ⟨_, _, ⟨Tk2c4, Lk2c4, kk2c4, nk2c4⟩, -, Xk2c4, ⟨Lck2c4, hQk2c4, lk2c4, yk2c4, zk2c4⟩, stk2c4⟩ := Jvm.LawKit.callS Xk2c2 hx (y := (⟨"java/lang/StringUTF16", "toBytes", "([CII)[B"⟩ : MethodName)) hown (mvT hZ (hw _ (List.mem_of_getElem? (i := 86) rfl))) (mvT hZ (hw _ (List.mem_of_getElem? (i := 87) rfl))) (mvT hZ (hw _ (List.mem_of_getElem? (i := 47) rfl))) (mvT hZ (hw _ (List.mem_of_getElem? (i := 88) rfl))) (by decide) (backOf (W := 0) (rmtb l Z aa hw [] a0 (0 : Int32) (Int32.ofNat n) wc sx n g ka hk2c2 n0 Zk2c2 BW Ok2c2 hn hch V_a0 rfl rfl) hZ (hw _ (List.mem_of_getElem? (i := 88) rfl)) (hw _ (List.mem_of_getElem? (i := 47) rfl)) (by decide) (by decide)) (g := (mkF m 23 #[.val (.ref a0), .val (.int (0 : Int32)), .val (.int (Int32.ofNat n)), .val (.ref bk21), .val (.int rk2c2), .unset] [(.int (Int32.ofNat n)), (.int (0 : Int32)), (.ref a0)])) rfl (by rw [hml]; rfl) (argsL := [(.ref a0), (.int (0 : Int32)), (.int (Int32.ofNat n))]) (rest := []) (lenOf pdk2_1 rfl) rfl (by show 2 * 0 + _ ≤ _; exact Nat.le_of_eq rfl) (hb hby dk2_23) (fun _ _ => ⟨rfl, ek2c2, (by decide : 1 + 1 ≤ _), (by decide : 4 + 8 ≤ _)⟩)
    dsimp only [Pt.U, Pt.locs, Pt.cells, Pt.slots] at Xk2c4 lk2c4 yk2c4 zk2c4 stk2c4 hQk2c4
    subst lk2c4 yk2c4 zk2c4
    obtain ⟨bk2c4, kbk2c4, rfl, Nk2c4q, Kqk2c4, sz_bk2c4, V_bk2c4⟩ := hQk2c4
    have Nk2c4 := Fr.app Nk2c2 Nk2c4q
    obtain ⟨lck2t5, Xk2c4, Nk2c4⟩ : ∃ lc, Stand p l e ({ frames := 3, cells := 2, slots := 12, locals := 40 } : Room) s m #[(.ref a0), (.int (0 : Int32)), (.int (Int32.ofNat n))] below meth c Tk2c4 lc 2 12 ∧ Fr n0 lc := ⟨_, Xk2c4, Nk2c4⟩
    obtain ⟨hk2c4, ek2c4⟩ : ∃ h, Tk2c4.heap = h := ⟨_, rfl⟩
    rw [ek2c4] at Kqk2c4 V_bk2c4
    have ne_a0_bk2c4 : a0 ≠ bk2c4 := Nat.ne_of_lt (Nat.lt_of_lt_of_le V_a0.lt sz_bk2c4)
    have g_bk2c4 : n0 ≤ bk2c4 := Nat.le_trans Zk2c2 sz_bk2c4
    have sz_bk2c4 : h0.size ≤ bk2c4 := Nat.le_trans KKk2c2.1 sz_bk2c4
    replace V_a0 := V_a0.keep Kqk2c4 nin0
    have KKk2c4 := Keep.trans KKk2c2 Kqk2c4 all0
    have Zk2c4 := Nat.le_trans Zk2c2 Kqk2c4.1
    have Ok2c4 := Ok2c2.keep Kqk2c4 all0
    refine stp (fun t k => stk2c4 t k) ?_
    show W (Tk2c4.setTop (mkF m 26 #[.val (.ref a0), .val (.int (0 : Int32)), .val (.int (Int32.ofNat n)), .val (.ref bk21), .val (.int rk2c2), .unset] [(.ref bk2c4)]))
    refine stp (fun t k => XS.astore Xk2c4.here hx rfl (hb hby dk2_26) rfl rfl (l' := #[.val (.ref a0), .val (.int (0 : Int32)), .val (.int (Int32.ofNat n)), .val (.ref bk21), .val (.int rk2c2), .val (.ref bk2c4)]) rfl k) ?_
    show W (Tk2c4.setTop (mkF m 28 #[.val (.ref a0), .val (.int (0 : Int32)), .val (.int (Int32.ofNat n)), .val (.ref bk21), .val (.int rk2c2), .val (.ref bk2c4)] []))
    refine stp (fun t k => XS.aload Xk2c4.here hx rfl (hb hby dk2_28) rfl rfl k) ?_
    show W (Tk2c4.setTop (mkF m 30 #[.val (.ref a0), .val (.int (0 : Int32)), .val (.int (Int32.ofNat n)), .val (.ref bk21), .val (.int rk2c2), .val (.ref bk2c4)] [(.ref bk2c4)]))
    refine stp (fun t k => XS.iload Xk2c4.here hx rfl (hb hby dk2_30) rfl k) ?_
    show W (Tk2c4.setTop (mkF m 32 #[.val (.ref a0), .val (.int (0 : Int32)), .val (.int (Int32.ofNat n)), .val (.ref bk21), .val (.int rk2c2), .val (.ref bk2c4)] [(.int rk2c2), (.ref bk2c4)]))
    have d0_ := own_shl1 hr (by omega)
    have d1_ := own_inc d0_ (by omega)
    obtain ⟨_, _, ⟨Tk2c6, Lk2c6, kk2c6, nk2c6⟩, -, Xk2c6, ⟨Lck2c6, hQk2c6, lk2c6, yk2c6, zk2c6⟩, stk2c6⟩ := Jvm.LawKit.callS Xk2c4 hx (y := (⟨"java/lang/StringUTF16", "getChar", "([BI)C"⟩ : MethodName)) hown (mvT hZ (hw _ (List.mem_of_getElem? (i := 102) rfl))) (mvT hZ (hw _ (List.mem_of_getElem? (i := 103) rfl))) (mvT hZ (hw _ (List.mem_of_getElem? (i := 47) rfl))) (mvT hZ (hw _ (List.mem_of_getElem? (i := 104) rfl))) (by decide) (backOf (W := 0) (rmgc l Z aa hw [] bk2c4 rk2c2 wc sx kbk2c4 (Int32.ofNat (2 * n)) (own_vs (2 * n) (own_u g)) (own_lo (g i)) (own_hi (g i)) hk2c4 n0 Zk2c4 BW Ok2c4 V_bk2c4 ⟨own_nn d0_, (own_lt32 d0_ hz2).mpr (by omega)⟩ ⟨own_nn d1_, (own_lt32 d1_ hz2).mpr (by omega)⟩ (by rw [own_clamp d0_, own_vsGet (by omega), own_u0]) (by rw [own_clamp d1_, own_vsGet (by omega), own_u1])) hZ (hw _ (List.mem_of_getElem? (i := 104) rfl)) (hw _ (List.mem_of_getElem? (i := 47) rfl)) (by decide) (by decide)) (g := (mkF m 32 #[.val (.ref a0), .val (.int (0 : Int32)), .val (.int (Int32.ofNat n)), .val (.ref bk21), .val (.int rk2c2), .val (.ref bk2c4)] [(.int rk2c2), (.ref bk2c4)])) rfl (by rw [hml]; rfl) (argsL := [(.ref bk2c4), (.int rk2c2)]) (rest := []) (lenOf pdk2_2 rfl) rfl (by show 2 * 0 + _ ≤ _; exact Nat.le_of_eq rfl) (hb hby dk2_32) (fun _ _ => ⟨rfl, ek2c4, (by decide : 2 + 0 ≤ _), (by decide : 12 + 0 ≤ _)⟩)
    dsimp only [Pt.U, Pt.locs, Pt.cells, Pt.slots] at Xk2c6 lk2c6 yk2c6 zk2c6 stk2c6 hQk2c6
    subst lk2c6 yk2c6 zk2c6
    obtain ⟨rfl, Nk2c6q, ek2c6⟩ := hQk2c6
    have Nk2c6 := Fr.app Nk2c4 Nk2c6q
    obtain ⟨lck2t7, Xk2c6, Nk2c6⟩ : ∃ lc, Stand p l e ({ frames := 3, cells := 2, slots := 12, locals := 40 } : Room) s m #[(.ref a0), (.int (0 : Int32)), (.int (Int32.ofNat n))] below meth c Tk2c6 lc 2 12 ∧ Fr n0 lc := ⟨_, Xk2c6, Nk2c6⟩
    refine stp (fun t k => stk2c6 t k) ?_
    show W (Tk2c6.setTop (mkF m 35 #[.val (.ref a0), .val (.int (0 : Int32)), .val (.int (Int32.ofNat n)), .val (.ref bk21), .val (.int rk2c2), .val (.ref bk2c4)] [(.int (fgc (own_lo (g i)) (own_hi (g i))))]))
    refine stp (fun t k => XS.sipush Xk2c6.here hx rfl (hb hby dk2_35) k) ?_
    show W (Tk2c6.setTop (mkF m 38 #[.val (.ref a0), .val (.int (0 : Int32)), .val (.int (Int32.ofNat n)), .val (.ref bk21), .val (.int rk2c2), .val (.ref bk2c4)] [(.int (255 : Int32)), (.int (fgc (own_lo (g i)) (own_hi (g i))))]))
    refine stp (fun t k => XS.icmpYes Xk2c6.here hx rfl (pc0 := 38) (pc' := 54) rfl (hb hby dk2_38) rfl ((tlt (own_gt255 (by rw [own_fgc (hch i hi).1 (hch i hi).2]; exact hbig))).2.2.1) (by decide) (by decide) k) ?_
    show W (Tk2c6.setTop (mkF m 54 #[.val (.ref a0), .val (.int (0 : Int32)), .val (.int (Int32.ofNat n)), .val (.ref bk21), .val (.int rk2c2), .val (.ref bk2c4)] []))
    refine stp (fun t k => XS.aload Xk2c6.here hx rfl (hb hby dk2_54) rfl rfl k) ?_
    show W (Tk2c6.setTop (mkF m 56 #[.val (.ref a0), .val (.int (0 : Int32)), .val (.int (Int32.ofNat n)), .val (.ref bk21), .val (.int rk2c2), .val (.ref bk2c4)] [(.ref bk2c4)]))
    show W (Tk2c6.setTop (mkF m 56 #[.val (.ref a0), .val (.int (0 : Int32)), .val (.int (Int32.ofNat n)), .val (.ref bk21), .val (.int rk2c2), .val (.ref bk2c4)] [(.ref bk2c4)]))
    rw [← hW]
    exact own_retR Xk2c6 hx Bd.notSynchronized Bd.returns rfl (hb hby dk2_56) (by show Qk2 Z a0 (0 : Int32) (Int32.ofNat n) wc sx n g ka h0 n0 _ Tk2c6.heap _; rw [ek2c6]; exact ⟨bk2c4, kbk2c4, rfl, Nk2c6, KKk2c4, sz_bk2c4, Or.inr ⟨⟨i, hi, hbig⟩, V_bk2c4⟩⟩) (by decide) (by decide)
theorem dca_0 : decode jdk_52_method_15_code 0 = .ok (.iload_n 1, 1) := by decide +kernel
theorem dca_1 : decode jdk_52_method_15_code 1 = .ok (.aload_n 0, 1) := by decide +kernel
theorem dca_2 : decode jdk_52_method_15_code 2 = .ok (.arraylength, 1) := by decide +kernel
theorem dca_3 : decode jdk_52_method_15_code 3 = .ok (.isub, 1) := by decide +kernel
theorem dca_4 : decode jdk_52_method_15_code 4 = .ok (.bipush 31, 2) := by decide +kernel
theorem dca_6 : decode jdk_52_method_15_code 6 = .ok (.iushr, 1) := by decide +kernel
theorem dca_7 : decode jdk_52_method_15_code 7 = .ok (.i2b, 1) := by decide +kernel
theorem dca_8 : decode jdk_52_method_15_code 8 = .ok (.ireturn, 1) := by decide +kernel
theorem pnca : plainName "java/lang/StringUTF16" = true := by first | (simp [plainName, overriddenIn]; done) | decide +kernel
theorem efca (m : MethodId) (a0 : Addr) (p1 : Int32) : entryFrame m #[(.ref a0), (.int p1)] 2 = mkF m 0 #[.val (.ref a0), .val (.int p1)] [] := by first | (simp [entryFrame, mkF, argsToLocals, Value.category]; done) | rfl
def fca (p1 : Int32) (z : Int32) : Int32 := (nar .byte ((((p1 - z).toUInt32 >>> ((31 : Int32) &&& 31).toUInt32).toInt32).toInt8.toInt32))
def Qca (Z : State) (a0 : Addr) (p1 : Int32) (wc : Int32) (sx : Value) (kb : ClassId) (z : Int32) (vs : List Value) (h0 : Heap) (n0 : Nat) (v : Option Value) (h : Heap) (L : List Loc) : Prop := v = some (.int (fca p1 z)) ∧ Fr n0 L ∧ h = h0
set_option maxRecDepth 65536 in
set_option maxHeartbeats 40000000 in
theorem rmca (l : Launch) (Z : State) (aa : Array Value) (hw : ∀ d ∈ tables_1, d.before aa Z = true) (ws : List Jvm.Cond) (a0 : Addr) (p1 : Int32) (wc : Int32) (sx : Value) (kb : ClassId) (z : Int32) (vs : List Value) (h0 : Heap) (n0 : Nat) (Z0 : n0 ≤ h0.size) (BW : OwnW Z wc sx) (O0 : Old Z n0 h0) (V_a0 : Arv Z h0 a0 kb .byte z vs (.int (0 : Int32))) :
    MetFree l (⟨"java/lang/StringUTF16", "coderFromArrayLen", "([BI)B"⟩ : MethodName) (head1 (Jvm.Cond.code (⟨"java/lang/StringUTF16", "coderFromArrayLen", "([BI)B"⟩ : MethodName) jdk_52_method_15_code 2 (some .byte) :: ws) ({ frames := 0, cells := 0, slots := 0, locals := 0 } : Room)) (fun a U => a = #[(.ref a0), (.int p1)] ∧ Z.Warmed39 U.vm ∧ U.heap = h0) (fun _ _ _ _ _ => True) (fun _ U o U' => ∃ v L, o = .returned v ∧ Qca Z a0 p1 wc sx kb z vs h0 n0 v U'.heap L ∧ FrameEnd U o U' L ({ frames := 0, cells := 0, slots := 0, locals := 0 } : Room).cells ({ frames := 0, cells := 0, slots := 0, locals := 0 } : Room).slots) := by
  refine MetFree.of_bodySF (plainFor_of_name pnca) hisR ?_
  intro p e s m args below meth c s₁ Bd hml0 hP hK
  obtain ⟨rfl, hZ, hh⟩ := hP
  have hx := Bd.exec
  have hby := Bd.bytes
  have hml : c.maxLocals = 2 := hml0
  have hown : s.vm.findClass "java/lang/StringUTF16" = some m.cls := findClass_of_methodNamed Bd.named
  have hnm := (name_of_methodNamed Bd.named Bd.method).1
  have X0 : Stand p l e ({ frames := 0, cells := 0, slots := 0, locals := 0 } : Room) s m #[(.ref a0), (.int p1)] below meth c s₁ [] 0 0 := Stand.of_body Bd
  have e0 : s₁.heap = h0 := by rw [← hh, Bd.state]; rfl
  have N0 := Fr.nil n0
  show OwnEnd p e below s (fun v h L => Qca Z a0 p1 wc sx kb z vs h0 n0 v h L) ({ frames := 0, cells := 0, slots := 0, locals := 0 } : Room).cells ({ frames := 0, cells := 0, slots := 0, locals := 0 } : Room).slots (s₁.setTop (entryFrame m #[(.ref a0), (.int p1)] 2))
  rw [efca m a0 p1]
  generalize hW : OwnEnd p e below s (fun v h L => Qca Z a0 p1 wc sx kb z vs h0 n0 v h L) ({ frames := 0, cells := 0, slots := 0, locals := 0 } : Room).cells ({ frames := 0, cells := 0, slots := 0, locals := 0 } : Room).slots = W
  have stp : ∀ {A B : State}, (∀ t, Steps p.tables e below B t → Steps p.tables e below A t) → W B → W A := by subst hW; exact own_step
  obtain ⟨S_cs, hcs, S_si, hr_sx, S_ad, S_hi, S_lo⟩ := id BW
  show W (s₁.setTop (mkF m 0 #[.val (.ref a0), .val (.int p1)] []))
  refine stp (fun t k => XS.iloadN X0.here hx rfl (hb hby dca_0) rfl k) ?_
  show W (s₁.setTop (mkF m 1 #[.val (.ref a0), .val (.int p1)] [(.int p1)]))
  refine stp (fun t k => XS.aloadN X0.here hx rfl (hb hby dca_1) rfl rfl k) ?_
  show W (s₁.setTop (mkF m 2 #[.val (.ref a0), .val (.int p1)] [(.ref a0), (.int p1)]))
  obtain ⟨clca1, Arca1, qkca1, qsca1, qnca1, qhca1, qgca1⟩ := id V_a0
  refine stp (fun t k => X0.arraylength hx (by rw [e0]; exact Arca1.1) (State.isArrayOf_alike hZ.alike Arca1.2.1) (g := (mkF m 2 #[.val (.ref a0), .val (.int p1)] [(.ref a0), (.int p1)])) rfl rfl (hb hby dca_2) _ k) ?_
  rw [len_of qsca1 qnca1]
  show W (s₁.setTop (mkF m 3 #[.val (.ref a0), .val (.int p1)] [(.int z), (.int p1)]))
  refine stp (fun t k => XS.isub X0.here hx rfl (hb hby dca_3) rfl k) ?_
  show W (s₁.setTop (mkF m 4 #[.val (.ref a0), .val (.int p1)] [(.int (p1 - z))]))
  refine stp (fun t k => XS.bipush X0.here hx rfl (hb hby dca_4) k) ?_
  show W (s₁.setTop (mkF m 6 #[.val (.ref a0), .val (.int p1)] [(.int (31 : Int32)), (.int (p1 - z))]))
  refine stp (fun t k => XS.iushr X0.here hx rfl (hb hby dca_6) rfl k) ?_
  show W (s₁.setTop (mkF m 7 #[.val (.ref a0), .val (.int p1)] [(.int (((p1 - z).toUInt32 >>> ((31 : Int32) &&& 31).toUInt32).toInt32))]))
  refine stp (fun t k => XS.i2b X0.here hx rfl (hb hby dca_7) rfl k) ?_
  show W (s₁.setTop (mkF m 8 #[.val (.ref a0), .val (.int p1)] [(.int ((((p1 - z).toUInt32 >>> ((31 : Int32) &&& 31).toUInt32).toInt32).toInt8.toInt32))]))
  show W (s₁.setTop (mkF m 8 #[.val (.ref a0), .val (.int p1)] [(.int ((((p1 - z).toUInt32 >>> ((31 : Int32) &&& 31).toUInt32).toInt32).toInt8.toInt32))]))
  rw [← hW]
  exact own_retN X0 hx Bd.notSynchronized Bd.returns (w := (nar .byte ((((p1 - z).toUInt32 >>> ((31 : Int32) &&& 31).toUInt32).toInt32).toInt8.toInt32))) (by simp) (hb hby dca_8) rfl (by show Qca Z a0 p1 wc sx kb z vs h0 n0 _ s₁.heap _; rw [e0]; exact ⟨rfl, N0, rfl⟩) (by decide) (by decide)
theorem own_fca0 (z : Int32) : nar .byte (fca z z) = (0 : Int32) := by
  have e : z - z = 0 := by
    apply Int32.toInt_inj.mp
    have h1 := c_isub z z
    have h2 := rng32 (z - z)
    have h3 : (0 : Int32).toInt = 0 := by decide
    omega
  unfold fca
  rw [e]
  decide
theorem own_fca1 {n : Nat} (h1 : 1 ≤ n) (hn : n ≤ 1000000) : nar .byte (fca (Int32.ofNat n) (Int32.ofNat (2 * n))) = (1 : Int32) := by
  have a1 := own_ofNat (n := n) (by omega)
  have a2 := own_ofNat (n := 2 * n) (by omega)
  have b1 := c_isub (Int32.ofNat n) (Int32.ofNat (2 * n))
  have b2 := rng32 (Int32.ofNat n - Int32.ofNat (2 * n))
  have b3 := c_iushr (Int32.ofNat n - Int32.ofNat (2 * n)) 31 31 (by decide) (by decide)
  have e : ((Int32.ofNat n - Int32.ofNat (2 * n)).toUInt32 >>> ((31 : Int32) &&& 31).toUInt32).toInt32 = 1 := by
    apply Int32.toInt_inj.mp
    rw [b3, show (1 : Int32).toInt = 1 from by decide]
    omega
  unfold fca
  rw [e]
  decide
theorem di2_0 : decode jdk_42_method_149_code 0 = .ok (.aload_n 0, 1) := by decide +kernel
theorem di2_1 : decode jdk_42_method_149_code 1 = .ok (.invokespecial 1, 3) := by decide +kernel
theorem di2_4 : decode jdk_42_method_149_code 4 = .ok (.iload_n 3, 1) := by decide +kernel
theorem di2_5 : decode jdk_42_method_149_code 5 = .ok (.ifCond .ne 22, 3) := by decide +kernel
theorem di2_27 : decode jdk_42_method_149_code 27 = .ok (.getstatic 38, 3) := by decide +kernel
theorem di2_30 : decode jdk_42_method_149_code 30 = .ok (.ifCond .eq 28, 3) := by decide +kernel
theorem di2_33 : decode jdk_42_method_149_code 33 = .ok (.aload_n 1, 1) := by decide +kernel
theorem di2_34 : decode jdk_42_method_149_code 34 = .ok (.iload_n 2, 1) := by decide +kernel
theorem di2_35 : decode jdk_42_method_149_code 35 = .ok (.iload_n 3, 1) := by decide +kernel
theorem di2_36 : decode jdk_42_method_149_code 36 = .ok (.invokestatic 177, 3) := by decide +kernel
theorem di2_39 : decode jdk_42_method_149_code 39 = .ok (.astore 5, 2) := by decide +kernel
theorem di2_41 : decode jdk_42_method_149_code 41 = .ok (.aload_n 0, 1) := by decide +kernel
theorem di2_42 : decode jdk_42_method_149_code 42 = .ok (.aload 5, 2) := by decide +kernel
theorem di2_44 : decode jdk_42_method_149_code 44 = .ok (.iload_n 3, 1) := by decide +kernel
theorem di2_45 : decode jdk_42_method_149_code 45 = .ok (.invokestatic 47, 3) := by decide +kernel
theorem di2_48 : decode jdk_42_method_149_code 48 = .ok (.putfield 15, 3) := by decide +kernel
theorem di2_51 : decode jdk_42_method_149_code 51 = .ok (.aload_n 0, 1) := by decide +kernel
theorem di2_52 : decode jdk_42_method_149_code 52 = .ok (.aload 5, 2) := by decide +kernel
theorem di2_54 : decode jdk_42_method_149_code 54 = .ok (.putfield 9, 3) := by decide +kernel
theorem di2_57 : decode jdk_42_method_149_code 57 = .ok (.return_, 1) := by decide +kernel
theorem pni2 : plainName "java/lang/String" = true := by first | (simp [plainName, overriddenIn]; done) | decide +kernel
theorem pdi2_0 : parseMethodDescriptor "([CII)[B" = some ⟨[(.array .char), .int, .int], some (.array .byte)⟩ := by decide +kernel
theorem pdi2_1 : parseMethodDescriptor "([BI)B" = some ⟨[(.array .byte), .int], some .byte⟩ := by decide +kernel
theorem efi2 (m : MethodId) (a0 : Addr) (a1 : Addr) (p2 : Int32) (p3 : Int32) : entryFrame m #[(.ref a0), (.ref a1), (.int p2), (.int p3), .null] 6 = mkF m 0 #[.val (.ref a0), .val (.ref a1), .val (.int p2), .val (.int p3), .val .null, .unset] [] := by first | (simp [entryFrame, mkF, argsToLocals, Value.category]; done) | rfl
def Qi2 (Z : State) (a0 : Addr) (a1 : Addr) (p2 : Int32) (p3 : Int32) (wc : Int32) (sx : Value) (n : Nat) (g : Nat → Int32) (ka : ClassId) (h0 : Heap) (n0 : Nat) (v : Option Value) (h : Heap) (L : List Loc) : Prop := v = none ∧ Fr n0 L ∧ Keep h0 h [a0] ∧ ∃ b : Addr, h0.size ≤ b ∧ OwnStr Z h a0 b n g
set_option maxRecDepth 65536 in
set_option maxHeartbeats 40000000 in
theorem rmi2 (l : Launch) (Z : State) (aa : Array Value) (hw : ∀ d ∈ tables_1, d.before aa Z = true) (ws : List Jvm.Cond) (a0 : Addr) (a1 : Addr) (p2 : Int32) (p3 : Int32) (wc : Int32) (sx : Value) (n : Nat) (g : Nat → Int32) (ka : ClassId) (h0 : Heap) (n0 : Nat) (Z0 : n0 ≤ h0.size) (BW : OwnW Z wc sx) (O0 : Old Z n0 h0) (hn : n ≤ 4) (hch : ∀ j, j < n → 0 ≤ (g j).toInt ∧ (g j).toInt < 65536) (E_a0 : Exa Z h0 a0 "java/lang/String") (F_value_a0 : Fld Z h0 a0 "java/lang/String" "value" "[B" .null) (F_coder_a0 : Fld Z h0 a0 "java/lang/String" "coder" "B" (.int (0 : Int32))) (g_a0 : n0 ≤ a0) (V_a1 : Arv Z h0 a1 ka .char (Int32.ofNat n) (own_vs n g) (.int (0 : Int32))) (ne_a0_a1 : a0 ≠ a1) (h1 : 1 ≤ n) (hp2 : p2 = (0 : Int32)) (hp3 : p3 = (Int32.ofNat n)) :
    MetFree l (⟨"java/lang/String", "<init>", "([CIILjava/lang/Void;)V"⟩ : MethodName) (head1 (Jvm.Cond.code (⟨"java/lang/String", "<init>", "([CIILjava/lang/Void;)V"⟩ : MethodName) jdk_42_method_149_code 6 none :: ws) ({ frames := 4, cells := 2, slots := 12, locals := 57 } : Room)) (fun a U => a = #[(.ref a0), (.ref a1), (.int p2), (.int p3), .null] ∧ Z.Warmed39 U.vm ∧ U.heap = h0) (fun _ _ _ _ _ => True) (fun _ U o U' => ∃ v L, o = .returned v ∧ Qi2 Z a0 a1 p2 p3 wc sx n g ka h0 n0 v U'.heap L ∧ FrameEnd U o U' L ({ frames := 4, cells := 2, slots := 12, locals := 57 } : Room).cells ({ frames := 4, cells := 2, slots := 12, locals := 57 } : Room).slots) := by
  refine MetFree.of_bodySF (plainFor_of_name pni2) hisR ?_
  intro p e s m args below meth c s₁ Bd hml0 hP hK
  obtain ⟨rfl, hZ, hh⟩ := hP
  have hx := Bd.exec
  have hby := Bd.bytes
  have hml : c.maxLocals = 6 := hml0
  have hown : s.vm.findClass "java/lang/String" = some m.cls := findClass_of_methodNamed Bd.named
  have hnm := (name_of_methodNamed Bd.named Bd.method).1
  have X0 : Stand p l e ({ frames := 4, cells := 2, slots := 12, locals := 57 } : Room) s m #[(.ref a0), (.ref a1), (.int p2), (.int p3), .null] below meth c s₁ [] 0 0 := Stand.of_body Bd
  have e0 : s₁.heap = h0 := by rw [← hh, Bd.state]; rfl
  have N0 := Fr.nil n0
  show OwnEnd p e below s (fun v h L => Qi2 Z a0 a1 p2 p3 wc sx n g ka h0 n0 v h L) ({ frames := 4, cells := 2, slots := 12, locals := 57 } : Room).cells ({ frames := 4, cells := 2, slots := 12, locals := 57 } : Room).slots (s₁.setTop (entryFrame m #[(.ref a0), (.ref a1), (.int p2), (.int p3), .null] 6))
  rw [efi2 m a0 a1 p2 p3]
  generalize hW : OwnEnd p e below s (fun v h L => Qi2 Z a0 a1 p2 p3 wc sx n g ka h0 n0 v h L) ({ frames := 4, cells := 2, slots := 12, locals := 57 } : Room).cells ({ frames := 4, cells := 2, slots := 12, locals := 57 } : Room).slots = W
  have stp : ∀ {A B : State}, (∀ t, Steps p.tables e below B t → Steps p.tables e below A t) → W B → W A := by subst hW; exact own_step
  obtain ⟨S_cs, hcs, S_si, hr_sx, S_ad, S_hi, S_lo⟩ := id BW
  have hz := own_ofNat (n := n) (by omega)
  subst hp2 hp3
  have E0lt := E_a0.lt
  have V1lt := V_a1.lt
  show W (s₁.setTop (mkF m 0 #[.val (.ref a0), .val (.ref a1), .val (.int (0 : Int32)), .val (.int (Int32.ofNat n)), .val .null, .unset] []))
  refine stp (fun t k => XS.aloadN X0.here hx rfl (hb hby di2_0) rfl rfl k) ?_
  show W (s₁.setTop (mkF m 1 #[.val (.ref a0), .val (.ref a1), .val (.int (0 : Int32)), .val (.int (Int32.ofNat n)), .val .null, .unset] [(.ref a0)]))
  obtain ⟨T1, X1, e1, st1⟩ := initO X0 hx hZ hown (hw _ (List.mem_of_getElem? (i := 15) rfl)) (hw _ (List.mem_of_getElem? (i := 16) rfl)) (hw _ (List.mem_of_getElem? (i := 17) rfl)) e0 (g := (mkF m 1 #[.val (.ref a0), .val (.ref a1), .val (.int (0 : Int32)), .val (.int (Int32.ofNat n)), .val .null, .unset] [(.ref a0)])) rfl (by rw [hml]; rfl) rfl (hb hby di2_1) (by decide) (W := 0) (by show 2 * 0 + _ ≤ _; exact Nat.le_of_eq rfl) (by decide)
  refine stp (fun t k => st1 t k) ?_
  show W (T1.setTop (mkF m 4 #[.val (.ref a0), .val (.ref a1), .val (.int (0 : Int32)), .val (.int (Int32.ofNat n)), .val .null, .unset] []))
  refine stp (fun t k => XS.iloadN X1.here hx rfl (hb hby di2_4) rfl k) ?_
  show W (T1.setTop (mkF m 5 #[.val (.ref a0), .val (.ref a1), .val (.int (0 : Int32)), .val (.int (Int32.ofNat n)), .val .null, .unset] [(.int (Int32.ofNat n))]))
  refine stp (fun t k => XS.ifYes X1.here hx rfl (pc0 := 5) (pc' := 27) rfl (hb hby di2_5) rfl ((if0 _ _).trans (feq (fun q => by rw [q, show (0 : Int32).toInt = 0 from by decide] at hz; omega)).2) (by decide) (by decide) k) ?_
  show W (T1.setTop (mkF m 27 #[.val (.ref a0), .val (.ref a1), .val (.int (0 : Int32)), .val (.int (Int32.ofNat n)), .val .null, .unset] []))
  obtain ⟨Ti22, Xi22, ei22, sti22⟩ := getS2 X1 hx hZ hown (host := "") (Or.inl (hw _ (List.mem_of_getElem? (i := 44) rfl))) Via.refl e1 (S_cs.ext O0.2) (g := (mkF m 27 #[.val (.ref a0), .val (.ref a1), .val (.int (0 : Int32)), .val (.int (Int32.ofNat n)), .val .null, .unset] [])) rfl (hb hby di2_27)
  refine stp (fun t k => sti22 t k) ?_
  show W (Ti22.setTop (mkF m 30 #[.val (.ref a0), .val (.ref a1), .val (.int (0 : Int32)), .val (.int (Int32.ofNat n)), .val .null, .unset] [(.int wc)]))
  refine stp (fun t k => XS.ifNo Xi22.here hx rfl (hb hby di2_30) rfl ((if0 _ _).trans (feq (hcs)).1) k) ?_
  show W (Ti22.setTop (mkF m 33 #[.val (.ref a0), .val (.ref a1), .val (.int (0 : Int32)), .val (.int (Int32.ofNat n)), .val .null, .unset] []))
  refine stp (fun t k => XS.aloadN Xi22.here hx rfl (hb hby di2_33) rfl rfl k) ?_
  show W (Ti22.setTop (mkF m 34 #[.val (.ref a0), .val (.ref a1), .val (.int (0 : Int32)), .val (.int (Int32.ofNat n)), .val .null, .unset] [(.ref a1)]))
  refine stp (fun t k => XS.iloadN Xi22.here hx rfl (hb hby di2_34) rfl k) ?_
  show W (Ti22.setTop (mkF m 35 #[.val (.ref a0), .val (.ref a1), .val (.int (0 : Int32)), .val (.int (Int32.ofNat n)), .val .null, .unset] [(.int (0 : Int32)), (.ref a1)]))
  refine stp (fun t k => XS.iloadN Xi22.here hx rfl (hb hby di2_35) rfl k) ?_
  show W (Ti22.setTop (mkF m 36 #[.val (.ref a0), .val (.ref a1), .val (.int (0 : Int32)), .val (.int (Int32.ofNat n)), .val .null, .unset] [(.int (Int32.ofNat n)), (.int (0 : Int32)), (.ref a1)]))
  obtain ⟨_, _, ⟨Ti2c3, Li2c3, ki2c3, ni2c3⟩, -, Xi2c3, ⟨Lci2c3, hQi2c3, li2c3, yi2c3, zi2c3⟩, sti2c3⟩ := Jvm.LawKit.callS Xi22 hx (y := (⟨"java/lang/StringUTF16", "compress", "([CII)[B"⟩ : MethodName)) hown (mvT hZ (hw _ (List.mem_of_getElem? (i := 45) rfl))) (mvT hZ (hw _ (List.mem_of_getElem? (i := 46) rfl))) (mvT hZ (hw _ (List.mem_of_getElem? (i := 47) rfl))) (mvT hZ (hw _ (List.mem_of_getElem? (i := 48) rfl))) (by decide) (backOf (W := 0) (rmk2 l Z aa hw [] a1 (0 : Int32) (Int32.ofNat n) wc sx n g ka h0 n0 Z0 BW O0 hn hch V_a1 rfl rfl) hZ (hw _ (List.mem_of_getElem? (i := 48) rfl)) (hw _ (List.mem_of_getElem? (i := 47) rfl)) (by decide) (by decide)) (g := (mkF m 36 #[.val (.ref a0), .val (.ref a1), .val (.int (0 : Int32)), .val (.int (Int32.ofNat n)), .val .null, .unset] [(.int (Int32.ofNat n)), (.int (0 : Int32)), (.ref a1)])) rfl (by rw [hml]; rfl) (argsL := [(.ref a1), (.int (0 : Int32)), (.int (Int32.ofNat n))]) (rest := []) (lenOf pdi2_0 rfl) rfl (by show 2 * 0 + _ ≤ _; exact Nat.le_of_eq rfl) (hb hby di2_36) (fun _ _ => ⟨rfl, ei22, (by decide : 0 + 2 ≤ _), (by decide : 0 + 12 ≤ _)⟩)
  dsimp only [Pt.U, Pt.locs, Pt.cells, Pt.slots] at Xi2c3 li2c3 yi2c3 zi2c3 sti2c3 hQi2c3
  subst li2c3 yi2c3 zi2c3
  obtain ⟨bi2c3, kbi2c3, rfl, Ni2c3q, Kqi2c3, sz_bi2c3, Ci2c3⟩ := hQi2c3
  have Ni2c3 := Fr.app N0 Ni2c3q
  obtain ⟨lci2t4, Xi2c3, Ni2c3⟩ : ∃ lc, Stand p l e ({ frames := 4, cells := 2, slots := 12, locals := 57 } : Room) s m #[(.ref a0), (.ref a1), (.int (0 : Int32)), (.int (Int32.ofNat n)), .null] below meth c Ti2c3 lc 2 12 ∧ Fr n0 lc := ⟨_, Xi2c3, Ni2c3⟩
  obtain ⟨hi2c3, ei2c3⟩ : ∃ h, Ti2c3.heap = h := ⟨_, rfl⟩
  rw [ei2c3] at Kqi2c3 Ci2c3
  have ne_a0_bi2c3 : a0 ≠ bi2c3 := Nat.ne_of_lt (Nat.lt_of_lt_of_le E_a0.lt sz_bi2c3)
  have ne_a1_bi2c3 : a1 ≠ bi2c3 := Nat.ne_of_lt (Nat.lt_of_lt_of_le V_a1.lt sz_bi2c3)
  have g_bi2c3 : n0 ≤ bi2c3 := Nat.le_trans Z0 sz_bi2c3
  have sz_bi2c3 : h0.size ≤ bi2c3 := Nat.le_trans (Keep.refl h0 [a0]).1 sz_bi2c3
  replace E_a0 := E_a0.keep Kqi2c3
  replace F_value_a0 := F_value_a0.keep Kqi2c3 nin0
  replace F_coder_a0 := F_coder_a0.keep Kqi2c3 nin0
  replace V_a1 := V_a1.keep Kqi2c3 nin0
  have KKi2c3 := Keep.trans (Keep.refl h0 [a0]) Kqi2c3 all0
  have Zi2c3 := Nat.le_trans Z0 Kqi2c3.1
  have Oi2c3 := O0.keep Kqi2c3 all0
  refine stp (fun t k => sti2c3 t k) ?_
  show W (Ti2c3.setTop (mkF m 39 #[.val (.ref a0), .val (.ref a1), .val (.int (0 : Int32)), .val (.int (Int32.ofNat n)), .val .null, .unset] [(.ref bi2c3)]))
  refine stp (fun t k => XS.astore Xi2c3.here hx rfl (hb hby di2_39) rfl rfl (l' := #[.val (.ref a0), .val (.ref a1), .val (.int (0 : Int32)), .val (.int (Int32.ofNat n)), .val .null, .val (.ref bi2c3)]) rfl k) ?_
  rcases Ci2c3 with Ci2c3 | Ci2c3
  · obtain ⟨hki2c3, V_bi2c3⟩ := Ci2c3
    have ne_a0_bi2c3 : a0 ≠ bi2c3 := Nat.ne_of_lt (Nat.lt_of_lt_of_le E0lt sz_bi2c3)
    have ne_a1_bi2c3 : a1 ≠ bi2c3 := Nat.ne_of_lt (Nat.lt_of_lt_of_le V1lt sz_bi2c3)
    show W (Ti2c3.setTop (mkF m 41 #[.val (.ref a0), .val (.ref a1), .val (.int (0 : Int32)), .val (.int (Int32.ofNat n)), .val .null, .val (.ref bi2c3)] []))
    refine stp (fun t k => XS.aloadN Xi2c3.here hx rfl (hb hby di2_41) rfl rfl k) ?_
    show W (Ti2c3.setTop (mkF m 42 #[.val (.ref a0), .val (.ref a1), .val (.int (0 : Int32)), .val (.int (Int32.ofNat n)), .val .null, .val (.ref bi2c3)] [(.ref a0)]))
    refine stp (fun t k => XS.aload Xi2c3.here hx rfl (hb hby di2_42) rfl rfl k) ?_
    show W (Ti2c3.setTop (mkF m 44 #[.val (.ref a0), .val (.ref a1), .val (.int (0 : Int32)), .val (.int (Int32.ofNat n)), .val .null, .val (.ref bi2c3)] [(.ref bi2c3), (.ref a0)]))
    refine stp (fun t k => XS.iloadN Xi2c3.here hx rfl (hb hby di2_44) rfl k) ?_
    show W (Ti2c3.setTop (mkF m 45 #[.val (.ref a0), .val (.ref a1), .val (.int (0 : Int32)), .val (.int (Int32.ofNat n)), .val .null, .val (.ref bi2c3)] [(.int (Int32.ofNat n)), (.ref bi2c3), (.ref a0)]))
    obtain ⟨_, _, ⟨Ti2c5, Li2c5, ki2c5, ni2c5⟩, -, Xi2c5, ⟨Lci2c5, hQi2c5, li2c5, yi2c5, zi2c5⟩, sti2c5⟩ := Jvm.LawKit.callS Xi2c3 hx (y := (⟨"java/lang/StringUTF16", "coderFromArrayLen", "([BI)B"⟩ : MethodName)) hown (mvT hZ (hw _ (List.mem_of_getElem? (i := 52) rfl))) (mvT hZ (hw _ (List.mem_of_getElem? (i := 53) rfl))) (mvT hZ (hw _ (List.mem_of_getElem? (i := 47) rfl))) (mvT hZ (hw _ (List.mem_of_getElem? (i := 54) rfl))) (by decide) (backOf (W := 1) (rmca l Z aa hw [] bi2c3 (Int32.ofNat n) wc sx kbi2c3 (Int32.ofNat n) (own_vs n fun j => own_b (g j)) hi2c3 n0 Zi2c3 BW Oi2c3 V_bi2c3) hZ (hw _ (List.mem_of_getElem? (i := 54) rfl)) (hw _ (List.mem_of_getElem? (i := 47) rfl)) (by decide) (by decide)) (g := (mkF m 45 #[.val (.ref a0), .val (.ref a1), .val (.int (0 : Int32)), .val (.int (Int32.ofNat n)), .val .null, .val (.ref bi2c3)] [(.int (Int32.ofNat n)), (.ref bi2c3), (.ref a0)])) rfl (by rw [hml]; rfl) (argsL := [(.ref bi2c3), (.int (Int32.ofNat n))]) (rest := [(.ref a0)]) (lenOf pdi2_1 rfl) rfl (by show 2 * 0 + _ ≤ _; exact Nat.le_of_eq rfl) (hb hby di2_45) (fun _ _ => ⟨rfl, ei2c3, (by decide : 2 + 0 ≤ _), (by decide : 12 + 0 ≤ _)⟩)
    dsimp only [Pt.U, Pt.locs, Pt.cells, Pt.slots] at Xi2c5 li2c5 yi2c5 zi2c5 sti2c5 hQi2c5
    subst li2c5 yi2c5 zi2c5
    obtain ⟨rfl, Ni2c5q, ei2c5⟩ := hQi2c5
    have Ni2c5 := Fr.app Ni2c3 Ni2c5q
    obtain ⟨lci2t6, Xi2c5, Ni2c5⟩ : ∃ lc, Stand p l e ({ frames := 4, cells := 2, slots := 12, locals := 57 } : Room) s m #[(.ref a0), (.ref a1), (.int (0 : Int32)), (.int (Int32.ofNat n)), .null] below meth c Ti2c5 lc 2 12 ∧ Fr n0 lc := ⟨_, Xi2c5, Ni2c5⟩
    refine stp (fun t k => sti2c5 t k) ?_
    show W (Ti2c5.setTop (mkF m 48 #[.val (.ref a0), .val (.ref a1), .val (.int (0 : Int32)), .val (.int (Int32.ofNat n)), .val .null, .val (.ref bi2c3)] [(.int (fca (Int32.ofNat n) (Int32.ofNat n))), (.ref a0)]))
    obtain ⟨Ti27, hi27, Xi27, ei27, Wi27, sti27⟩ := putFN Xi2c5 hx hZ hown (hw _ (List.mem_of_getElem? (i := 25) rfl)) Via.refl ei2c5 F_coder_a0 E_a0 (Or.inr ⟨(hw _ (List.mem_of_getElem? (i := 21) rfl)), rfl, hnm⟩) (hw _ (List.mem_of_getElem? (i := 5) rfl)) (ty := .byte) (v' := (.int (nar .byte (fca (Int32.ofNat n) (Int32.ofNat n))))) (by decide) rfl (fits_nar_byte _) (g := (mkF m 48 #[.val (.ref a0), .val (.ref a1), .val (.int (0 : Int32)), .val (.int (Int32.ofNat n)), .val .null, .val (.ref bi2c3)] [(.int (fca (Int32.ofNat n) (Int32.ofNat n))), (.ref a0)])) rfl rfl (hb hby di2_48)
    have Ni27 := Fr.snoc Xi27 Ni2c5 g_a0
    have F_coder_a0x := F_coder_a0.same Wi27
    obtain ⟨lci2t8, Xi27, Ni27⟩ : ∃ lc, Stand p l e ({ frames := 4, cells := 2, slots := 12, locals := 57 } : Room) s m #[(.ref a0), (.ref a1), (.int (0 : Int32)), (.int (Int32.ofNat n)), .null] below meth c Ti27 lc 2 12 ∧ Fr n0 lc := ⟨_, Xi27, Ni27⟩
    replace E_a0 := E_a0.wr Wi27
    replace F_value_a0 := F_value_a0.other Wi27 (Or.inr (slot_ne (Or.inr (hw _ (List.mem_of_getElem? (i := 20) rfl))) (Or.inr (hw _ (List.mem_of_getElem? (i := 21) rfl))) (by decide) (t := (.array .byte)) (t' := .byte) (by decide) (by decide)))
    replace V_a1 := V_a1.other Wi27 (Ne.symm ne_a0_a1)
    replace V_bi2c3 := V_bi2c3.other Wi27 (Ne.symm ne_a0_bi2c3)
    have Ki27 := KKi2c3.wr Wi27 (Or.inl (List.mem_of_getElem? (i := 0) rfl))
    have Zi27 := Nat.le_trans Zi2c3 (Keep.of_wr Wi27).1
    have Oi27 := Oi2c3.wr Wi27 g_a0
    replace F_coder_a0 := F_coder_a0x
    clear F_coder_a0x
    refine stp (fun t k => sti27 t k) ?_
    show W (Ti27.setTop (mkF m 51 #[.val (.ref a0), .val (.ref a1), .val (.int (0 : Int32)), .val (.int (Int32.ofNat n)), .val .null, .val (.ref bi2c3)] []))
    refine stp (fun t k => XS.aloadN Xi27.here hx rfl (hb hby di2_51) rfl rfl k) ?_
    show W (Ti27.setTop (mkF m 52 #[.val (.ref a0), .val (.ref a1), .val (.int (0 : Int32)), .val (.int (Int32.ofNat n)), .val .null, .val (.ref bi2c3)] [(.ref a0)]))
    refine stp (fun t k => XS.aload Xi27.here hx rfl (hb hby di2_52) rfl rfl k) ?_
    show W (Ti27.setTop (mkF m 54 #[.val (.ref a0), .val (.ref a1), .val (.int (0 : Int32)), .val (.int (Int32.ofNat n)), .val .null, .val (.ref bi2c3)] [(.ref bi2c3), (.ref a0)]))
    obtain ⟨Ti29, hi29, Xi29, ei29, Wi29, sti29⟩ := putF Xi27 hx hZ hown (host := "") (Or.inl (hw _ (List.mem_of_getElem? (i := 24) rfl))) Via.refl ei27 F_value_a0 E_a0 (Or.inr ⟨(hw _ (List.mem_of_getElem? (i := 20) rfl)), rfl, hnm⟩) (hw _ (List.mem_of_getElem? (i := 5) rfl)) (ty := (.array .byte)) (by decide) rfl rfl (g := (mkF m 54 #[.val (.ref a0), .val (.ref a1), .val (.int (0 : Int32)), .val (.int (Int32.ofNat n)), .val .null, .val (.ref bi2c3)] [(.ref bi2c3), (.ref a0)])) rfl rfl (hb hby di2_54)
    have Ni29 := Fr.snoc Xi29 Ni27 g_a0
    have F_value_a0x := F_value_a0.same Wi29
    obtain ⟨lci2t10, Xi29, Ni29⟩ : ∃ lc, Stand p l e ({ frames := 4, cells := 2, slots := 12, locals := 57 } : Room) s m #[(.ref a0), (.ref a1), (.int (0 : Int32)), (.int (Int32.ofNat n)), .null] below meth c Ti29 lc 2 12 ∧ Fr n0 lc := ⟨_, Xi29, Ni29⟩
    replace E_a0 := E_a0.wr Wi29
    replace F_coder_a0 := F_coder_a0.other Wi29 (Or.inr (slot_ne (Or.inr (hw _ (List.mem_of_getElem? (i := 21) rfl))) (Or.inr (hw _ (List.mem_of_getElem? (i := 20) rfl))) (by decide) (t := .byte) (t' := (.array .byte)) (by decide) (by decide)))
    replace V_a1 := V_a1.other Wi29 (Ne.symm ne_a0_a1)
    replace V_bi2c3 := V_bi2c3.other Wi29 (Ne.symm ne_a0_bi2c3)
    have Ki29 := Ki27.wr Wi29 (Or.inl (List.mem_of_getElem? (i := 0) rfl))
    have Zi29 := Nat.le_trans Zi27 (Keep.of_wr Wi29).1
    have Oi29 := Oi27.wr Wi29 g_a0
    replace F_value_a0 := F_value_a0x
    clear F_value_a0x
    refine stp (fun t k => sti29 t k) ?_
    show W (Ti29.setTop (mkF m 57 #[.val (.ref a0), .val (.ref a1), .val (.int (0 : Int32)), .val (.int (Int32.ofNat n)), .val .null, .val (.ref bi2c3)] []))
    show W (Ti29.setTop (mkF m 57 #[.val (.ref a0), .val (.ref a1), .val (.int (0 : Int32)), .val (.int (Int32.ofNat n)), .val .null, .val (.ref bi2c3)] []))
    rw [← hW]
    exact own_ret0 Xi29 hx Bd.notSynchronized Bd.returns (hb hby di2_57) (by show Qi2 Z a0 a1 (0 : Int32) (Int32.ofNat n) wc sx n g ka h0 n0 _ Ti29.heap _; rw [ei29]; exact ⟨rfl, Ni29, Ki29, bi2c3, sz_bi2c3, E_a0, F_value_a0, Or.inl ⟨own_fldEq (own_fca0 (Int32.ofNat n)) F_coder_a0, hki2c3, _, V_bi2c3⟩⟩) (by decide) (by decide)
  · obtain ⟨hki2c3, V_bi2c3⟩ := Ci2c3
    have ne_a0_bi2c3 : a0 ≠ bi2c3 := Nat.ne_of_lt (Nat.lt_of_lt_of_le E0lt sz_bi2c3)
    have ne_a1_bi2c3 : a1 ≠ bi2c3 := Nat.ne_of_lt (Nat.lt_of_lt_of_le V1lt sz_bi2c3)
    show W (Ti2c3.setTop (mkF m 41 #[.val (.ref a0), .val (.ref a1), .val (.int (0 : Int32)), .val (.int (Int32.ofNat n)), .val .null, .val (.ref bi2c3)] []))
    refine stp (fun t k => XS.aloadN Xi2c3.here hx rfl (hb hby di2_41) rfl rfl k) ?_
    show W (Ti2c3.setTop (mkF m 42 #[.val (.ref a0), .val (.ref a1), .val (.int (0 : Int32)), .val (.int (Int32.ofNat n)), .val .null, .val (.ref bi2c3)] [(.ref a0)]))
    refine stp (fun t k => XS.aload Xi2c3.here hx rfl (hb hby di2_42) rfl rfl k) ?_
    show W (Ti2c3.setTop (mkF m 44 #[.val (.ref a0), .val (.ref a1), .val (.int (0 : Int32)), .val (.int (Int32.ofNat n)), .val .null, .val (.ref bi2c3)] [(.ref bi2c3), (.ref a0)]))
    refine stp (fun t k => XS.iloadN Xi2c3.here hx rfl (hb hby di2_44) rfl k) ?_
    show W (Ti2c3.setTop (mkF m 45 #[.val (.ref a0), .val (.ref a1), .val (.int (0 : Int32)), .val (.int (Int32.ofNat n)), .val .null, .val (.ref bi2c3)] [(.int (Int32.ofNat n)), (.ref bi2c3), (.ref a0)]))
    obtain ⟨_, _, ⟨Ti2c11, Li2c11, ki2c11, ni2c11⟩, -, Xi2c11, ⟨Lci2c11, hQi2c11, li2c11, yi2c11, zi2c11⟩, sti2c11⟩ := Jvm.LawKit.callS Xi2c3 hx (y := (⟨"java/lang/StringUTF16", "coderFromArrayLen", "([BI)B"⟩ : MethodName)) hown (mvT hZ (hw _ (List.mem_of_getElem? (i := 52) rfl))) (mvT hZ (hw _ (List.mem_of_getElem? (i := 53) rfl))) (mvT hZ (hw _ (List.mem_of_getElem? (i := 47) rfl))) (mvT hZ (hw _ (List.mem_of_getElem? (i := 54) rfl))) (by decide) (backOf (W := 1) (rmca l Z aa hw [] bi2c3 (Int32.ofNat n) wc sx kbi2c3 (Int32.ofNat (2 * n)) (own_vs (2 * n) (own_u g)) hi2c3 n0 Zi2c3 BW Oi2c3 V_bi2c3) hZ (hw _ (List.mem_of_getElem? (i := 54) rfl)) (hw _ (List.mem_of_getElem? (i := 47) rfl)) (by decide) (by decide)) (g := (mkF m 45 #[.val (.ref a0), .val (.ref a1), .val (.int (0 : Int32)), .val (.int (Int32.ofNat n)), .val .null, .val (.ref bi2c3)] [(.int (Int32.ofNat n)), (.ref bi2c3), (.ref a0)])) rfl (by rw [hml]; rfl) (argsL := [(.ref bi2c3), (.int (Int32.ofNat n))]) (rest := [(.ref a0)]) (lenOf pdi2_1 rfl) rfl (by show 2 * 0 + _ ≤ _; exact Nat.le_of_eq rfl) (hb hby di2_45) (fun _ _ => ⟨rfl, ei2c3, (by decide : 2 + 0 ≤ _), (by decide : 12 + 0 ≤ _)⟩)
    dsimp only [Pt.U, Pt.locs, Pt.cells, Pt.slots] at Xi2c11 li2c11 yi2c11 zi2c11 sti2c11 hQi2c11
    subst li2c11 yi2c11 zi2c11
    obtain ⟨rfl, Ni2c11q, ei2c11⟩ := hQi2c11
    have Ni2c11 := Fr.app Ni2c3 Ni2c11q
    obtain ⟨lci2t12, Xi2c11, Ni2c11⟩ : ∃ lc, Stand p l e ({ frames := 4, cells := 2, slots := 12, locals := 57 } : Room) s m #[(.ref a0), (.ref a1), (.int (0 : Int32)), (.int (Int32.ofNat n)), .null] below meth c Ti2c11 lc 2 12 ∧ Fr n0 lc := ⟨_, Xi2c11, Ni2c11⟩
    refine stp (fun t k => sti2c11 t k) ?_
    show W (Ti2c11.setTop (mkF m 48 #[.val (.ref a0), .val (.ref a1), .val (.int (0 : Int32)), .val (.int (Int32.ofNat n)), .val .null, .val (.ref bi2c3)] [(.int (fca (Int32.ofNat n) (Int32.ofNat (2 * n)))), (.ref a0)]))
    obtain ⟨Ti213, hi213, Xi213, ei213, Wi213, sti213⟩ := putFN Xi2c11 hx hZ hown (hw _ (List.mem_of_getElem? (i := 25) rfl)) Via.refl ei2c11 F_coder_a0 E_a0 (Or.inr ⟨(hw _ (List.mem_of_getElem? (i := 21) rfl)), rfl, hnm⟩) (hw _ (List.mem_of_getElem? (i := 5) rfl)) (ty := .byte) (v' := (.int (nar .byte (fca (Int32.ofNat n) (Int32.ofNat (2 * n)))))) (by decide) rfl (fits_nar_byte _) (g := (mkF m 48 #[.val (.ref a0), .val (.ref a1), .val (.int (0 : Int32)), .val (.int (Int32.ofNat n)), .val .null, .val (.ref bi2c3)] [(.int (fca (Int32.ofNat n) (Int32.ofNat (2 * n)))), (.ref a0)])) rfl rfl (hb hby di2_48)
    have Ni213 := Fr.snoc Xi213 Ni2c11 g_a0
    have F_coder_a0x := F_coder_a0.same Wi213
    obtain ⟨lci2t14, Xi213, Ni213⟩ : ∃ lc, Stand p l e ({ frames := 4, cells := 2, slots := 12, locals := 57 } : Room) s m #[(.ref a0), (.ref a1), (.int (0 : Int32)), (.int (Int32.ofNat n)), .null] below meth c Ti213 lc 2 12 ∧ Fr n0 lc := ⟨_, Xi213, Ni213⟩
    replace E_a0 := E_a0.wr Wi213
    replace F_value_a0 := F_value_a0.other Wi213 (Or.inr (slot_ne (Or.inr (hw _ (List.mem_of_getElem? (i := 20) rfl))) (Or.inr (hw _ (List.mem_of_getElem? (i := 21) rfl))) (by decide) (t := (.array .byte)) (t' := .byte) (by decide) (by decide)))
    replace V_a1 := V_a1.other Wi213 (Ne.symm ne_a0_a1)
    replace V_bi2c3 := V_bi2c3.other Wi213 (Ne.symm ne_a0_bi2c3)
    have Ki213 := KKi2c3.wr Wi213 (Or.inl (List.mem_of_getElem? (i := 0) rfl))
    have Zi213 := Nat.le_trans Zi2c3 (Keep.of_wr Wi213).1
    have Oi213 := Oi2c3.wr Wi213 g_a0
    replace F_coder_a0 := F_coder_a0x
    clear F_coder_a0x
    refine stp (fun t k => sti213 t k) ?_
    show W (Ti213.setTop (mkF m 51 #[.val (.ref a0), .val (.ref a1), .val (.int (0 : Int32)), .val (.int (Int32.ofNat n)), .val .null, .val (.ref bi2c3)] []))
    refine stp (fun t k => XS.aloadN Xi213.here hx rfl (hb hby di2_51) rfl rfl k) ?_
    show W (Ti213.setTop (mkF m 52 #[.val (.ref a0), .val (.ref a1), .val (.int (0 : Int32)), .val (.int (Int32.ofNat n)), .val .null, .val (.ref bi2c3)] [(.ref a0)]))
    refine stp (fun t k => XS.aload Xi213.here hx rfl (hb hby di2_52) rfl rfl k) ?_
    show W (Ti213.setTop (mkF m 54 #[.val (.ref a0), .val (.ref a1), .val (.int (0 : Int32)), .val (.int (Int32.ofNat n)), .val .null, .val (.ref bi2c3)] [(.ref bi2c3), (.ref a0)]))
    obtain ⟨Ti215, hi215, Xi215, ei215, Wi215, sti215⟩ := putF Xi213 hx hZ hown (host := "") (Or.inl (hw _ (List.mem_of_getElem? (i := 24) rfl))) Via.refl ei213 F_value_a0 E_a0 (Or.inr ⟨(hw _ (List.mem_of_getElem? (i := 20) rfl)), rfl, hnm⟩) (hw _ (List.mem_of_getElem? (i := 5) rfl)) (ty := (.array .byte)) (by decide) rfl rfl (g := (mkF m 54 #[.val (.ref a0), .val (.ref a1), .val (.int (0 : Int32)), .val (.int (Int32.ofNat n)), .val .null, .val (.ref bi2c3)] [(.ref bi2c3), (.ref a0)])) rfl rfl (hb hby di2_54)
    have Ni215 := Fr.snoc Xi215 Ni213 g_a0
    have F_value_a0x := F_value_a0.same Wi215
    obtain ⟨lci2t16, Xi215, Ni215⟩ : ∃ lc, Stand p l e ({ frames := 4, cells := 2, slots := 12, locals := 57 } : Room) s m #[(.ref a0), (.ref a1), (.int (0 : Int32)), (.int (Int32.ofNat n)), .null] below meth c Ti215 lc 2 12 ∧ Fr n0 lc := ⟨_, Xi215, Ni215⟩
    replace E_a0 := E_a0.wr Wi215
    replace F_coder_a0 := F_coder_a0.other Wi215 (Or.inr (slot_ne (Or.inr (hw _ (List.mem_of_getElem? (i := 21) rfl))) (Or.inr (hw _ (List.mem_of_getElem? (i := 20) rfl))) (by decide) (t := .byte) (t' := (.array .byte)) (by decide) (by decide)))
    replace V_a1 := V_a1.other Wi215 (Ne.symm ne_a0_a1)
    replace V_bi2c3 := V_bi2c3.other Wi215 (Ne.symm ne_a0_bi2c3)
    have Ki215 := Ki213.wr Wi215 (Or.inl (List.mem_of_getElem? (i := 0) rfl))
    have Zi215 := Nat.le_trans Zi213 (Keep.of_wr Wi215).1
    have Oi215 := Oi213.wr Wi215 g_a0
    replace F_value_a0 := F_value_a0x
    clear F_value_a0x
    refine stp (fun t k => sti215 t k) ?_
    show W (Ti215.setTop (mkF m 57 #[.val (.ref a0), .val (.ref a1), .val (.int (0 : Int32)), .val (.int (Int32.ofNat n)), .val .null, .val (.ref bi2c3)] []))
    show W (Ti215.setTop (mkF m 57 #[.val (.ref a0), .val (.ref a1), .val (.int (0 : Int32)), .val (.int (Int32.ofNat n)), .val .null, .val (.ref bi2c3)] []))
    rw [← hW]
    exact own_ret0 Xi215 hx Bd.notSynchronized Bd.returns (hb hby di2_57) (by show Qi2 Z a0 a1 (0 : Int32) (Int32.ofNat n) wc sx n g ka h0 n0 _ Ti215.heap _; rw [ei215]; exact ⟨rfl, Ni215, Ki215, bi2c3, sz_bi2c3, E_a0, F_value_a0, Or.inr ⟨own_fldEq (own_fca1 h1 (by omega)) F_coder_a0, _, V_bi2c3⟩⟩) (by decide) (by decide)
theorem di1_0 : decode jdk_42_method_3_code 0 = .ok (.aload_n 0, 1) := by decide +kernel
theorem di1_1 : decode jdk_42_method_3_code 1 = .ok (.aload_n 1, 1) := by decide +kernel
theorem di1_2 : decode jdk_42_method_3_code 2 = .ok (.iconst 0, 1) := by decide +kernel
theorem di1_3 : decode jdk_42_method_3_code 3 = .ok (.aload_n 1, 1) := by decide +kernel
theorem di1_4 : decode jdk_42_method_3_code 4 = .ok (.arraylength, 1) := by decide +kernel
theorem di1_5 : decode jdk_42_method_3_code 5 = .ok (.aconst_null, 1) := by decide +kernel
theorem di1_6 : decode jdk_42_method_3_code 6 = .ok (.invokespecial 27, 3) := by decide +kernel
theorem di1_9 : decode jdk_42_method_3_code 9 = .ok (.return_, 1) := by decide +kernel
theorem pni1 : plainName "java/lang/String" = true := by first | (simp [plainName, overriddenIn]; done) | decide +kernel
theorem pdi1_0 : parseMethodDescriptor "([CIILjava/lang/Void;)V" = some ⟨[(.array .char), .int, .int, (.object "java/lang/Void")], none⟩ := by decide +kernel
theorem efi1 (m : MethodId) (a0 : Addr) (a1 : Addr) : entryFrame m #[(.ref a0), (.ref a1)] 2 = mkF m 0 #[.val (.ref a0), .val (.ref a1)] [] := by first | (simp [entryFrame, mkF, argsToLocals, Value.category]; done) | rfl
def Qi1 (Z : State) (a0 : Addr) (a1 : Addr) (wc : Int32) (sx : Value) (n : Nat) (g : Nat → Int32) (ka : ClassId) (h0 : Heap) (n0 : Nat) (v : Option Value) (h : Heap) (L : List Loc) : Prop := v = none ∧ Fr n0 L ∧ Keep h0 h [a0] ∧ ∃ b : Addr, h0.size ≤ b ∧ OwnStr Z h a0 b n g
set_option maxRecDepth 65536 in
set_option maxHeartbeats 40000000 in
theorem rmi1 (l : Launch) (Z : State) (aa : Array Value) (hw : ∀ d ∈ tables_1, d.before aa Z = true) (ws : List Jvm.Cond) (a0 : Addr) (a1 : Addr) (wc : Int32) (sx : Value) (n : Nat) (g : Nat → Int32) (ka : ClassId) (h0 : Heap) (n0 : Nat) (Z0 : n0 ≤ h0.size) (BW : OwnW Z wc sx) (O0 : Old Z n0 h0) (hn : n ≤ 4) (hch : ∀ j, j < n → 0 ≤ (g j).toInt ∧ (g j).toInt < 65536) (E_a0 : Exa Z h0 a0 "java/lang/String") (F_value_a0 : Fld Z h0 a0 "java/lang/String" "value" "[B" .null) (F_coder_a0 : Fld Z h0 a0 "java/lang/String" "coder" "B" (.int (0 : Int32))) (g_a0 : n0 ≤ a0) (V_a1 : Arv Z h0 a1 ka .char (Int32.ofNat n) (own_vs n g) (.int (0 : Int32))) (ne_a0_a1 : a0 ≠ a1) (h1 : 1 ≤ n) :
    MetFree l (⟨"java/lang/String", "<init>", "([C)V"⟩ : MethodName) (head1 (Jvm.Cond.code (⟨"java/lang/String", "<init>", "([C)V"⟩ : MethodName) jdk_42_method_3_code 2 none :: ws) ({ frames := 5, cells := 2, slots := 12, locals := 74 } : Room)) (fun a U => a = #[(.ref a0), (.ref a1)] ∧ Z.Warmed39 U.vm ∧ U.heap = h0) (fun _ _ _ _ _ => True) (fun _ U o U' => ∃ v L, o = .returned v ∧ Qi1 Z a0 a1 wc sx n g ka h0 n0 v U'.heap L ∧ FrameEnd U o U' L ({ frames := 5, cells := 2, slots := 12, locals := 74 } : Room).cells ({ frames := 5, cells := 2, slots := 12, locals := 74 } : Room).slots) := by
  refine MetFree.of_bodySF (plainFor_of_name pni1) hisR ?_
  intro p e s m args below meth c s₁ Bd hml0 hP hK
  obtain ⟨rfl, hZ, hh⟩ := hP
  have hx := Bd.exec
  have hby := Bd.bytes
  have hml : c.maxLocals = 2 := hml0
  have hown : s.vm.findClass "java/lang/String" = some m.cls := findClass_of_methodNamed Bd.named
  have hnm := (name_of_methodNamed Bd.named Bd.method).1
  have X0 : Stand p l e ({ frames := 5, cells := 2, slots := 12, locals := 74 } : Room) s m #[(.ref a0), (.ref a1)] below meth c s₁ [] 0 0 := Stand.of_body Bd
  have e0 : s₁.heap = h0 := by rw [← hh, Bd.state]; rfl
  have N0 := Fr.nil n0
  show OwnEnd p e below s (fun v h L => Qi1 Z a0 a1 wc sx n g ka h0 n0 v h L) ({ frames := 5, cells := 2, slots := 12, locals := 74 } : Room).cells ({ frames := 5, cells := 2, slots := 12, locals := 74 } : Room).slots (s₁.setTop (entryFrame m #[(.ref a0), (.ref a1)] 2))
  rw [efi1 m a0 a1]
  generalize hW : OwnEnd p e below s (fun v h L => Qi1 Z a0 a1 wc sx n g ka h0 n0 v h L) ({ frames := 5, cells := 2, slots := 12, locals := 74 } : Room).cells ({ frames := 5, cells := 2, slots := 12, locals := 74 } : Room).slots = W
  have stp : ∀ {A B : State}, (∀ t, Steps p.tables e below B t → Steps p.tables e below A t) → W B → W A := by subst hW; exact own_step
  obtain ⟨S_cs, hcs, S_si, hr_sx, S_ad, S_hi, S_lo⟩ := id BW
  show W (s₁.setTop (mkF m 0 #[.val (.ref a0), .val (.ref a1)] []))
  refine stp (fun t k => XS.aloadN X0.here hx rfl (hb hby di1_0) rfl rfl k) ?_
  show W (s₁.setTop (mkF m 1 #[.val (.ref a0), .val (.ref a1)] [(.ref a0)]))
  refine stp (fun t k => XS.aloadN X0.here hx rfl (hb hby di1_1) rfl rfl k) ?_
  show W (s₁.setTop (mkF m 2 #[.val (.ref a0), .val (.ref a1)] [(.ref a1), (.ref a0)]))
  refine stp (fun t k => XS.iconst X0.here hx rfl (hb hby di1_2) k) ?_
  show W (s₁.setTop (mkF m 3 #[.val (.ref a0), .val (.ref a1)] [(.int (0 : Int32)), (.ref a1), (.ref a0)]))
  refine stp (fun t k => XS.aloadN X0.here hx rfl (hb hby di1_3) rfl rfl k) ?_
  show W (s₁.setTop (mkF m 4 #[.val (.ref a0), .val (.ref a1)] [(.ref a1), (.int (0 : Int32)), (.ref a1), (.ref a0)]))
  obtain ⟨cli11, Ari11, qki11, qsi11, qni11, qhi11, qgi11⟩ := id V_a1
  refine stp (fun t k => X0.arraylength hx (by rw [e0]; exact Ari11.1) (State.isArrayOf_alike hZ.alike Ari11.2.1) (g := (mkF m 4 #[.val (.ref a0), .val (.ref a1)] [(.ref a1), (.int (0 : Int32)), (.ref a1), (.ref a0)])) rfl rfl (hb hby di1_4) _ k) ?_
  rw [len_of qsi11 qni11]
  show W (s₁.setTop (mkF m 5 #[.val (.ref a0), .val (.ref a1)] [(.int (Int32.ofNat n)), (.int (0 : Int32)), (.ref a1), (.ref a0)]))
  refine stp (fun t k => XS.aconstNull X0.here hx rfl (hb hby di1_5) k) ?_
  show W (s₁.setTop (mkF m 6 #[.val (.ref a0), .val (.ref a1)] [.null, (.int (Int32.ofNat n)), (.int (0 : Int32)), (.ref a1), (.ref a0)]))
  obtain ⟨_, _, ⟨Ti1c2, Li1c2, ki1c2, ni1c2⟩, -, Xi1c2, ⟨Lci1c2, hQi1c2, li1c2, yi1c2, zi1c2⟩, sti1c2⟩ := X0.specialBack hx (y := (⟨"java/lang/String", "<init>", "([CIILjava/lang/Void;)V"⟩ : MethodName)) rfl hown (mvT hZ (hw _ (List.mem_of_getElem? (i := 11) rfl))) (mvT hZ (hw _ (List.mem_of_getElem? (i := 12) rfl))) (mvT hZ (hw _ (List.mem_of_getElem? (i := 14) rfl))) (by decide) (backOf (W := 0) (rmi2 l Z aa hw [] a0 a1 (0 : Int32) (Int32.ofNat n) wc sx n g ka h0 n0 Z0 BW O0 hn hch E_a0 F_value_a0 F_coder_a0 g_a0 V_a1 ne_a0_a1 h1 rfl rfl) hZ (hw _ (List.mem_of_getElem? (i := 14) rfl)) (hw _ (List.mem_of_getElem? (i := 6) rfl)) (by decide) (by decide)) (g := (mkF m 6 #[.val (.ref a0), .val (.ref a1)] [.null, (.int (Int32.ofNat n)), (.int (0 : Int32)), (.ref a1), (.ref a0)])) rfl (by rw [hml]; rfl) (Steps.refl _) (a := a0) (argsL := [(.ref a1), (.int (0 : Int32)), (.int (Int32.ofNat n)), .null]) (rest := []) (lenOf pdi1_0 rfl) rfl (by show 2 * 0 + _ ≤ _; exact Nat.le_of_eq rfl) (hb hby di1_6) (fun _ _ => ⟨rfl, e0, (by decide : 0 + 2 ≤ _), (by decide : 0 + 12 ≤ _)⟩)
  dsimp only [Pt.U, Pt.locs, Pt.cells, Pt.slots] at Xi1c2 li1c2 yi1c2 zi1c2 sti1c2 hQi1c2
  subst li1c2 yi1c2 zi1c2
  obtain ⟨rfl, Ni1c2q, Kqi1c2, Gi1c2⟩ := hQi1c2
  have Ni1c2 := Fr.app N0 Ni1c2q
  obtain ⟨lci1t3, Xi1c2, Ni1c2⟩ : ∃ lc, Stand p l e ({ frames := 5, cells := 2, slots := 12, locals := 74 } : Room) s m #[(.ref a0), (.ref a1)] below meth c Ti1c2 lc 2 12 ∧ Fr n0 lc := ⟨_, Xi1c2, Ni1c2⟩
  refine stp (fun t k => sti1c2.trans k) ?_
  obtain ⟨hi1c2, ei1c2⟩ : ∃ h, Ti1c2.heap = h := ⟨_, rfl⟩
  rw [ei1c2] at Kqi1c2 Gi1c2
  show W (Ti1c2.setTop (mkF m 9 #[.val (.ref a0), .val (.ref a1)] []))
  show W (Ti1c2.setTop (mkF m 9 #[.val (.ref a0), .val (.ref a1)] []))
  rw [← hW]
  exact own_ret0 Xi1c2 hx Bd.notSynchronized Bd.returns (hb hby di1_9) (by show Qi1 Z a0 a1 wc sx n g ka h0 n0 _ Ti1c2.heap _; rw [ei1c2]; exact ⟨rfl, Ni1c2, Kqi1c2, Gi1c2⟩) (by decide) (by decide)
theorem own_arv0 {Z : State} {h : Heap} {b : Addr} {k : ClassId} {d : Value} (V : Arv Z h b k .byte (0 : Int32) [] d) (f : Nat → Int32) : Arv Z h b k .byte (Int32.ofNat 0) (own_vs 0 f) d := V
theorem own_strEq {Z : State} {h : Heap} {a b : Addr} {n n' : Nat} {g : Nat → Int32} (e : n = n') (S : OwnStr Z h a b n g) : OwnStr Z h a b n' g := e ▸ S
theorem own_nOf {p c : Int32} {n k : Nat} (hp : p.toInt = (n : Int)) (hc : p = c) (e : c.toInt = (k : Int)) : k = n := by
  subst hc
  omega
theorem own_toI {p : Int32} {c : Int32} (h : ¬ p = c) : p.toInt ≠ c.toInt := fun q => h (Int32.toInt_inj.mp q)
theorem own_n4 {p : Int32} {n : Nat} (hp : p.toInt = (n : Int)) (hn : n ≤ 4) (h0 : ¬ p = (0 : Int32)) (h1 : ¬ p = (1 : Int32)) (h2 : ¬ p = (2 : Int32)) (h3 : ¬ p = (3 : Int32)) : 4 = n := by
  have a0 := own_toI h0
  have a1 := own_toI h1
  have a2 := own_toI h2
  have a3 := own_toI h3
  rw [show (0 : Int32).toInt = 0 from by decide] at a0
  rw [show (1 : Int32).toInt = 1 from by decide] at a1
  rw [show (2 : Int32).toInt = 2 from by decide] at a2
  rw [show (3 : Int32).toInt = 3 from by decide] at a3
  omega
theorem di2z_0 : decode jdk_42_method_149_code 0 = .ok (.aload_n 0, 1) := by decide +kernel
theorem di2z_1 : decode jdk_42_method_149_code 1 = .ok (.invokespecial 1, 3) := by decide +kernel
theorem di2z_4 : decode jdk_42_method_149_code 4 = .ok (.iload_n 3, 1) := by decide +kernel
theorem di2z_5 : decode jdk_42_method_149_code 5 = .ok (.ifCond .ne 22, 3) := by decide +kernel
theorem di2z_8 : decode jdk_42_method_149_code 8 = .ok (.aload_n 0, 1) := by decide +kernel
theorem di2z_9 : decode jdk_42_method_149_code 9 = .ok (.ldc 7, 2) := by decide +kernel
theorem di2z_11 : decode jdk_42_method_149_code 11 = .ok (.getfield 9, 3) := by decide +kernel
theorem di2z_14 : decode jdk_42_method_149_code 14 = .ok (.putfield 9, 3) := by decide +kernel
theorem di2z_17 : decode jdk_42_method_149_code 17 = .ok (.aload_n 0, 1) := by decide +kernel
theorem di2z_18 : decode jdk_42_method_149_code 18 = .ok (.ldc 7, 2) := by decide +kernel
theorem di2z_20 : decode jdk_42_method_149_code 20 = .ok (.getfield 15, 3) := by decide +kernel
theorem di2z_23 : decode jdk_42_method_149_code 23 = .ok (.putfield 15, 3) := by decide +kernel
theorem di2z_26 : decode jdk_42_method_149_code 26 = .ok (.return_, 1) := by decide +kernel
theorem pni2z : plainName "java/lang/String" = true := by first | (simp [plainName, overriddenIn]; done) | decide +kernel
theorem efi2z (m : MethodId) (a0 : Addr) (a1 : Addr) (p2 : Int32) (p3 : Int32) : entryFrame m #[(.ref a0), (.ref a1), (.int p2), (.int p3), .null] 6 = mkF m 0 #[.val (.ref a0), .val (.ref a1), .val (.int p2), .val (.int p3), .val .null, .unset] [] := by first | (simp [entryFrame, mkF, argsToLocals, Value.category]; done) | rfl
def Qi2z (Z : State) (a0 : Addr) (a1 : Addr) (p2 : Int32) (p3 : Int32) (wc : Int32) (sx : Value) (g : Nat → Int32) (h0 : Heap) (n0 : Nat) (v : Option Value) (h : Heap) (L : List Loc) : Prop := v = none ∧ Fr n0 L ∧ Keep h0 h [a0] ∧ ∃ b : Addr, OwnStr Z h a0 b 0 g
set_option maxRecDepth 65536 in
set_option maxHeartbeats 40000000 in
theorem rmi2z (l : Launch) (Z : State) (aa : Array Value) (hw : ∀ d ∈ tables_1, d.before aa Z = true) (ws : List Jvm.Cond) (a0 : Addr) (a1 : Addr) (p2 : Int32) (p3 : Int32) (wc : Int32) (sx : Value) (g : Nat → Int32) (h0 : Heap) (n0 : Nat) (Z0 : n0 ≤ h0.size) (BW : OwnW Z wc sx) (O0 : Old Z n0 h0) (E_a0 : Exa Z h0 a0 "java/lang/String") (F_value_a0 : Fld Z h0 a0 "java/lang/String" "value" "[B" .null) (F_coder_a0 : Fld Z h0 a0 "java/lang/String" "coder" "B" (.int (0 : Int32))) (g_a0 : n0 ≤ a0) (hp3 : p3 = (0 : Int32)) :
    MetFree l (⟨"java/lang/String", "<init>", "([CIILjava/lang/Void;)V"⟩ : MethodName) (head1 (Jvm.Cond.code (⟨"java/lang/String", "<init>", "([CIILjava/lang/Void;)V"⟩ : MethodName) jdk_42_method_149_code 6 none :: ws) ({ frames := 1, cells := 4, slots := 8, locals := 12 } : Room)) (fun a U => a = #[(.ref a0), (.ref a1), (.int p2), (.int p3), .null] ∧ Z.Warmed39 U.vm ∧ U.heap = h0 ∧ CHv Z ownEL U.vm h0) (fun _ _ _ _ _ => True) (fun _ U o U' => ∃ v L, o = .returned v ∧ Qi2z Z a0 a1 p2 p3 wc sx g h0 n0 v U'.heap L ∧ CHr Z ownEL U.vm U.heap U'.vm U'.heap ∧ ReturnedEndW U o U' L ({ frames := 1, cells := 4, slots := 8, locals := 12 } : Room).cells ({ frames := 1, cells := 4, slots := 8, locals := 12 } : Room).slots) := by
  refine MetFree.of_bodySF (plainFor_of_name pni2z) hisR ?_
  intro p e s m args below meth c s₁ Bd hml0 hP hK
  obtain ⟨rfl, hZ, hh, hH⟩ := hP
  have hx := Bd.exec
  have hby := Bd.bytes
  have hml : c.maxLocals = 6 := hml0
  have hown : s.vm.findClass "java/lang/String" = some m.cls := findClass_of_methodNamed Bd.named
  have hnm := (name_of_methodNamed Bd.named Bd.method).1
  have X0 : Stand p l e ({ frames := 1, cells := 4, slots := 8, locals := 12 } : Room) s m #[(.ref a0), (.ref a1), (.int p2), (.int p3), .null] below meth c s₁ [] 0 0 := Stand.of_body Bd
  have e0 : s₁.heap = h0 := by rw [← hh, Bd.state]; rfl
  have N0 := Fr.nil n0
  have hEL := own_EW hw
  obtain ⟨vm0, X0, CC, hZ, hown⟩ : ∃ vm, Stand p l e ({ frames := 1, cells := 4, slots := 8, locals := 12 } : Room) (s.setVm vm) m #[(.ref a0), (.ref a1), (.int p2), (.int p3), .null] below meth c s₁ [] 0 0 ∧ OwnC Z ownEL s vm h0 ∧ Z.Warmed39 (s.setVm vm).vm ∧ (s.setVm vm).vm.findClass "java/lang/String" = some m.cls := ⟨s.vm, X0, OwnC.start hh hH, hZ, hown⟩
  show OwnEndW Z ownEL p e below s (fun v h L => Qi2z Z a0 a1 p2 p3 wc sx g h0 n0 v h L) ({ frames := 1, cells := 4, slots := 8, locals := 12 } : Room).cells ({ frames := 1, cells := 4, slots := 8, locals := 12 } : Room).slots (s₁.setTop (entryFrame m #[(.ref a0), (.ref a1), (.int p2), (.int p3), .null] 6))
  rw [efi2z m a0 a1 p2 p3]
  generalize hW : OwnEndW Z ownEL p e below s (fun v h L => Qi2z Z a0 a1 p2 p3 wc sx g h0 n0 v h L) ({ frames := 1, cells := 4, slots := 8, locals := 12 } : Room).cells ({ frames := 1, cells := 4, slots := 8, locals := 12 } : Room).slots = W
  have stp : ∀ {A B : State}, (∀ t, Steps p.tables e below B t → Steps p.tables e below A t) → W B → W A := by subst hW; exact own_stepW
  obtain ⟨S_cs, hcs, S_si, hr_sx, S_ad, S_hi, S_lo⟩ := id BW
  subst hp3
  have SF_a0 : Safe Z ownEL vm0 h0 a0 := own_safeNull hZ.alike E_a0 F_value_a0
  show W (s₁.setTop (mkF m 0 #[.val (.ref a0), .val (.ref a1), .val (.int p2), .val (.int (0 : Int32)), .val .null, .unset] []))
  refine stp (fun t k => XS.aloadN X0.here hx rfl (hb hby di2z_0) rfl rfl k) ?_
  show W (s₁.setTop (mkF m 1 #[.val (.ref a0), .val (.ref a1), .val (.int p2), .val (.int (0 : Int32)), .val .null, .unset] [(.ref a0)]))
  obtain ⟨T1, X1, e1, st1⟩ := initO X0 hx hZ hown (hw _ (List.mem_of_getElem? (i := 15) rfl)) (hw _ (List.mem_of_getElem? (i := 16) rfl)) (hw _ (List.mem_of_getElem? (i := 17) rfl)) e0 (g := (mkF m 1 #[.val (.ref a0), .val (.ref a1), .val (.int p2), .val (.int (0 : Int32)), .val .null, .unset] [(.ref a0)])) rfl (by rw [hml]; rfl) rfl (hb hby di2z_1) (by decide) (W := 0) (by show 2 * 0 + _ ≤ _; exact Nat.le_of_eq rfl) (by decide)
  refine stp (fun t k => st1 t k) ?_
  show W (T1.setTop (mkF m 4 #[.val (.ref a0), .val (.ref a1), .val (.int p2), .val (.int (0 : Int32)), .val .null, .unset] []))
  refine stp (fun t k => XS.iloadN X1.here hx rfl (hb hby di2z_4) rfl k) ?_
  show W (T1.setTop (mkF m 5 #[.val (.ref a0), .val (.ref a1), .val (.int p2), .val (.int (0 : Int32)), .val .null, .unset] [(.int (0 : Int32))]))
  refine stp (fun t k => XS.ifNo X1.here hx rfl (hb hby di2z_5) rfl ((if0 _ _).trans (teq (rfl)).2) k) ?_
  show W (T1.setTop (mkF m 8 #[.val (.ref a0), .val (.ref a1), .val (.int p2), .val (.int (0 : Int32)), .val .null, .unset] []))
  refine stp (fun t k => XS.aloadN X1.here hx rfl (hb hby di2z_8) rfl rfl k) ?_
  show W (T1.setTop (mkF m 9 #[.val (.ref a0), .val (.ref a1), .val (.int p2), .val (.int (0 : Int32)), .val .null, .unset] [(.ref a0)]))
  obtain ⟨kki2zk2, hSai2zk2, hkai2zk2⟩ := CC.1
  obtain ⟨bi2zk2a, Ti2zk2, hi2zk2, ji2zk2, bi2zk2b, ki2zk2, Xi2zk2, ei2zk2, Ei2zk2, hSi2zk2, hki2zk2, hZi2zk2, howni2zk2, E_bi2zk2a, F_coder_bi2zk2a, F_value_bi2zk2a, V_bi2zk2b, -, -, hCi2zk2, -, -, sti2zk2⟩ := ldcCH X1 hx hZ hown (hw _ (List.mem_of_getElem? (i := 18) rfl)) (own_wS hw) e1 hSai2zk2 hkai2zk2 hEL (by decide) CC.2.1 (vs := []) (z := (0 : Int32)) (by decide) (by decide) rfl (g := (mkF m 9 #[.val (.ref a0), .val (.ref a1), .val (.int p2), .val (.int (0 : Int32)), .val .null, .unset] [(.ref a0)])) rfl (hb hby di2z_9) (n := 0) (by decide) (by decide) (by decide) (by decide)
  replace SF_a0 := CHr.safe hCi2zk2 E_a0.lt SF_a0
  obtain ⟨vmi2zk2, Xi2zk2, CCi2zk2, hZ, hown⟩ : ∃ vm, Stand p l e ({ frames := 1, cells := 4, slots := 8, locals := 12 } : Room) (s.setVm vm) m #[(.ref a0), (.ref a1), (.int p2), (.int (0 : Int32)), .null] below meth c Ti2zk2 _ 2 4 ∧ (OwnC Z ownEL s vm hi2zk2 ∧ Safe Z ownEL vm hi2zk2 a0) ∧ Z.Warmed39 (s.setVm vm).vm ∧ (s.setVm vm).vm.findClass "java/lang/String" = some m.cls := ⟨_, Xi2zk2, ⟨⟨⟨_, hSi2zk2, hki2zk2⟩, CC.2.trans hCi2zk2⟩, SF_a0⟩, hZi2zk2, howni2zk2⟩
  obtain ⟨CCi2zk2, SF_a0⟩ := CCi2zk2
  replace CC := CCi2zk2
  replace E_a0 := E_a0.ext Ei2zk2
  replace F_value_a0 := F_value_a0.ext Ei2zk2
  replace F_coder_a0 := F_coder_a0.ext Ei2zk2
  have Ki2zk2 := (Keep.refl h0 [a0]).ext Ei2zk2
  have Zi2zk2 := Nat.le_trans Z0 Ei2zk2.1
  have Oi2zk2 := O0.ext Ei2zk2
  have ne_a0_bi2zk2b : a0 ≠ bi2zk2b := Exa.neArv E_a0 V_bi2zk2b (hw _ (List.mem_of_getElem? (i := 5) rfl))
  refine stp (fun t k => sti2zk2 t k) ?_
  show W (Ti2zk2.setTop (mkF m 11 #[.val (.ref a0), .val (.ref a1), .val (.int p2), .val (.int (0 : Int32)), .val .null, .unset] [(.ref bi2zk2a), (.ref a0)]))
  obtain ⟨Ti2z3, Xi2z3, ei2z3, sti2z3⟩ := getF Xi2zk2 hx hZ hown (host := "") (Or.inl (hw _ (List.mem_of_getElem? (i := 24) rfl))) Via.refl ei2zk2 F_value_bi2zk2a (g := (mkF m 11 #[.val (.ref a0), .val (.ref a1), .val (.int p2), .val (.int (0 : Int32)), .val .null, .unset] [(.ref bi2zk2a), (.ref a0)])) rfl rfl (hb hby di2z_11)
  refine stp (fun t k => sti2z3 t k) ?_
  show W (Ti2z3.setTop (mkF m 14 #[.val (.ref a0), .val (.ref a1), .val (.int p2), .val (.int (0 : Int32)), .val .null, .unset] [(.ref bi2zk2b), (.ref a0)]))
  obtain ⟨Ti2z4, hi2z4, Xi2z4, ei2z4, Wi2z4, sti2z4⟩ := putF Xi2z3 hx hZ hown (host := "") (Or.inl (hw _ (List.mem_of_getElem? (i := 24) rfl))) Via.refl ei2z3 F_value_a0 E_a0 (Or.inr ⟨(hw _ (List.mem_of_getElem? (i := 20) rfl)), rfl, hnm⟩) (hw _ (List.mem_of_getElem? (i := 5) rfl)) (ty := (.array .byte)) (by decide) rfl rfl (g := (mkF m 14 #[.val (.ref a0), .val (.ref a1), .val (.int p2), .val (.int (0 : Int32)), .val .null, .unset] [(.ref bi2zk2b), (.ref a0)])) rfl rfl (hb hby di2z_14)
  have Ni2z4 := Fr.snoc Xi2z4 N0 g_a0
  have F_value_a0x := F_value_a0.same Wi2z4
  obtain ⟨lci2zt5, Xi2z4, Ni2z4⟩ : ∃ lc, Stand p l e ({ frames := 1, cells := 4, slots := 8, locals := 12 } : Room) (s.setVm vmi2zk2) m #[(.ref a0), (.ref a1), (.int p2), (.int (0 : Int32)), .null] below meth c Ti2z4 lc 2 4 ∧ Fr n0 lc := ⟨_, Xi2z4, Ni2z4⟩
  have SFw : Safe Z ownEL vmi2zk2 _ a0 := SF_a0
  replace SF_a0 := Safe.wr Wi2z4 SFw CC.2.1 SF_a0
  replace CC := CC.wr Wi2z4 SFw
  clear SFw
  replace E_a0 := E_a0.wr Wi2z4
  replace F_coder_a0 := F_coder_a0.other Wi2z4 (Or.inr (slot_ne (Or.inr (hw _ (List.mem_of_getElem? (i := 21) rfl))) (Or.inr (hw _ (List.mem_of_getElem? (i := 20) rfl))) (by decide) (t := .byte) (t' := (.array .byte)) (by decide) (by decide)))
  replace V_bi2zk2b := V_bi2zk2b.other Wi2z4 (Ne.symm ne_a0_bi2zk2b)
  have Ki2z4 := Ki2zk2.wr Wi2z4 (Or.inl (List.mem_of_getElem? (i := 0) rfl))
  have Zi2z4 := Nat.le_trans Zi2zk2 (Keep.of_wr Wi2z4).1
  have Oi2z4 := Oi2zk2.wr Wi2z4 g_a0
  replace F_value_a0 := F_value_a0x
  clear F_value_a0x
  refine stp (fun t k => sti2z4 t k) ?_
  show W (Ti2z4.setTop (mkF m 17 #[.val (.ref a0), .val (.ref a1), .val (.int p2), .val (.int (0 : Int32)), .val .null, .unset] []))
  refine stp (fun t k => XS.aloadN Xi2z4.here hx rfl (hb hby di2z_17) rfl rfl k) ?_
  show W (Ti2z4.setTop (mkF m 18 #[.val (.ref a0), .val (.ref a1), .val (.int p2), .val (.int (0 : Int32)), .val .null, .unset] [(.ref a0)]))
  obtain ⟨kki2zk6, hSai2zk6, hkai2zk6⟩ := CC.1
  obtain ⟨bi2zk6a, Ti2zk6, hi2zk6, ji2zk6, bi2zk6b, ki2zk6, Xi2zk6, ei2zk6, Ei2zk6, hSi2zk6, hki2zk6, hZi2zk6, howni2zk6, E_bi2zk6a, F_coder_bi2zk6a, F_value_bi2zk6a, V_bi2zk6b, -, -, hCi2zk6, -, -, sti2zk6⟩ := ldcCH Xi2z4 hx hZ hown (hw _ (List.mem_of_getElem? (i := 18) rfl)) (own_wS hw) ei2z4 hSai2zk6 hkai2zk6 hEL (by decide) CC.2.1 (vs := []) (z := (0 : Int32)) (by decide) (by decide) rfl (g := (mkF m 18 #[.val (.ref a0), .val (.ref a1), .val (.int p2), .val (.int (0 : Int32)), .val .null, .unset] [(.ref a0)])) rfl (hb hby di2z_18) (n := 0) (by decide) (by decide) (by decide) (by decide)
  replace SF_a0 := CHr.safe hCi2zk6 E_a0.lt SF_a0
  obtain ⟨vmi2zk6, Xi2zk6, CCi2zk6, hZ, hown⟩ : ∃ vm, Stand p l e ({ frames := 1, cells := 4, slots := 8, locals := 12 } : Room) (s.setVm vm) m #[(.ref a0), (.ref a1), (.int p2), (.int (0 : Int32)), .null] below meth c Ti2zk6 _ 4 8 ∧ (OwnC Z ownEL s vm hi2zk6 ∧ Safe Z ownEL vm hi2zk6 a0) ∧ Z.Warmed39 (s.setVm vm).vm ∧ (s.setVm vm).vm.findClass "java/lang/String" = some m.cls := ⟨_, Xi2zk6, ⟨⟨⟨_, hSi2zk6, hki2zk6⟩, CC.2.trans hCi2zk6⟩, SF_a0⟩, hZi2zk6, howni2zk6⟩
  obtain ⟨CCi2zk6, SF_a0⟩ := CCi2zk6
  replace CC := CCi2zk6
  replace E_a0 := E_a0.ext Ei2zk6
  replace F_value_a0 := F_value_a0.ext Ei2zk6
  replace F_coder_a0 := F_coder_a0.ext Ei2zk6
  replace V_bi2zk2b := V_bi2zk2b.ext Ei2zk6
  have Ki2zk6 := Ki2z4.ext Ei2zk6
  have Zi2zk6 := Nat.le_trans Zi2z4 Ei2zk6.1
  have Oi2zk6 := Oi2z4.ext Ei2zk6
  have ne_a0_bi2zk6b : a0 ≠ bi2zk6b := Exa.neArv E_a0 V_bi2zk6b (hw _ (List.mem_of_getElem? (i := 5) rfl))
  refine stp (fun t k => sti2zk6 t k) ?_
  show W (Ti2zk6.setTop (mkF m 20 #[.val (.ref a0), .val (.ref a1), .val (.int p2), .val (.int (0 : Int32)), .val .null, .unset] [(.ref bi2zk6a), (.ref a0)]))
  obtain ⟨Ti2z7, Xi2z7, ei2z7, sti2z7⟩ := getF Xi2zk6 hx hZ hown (host := "") (Or.inl (hw _ (List.mem_of_getElem? (i := 25) rfl))) Via.refl ei2zk6 F_coder_bi2zk6a (g := (mkF m 20 #[.val (.ref a0), .val (.ref a1), .val (.int p2), .val (.int (0 : Int32)), .val .null, .unset] [(.ref bi2zk6a), (.ref a0)])) rfl rfl (hb hby di2z_20)
  refine stp (fun t k => sti2z7 t k) ?_
  show W (Ti2z7.setTop (mkF m 23 #[.val (.ref a0), .val (.ref a1), .val (.int p2), .val (.int (0 : Int32)), .val .null, .unset] [(.int (0 : Int32)), (.ref a0)]))
  obtain ⟨Ti2z8, hi2z8, Xi2z8, ei2z8, Wi2z8, sti2z8⟩ := putFN Xi2z7 hx hZ hown (hw _ (List.mem_of_getElem? (i := 25) rfl)) Via.refl ei2z7 F_coder_a0 E_a0 (Or.inr ⟨(hw _ (List.mem_of_getElem? (i := 21) rfl)), rfl, hnm⟩) (hw _ (List.mem_of_getElem? (i := 5) rfl)) (ty := .byte) (v' := (.int (nar .byte (0 : Int32)))) (by decide) rfl (fits_nar_byte _) (g := (mkF m 23 #[.val (.ref a0), .val (.ref a1), .val (.int p2), .val (.int (0 : Int32)), .val .null, .unset] [(.int (0 : Int32)), (.ref a0)])) rfl rfl (hb hby di2z_23)
  have Ni2z8 := Fr.snoc Xi2z8 Ni2z4 g_a0
  have F_coder_a0x := F_coder_a0.same Wi2z8
  obtain ⟨lci2zt9, Xi2z8, Ni2z8⟩ : ∃ lc, Stand p l e ({ frames := 1, cells := 4, slots := 8, locals := 12 } : Room) (s.setVm vmi2zk6) m #[(.ref a0), (.ref a1), (.int p2), (.int (0 : Int32)), .null] below meth c Ti2z8 lc 4 8 ∧ Fr n0 lc := ⟨_, Xi2z8, Ni2z8⟩
  have SFw : Safe Z ownEL vmi2zk6 _ a0 := SF_a0
  replace SF_a0 := Safe.wr Wi2z8 SFw CC.2.1 SF_a0
  replace CC := CC.wr Wi2z8 SFw
  clear SFw
  replace E_a0 := E_a0.wr Wi2z8
  replace F_value_a0 := F_value_a0.other Wi2z8 (Or.inr (slot_ne (Or.inr (hw _ (List.mem_of_getElem? (i := 20) rfl))) (Or.inr (hw _ (List.mem_of_getElem? (i := 21) rfl))) (by decide) (t := (.array .byte)) (t' := .byte) (by decide) (by decide)))
  replace V_bi2zk2b := V_bi2zk2b.other Wi2z8 (Ne.symm ne_a0_bi2zk2b)
  replace V_bi2zk6b := V_bi2zk6b.other Wi2z8 (Ne.symm ne_a0_bi2zk6b)
  have Ki2z8 := Ki2zk6.wr Wi2z8 (Or.inl (List.mem_of_getElem? (i := 0) rfl))
  have Zi2z8 := Nat.le_trans Zi2zk6 (Keep.of_wr Wi2z8).1
  have Oi2z8 := Oi2zk6.wr Wi2z8 g_a0
  replace F_coder_a0 := F_coder_a0x
  clear F_coder_a0x
  refine stp (fun t k => sti2z8 t k) ?_
  show W (Ti2z8.setTop (mkF m 26 #[.val (.ref a0), .val (.ref a1), .val (.int p2), .val (.int (0 : Int32)), .val .null, .unset] []))
  show W (Ti2z8.setTop (mkF m 26 #[.val (.ref a0), .val (.ref a1), .val (.int p2), .val (.int (0 : Int32)), .val .null, .unset] []))
  rw [← hW]
  exact own_W hZ hEL CC (own_ret0 Xi2z8 hx Bd.notSynchronized Bd.returns (hb hby di2z_26) (by show Qi2z Z a0 a1 p2 (0 : Int32) wc sx g h0 n0 _ Ti2z8.heap _ ∧ Ti2z8.heap = hi2z8; rw [ei2z8]; exact ⟨⟨rfl, Ni2z8, Ki2z8, bi2zk2b, E_a0, F_value_a0, Or.inl ⟨own_fldEq (by decide) F_coder_a0, (fun j hj => absurd hj (Nat.not_lt_zero _)), _, own_arv0 V_bi2zk2b _⟩⟩, rfl⟩) (by decide) (by decide))
theorem di1z_0 : decode jdk_42_method_3_code 0 = .ok (.aload_n 0, 1) := by decide +kernel
theorem di1z_1 : decode jdk_42_method_3_code 1 = .ok (.aload_n 1, 1) := by decide +kernel
theorem di1z_2 : decode jdk_42_method_3_code 2 = .ok (.iconst 0, 1) := by decide +kernel
theorem di1z_3 : decode jdk_42_method_3_code 3 = .ok (.aload_n 1, 1) := by decide +kernel
theorem di1z_4 : decode jdk_42_method_3_code 4 = .ok (.arraylength, 1) := by decide +kernel
theorem di1z_5 : decode jdk_42_method_3_code 5 = .ok (.aconst_null, 1) := by decide +kernel
theorem di1z_6 : decode jdk_42_method_3_code 6 = .ok (.invokespecial 27, 3) := by decide +kernel
theorem di1z_9 : decode jdk_42_method_3_code 9 = .ok (.return_, 1) := by decide +kernel
theorem pni1z : plainName "java/lang/String" = true := by first | (simp [plainName, overriddenIn]; done) | decide +kernel
theorem pdi1z_0 : parseMethodDescriptor "([CIILjava/lang/Void;)V" = some ⟨[(.array .char), .int, .int, (.object "java/lang/Void")], none⟩ := by decide +kernel
theorem efi1z (m : MethodId) (a0 : Addr) (a1 : Addr) : entryFrame m #[(.ref a0), (.ref a1)] 2 = mkF m 0 #[.val (.ref a0), .val (.ref a1)] [] := by first | (simp [entryFrame, mkF, argsToLocals, Value.category]; done) | rfl
def Qi1z (Z : State) (a0 : Addr) (a1 : Addr) (wc : Int32) (sx : Value) (g : Nat → Int32) (ka : ClassId) (vs : List Value) (h0 : Heap) (n0 : Nat) (v : Option Value) (h : Heap) (L : List Loc) : Prop := v = none ∧ Fr n0 L ∧ Keep h0 h [a0] ∧ ∃ b : Addr, OwnStr Z h a0 b 0 g
set_option maxRecDepth 65536 in
set_option maxHeartbeats 40000000 in
theorem rmi1z (l : Launch) (Z : State) (aa : Array Value) (hw : ∀ d ∈ tables_1, d.before aa Z = true) (ws : List Jvm.Cond) (a0 : Addr) (a1 : Addr) (wc : Int32) (sx : Value) (g : Nat → Int32) (ka : ClassId) (vs : List Value) (h0 : Heap) (n0 : Nat) (Z0 : n0 ≤ h0.size) (BW : OwnW Z wc sx) (O0 : Old Z n0 h0) (E_a0 : Exa Z h0 a0 "java/lang/String") (F_value_a0 : Fld Z h0 a0 "java/lang/String" "value" "[B" .null) (F_coder_a0 : Fld Z h0 a0 "java/lang/String" "coder" "B" (.int (0 : Int32))) (g_a0 : n0 ≤ a0) (V_a1 : Arv Z h0 a1 ka .char (0 : Int32) vs (.int (0 : Int32))) :
    MetFree l (⟨"java/lang/String", "<init>", "([C)V"⟩ : MethodName) (head1 (Jvm.Cond.code (⟨"java/lang/String", "<init>", "([C)V"⟩ : MethodName) jdk_42_method_3_code 2 none :: ws) ({ frames := 2, cells := 4, slots := 8, locals := 29 } : Room)) (fun a U => a = #[(.ref a0), (.ref a1)] ∧ Z.Warmed39 U.vm ∧ U.heap = h0 ∧ CHv Z ownEL U.vm h0) (fun _ _ _ _ _ => True) (fun _ U o U' => ∃ v L, o = .returned v ∧ Qi1z Z a0 a1 wc sx g ka vs h0 n0 v U'.heap L ∧ CHr Z ownEL U.vm U.heap U'.vm U'.heap ∧ ReturnedEndW U o U' L ({ frames := 2, cells := 4, slots := 8, locals := 29 } : Room).cells ({ frames := 2, cells := 4, slots := 8, locals := 29 } : Room).slots) := by
  refine MetFree.of_bodySF (plainFor_of_name pni1z) hisR ?_
  intro p e s m args below meth c s₁ Bd hml0 hP hK
  obtain ⟨rfl, hZ, hh, hH⟩ := hP
  have hx := Bd.exec
  have hby := Bd.bytes
  have hml : c.maxLocals = 2 := hml0
  have hown : s.vm.findClass "java/lang/String" = some m.cls := findClass_of_methodNamed Bd.named
  have hnm := (name_of_methodNamed Bd.named Bd.method).1
  have X0 : Stand p l e ({ frames := 2, cells := 4, slots := 8, locals := 29 } : Room) s m #[(.ref a0), (.ref a1)] below meth c s₁ [] 0 0 := Stand.of_body Bd
  have e0 : s₁.heap = h0 := by rw [← hh, Bd.state]; rfl
  have N0 := Fr.nil n0
  have hEL := own_EW hw
  obtain ⟨vm0, X0, CC, hZ, hown⟩ : ∃ vm, Stand p l e ({ frames := 2, cells := 4, slots := 8, locals := 29 } : Room) (s.setVm vm) m #[(.ref a0), (.ref a1)] below meth c s₁ [] 0 0 ∧ OwnC Z ownEL s vm h0 ∧ Z.Warmed39 (s.setVm vm).vm ∧ (s.setVm vm).vm.findClass "java/lang/String" = some m.cls := ⟨s.vm, X0, OwnC.start hh hH, hZ, hown⟩
  show OwnEndW Z ownEL p e below s (fun v h L => Qi1z Z a0 a1 wc sx g ka vs h0 n0 v h L) ({ frames := 2, cells := 4, slots := 8, locals := 29 } : Room).cells ({ frames := 2, cells := 4, slots := 8, locals := 29 } : Room).slots (s₁.setTop (entryFrame m #[(.ref a0), (.ref a1)] 2))
  rw [efi1z m a0 a1]
  generalize hW : OwnEndW Z ownEL p e below s (fun v h L => Qi1z Z a0 a1 wc sx g ka vs h0 n0 v h L) ({ frames := 2, cells := 4, slots := 8, locals := 29 } : Room).cells ({ frames := 2, cells := 4, slots := 8, locals := 29 } : Room).slots = W
  have stp : ∀ {A B : State}, (∀ t, Steps p.tables e below B t → Steps p.tables e below A t) → W B → W A := by subst hW; exact own_stepW
  obtain ⟨S_cs, hcs, S_si, hr_sx, S_ad, S_hi, S_lo⟩ := id BW
  show W (s₁.setTop (mkF m 0 #[.val (.ref a0), .val (.ref a1)] []))
  refine stp (fun t k => XS.aloadN X0.here hx rfl (hb hby di1z_0) rfl rfl k) ?_
  show W (s₁.setTop (mkF m 1 #[.val (.ref a0), .val (.ref a1)] [(.ref a0)]))
  refine stp (fun t k => XS.aloadN X0.here hx rfl (hb hby di1z_1) rfl rfl k) ?_
  show W (s₁.setTop (mkF m 2 #[.val (.ref a0), .val (.ref a1)] [(.ref a1), (.ref a0)]))
  refine stp (fun t k => XS.iconst X0.here hx rfl (hb hby di1z_2) k) ?_
  show W (s₁.setTop (mkF m 3 #[.val (.ref a0), .val (.ref a1)] [(.int (0 : Int32)), (.ref a1), (.ref a0)]))
  refine stp (fun t k => XS.aloadN X0.here hx rfl (hb hby di1z_3) rfl rfl k) ?_
  show W (s₁.setTop (mkF m 4 #[.val (.ref a0), .val (.ref a1)] [(.ref a1), (.int (0 : Int32)), (.ref a1), (.ref a0)]))
  obtain ⟨cli1z1, Ari1z1, qki1z1, qsi1z1, qni1z1, qhi1z1, qgi1z1⟩ := id V_a1
  refine stp (fun t k => X0.arraylength hx (by rw [e0]; exact Ari1z1.1) (State.isArrayOf_alike hZ.alike Ari1z1.2.1) (g := (mkF m 4 #[.val (.ref a0), .val (.ref a1)] [(.ref a1), (.int (0 : Int32)), (.ref a1), (.ref a0)])) rfl rfl (hb hby di1z_4) _ k) ?_
  rw [len_of qsi1z1 qni1z1]
  show W (s₁.setTop (mkF m 5 #[.val (.ref a0), .val (.ref a1)] [(.int (0 : Int32)), (.int (0 : Int32)), (.ref a1), (.ref a0)]))
  refine stp (fun t k => XS.aconstNull X0.here hx rfl (hb hby di1z_5) k) ?_
  show W (s₁.setTop (mkF m 6 #[.val (.ref a0), .val (.ref a1)] [.null, (.int (0 : Int32)), (.int (0 : Int32)), (.ref a1), (.ref a0)]))
  obtain ⟨_, _, ⟨Ti1zc2, Li1zc2, ki1zc2, ni1zc2⟩, -, Xi1zc2, hSi1zc2, hGi1zc2, ⟨Lci1zc2, hQi1zc2, li1zc2, yi1zc2, zi1zc2, hCi1zc2⟩, sti1zc2⟩ := X0.specialBackS hx (y := (⟨"java/lang/String", "<init>", "([CIILjava/lang/Void;)V"⟩ : MethodName)) rfl hown (mvT hZ (hw _ (List.mem_of_getElem? (i := 11) rfl))) (mvT hZ (hw _ (List.mem_of_getElem? (i := 12) rfl))) (mvT hZ (hw _ (List.mem_of_getElem? (i := 14) rfl))) (by decide) (backOfSH (W := 0) (rmi2z l Z aa hw [] a0 a1 (0 : Int32) (0 : Int32) wc sx g h0 n0 Z0 BW O0 E_a0 F_value_a0 F_coder_a0 g_a0 rfl) hZ (hw _ (List.mem_of_getElem? (i := 14) rfl)) (hw _ (List.mem_of_getElem? (i := 6) rfl)) (by decide) (by decide) hEL CC.2.1) (g := (mkF m 6 #[.val (.ref a0), .val (.ref a1)] [.null, (.int (0 : Int32)), (.int (0 : Int32)), (.ref a1), (.ref a0)])) rfl (by rw [hml]; rfl) (Steps.refl _) (a := a0) (argsL := [(.ref a1), (.int (0 : Int32)), (.int (0 : Int32)), .null]) (rest := []) (lenOf pdi1z_0 rfl) rfl (by show 2 * 0 + _ ≤ _; exact Nat.le_of_eq rfl) (hb hby di1z_6) (fun _ _ => ⟨rfl, e0, (by decide : 0 + 4 ≤ _), (by decide : 0 + 8 ≤ _)⟩)
  dsimp only [Pt.U, Pt.locs, Pt.cells, Pt.slots] at Xi1zc2 li1zc2 yi1zc2 zi1zc2 sti1zc2 hQi1zc2
  subst li1zc2 yi1zc2 zi1zc2
  obtain ⟨rfl, Ni1zc2q, Kqi1zc2, Gi1zc2⟩ := hQi1zc2
  have Ni1zc2 := Fr.app N0 Ni1zc2q
  dsimp only [Pt.U] at hSi1zc2 hGi1zc2 hCi1zc2
  rw [e0] at hGi1zc2
  obtain ⟨vmi1zc2, ⟨lci1zc2, Xi1zc2, Ni1zc2⟩, CCi1zc2, hZ, hown⟩ : ∃ vm, (∃ lc, Stand p l e ({ frames := 2, cells := 4, slots := 8, locals := 29 } : Room) (s.setVm vm) m #[(.ref a0), (.ref a1)] below meth c Ti1zc2 lc 4 8 ∧ Fr n0 lc) ∧ OwnC Z ownEL s vm Ti1zc2.heap ∧ Z.Warmed39 (s.setVm vm).vm ∧ (s.setVm vm).vm.findClass "java/lang/String" = some m.cls := ⟨_, ⟨_, Xi1zc2, Ni1zc2⟩, CC.reb hSi1zc2 hGi1zc2 hCi1zc2, State.Warmed39.trans hZ hSi1zc2.1, (hSi1zc2.1.alike.findClass _ _).trans hown⟩
  replace CC := CCi1zc2
  obtain ⟨hi1zc2, ei1zc2⟩ : ∃ h, Ti1zc2.heap = h := ⟨_, rfl⟩
  rw [ei1zc2] at Kqi1zc2 Gi1zc2 CC
  refine stp (fun t k => sti1zc2.trans k) ?_
  show W (Ti1zc2.setTop (mkF m 9 #[.val (.ref a0), .val (.ref a1)] []))
  show W (Ti1zc2.setTop (mkF m 9 #[.val (.ref a0), .val (.ref a1)] []))
  rw [← hW]
  exact own_W hZ hEL CC (own_ret0 Xi1zc2 hx Bd.notSynchronized Bd.returns (hb hby di1z_9) (by show Qi1z Z a0 a1 wc sx g ka vs h0 n0 _ Ti1zc2.heap _ ∧ Ti1zc2.heap = hi1zc2; rw [ei1zc2]; exact ⟨⟨rfl, Ni1zc2, Kqi1zc2, Gi1zc2⟩, rfl⟩) (by decide) (by decide))
def own_g4 (p1 p2 p3 p4 : Int32) (j : Nat) : Int32 := ([nar .char p1, nar .char p2, nar .char p3, nar .char p4] : List Int32).getD j 0
theorem own_ch (c : Int32) : 0 ≤ (nar .char c).toInt ∧ (nar .char c).toInt < 65536 := by
  have h := c_i2c c
  exact h.2
theorem own_narR (p : Int32) : 0 ≤ (nar .char p).toInt ∧ (nar .char p).toInt < 65536 := own_ch p
theorem own_g4R (p1 p2 p3 p4 : Int32) (n : Nat) (hn : n ≤ 4) : ∀ j, j < n → 0 ≤ (own_g4 p1 p2 p3 p4 j).toInt ∧ (own_g4 p1 p2 p3 p4 j).toInt < 65536 := fun j hj => by
  have h4 : j < 4 := by omega
  match j, h4 with
  | 0, _ => exact own_narR p1
  | 1, _ => exact own_narR p2
  | 2, _ => exact own_narR p3
  | 3, _ => exact own_narR p4
theorem dmk_0 : decode method_3_code 0 = .ok (.iload_n 0, 1) := by decide +kernel
theorem dmk_1 : decode method_3_code 1 = .ok (.ifCond .ne 14, 3) := by decide +kernel
theorem dmk_4 : decode method_3_code 4 = .ok (.new 7, 3) := by decide +kernel
theorem dmk_7 : decode method_3_code 7 = .ok (.dup, 1) := by decide +kernel
theorem dmk_8 : decode method_3_code 8 = .ok (.iconst 0, 1) := by decide +kernel
theorem dmk_9 : decode method_3_code 9 = .ok (.newarray .char, 2) := by decide +kernel
theorem dmk_11 : decode method_3_code 11 = .ok (.invokespecial 9, 3) := by decide +kernel
theorem dmk_14 : decode method_3_code 14 = .ok (.areturn, 1) := by decide +kernel
theorem dmk_15 : decode method_3_code 15 = .ok (.iload_n 0, 1) := by decide +kernel
theorem dmk_16 : decode method_3_code 16 = .ok (.iconst 1, 1) := by decide +kernel
theorem dmk_17 : decode method_3_code 17 = .ok (.if_icmp .ne 18, 3) := by decide +kernel
theorem dmk_20 : decode method_3_code 20 = .ok (.new 7, 3) := by decide +kernel
theorem dmk_23 : decode method_3_code 23 = .ok (.dup, 1) := by decide +kernel
theorem dmk_24 : decode method_3_code 24 = .ok (.iconst 1, 1) := by decide +kernel
theorem dmk_25 : decode method_3_code 25 = .ok (.newarray .char, 2) := by decide +kernel
theorem dmk_27 : decode method_3_code 27 = .ok (.dup, 1) := by decide +kernel
theorem dmk_28 : decode method_3_code 28 = .ok (.iconst 0, 1) := by decide +kernel
theorem dmk_29 : decode method_3_code 29 = .ok (.iload_n 1, 1) := by decide +kernel
theorem dmk_30 : decode method_3_code 30 = .ok (.castore, 1) := by decide +kernel
theorem dmk_31 : decode method_3_code 31 = .ok (.invokespecial 9, 3) := by decide +kernel
theorem dmk_34 : decode method_3_code 34 = .ok (.areturn, 1) := by decide +kernel
theorem dmk_35 : decode method_3_code 35 = .ok (.iload_n 0, 1) := by decide +kernel
theorem dmk_36 : decode method_3_code 36 = .ok (.iconst 2, 1) := by decide +kernel
theorem dmk_37 : decode method_3_code 37 = .ok (.if_icmp .ne 22, 3) := by decide +kernel
theorem dmk_40 : decode method_3_code 40 = .ok (.new 7, 3) := by decide +kernel
theorem dmk_43 : decode method_3_code 43 = .ok (.dup, 1) := by decide +kernel
theorem dmk_44 : decode method_3_code 44 = .ok (.iconst 2, 1) := by decide +kernel
theorem dmk_45 : decode method_3_code 45 = .ok (.newarray .char, 2) := by decide +kernel
theorem dmk_47 : decode method_3_code 47 = .ok (.dup, 1) := by decide +kernel
theorem dmk_48 : decode method_3_code 48 = .ok (.iconst 0, 1) := by decide +kernel
theorem dmk_49 : decode method_3_code 49 = .ok (.iload_n 1, 1) := by decide +kernel
theorem dmk_50 : decode method_3_code 50 = .ok (.castore, 1) := by decide +kernel
theorem dmk_51 : decode method_3_code 51 = .ok (.dup, 1) := by decide +kernel
theorem dmk_52 : decode method_3_code 52 = .ok (.iconst 1, 1) := by decide +kernel
theorem dmk_53 : decode method_3_code 53 = .ok (.iload_n 2, 1) := by decide +kernel
theorem dmk_54 : decode method_3_code 54 = .ok (.castore, 1) := by decide +kernel
theorem dmk_55 : decode method_3_code 55 = .ok (.invokespecial 9, 3) := by decide +kernel
theorem dmk_58 : decode method_3_code 58 = .ok (.areturn, 1) := by decide +kernel
theorem dmk_59 : decode method_3_code 59 = .ok (.iload_n 0, 1) := by decide +kernel
theorem dmk_60 : decode method_3_code 60 = .ok (.iconst 3, 1) := by decide +kernel
theorem dmk_61 : decode method_3_code 61 = .ok (.if_icmp .ne 26, 3) := by decide +kernel
theorem dmk_64 : decode method_3_code 64 = .ok (.new 7, 3) := by decide +kernel
theorem dmk_67 : decode method_3_code 67 = .ok (.dup, 1) := by decide +kernel
theorem dmk_68 : decode method_3_code 68 = .ok (.iconst 3, 1) := by decide +kernel
theorem dmk_69 : decode method_3_code 69 = .ok (.newarray .char, 2) := by decide +kernel
theorem dmk_71 : decode method_3_code 71 = .ok (.dup, 1) := by decide +kernel
theorem dmk_72 : decode method_3_code 72 = .ok (.iconst 0, 1) := by decide +kernel
theorem dmk_73 : decode method_3_code 73 = .ok (.iload_n 1, 1) := by decide +kernel
theorem dmk_74 : decode method_3_code 74 = .ok (.castore, 1) := by decide +kernel
theorem dmk_75 : decode method_3_code 75 = .ok (.dup, 1) := by decide +kernel
theorem dmk_76 : decode method_3_code 76 = .ok (.iconst 1, 1) := by decide +kernel
theorem dmk_77 : decode method_3_code 77 = .ok (.iload_n 2, 1) := by decide +kernel
theorem dmk_78 : decode method_3_code 78 = .ok (.castore, 1) := by decide +kernel
theorem dmk_79 : decode method_3_code 79 = .ok (.dup, 1) := by decide +kernel
theorem dmk_80 : decode method_3_code 80 = .ok (.iconst 2, 1) := by decide +kernel
theorem dmk_81 : decode method_3_code 81 = .ok (.iload_n 3, 1) := by decide +kernel
theorem dmk_82 : decode method_3_code 82 = .ok (.castore, 1) := by decide +kernel
theorem dmk_83 : decode method_3_code 83 = .ok (.invokespecial 9, 3) := by decide +kernel
theorem dmk_86 : decode method_3_code 86 = .ok (.areturn, 1) := by decide +kernel
theorem dmk_87 : decode method_3_code 87 = .ok (.new 7, 3) := by decide +kernel
theorem dmk_90 : decode method_3_code 90 = .ok (.dup, 1) := by decide +kernel
theorem dmk_91 : decode method_3_code 91 = .ok (.iconst 4, 1) := by decide +kernel
theorem dmk_92 : decode method_3_code 92 = .ok (.newarray .char, 2) := by decide +kernel
theorem dmk_94 : decode method_3_code 94 = .ok (.dup, 1) := by decide +kernel
theorem dmk_95 : decode method_3_code 95 = .ok (.iconst 0, 1) := by decide +kernel
theorem dmk_96 : decode method_3_code 96 = .ok (.iload_n 1, 1) := by decide +kernel
theorem dmk_97 : decode method_3_code 97 = .ok (.castore, 1) := by decide +kernel
theorem dmk_98 : decode method_3_code 98 = .ok (.dup, 1) := by decide +kernel
theorem dmk_99 : decode method_3_code 99 = .ok (.iconst 1, 1) := by decide +kernel
theorem dmk_100 : decode method_3_code 100 = .ok (.iload_n 2, 1) := by decide +kernel
theorem dmk_101 : decode method_3_code 101 = .ok (.castore, 1) := by decide +kernel
theorem dmk_102 : decode method_3_code 102 = .ok (.dup, 1) := by decide +kernel
theorem dmk_103 : decode method_3_code 103 = .ok (.iconst 2, 1) := by decide +kernel
theorem dmk_104 : decode method_3_code 104 = .ok (.iload_n 3, 1) := by decide +kernel
theorem dmk_105 : decode method_3_code 105 = .ok (.castore, 1) := by decide +kernel
theorem dmk_106 : decode method_3_code 106 = .ok (.dup, 1) := by decide +kernel
theorem dmk_107 : decode method_3_code 107 = .ok (.iconst 3, 1) := by decide +kernel
theorem dmk_108 : decode method_3_code 108 = .ok (.iload 4, 2) := by decide +kernel
theorem dmk_110 : decode method_3_code 110 = .ok (.castore, 1) := by decide +kernel
theorem dmk_111 : decode method_3_code 111 = .ok (.invokespecial 9, 3) := by decide +kernel
theorem dmk_114 : decode method_3_code 114 = .ok (.areturn, 1) := by decide +kernel
theorem pnmk : plainName "com/example/opuscule/opuscule/record/XmlSpaceIsSpace285PinLaw" = true := by first | (simp [plainName, overriddenIn]; done) | decide +kernel
theorem pdmk_0 : parseMethodDescriptor "([C)V" = some ⟨[(.array .char)], none⟩ := by decide +kernel
theorem efmk (m : MethodId) (p0 : Int32) (p1 : Int32) (p2 : Int32) (p3 : Int32) (p4 : Int32) : entryFrame m #[(.int p0), (.int p1), (.int p2), (.int p3), (.int p4)] 5 = mkF m 0 #[.val (.int p0), .val (.int p1), .val (.int p2), .val (.int p3), .val (.int p4)] [] := by first | (simp [entryFrame, mkF, argsToLocals, Value.category]; done) | rfl
def Qmk (Z : State) (p0 : Int32) (p1 : Int32) (p2 : Int32) (p3 : Int32) (p4 : Int32) (wc : Int32) (sx : Value) (n : Nat) (h0 : Heap) (n0 : Nat) (v : Option Value) (h : Heap) (L : List Loc) : Prop := ∃ (a b : Addr), v = some (.ref a) ∧ Fr n0 L ∧ Keep h0 h [] ∧ OwnStr Z h a b n (own_g4 p1 p2 p3 p4)
set_option maxRecDepth 65536 in
set_option maxHeartbeats 40000000 in
theorem rmmk (l : Launch) (Z : State) (aa : Array Value) (hw : ∀ d ∈ tables_1, d.before aa Z = true) (ws : List Jvm.Cond) (p0 : Int32) (p1 : Int32) (p2 : Int32) (p3 : Int32) (p4 : Int32) (wc : Int32) (sx : Value) (n : Nat) (h0 : Heap) (n0 : Nat) (Z0 : n0 ≤ h0.size) (BW : OwnW Z wc sx) (O0 : Old Z n0 h0) (hp0 : p0.toInt = (n : Int)) (hn4 : n ≤ 4) :
    MetFree l (⟨"com/example/opuscule/opuscule/record/XmlSpaceIsSpace285PinLaw", "make", "(ICCCC)Ljava/lang/String;"⟩ : MethodName) (head1 (Jvm.Cond.code (⟨"com/example/opuscule/opuscule/record/XmlSpaceIsSpace285PinLaw", "make", "(ICCCC)Ljava/lang/String;"⟩ : MethodName) method_3_code 5 (some (.object "java/lang/String")) :: ws) ({ frames := 6, cells := 6, slots := 20, locals := 88 } : Room)) (fun a U => a = #[(.int p0), (.int p1), (.int p2), (.int p3), (.int p4)] ∧ Z.Warmed39 U.vm ∧ U.heap = h0 ∧ CHv Z ownEL U.vm h0) (fun _ _ _ _ _ => True) (fun _ U o U' => ∃ v L, o = .returned v ∧ Qmk Z p0 p1 p2 p3 p4 wc sx n h0 n0 v U'.heap L ∧ CHr Z ownEL U.vm U.heap U'.vm U'.heap ∧ ReturnedEndW U o U' L ({ frames := 6, cells := 6, slots := 20, locals := 88 } : Room).cells ({ frames := 6, cells := 6, slots := 20, locals := 88 } : Room).slots) := by
  refine MetFree.of_bodySF (plainFor_of_name pnmk) hisR ?_
  intro p e s m args below meth c s₁ Bd hml0 hP hK
  obtain ⟨rfl, hZ, hh, hH⟩ := hP
  have hx := Bd.exec
  have hby := Bd.bytes
  have hml : c.maxLocals = 5 := hml0
  have hown : s.vm.findClass "com/example/opuscule/opuscule/record/XmlSpaceIsSpace285PinLaw" = some m.cls := findClass_of_methodNamed Bd.named
  have hnm := (name_of_methodNamed Bd.named Bd.method).1
  have X0 : Stand p l e ({ frames := 6, cells := 6, slots := 20, locals := 88 } : Room) s m #[(.int p0), (.int p1), (.int p2), (.int p3), (.int p4)] below meth c s₁ [] 0 0 := Stand.of_body Bd
  have e0 : s₁.heap = h0 := by rw [← hh, Bd.state]; rfl
  have N0 := Fr.nil n0
  have hEL := own_EW hw
  obtain ⟨vm0, X0, CC, hZ, hown⟩ : ∃ vm, Stand p l e ({ frames := 6, cells := 6, slots := 20, locals := 88 } : Room) (s.setVm vm) m #[(.int p0), (.int p1), (.int p2), (.int p3), (.int p4)] below meth c s₁ [] 0 0 ∧ OwnC Z ownEL s vm h0 ∧ Z.Warmed39 (s.setVm vm).vm ∧ (s.setVm vm).vm.findClass "com/example/opuscule/opuscule/record/XmlSpaceIsSpace285PinLaw" = some m.cls := ⟨s.vm, X0, OwnC.start hh hH, hZ, hown⟩
  show OwnEndW Z ownEL p e below s (fun v h L => Qmk Z p0 p1 p2 p3 p4 wc sx n h0 n0 v h L) ({ frames := 6, cells := 6, slots := 20, locals := 88 } : Room).cells ({ frames := 6, cells := 6, slots := 20, locals := 88 } : Room).slots (s₁.setTop (entryFrame m #[(.int p0), (.int p1), (.int p2), (.int p3), (.int p4)] 5))
  rw [efmk m p0 p1 p2 p3 p4]
  generalize hW : OwnEndW Z ownEL p e below s (fun v h L => Qmk Z p0 p1 p2 p3 p4 wc sx n h0 n0 v h L) ({ frames := 6, cells := 6, slots := 20, locals := 88 } : Room).cells ({ frames := 6, cells := 6, slots := 20, locals := 88 } : Room).slots = W
  have stp : ∀ {A B : State}, (∀ t, Steps p.tables e below B t → Steps p.tables e below A t) → W B → W A := by subst hW; exact own_stepW
  obtain ⟨S_cs, hcs, S_si, hr_sx, S_ad, S_hi, S_lo⟩ := id BW
  show W (s₁.setTop (mkF m 0 #[.val (.int p0), .val (.int p1), .val (.int p2), .val (.int p3), .val (.int p4)] []))
  refine stp (fun t k => XS.iloadN X0.here hx rfl (hb hby dmk_0) rfl k) ?_
  show W (s₁.setTop (mkF m 1 #[.val (.int p0), .val (.int p1), .val (.int p2), .val (.int p3), .val (.int p4)] [(.int p0)]))
  by_cases hcmk_1 : p0 = (0 : Int32)
  · refine stp (fun t k => XS.ifNo X0.here hx rfl (hb hby dmk_1) rfl ((if0 _ _).trans (teq hcmk_1).2) k) ?_
    show W (s₁.setTop (mkF m 4 #[.val (.int p0), .val (.int p1), .val (.int p2), .val (.int p3), .val (.int p4)] []))
    obtain ⟨Tmk2, hmk2, Xmk2, emk2, Emk2, Amk2, Dmk2, -, stmk2⟩ := newO X0 hx hZ hown (hw _ (List.mem_of_getElem? (i := 4) rfl)) (hw _ (List.mem_of_getElem? (i := 5) rfl)) (hw _ (List.mem_of_getElem? (i := 6) rfl)) e0 (g := (mkF m 4 #[.val (.int p0), .val (.int p1), .val (.int p2), .val (.int p3), .val (.int p4)] [])) rfl (hb hby dmk_4) (by decide) (by decide)
    obtain ⟨bmk2, gqmk2⟩ : ∃ z, z = h0.size := ⟨_, rfl⟩
    rw [← gqmk2] at Amk2 Dmk2 stmk2
    replace CC := CC.ext Emk2
    have g_bmk2 : n0 ≤ bmk2 := Nat.le_trans Z0 (Nat.le_of_eq gqmk2.symm)
    have sz_bmk2 : h0.size ≤ bmk2 := Nat.le_trans (Keep.refl h0 []).1 (Nat.le_of_eq gqmk2.symm)
    have Kmk2 := (Keep.refl h0 []).ext Emk2
    have Zmk2 := Nat.le_trans Z0 Emk2.1
    have Omk2 := O0.ext Emk2
    have E_bmk2 := Amk2
    have F_value_bmk2 : Fld Z hmk2 bmk2 "java/lang/String" "value" "[B" .null := Dmk2 (Or.inr (hw _ (List.mem_of_getElem? (i := 20) rfl))) (ty := (.array .byte)) (by decide)
    have F_coder_bmk2 : Fld Z hmk2 bmk2 "java/lang/String" "coder" "B" (.int (0 : Int32)) := Dmk2 (Or.inr (hw _ (List.mem_of_getElem? (i := 21) rfl))) (ty := .byte) (by decide)
    refine stp (fun t k => stmk2 t k) ?_
    show W (Tmk2.setTop (mkF m 7 #[.val (.int p0), .val (.int p1), .val (.int p2), .val (.int p3), .val (.int p4)] [(.ref bmk2)]))
    refine stp (fun t k => XS.dup Xmk2.here hx rfl (hb hby dmk_7) rfl rfl k) ?_
    show W (Tmk2.setTop (mkF m 8 #[.val (.int p0), .val (.int p1), .val (.int p2), .val (.int p3), .val (.int p4)] [(.ref bmk2), (.ref bmk2)]))
    refine stp (fun t k => XS.iconst Xmk2.here hx rfl (hb hby dmk_8) k) ?_
    show W (Tmk2.setTop (mkF m 9 #[.val (.int p0), .val (.int p1), .val (.int p2), .val (.int p3), .val (.int p4)] [(.int (0 : Int32)), (.ref bmk2), (.ref bmk2)]))
    obtain ⟨Tmk3, hmk3, kmk3, Xmk3, emk3, Emk3, Amk3, stmk3⟩ := newP Xmk2 hx hZ (hw _ (List.mem_of_getElem? (i := 7) rfl)) emk2 (g := (mkF m 9 #[.val (.int p0), .val (.int p1), .val (.int p2), .val (.int p3), .val (.int p4)] [(.int (0 : Int32)), (.ref bmk2), (.ref bmk2)])) rfl (hb hby dmk_9) rfl (by decide) (cap := 0) (by decide) (by decide) (by decide) (by decide)
    obtain ⟨bmk3, gqmk3⟩ : ∃ z, z = hmk2.size := ⟨_, rfl⟩
    rw [← gqmk3] at Amk3 stmk3
    replace CC := CC.ext Emk3
    have ne_bmk2_bmk3 : bmk2 ≠ bmk3 := Nat.ne_of_lt (Nat.lt_of_lt_of_le E_bmk2.lt (Nat.le_of_eq gqmk3.symm))
    have g_bmk3 : n0 ≤ bmk3 := Nat.le_trans Zmk2 (Nat.le_of_eq gqmk3.symm)
    have sz_bmk3 : h0.size ≤ bmk3 := Nat.le_trans Kmk2.1 (Nat.le_of_eq gqmk3.symm)
    replace E_bmk2 := E_bmk2.ext Emk3
    replace F_value_bmk2 := F_value_bmk2.ext Emk3
    replace F_coder_bmk2 := F_coder_bmk2.ext Emk3
    have Kmk3 := Kmk2.ext Emk3
    have Zmk3 := Nat.le_trans Zmk2 Emk3.1
    have Omk3 := Omk2.ext Emk3
    have V_bmk3 : Arv Z hmk3 bmk3 kmk3 .char (0 : Int32) [] (.int (0 : Int32)) := (Arv.new Amk3 (by decide)).pad (pad_rep [] (.int (0 : Int32)) 0)
    refine stp (fun t k => stmk3 t k) ?_
    show W (Tmk3.setTop (mkF m 11 #[.val (.int p0), .val (.int p1), .val (.int p2), .val (.int p3), .val (.int p4)] [(.ref bmk3), (.ref bmk2), (.ref bmk2)]))
    obtain ⟨_, _, ⟨Tmkc4, Lmkc4, kmkc4, nmkc4⟩, -, Xmkc4, hSmkc4, hGmkc4, ⟨Lcmkc4, hQmkc4, lmkc4, ymkc4, zmkc4, hCmkc4⟩, stmkc4⟩ := Xmk3.specialBackS hx (y := (⟨"java/lang/String", "<init>", "([C)V"⟩ : MethodName)) rfl hown (mvT hZ (hw _ (List.mem_of_getElem? (i := 8) rfl))) (mvT hZ (hw _ (List.mem_of_getElem? (i := 9) rfl))) (mvT hZ (hw _ (List.mem_of_getElem? (i := 10) rfl))) (by decide) (backOfSH (W := 1) (rmi1z l Z aa hw [] bmk2 bmk3 wc sx (own_g4 p1 p2 p3 p4) kmk3 _ hmk3 n0 Zmk3 BW Omk3 E_bmk2 F_value_bmk2 F_coder_bmk2 g_bmk2 V_bmk3) hZ (hw _ (List.mem_of_getElem? (i := 10) rfl)) (hw _ (List.mem_of_getElem? (i := 6) rfl)) (by decide) (by decide) hEL CC.2.1) (g := (mkF m 11 #[.val (.int p0), .val (.int p1), .val (.int p2), .val (.int p3), .val (.int p4)] [(.ref bmk3), (.ref bmk2), (.ref bmk2)])) rfl (by rw [hml]; rfl) (Steps.refl _) (a := bmk2) (argsL := [(.ref bmk3)]) (rest := [(.ref bmk2)]) (lenOf pdmk_0 rfl) rfl (by show 2 * 0 + _ ≤ _; exact Nat.le_of_eq rfl) (hb hby dmk_11) (fun _ _ => ⟨rfl, emk3, (by decide : 2 + 4 ≤ _), (by decide : 4 + 8 ≤ _)⟩)
    dsimp only [Pt.U, Pt.locs, Pt.cells, Pt.slots] at Xmkc4 lmkc4 ymkc4 zmkc4 stmkc4 hQmkc4
    subst lmkc4 ymkc4 zmkc4
    obtain ⟨rfl, Nmkc4q, Kqmkc4, bmkc4, S_mkc4⟩ := hQmkc4
    have Nmkc4 := Fr.app N0 Nmkc4q
    dsimp only [Pt.U] at hSmkc4 hGmkc4 hCmkc4
    rw [emk3] at hGmkc4
    obtain ⟨vmmkc4, ⟨lcmkc4, Xmkc4, Nmkc4⟩, CCmkc4, hZ, hown⟩ : ∃ vm, (∃ lc, Stand p l e ({ frames := 6, cells := 6, slots := 20, locals := 88 } : Room) (s.setVm vm) m #[(.int p0), (.int p1), (.int p2), (.int p3), (.int p4)] below meth c Tmkc4 lc 6 12 ∧ Fr n0 lc) ∧ OwnC Z ownEL s vm Tmkc4.heap ∧ Z.Warmed39 (s.setVm vm).vm ∧ (s.setVm vm).vm.findClass "com/example/opuscule/opuscule/record/XmlSpaceIsSpace285PinLaw" = some m.cls := ⟨_, ⟨_, Xmkc4, Nmkc4⟩, CC.reb hSmkc4 hGmkc4 hCmkc4, State.Warmed39.trans hZ hSmkc4.1, (hSmkc4.1.alike.findClass _ _).trans hown⟩
    replace CC := CCmkc4
    obtain ⟨hmkc4, emkc4⟩ : ∃ h, Tmkc4.heap = h := ⟨_, rfl⟩
    rw [emkc4] at Kqmkc4 S_mkc4 CC
    replace V_bmk3 := V_bmk3.keep Kqmkc4 (ninS (Ne.symm ne_bmk2_bmk3) nin0)
    have KKmkc4 := Keep.trans Kmk3 Kqmkc4 (allS (Or.inr sz_bmk2) all0)
    have Zmkc4 := Nat.le_trans Zmk3 Kqmkc4.1
    have Omkc4 := Omk3.keep Kqmkc4 (allS g_bmk2 all0)
    refine stp (fun t k => stmkc4.trans k) ?_
    show W (Tmkc4.setTop (mkF m 14 #[.val (.int p0), .val (.int p1), .val (.int p2), .val (.int p3), .val (.int p4)] [(.ref bmk2)]))
    show W (Tmkc4.setTop (mkF m 14 #[.val (.int p0), .val (.int p1), .val (.int p2), .val (.int p3), .val (.int p4)] [(.ref bmk2)]))
    rw [← hW]
    exact own_W hZ hEL CC (own_retR Xmkc4 hx Bd.notSynchronized Bd.returns rfl (hb hby dmk_14) (by show Qmk Z p0 p1 p2 p3 p4 wc sx n h0 n0 _ Tmkc4.heap _ ∧ Tmkc4.heap = hmkc4; rw [emkc4]; exact ⟨⟨bmk2, bmkc4, rfl, Nmkc4, KKmkc4, own_strEq (own_nOf hp0 hcmk_1 (by decide)) S_mkc4⟩, rfl⟩) (by decide) (by decide))
  · refine stp (fun t k => XS.ifYes X0.here hx rfl (pc0 := 1) (pc' := 15) rfl (hb hby dmk_1) rfl ((if0 _ _).trans (feq hcmk_1).2) (by decide) (by decide) k) ?_
    show W (s₁.setTop (mkF m 15 #[.val (.int p0), .val (.int p1), .val (.int p2), .val (.int p3), .val (.int p4)] []))
    refine stp (fun t k => XS.iloadN X0.here hx rfl (hb hby dmk_15) rfl k) ?_
    show W (s₁.setTop (mkF m 16 #[.val (.int p0), .val (.int p1), .val (.int p2), .val (.int p3), .val (.int p4)] [(.int p0)]))
    refine stp (fun t k => XS.iconst X0.here hx rfl (hb hby dmk_16) k) ?_
    show W (s₁.setTop (mkF m 17 #[.val (.int p0), .val (.int p1), .val (.int p2), .val (.int p3), .val (.int p4)] [(.int (1 : Int32)), (.int p0)]))
    by_cases hcmk_5 : p0 = (1 : Int32)
    · refine stp (fun t k => XS.icmpNo X0.here hx rfl (hb hby dmk_17) rfl ((teq hcmk_5).2) k) ?_
      show W (s₁.setTop (mkF m 20 #[.val (.int p0), .val (.int p1), .val (.int p2), .val (.int p3), .val (.int p4)] []))
      obtain ⟨Tmk6, hmk6, Xmk6, emk6, Emk6, Amk6, Dmk6, -, stmk6⟩ := newO X0 hx hZ hown (hw _ (List.mem_of_getElem? (i := 4) rfl)) (hw _ (List.mem_of_getElem? (i := 5) rfl)) (hw _ (List.mem_of_getElem? (i := 6) rfl)) e0 (g := (mkF m 20 #[.val (.int p0), .val (.int p1), .val (.int p2), .val (.int p3), .val (.int p4)] [])) rfl (hb hby dmk_20) (by decide) (by decide)
      obtain ⟨bmk6, gqmk6⟩ : ∃ z, z = h0.size := ⟨_, rfl⟩
      rw [← gqmk6] at Amk6 Dmk6 stmk6
      replace CC := CC.ext Emk6
      have g_bmk6 : n0 ≤ bmk6 := Nat.le_trans Z0 (Nat.le_of_eq gqmk6.symm)
      have sz_bmk6 : h0.size ≤ bmk6 := Nat.le_trans (Keep.refl h0 []).1 (Nat.le_of_eq gqmk6.symm)
      have Kmk6 := (Keep.refl h0 []).ext Emk6
      have Zmk6 := Nat.le_trans Z0 Emk6.1
      have Omk6 := O0.ext Emk6
      have E_bmk6 := Amk6
      have F_value_bmk6 : Fld Z hmk6 bmk6 "java/lang/String" "value" "[B" .null := Dmk6 (Or.inr (hw _ (List.mem_of_getElem? (i := 20) rfl))) (ty := (.array .byte)) (by decide)
      have F_coder_bmk6 : Fld Z hmk6 bmk6 "java/lang/String" "coder" "B" (.int (0 : Int32)) := Dmk6 (Or.inr (hw _ (List.mem_of_getElem? (i := 21) rfl))) (ty := .byte) (by decide)
      refine stp (fun t k => stmk6 t k) ?_
      show W (Tmk6.setTop (mkF m 23 #[.val (.int p0), .val (.int p1), .val (.int p2), .val (.int p3), .val (.int p4)] [(.ref bmk6)]))
      refine stp (fun t k => XS.dup Xmk6.here hx rfl (hb hby dmk_23) rfl rfl k) ?_
      show W (Tmk6.setTop (mkF m 24 #[.val (.int p0), .val (.int p1), .val (.int p2), .val (.int p3), .val (.int p4)] [(.ref bmk6), (.ref bmk6)]))
      refine stp (fun t k => XS.iconst Xmk6.here hx rfl (hb hby dmk_24) k) ?_
      show W (Tmk6.setTop (mkF m 25 #[.val (.int p0), .val (.int p1), .val (.int p2), .val (.int p3), .val (.int p4)] [(.int (1 : Int32)), (.ref bmk6), (.ref bmk6)]))
      obtain ⟨Tmk7, hmk7, kmk7, Xmk7, emk7, Emk7, Amk7, stmk7⟩ := newP Xmk6 hx hZ (hw _ (List.mem_of_getElem? (i := 7) rfl)) emk6 (g := (mkF m 25 #[.val (.int p0), .val (.int p1), .val (.int p2), .val (.int p3), .val (.int p4)] [(.int (1 : Int32)), (.ref bmk6), (.ref bmk6)])) rfl (hb hby dmk_25) rfl (by decide) (cap := 1) (by decide) (by decide) (by decide) (by decide)
      obtain ⟨bmk7, gqmk7⟩ : ∃ z, z = hmk6.size := ⟨_, rfl⟩
      rw [← gqmk7] at Amk7 stmk7
      replace CC := CC.ext Emk7
      have ne_bmk6_bmk7 : bmk6 ≠ bmk7 := Nat.ne_of_lt (Nat.lt_of_lt_of_le E_bmk6.lt (Nat.le_of_eq gqmk7.symm))
      have g_bmk7 : n0 ≤ bmk7 := Nat.le_trans Zmk6 (Nat.le_of_eq gqmk7.symm)
      have sz_bmk7 : h0.size ≤ bmk7 := Nat.le_trans Kmk6.1 (Nat.le_of_eq gqmk7.symm)
      replace E_bmk6 := E_bmk6.ext Emk7
      replace F_value_bmk6 := F_value_bmk6.ext Emk7
      replace F_coder_bmk6 := F_coder_bmk6.ext Emk7
      have Kmk7 := Kmk6.ext Emk7
      have Zmk7 := Nat.le_trans Zmk6 Emk7.1
      have Omk7 := Omk6.ext Emk7
      have V_bmk7 : Arv Z hmk7 bmk7 kmk7 .char (1 : Int32) [(.int (0 : Int32))] (.int (0 : Int32)) := (Arv.new Amk7 (by decide)).pad (pad_rep [] (.int (0 : Int32)) 1)
      refine stp (fun t k => stmk7 t k) ?_
      show W (Tmk7.setTop (mkF m 27 #[.val (.int p0), .val (.int p1), .val (.int p2), .val (.int p3), .val (.int p4)] [(.ref bmk7), (.ref bmk6), (.ref bmk6)]))
      refine stp (fun t k => XS.dup Xmk7.here hx rfl (hb hby dmk_27) rfl rfl k) ?_
      show W (Tmk7.setTop (mkF m 28 #[.val (.int p0), .val (.int p1), .val (.int p2), .val (.int p3), .val (.int p4)] [(.ref bmk7), (.ref bmk7), (.ref bmk6), (.ref bmk6)]))
      refine stp (fun t k => XS.iconst Xmk7.here hx rfl (hb hby dmk_28) k) ?_
      show W (Tmk7.setTop (mkF m 29 #[.val (.int p0), .val (.int p1), .val (.int p2), .val (.int p3), .val (.int p4)] [(.int (0 : Int32)), (.ref bmk7), (.ref bmk7), (.ref bmk6), (.ref bmk6)]))
      refine stp (fun t k => XS.iloadN Xmk7.here hx rfl (hb hby dmk_29) rfl k) ?_
      show W (Tmk7.setTop (mkF m 30 #[.val (.int p0), .val (.int p1), .val (.int p2), .val (.int p3), .val (.int p4)] [(.int p1), (.int (0 : Int32)), (.ref bmk7), (.ref bmk7), (.ref bmk6), (.ref bmk6)]))
      obtain ⟨clmk8, Armk8, qkmk8, qsmk8, qnmk8, qhmk8, qgmk8⟩ := id V_bmk7
      have hinmk8 : ¬ ((0 : Int32) < 0 ∨ clmk8.slots.size ≤ ((0 : Int32)).toNatClampNeg) := inb_of qsmk8 ⟨by decide, by decide⟩
      obtain ⟨Tmk8, hmk8, Xmk8, emk8, Wmk8, stmk8⟩ := stC Xmk7 hx hZ emk7 Armk8 (j := (0 : Int32)) hinmk8 (g := (mkF m 30 #[.val (.int p0), .val (.int p1), .val (.int p2), .val (.int p3), .val (.int p4)] [(.int p1), (.int (0 : Int32)), (.ref bmk7), (.ref bmk7), (.ref bmk6), (.ref bmk6)])) rfl rfl (hb hby dmk_30)
      have V_bmk7x := Arv.set Armk8 qkmk8 qsmk8 qnmk8 qhmk8 qgmk8 (fits_nar_char _) Wmk8 0 rfl (Nat.le_of_ble_eq_true rfl)
      have Nmk8 := Fr.snoc Xmk8 N0 g_bmk7
      obtain ⟨lcmkt9, Xmk8, Nmk8⟩ : ∃ lc, Stand p l e ({ frames := 6, cells := 6, slots := 20, locals := 88 } : Room) (s.setVm vm0) m #[(.int p0), (.int p1), (.int p2), (.int p3), (.int p4)] below meth c Tmk8 lc 2 5 ∧ Fr n0 lc := ⟨_, Xmk8, Nmk8⟩
      have SFw : Safe Z ownEL vm0 _ bmk7 := (Safe.arv hZ.alike V_bmk7 (by decide))
      replace CC := CC.wr Wmk8 SFw
      clear SFw
      replace E_bmk6 := E_bmk6.wr Wmk8
      replace F_value_bmk6 := F_value_bmk6.other Wmk8 (Or.inl ne_bmk6_bmk7)
      replace F_coder_bmk6 := F_coder_bmk6.other Wmk8 (Or.inl ne_bmk6_bmk7)
      have Kmk8 := Kmk7.wr Wmk8 (Or.inr sz_bmk7)
      have Zmk8 := Nat.le_trans Zmk7 (Keep.of_wr Wmk8).1
      have Omk8 := Omk7.wr Wmk8 g_bmk7
      replace V_bmk7 : Arv Z hmk8 bmk7 kmk7 .char (1 : Int32) [(.int (nar .char p1))] (.int (0 : Int32)) := V_bmk7x
      refine stp (fun t k => stmk8 t k) ?_
      show W (Tmk8.setTop (mkF m 31 #[.val (.int p0), .val (.int p1), .val (.int p2), .val (.int p3), .val (.int p4)] [(.ref bmk7), (.ref bmk6), (.ref bmk6)]))
      have V1_bmk7 : Arv Z hmk8 bmk7 kmk7 .char (Int32.ofNat 1) (own_vs 1 (own_g4 p1 p2 p3 p4)) (.int (0 : Int32)) := V_bmk7
      obtain ⟨_, _, ⟨Tmkc10, Lmkc10, kmkc10, nmkc10⟩, -, Xmkc10, ⟨Lcmkc10, hQmkc10, lmkc10, ymkc10, zmkc10⟩, stmkc10⟩ := Xmk8.specialBack hx (y := (⟨"java/lang/String", "<init>", "([C)V"⟩ : MethodName)) rfl hown (mvT hZ (hw _ (List.mem_of_getElem? (i := 8) rfl))) (mvT hZ (hw _ (List.mem_of_getElem? (i := 9) rfl))) (mvT hZ (hw _ (List.mem_of_getElem? (i := 10) rfl))) (by decide) (backOf (W := 1) (rmi1 l Z aa hw [] bmk6 bmk7 wc sx 1 (own_g4 p1 p2 p3 p4) kmk7 hmk8 n0 Zmk8 BW Omk8 (by decide) (own_g4R p1 p2 p3 p4 1 (by decide)) E_bmk6 F_value_bmk6 F_coder_bmk6 g_bmk6 V1_bmk7 ne_bmk6_bmk7 (by decide)) hZ (hw _ (List.mem_of_getElem? (i := 10) rfl)) (hw _ (List.mem_of_getElem? (i := 6) rfl)) (by decide) (by decide)) (g := (mkF m 31 #[.val (.int p0), .val (.int p1), .val (.int p2), .val (.int p3), .val (.int p4)] [(.ref bmk7), (.ref bmk6), (.ref bmk6)])) rfl (by rw [hml]; rfl) (Steps.refl _) (a := bmk6) (argsL := [(.ref bmk7)]) (rest := [(.ref bmk6)]) (lenOf pdmk_0 rfl) rfl (by show 2 * 0 + _ ≤ _; exact Nat.le_of_eq rfl) (hb hby dmk_31) (fun _ _ => ⟨rfl, emk8, (by decide : 2 + 2 ≤ _), (by decide : 5 + 12 ≤ _)⟩)
      dsimp only [Pt.U, Pt.locs, Pt.cells, Pt.slots] at Xmkc10 lmkc10 ymkc10 zmkc10 stmkc10 hQmkc10
      subst lmkc10 ymkc10 zmkc10
      obtain ⟨rfl, Nmkc10q, Kqmkc10, bmkc10, sz_bmkc10, S_mkc10⟩ := hQmkc10
      have Nmkc10 := Fr.app Nmk8 Nmkc10q
      obtain ⟨lcmkt11, Xmkc10, Nmkc10⟩ : ∃ lc, Stand p l e ({ frames := 6, cells := 6, slots := 20, locals := 88 } : Room) (s.setVm vm0) m #[(.int p0), (.int p1), (.int p2), (.int p3), (.int p4)] below meth c Tmkc10 lc 4 17 ∧ Fr n0 lc := ⟨_, Xmkc10, Nmkc10⟩
      obtain ⟨hmkc10, emkc10⟩ : ∃ h, Tmkc10.heap = h := ⟨_, rfl⟩
      rw [emkc10] at Kqmkc10 S_mkc10
      have ne_bmk6_bmkc10 : bmk6 ≠ bmkc10 := Nat.ne_of_lt (Nat.lt_of_lt_of_le E_bmk6.lt sz_bmkc10)
      have ne_bmk7_bmkc10 : bmk7 ≠ bmkc10 := Nat.ne_of_lt (Nat.lt_of_lt_of_le V_bmk7.lt sz_bmkc10)
      have g_bmkc10 : n0 ≤ bmkc10 := Nat.le_trans Zmk8 sz_bmkc10
      have SF_bmk6 : Safe Z ownEL vm0 _ bmk6 := (own_safeNull hZ.alike E_bmk6 F_value_bmk6)
      have SFk : ∀ x ∈ ([bmk6] : List Addr), Safe Z ownEL vm0 _ x := (sfS SF_bmk6 sf0)
      replace SF_bmk6 := Safe.keep Kqmkc10 SFk CC.2.1 SF_bmk6
      replace CC := CC.keep Kqmkc10 SFk
      clear SFk
      replace V_bmk7 := V_bmk7.keep Kqmkc10 (ninS (Ne.symm ne_bmk6_bmk7) nin0)
      have KKmkc10 := Keep.trans Kmk8 Kqmkc10 (allS (Or.inr sz_bmk6) all0)
      have Zmkc10 := Nat.le_trans Zmk8 Kqmkc10.1
      have Omkc10 := Omk8.keep Kqmkc10 (allS g_bmk6 all0)
      refine stp (fun t k => stmkc10.trans k) ?_
      show W (Tmkc10.setTop (mkF m 34 #[.val (.int p0), .val (.int p1), .val (.int p2), .val (.int p3), .val (.int p4)] [(.ref bmk6)]))
      show W (Tmkc10.setTop (mkF m 34 #[.val (.int p0), .val (.int p1), .val (.int p2), .val (.int p3), .val (.int p4)] [(.ref bmk6)]))
      rw [← hW]
      exact own_W hZ hEL CC (own_retR Xmkc10 hx Bd.notSynchronized Bd.returns rfl (hb hby dmk_34) (by show Qmk Z p0 p1 p2 p3 p4 wc sx n h0 n0 _ Tmkc10.heap _ ∧ Tmkc10.heap = hmkc10; rw [emkc10]; exact ⟨⟨bmk6, bmkc10, rfl, Nmkc10, KKmkc10, own_strEq (own_nOf hp0 hcmk_5 (by decide)) S_mkc10⟩, rfl⟩) (by decide) (by decide))
    · refine stp (fun t k => XS.icmpYes X0.here hx rfl (pc0 := 17) (pc' := 35) rfl (hb hby dmk_17) rfl ((feq hcmk_5).2) (by decide) (by decide) k) ?_
      show W (s₁.setTop (mkF m 35 #[.val (.int p0), .val (.int p1), .val (.int p2), .val (.int p3), .val (.int p4)] []))
      refine stp (fun t k => XS.iloadN X0.here hx rfl (hb hby dmk_35) rfl k) ?_
      show W (s₁.setTop (mkF m 36 #[.val (.int p0), .val (.int p1), .val (.int p2), .val (.int p3), .val (.int p4)] [(.int p0)]))
      refine stp (fun t k => XS.iconst X0.here hx rfl (hb hby dmk_36) k) ?_
      show W (s₁.setTop (mkF m 37 #[.val (.int p0), .val (.int p1), .val (.int p2), .val (.int p3), .val (.int p4)] [(.int (2 : Int32)), (.int p0)]))
      by_cases hcmk_12 : p0 = (2 : Int32)
      · refine stp (fun t k => XS.icmpNo X0.here hx rfl (hb hby dmk_37) rfl ((teq hcmk_12).2) k) ?_
        show W (s₁.setTop (mkF m 40 #[.val (.int p0), .val (.int p1), .val (.int p2), .val (.int p3), .val (.int p4)] []))
        obtain ⟨Tmk13, hmk13, Xmk13, emk13, Emk13, Amk13, Dmk13, -, stmk13⟩ := newO X0 hx hZ hown (hw _ (List.mem_of_getElem? (i := 4) rfl)) (hw _ (List.mem_of_getElem? (i := 5) rfl)) (hw _ (List.mem_of_getElem? (i := 6) rfl)) e0 (g := (mkF m 40 #[.val (.int p0), .val (.int p1), .val (.int p2), .val (.int p3), .val (.int p4)] [])) rfl (hb hby dmk_40) (by decide) (by decide)
        obtain ⟨bmk13, gqmk13⟩ : ∃ z, z = h0.size := ⟨_, rfl⟩
        rw [← gqmk13] at Amk13 Dmk13 stmk13
        replace CC := CC.ext Emk13
        have g_bmk13 : n0 ≤ bmk13 := Nat.le_trans Z0 (Nat.le_of_eq gqmk13.symm)
        have sz_bmk13 : h0.size ≤ bmk13 := Nat.le_trans (Keep.refl h0 []).1 (Nat.le_of_eq gqmk13.symm)
        have Kmk13 := (Keep.refl h0 []).ext Emk13
        have Zmk13 := Nat.le_trans Z0 Emk13.1
        have Omk13 := O0.ext Emk13
        have E_bmk13 := Amk13
        have F_value_bmk13 : Fld Z hmk13 bmk13 "java/lang/String" "value" "[B" .null := Dmk13 (Or.inr (hw _ (List.mem_of_getElem? (i := 20) rfl))) (ty := (.array .byte)) (by decide)
        have F_coder_bmk13 : Fld Z hmk13 bmk13 "java/lang/String" "coder" "B" (.int (0 : Int32)) := Dmk13 (Or.inr (hw _ (List.mem_of_getElem? (i := 21) rfl))) (ty := .byte) (by decide)
        refine stp (fun t k => stmk13 t k) ?_
        show W (Tmk13.setTop (mkF m 43 #[.val (.int p0), .val (.int p1), .val (.int p2), .val (.int p3), .val (.int p4)] [(.ref bmk13)]))
        refine stp (fun t k => XS.dup Xmk13.here hx rfl (hb hby dmk_43) rfl rfl k) ?_
        show W (Tmk13.setTop (mkF m 44 #[.val (.int p0), .val (.int p1), .val (.int p2), .val (.int p3), .val (.int p4)] [(.ref bmk13), (.ref bmk13)]))
        refine stp (fun t k => XS.iconst Xmk13.here hx rfl (hb hby dmk_44) k) ?_
        show W (Tmk13.setTop (mkF m 45 #[.val (.int p0), .val (.int p1), .val (.int p2), .val (.int p3), .val (.int p4)] [(.int (2 : Int32)), (.ref bmk13), (.ref bmk13)]))
        obtain ⟨Tmk14, hmk14, kmk14, Xmk14, emk14, Emk14, Amk14, stmk14⟩ := newP Xmk13 hx hZ (hw _ (List.mem_of_getElem? (i := 7) rfl)) emk13 (g := (mkF m 45 #[.val (.int p0), .val (.int p1), .val (.int p2), .val (.int p3), .val (.int p4)] [(.int (2 : Int32)), (.ref bmk13), (.ref bmk13)])) rfl (hb hby dmk_45) rfl (by decide) (cap := 2) (by decide) (by decide) (by decide) (by decide)
        obtain ⟨bmk14, gqmk14⟩ : ∃ z, z = hmk13.size := ⟨_, rfl⟩
        rw [← gqmk14] at Amk14 stmk14
        replace CC := CC.ext Emk14
        have ne_bmk13_bmk14 : bmk13 ≠ bmk14 := Nat.ne_of_lt (Nat.lt_of_lt_of_le E_bmk13.lt (Nat.le_of_eq gqmk14.symm))
        have g_bmk14 : n0 ≤ bmk14 := Nat.le_trans Zmk13 (Nat.le_of_eq gqmk14.symm)
        have sz_bmk14 : h0.size ≤ bmk14 := Nat.le_trans Kmk13.1 (Nat.le_of_eq gqmk14.symm)
        replace E_bmk13 := E_bmk13.ext Emk14
        replace F_value_bmk13 := F_value_bmk13.ext Emk14
        replace F_coder_bmk13 := F_coder_bmk13.ext Emk14
        have Kmk14 := Kmk13.ext Emk14
        have Zmk14 := Nat.le_trans Zmk13 Emk14.1
        have Omk14 := Omk13.ext Emk14
        have V_bmk14 : Arv Z hmk14 bmk14 kmk14 .char (2 : Int32) [(.int (0 : Int32)), (.int (0 : Int32))] (.int (0 : Int32)) := (Arv.new Amk14 (by decide)).pad (pad_rep [] (.int (0 : Int32)) 2)
        refine stp (fun t k => stmk14 t k) ?_
        show W (Tmk14.setTop (mkF m 47 #[.val (.int p0), .val (.int p1), .val (.int p2), .val (.int p3), .val (.int p4)] [(.ref bmk14), (.ref bmk13), (.ref bmk13)]))
        refine stp (fun t k => XS.dup Xmk14.here hx rfl (hb hby dmk_47) rfl rfl k) ?_
        show W (Tmk14.setTop (mkF m 48 #[.val (.int p0), .val (.int p1), .val (.int p2), .val (.int p3), .val (.int p4)] [(.ref bmk14), (.ref bmk14), (.ref bmk13), (.ref bmk13)]))
        refine stp (fun t k => XS.iconst Xmk14.here hx rfl (hb hby dmk_48) k) ?_
        show W (Tmk14.setTop (mkF m 49 #[.val (.int p0), .val (.int p1), .val (.int p2), .val (.int p3), .val (.int p4)] [(.int (0 : Int32)), (.ref bmk14), (.ref bmk14), (.ref bmk13), (.ref bmk13)]))
        refine stp (fun t k => XS.iloadN Xmk14.here hx rfl (hb hby dmk_49) rfl k) ?_
        show W (Tmk14.setTop (mkF m 50 #[.val (.int p0), .val (.int p1), .val (.int p2), .val (.int p3), .val (.int p4)] [(.int p1), (.int (0 : Int32)), (.ref bmk14), (.ref bmk14), (.ref bmk13), (.ref bmk13)]))
        obtain ⟨clmk15, Armk15, qkmk15, qsmk15, qnmk15, qhmk15, qgmk15⟩ := id V_bmk14
        have hinmk15 : ¬ ((0 : Int32) < 0 ∨ clmk15.slots.size ≤ ((0 : Int32)).toNatClampNeg) := inb_of qsmk15 ⟨by decide, by decide⟩
        obtain ⟨Tmk15, hmk15, Xmk15, emk15, Wmk15, stmk15⟩ := stC Xmk14 hx hZ emk14 Armk15 (j := (0 : Int32)) hinmk15 (g := (mkF m 50 #[.val (.int p0), .val (.int p1), .val (.int p2), .val (.int p3), .val (.int p4)] [(.int p1), (.int (0 : Int32)), (.ref bmk14), (.ref bmk14), (.ref bmk13), (.ref bmk13)])) rfl rfl (hb hby dmk_50)
        have V_bmk14x := Arv.set Armk15 qkmk15 qsmk15 qnmk15 qhmk15 qgmk15 (fits_nar_char _) Wmk15 0 rfl (Nat.le_of_ble_eq_true rfl)
        have Nmk15 := Fr.snoc Xmk15 N0 g_bmk14
        obtain ⟨lcmkt16, Xmk15, Nmk15⟩ : ∃ lc, Stand p l e ({ frames := 6, cells := 6, slots := 20, locals := 88 } : Room) (s.setVm vm0) m #[(.int p0), (.int p1), (.int p2), (.int p3), (.int p4)] below meth c Tmk15 lc 2 6 ∧ Fr n0 lc := ⟨_, Xmk15, Nmk15⟩
        have SFw : Safe Z ownEL vm0 _ bmk14 := (Safe.arv hZ.alike V_bmk14 (by decide))
        replace CC := CC.wr Wmk15 SFw
        clear SFw
        replace E_bmk13 := E_bmk13.wr Wmk15
        replace F_value_bmk13 := F_value_bmk13.other Wmk15 (Or.inl ne_bmk13_bmk14)
        replace F_coder_bmk13 := F_coder_bmk13.other Wmk15 (Or.inl ne_bmk13_bmk14)
        have Kmk15 := Kmk14.wr Wmk15 (Or.inr sz_bmk14)
        have Zmk15 := Nat.le_trans Zmk14 (Keep.of_wr Wmk15).1
        have Omk15 := Omk14.wr Wmk15 g_bmk14
        replace V_bmk14 : Arv Z hmk15 bmk14 kmk14 .char (2 : Int32) [(.int (nar .char p1)), (.int (0 : Int32))] (.int (0 : Int32)) := V_bmk14x
        refine stp (fun t k => stmk15 t k) ?_
        show W (Tmk15.setTop (mkF m 51 #[.val (.int p0), .val (.int p1), .val (.int p2), .val (.int p3), .val (.int p4)] [(.ref bmk14), (.ref bmk13), (.ref bmk13)]))
        refine stp (fun t k => XS.dup Xmk15.here hx rfl (hb hby dmk_51) rfl rfl k) ?_
        show W (Tmk15.setTop (mkF m 52 #[.val (.int p0), .val (.int p1), .val (.int p2), .val (.int p3), .val (.int p4)] [(.ref bmk14), (.ref bmk14), (.ref bmk13), (.ref bmk13)]))
        refine stp (fun t k => XS.iconst Xmk15.here hx rfl (hb hby dmk_52) k) ?_
        show W (Tmk15.setTop (mkF m 53 #[.val (.int p0), .val (.int p1), .val (.int p2), .val (.int p3), .val (.int p4)] [(.int (1 : Int32)), (.ref bmk14), (.ref bmk14), (.ref bmk13), (.ref bmk13)]))
        refine stp (fun t k => XS.iloadN Xmk15.here hx rfl (hb hby dmk_53) rfl k) ?_
        show W (Tmk15.setTop (mkF m 54 #[.val (.int p0), .val (.int p1), .val (.int p2), .val (.int p3), .val (.int p4)] [(.int p2), (.int (1 : Int32)), (.ref bmk14), (.ref bmk14), (.ref bmk13), (.ref bmk13)]))
        obtain ⟨clmk17, Armk17, qkmk17, qsmk17, qnmk17, qhmk17, qgmk17⟩ := id V_bmk14
        have hinmk17 : ¬ ((1 : Int32) < 0 ∨ clmk17.slots.size ≤ ((1 : Int32)).toNatClampNeg) := inb_of qsmk17 ⟨by decide, by decide⟩
        obtain ⟨Tmk17, hmk17, Xmk17, emk17, Wmk17, stmk17⟩ := stC Xmk15 hx hZ emk15 Armk17 (j := (1 : Int32)) hinmk17 (g := (mkF m 54 #[.val (.int p0), .val (.int p1), .val (.int p2), .val (.int p3), .val (.int p4)] [(.int p2), (.int (1 : Int32)), (.ref bmk14), (.ref bmk14), (.ref bmk13), (.ref bmk13)])) rfl rfl (hb hby dmk_54)
        have V_bmk14x := Arv.set Armk17 qkmk17 qsmk17 qnmk17 qhmk17 qgmk17 (fits_nar_char _) Wmk17 1 rfl (Nat.le_of_ble_eq_true rfl)
        have Nmk17 := Fr.snoc Xmk17 Nmk15 g_bmk14
        obtain ⟨lcmkt18, Xmk17, Nmk17⟩ : ∃ lc, Stand p l e ({ frames := 6, cells := 6, slots := 20, locals := 88 } : Room) (s.setVm vm0) m #[(.int p0), (.int p1), (.int p2), (.int p3), (.int p4)] below meth c Tmk17 lc 2 6 ∧ Fr n0 lc := ⟨_, Xmk17, Nmk17⟩
        have SFw : Safe Z ownEL vm0 _ bmk14 := (Safe.arv hZ.alike V_bmk14 (by decide))
        replace CC := CC.wr Wmk17 SFw
        clear SFw
        replace E_bmk13 := E_bmk13.wr Wmk17
        replace F_value_bmk13 := F_value_bmk13.other Wmk17 (Or.inl ne_bmk13_bmk14)
        replace F_coder_bmk13 := F_coder_bmk13.other Wmk17 (Or.inl ne_bmk13_bmk14)
        have Kmk17 := Kmk15.wr Wmk17 (Or.inr sz_bmk14)
        have Zmk17 := Nat.le_trans Zmk15 (Keep.of_wr Wmk17).1
        have Omk17 := Omk15.wr Wmk17 g_bmk14
        replace V_bmk14 : Arv Z hmk17 bmk14 kmk14 .char (2 : Int32) [(.int (nar .char p1)), (.int (nar .char p2))] (.int (0 : Int32)) := V_bmk14x
        refine stp (fun t k => stmk17 t k) ?_
        show W (Tmk17.setTop (mkF m 55 #[.val (.int p0), .val (.int p1), .val (.int p2), .val (.int p3), .val (.int p4)] [(.ref bmk14), (.ref bmk13), (.ref bmk13)]))
        have V1_bmk14 : Arv Z hmk17 bmk14 kmk14 .char (Int32.ofNat 2) (own_vs 2 (own_g4 p1 p2 p3 p4)) (.int (0 : Int32)) := V_bmk14
        obtain ⟨_, _, ⟨Tmkc19, Lmkc19, kmkc19, nmkc19⟩, -, Xmkc19, ⟨Lcmkc19, hQmkc19, lmkc19, ymkc19, zmkc19⟩, stmkc19⟩ := Xmk17.specialBack hx (y := (⟨"java/lang/String", "<init>", "([C)V"⟩ : MethodName)) rfl hown (mvT hZ (hw _ (List.mem_of_getElem? (i := 8) rfl))) (mvT hZ (hw _ (List.mem_of_getElem? (i := 9) rfl))) (mvT hZ (hw _ (List.mem_of_getElem? (i := 10) rfl))) (by decide) (backOf (W := 1) (rmi1 l Z aa hw [] bmk13 bmk14 wc sx 2 (own_g4 p1 p2 p3 p4) kmk14 hmk17 n0 Zmk17 BW Omk17 (by decide) (own_g4R p1 p2 p3 p4 2 (by decide)) E_bmk13 F_value_bmk13 F_coder_bmk13 g_bmk13 V1_bmk14 ne_bmk13_bmk14 (by decide)) hZ (hw _ (List.mem_of_getElem? (i := 10) rfl)) (hw _ (List.mem_of_getElem? (i := 6) rfl)) (by decide) (by decide)) (g := (mkF m 55 #[.val (.int p0), .val (.int p1), .val (.int p2), .val (.int p3), .val (.int p4)] [(.ref bmk14), (.ref bmk13), (.ref bmk13)])) rfl (by rw [hml]; rfl) (Steps.refl _) (a := bmk13) (argsL := [(.ref bmk14)]) (rest := [(.ref bmk13)]) (lenOf pdmk_0 rfl) rfl (by show 2 * 0 + _ ≤ _; exact Nat.le_of_eq rfl) (hb hby dmk_55) (fun _ _ => ⟨rfl, emk17, (by decide : 2 + 2 ≤ _), (by decide : 6 + 12 ≤ _)⟩)
        dsimp only [Pt.U, Pt.locs, Pt.cells, Pt.slots] at Xmkc19 lmkc19 ymkc19 zmkc19 stmkc19 hQmkc19
        subst lmkc19 ymkc19 zmkc19
        obtain ⟨rfl, Nmkc19q, Kqmkc19, bmkc19, sz_bmkc19, S_mkc19⟩ := hQmkc19
        have Nmkc19 := Fr.app Nmk17 Nmkc19q
        obtain ⟨lcmkt20, Xmkc19, Nmkc19⟩ : ∃ lc, Stand p l e ({ frames := 6, cells := 6, slots := 20, locals := 88 } : Room) (s.setVm vm0) m #[(.int p0), (.int p1), (.int p2), (.int p3), (.int p4)] below meth c Tmkc19 lc 4 18 ∧ Fr n0 lc := ⟨_, Xmkc19, Nmkc19⟩
        obtain ⟨hmkc19, emkc19⟩ : ∃ h, Tmkc19.heap = h := ⟨_, rfl⟩
        rw [emkc19] at Kqmkc19 S_mkc19
        have ne_bmk13_bmkc19 : bmk13 ≠ bmkc19 := Nat.ne_of_lt (Nat.lt_of_lt_of_le E_bmk13.lt sz_bmkc19)
        have ne_bmk14_bmkc19 : bmk14 ≠ bmkc19 := Nat.ne_of_lt (Nat.lt_of_lt_of_le V_bmk14.lt sz_bmkc19)
        have g_bmkc19 : n0 ≤ bmkc19 := Nat.le_trans Zmk17 sz_bmkc19
        have SF_bmk13 : Safe Z ownEL vm0 _ bmk13 := (own_safeNull hZ.alike E_bmk13 F_value_bmk13)
        have SFk : ∀ x ∈ ([bmk13] : List Addr), Safe Z ownEL vm0 _ x := (sfS SF_bmk13 sf0)
        replace SF_bmk13 := Safe.keep Kqmkc19 SFk CC.2.1 SF_bmk13
        replace CC := CC.keep Kqmkc19 SFk
        clear SFk
        replace V_bmk14 := V_bmk14.keep Kqmkc19 (ninS (Ne.symm ne_bmk13_bmk14) nin0)
        have KKmkc19 := Keep.trans Kmk17 Kqmkc19 (allS (Or.inr sz_bmk13) all0)
        have Zmkc19 := Nat.le_trans Zmk17 Kqmkc19.1
        have Omkc19 := Omk17.keep Kqmkc19 (allS g_bmk13 all0)
        refine stp (fun t k => stmkc19.trans k) ?_
        show W (Tmkc19.setTop (mkF m 58 #[.val (.int p0), .val (.int p1), .val (.int p2), .val (.int p3), .val (.int p4)] [(.ref bmk13)]))
        show W (Tmkc19.setTop (mkF m 58 #[.val (.int p0), .val (.int p1), .val (.int p2), .val (.int p3), .val (.int p4)] [(.ref bmk13)]))
        rw [← hW]
        exact own_W hZ hEL CC (own_retR Xmkc19 hx Bd.notSynchronized Bd.returns rfl (hb hby dmk_58) (by show Qmk Z p0 p1 p2 p3 p4 wc sx n h0 n0 _ Tmkc19.heap _ ∧ Tmkc19.heap = hmkc19; rw [emkc19]; exact ⟨⟨bmk13, bmkc19, rfl, Nmkc19, KKmkc19, own_strEq (own_nOf hp0 hcmk_12 (by decide)) S_mkc19⟩, rfl⟩) (by decide) (by decide))
      · refine stp (fun t k => XS.icmpYes X0.here hx rfl (pc0 := 37) (pc' := 59) rfl (hb hby dmk_37) rfl ((feq hcmk_12).2) (by decide) (by decide) k) ?_
        show W (s₁.setTop (mkF m 59 #[.val (.int p0), .val (.int p1), .val (.int p2), .val (.int p3), .val (.int p4)] []))
        refine stp (fun t k => XS.iloadN X0.here hx rfl (hb hby dmk_59) rfl k) ?_
        show W (s₁.setTop (mkF m 60 #[.val (.int p0), .val (.int p1), .val (.int p2), .val (.int p3), .val (.int p4)] [(.int p0)]))
        refine stp (fun t k => XS.iconst X0.here hx rfl (hb hby dmk_60) k) ?_
        show W (s₁.setTop (mkF m 61 #[.val (.int p0), .val (.int p1), .val (.int p2), .val (.int p3), .val (.int p4)] [(.int (3 : Int32)), (.int p0)]))
        by_cases hcmk_21 : p0 = (3 : Int32)
        · refine stp (fun t k => XS.icmpNo X0.here hx rfl (hb hby dmk_61) rfl ((teq hcmk_21).2) k) ?_
          show W (s₁.setTop (mkF m 64 #[.val (.int p0), .val (.int p1), .val (.int p2), .val (.int p3), .val (.int p4)] []))
          obtain ⟨Tmk22, hmk22, Xmk22, emk22, Emk22, Amk22, Dmk22, -, stmk22⟩ := newO X0 hx hZ hown (hw _ (List.mem_of_getElem? (i := 4) rfl)) (hw _ (List.mem_of_getElem? (i := 5) rfl)) (hw _ (List.mem_of_getElem? (i := 6) rfl)) e0 (g := (mkF m 64 #[.val (.int p0), .val (.int p1), .val (.int p2), .val (.int p3), .val (.int p4)] [])) rfl (hb hby dmk_64) (by decide) (by decide)
          obtain ⟨bmk22, gqmk22⟩ : ∃ z, z = h0.size := ⟨_, rfl⟩
          rw [← gqmk22] at Amk22 Dmk22 stmk22
          replace CC := CC.ext Emk22
          have g_bmk22 : n0 ≤ bmk22 := Nat.le_trans Z0 (Nat.le_of_eq gqmk22.symm)
          have sz_bmk22 : h0.size ≤ bmk22 := Nat.le_trans (Keep.refl h0 []).1 (Nat.le_of_eq gqmk22.symm)
          have Kmk22 := (Keep.refl h0 []).ext Emk22
          have Zmk22 := Nat.le_trans Z0 Emk22.1
          have Omk22 := O0.ext Emk22
          have E_bmk22 := Amk22
          have F_value_bmk22 : Fld Z hmk22 bmk22 "java/lang/String" "value" "[B" .null := Dmk22 (Or.inr (hw _ (List.mem_of_getElem? (i := 20) rfl))) (ty := (.array .byte)) (by decide)
          have F_coder_bmk22 : Fld Z hmk22 bmk22 "java/lang/String" "coder" "B" (.int (0 : Int32)) := Dmk22 (Or.inr (hw _ (List.mem_of_getElem? (i := 21) rfl))) (ty := .byte) (by decide)
          refine stp (fun t k => stmk22 t k) ?_
          show W (Tmk22.setTop (mkF m 67 #[.val (.int p0), .val (.int p1), .val (.int p2), .val (.int p3), .val (.int p4)] [(.ref bmk22)]))
          refine stp (fun t k => XS.dup Xmk22.here hx rfl (hb hby dmk_67) rfl rfl k) ?_
          show W (Tmk22.setTop (mkF m 68 #[.val (.int p0), .val (.int p1), .val (.int p2), .val (.int p3), .val (.int p4)] [(.ref bmk22), (.ref bmk22)]))
          refine stp (fun t k => XS.iconst Xmk22.here hx rfl (hb hby dmk_68) k) ?_
          show W (Tmk22.setTop (mkF m 69 #[.val (.int p0), .val (.int p1), .val (.int p2), .val (.int p3), .val (.int p4)] [(.int (3 : Int32)), (.ref bmk22), (.ref bmk22)]))
          obtain ⟨Tmk23, hmk23, kmk23, Xmk23, emk23, Emk23, Amk23, stmk23⟩ := newP Xmk22 hx hZ (hw _ (List.mem_of_getElem? (i := 7) rfl)) emk22 (g := (mkF m 69 #[.val (.int p0), .val (.int p1), .val (.int p2), .val (.int p3), .val (.int p4)] [(.int (3 : Int32)), (.ref bmk22), (.ref bmk22)])) rfl (hb hby dmk_69) rfl (by decide) (cap := 3) (by decide) (by decide) (by decide) (by decide)
          obtain ⟨bmk23, gqmk23⟩ : ∃ z, z = hmk22.size := ⟨_, rfl⟩
          rw [← gqmk23] at Amk23 stmk23
          replace CC := CC.ext Emk23
          have ne_bmk22_bmk23 : bmk22 ≠ bmk23 := Nat.ne_of_lt (Nat.lt_of_lt_of_le E_bmk22.lt (Nat.le_of_eq gqmk23.symm))
          have g_bmk23 : n0 ≤ bmk23 := Nat.le_trans Zmk22 (Nat.le_of_eq gqmk23.symm)
          have sz_bmk23 : h0.size ≤ bmk23 := Nat.le_trans Kmk22.1 (Nat.le_of_eq gqmk23.symm)
          replace E_bmk22 := E_bmk22.ext Emk23
          replace F_value_bmk22 := F_value_bmk22.ext Emk23
          replace F_coder_bmk22 := F_coder_bmk22.ext Emk23
          have Kmk23 := Kmk22.ext Emk23
          have Zmk23 := Nat.le_trans Zmk22 Emk23.1
          have Omk23 := Omk22.ext Emk23
          have V_bmk23 : Arv Z hmk23 bmk23 kmk23 .char (3 : Int32) [(.int (0 : Int32)), (.int (0 : Int32)), (.int (0 : Int32))] (.int (0 : Int32)) := (Arv.new Amk23 (by decide)).pad (pad_rep [] (.int (0 : Int32)) 3)
          refine stp (fun t k => stmk23 t k) ?_
          show W (Tmk23.setTop (mkF m 71 #[.val (.int p0), .val (.int p1), .val (.int p2), .val (.int p3), .val (.int p4)] [(.ref bmk23), (.ref bmk22), (.ref bmk22)]))
          refine stp (fun t k => XS.dup Xmk23.here hx rfl (hb hby dmk_71) rfl rfl k) ?_
          show W (Tmk23.setTop (mkF m 72 #[.val (.int p0), .val (.int p1), .val (.int p2), .val (.int p3), .val (.int p4)] [(.ref bmk23), (.ref bmk23), (.ref bmk22), (.ref bmk22)]))
          refine stp (fun t k => XS.iconst Xmk23.here hx rfl (hb hby dmk_72) k) ?_
          show W (Tmk23.setTop (mkF m 73 #[.val (.int p0), .val (.int p1), .val (.int p2), .val (.int p3), .val (.int p4)] [(.int (0 : Int32)), (.ref bmk23), (.ref bmk23), (.ref bmk22), (.ref bmk22)]))
          refine stp (fun t k => XS.iloadN Xmk23.here hx rfl (hb hby dmk_73) rfl k) ?_
          show W (Tmk23.setTop (mkF m 74 #[.val (.int p0), .val (.int p1), .val (.int p2), .val (.int p3), .val (.int p4)] [(.int p1), (.int (0 : Int32)), (.ref bmk23), (.ref bmk23), (.ref bmk22), (.ref bmk22)]))
          obtain ⟨clmk24, Armk24, qkmk24, qsmk24, qnmk24, qhmk24, qgmk24⟩ := id V_bmk23
          have hinmk24 : ¬ ((0 : Int32) < 0 ∨ clmk24.slots.size ≤ ((0 : Int32)).toNatClampNeg) := inb_of qsmk24 ⟨by decide, by decide⟩
          obtain ⟨Tmk24, hmk24, Xmk24, emk24, Wmk24, stmk24⟩ := stC Xmk23 hx hZ emk23 Armk24 (j := (0 : Int32)) hinmk24 (g := (mkF m 74 #[.val (.int p0), .val (.int p1), .val (.int p2), .val (.int p3), .val (.int p4)] [(.int p1), (.int (0 : Int32)), (.ref bmk23), (.ref bmk23), (.ref bmk22), (.ref bmk22)])) rfl rfl (hb hby dmk_74)
          have V_bmk23x := Arv.set Armk24 qkmk24 qsmk24 qnmk24 qhmk24 qgmk24 (fits_nar_char _) Wmk24 0 rfl (Nat.le_of_ble_eq_true rfl)
          have Nmk24 := Fr.snoc Xmk24 N0 g_bmk23
          obtain ⟨lcmkt25, Xmk24, Nmk24⟩ : ∃ lc, Stand p l e ({ frames := 6, cells := 6, slots := 20, locals := 88 } : Room) (s.setVm vm0) m #[(.int p0), (.int p1), (.int p2), (.int p3), (.int p4)] below meth c Tmk24 lc 2 7 ∧ Fr n0 lc := ⟨_, Xmk24, Nmk24⟩
          have SFw : Safe Z ownEL vm0 _ bmk23 := (Safe.arv hZ.alike V_bmk23 (by decide))
          replace CC := CC.wr Wmk24 SFw
          clear SFw
          replace E_bmk22 := E_bmk22.wr Wmk24
          replace F_value_bmk22 := F_value_bmk22.other Wmk24 (Or.inl ne_bmk22_bmk23)
          replace F_coder_bmk22 := F_coder_bmk22.other Wmk24 (Or.inl ne_bmk22_bmk23)
          have Kmk24 := Kmk23.wr Wmk24 (Or.inr sz_bmk23)
          have Zmk24 := Nat.le_trans Zmk23 (Keep.of_wr Wmk24).1
          have Omk24 := Omk23.wr Wmk24 g_bmk23
          replace V_bmk23 : Arv Z hmk24 bmk23 kmk23 .char (3 : Int32) [(.int (nar .char p1)), (.int (0 : Int32)), (.int (0 : Int32))] (.int (0 : Int32)) := V_bmk23x
          refine stp (fun t k => stmk24 t k) ?_
          show W (Tmk24.setTop (mkF m 75 #[.val (.int p0), .val (.int p1), .val (.int p2), .val (.int p3), .val (.int p4)] [(.ref bmk23), (.ref bmk22), (.ref bmk22)]))
          refine stp (fun t k => XS.dup Xmk24.here hx rfl (hb hby dmk_75) rfl rfl k) ?_
          show W (Tmk24.setTop (mkF m 76 #[.val (.int p0), .val (.int p1), .val (.int p2), .val (.int p3), .val (.int p4)] [(.ref bmk23), (.ref bmk23), (.ref bmk22), (.ref bmk22)]))
          refine stp (fun t k => XS.iconst Xmk24.here hx rfl (hb hby dmk_76) k) ?_
          show W (Tmk24.setTop (mkF m 77 #[.val (.int p0), .val (.int p1), .val (.int p2), .val (.int p3), .val (.int p4)] [(.int (1 : Int32)), (.ref bmk23), (.ref bmk23), (.ref bmk22), (.ref bmk22)]))
          refine stp (fun t k => XS.iloadN Xmk24.here hx rfl (hb hby dmk_77) rfl k) ?_
          show W (Tmk24.setTop (mkF m 78 #[.val (.int p0), .val (.int p1), .val (.int p2), .val (.int p3), .val (.int p4)] [(.int p2), (.int (1 : Int32)), (.ref bmk23), (.ref bmk23), (.ref bmk22), (.ref bmk22)]))
          obtain ⟨clmk26, Armk26, qkmk26, qsmk26, qnmk26, qhmk26, qgmk26⟩ := id V_bmk23
          have hinmk26 : ¬ ((1 : Int32) < 0 ∨ clmk26.slots.size ≤ ((1 : Int32)).toNatClampNeg) := inb_of qsmk26 ⟨by decide, by decide⟩
          obtain ⟨Tmk26, hmk26, Xmk26, emk26, Wmk26, stmk26⟩ := stC Xmk24 hx hZ emk24 Armk26 (j := (1 : Int32)) hinmk26 (g := (mkF m 78 #[.val (.int p0), .val (.int p1), .val (.int p2), .val (.int p3), .val (.int p4)] [(.int p2), (.int (1 : Int32)), (.ref bmk23), (.ref bmk23), (.ref bmk22), (.ref bmk22)])) rfl rfl (hb hby dmk_78)
          have V_bmk23x := Arv.set Armk26 qkmk26 qsmk26 qnmk26 qhmk26 qgmk26 (fits_nar_char _) Wmk26 1 rfl (Nat.le_of_ble_eq_true rfl)
          have Nmk26 := Fr.snoc Xmk26 Nmk24 g_bmk23
          obtain ⟨lcmkt27, Xmk26, Nmk26⟩ : ∃ lc, Stand p l e ({ frames := 6, cells := 6, slots := 20, locals := 88 } : Room) (s.setVm vm0) m #[(.int p0), (.int p1), (.int p2), (.int p3), (.int p4)] below meth c Tmk26 lc 2 7 ∧ Fr n0 lc := ⟨_, Xmk26, Nmk26⟩
          have SFw : Safe Z ownEL vm0 _ bmk23 := (Safe.arv hZ.alike V_bmk23 (by decide))
          replace CC := CC.wr Wmk26 SFw
          clear SFw
          replace E_bmk22 := E_bmk22.wr Wmk26
          replace F_value_bmk22 := F_value_bmk22.other Wmk26 (Or.inl ne_bmk22_bmk23)
          replace F_coder_bmk22 := F_coder_bmk22.other Wmk26 (Or.inl ne_bmk22_bmk23)
          have Kmk26 := Kmk24.wr Wmk26 (Or.inr sz_bmk23)
          have Zmk26 := Nat.le_trans Zmk24 (Keep.of_wr Wmk26).1
          have Omk26 := Omk24.wr Wmk26 g_bmk23
          replace V_bmk23 : Arv Z hmk26 bmk23 kmk23 .char (3 : Int32) [(.int (nar .char p1)), (.int (nar .char p2)), (.int (0 : Int32))] (.int (0 : Int32)) := V_bmk23x
          refine stp (fun t k => stmk26 t k) ?_
          show W (Tmk26.setTop (mkF m 79 #[.val (.int p0), .val (.int p1), .val (.int p2), .val (.int p3), .val (.int p4)] [(.ref bmk23), (.ref bmk22), (.ref bmk22)]))
          refine stp (fun t k => XS.dup Xmk26.here hx rfl (hb hby dmk_79) rfl rfl k) ?_
          show W (Tmk26.setTop (mkF m 80 #[.val (.int p0), .val (.int p1), .val (.int p2), .val (.int p3), .val (.int p4)] [(.ref bmk23), (.ref bmk23), (.ref bmk22), (.ref bmk22)]))
          refine stp (fun t k => XS.iconst Xmk26.here hx rfl (hb hby dmk_80) k) ?_
          show W (Tmk26.setTop (mkF m 81 #[.val (.int p0), .val (.int p1), .val (.int p2), .val (.int p3), .val (.int p4)] [(.int (2 : Int32)), (.ref bmk23), (.ref bmk23), (.ref bmk22), (.ref bmk22)]))
          refine stp (fun t k => XS.iloadN Xmk26.here hx rfl (hb hby dmk_81) rfl k) ?_
          show W (Tmk26.setTop (mkF m 82 #[.val (.int p0), .val (.int p1), .val (.int p2), .val (.int p3), .val (.int p4)] [(.int p3), (.int (2 : Int32)), (.ref bmk23), (.ref bmk23), (.ref bmk22), (.ref bmk22)]))
          obtain ⟨clmk28, Armk28, qkmk28, qsmk28, qnmk28, qhmk28, qgmk28⟩ := id V_bmk23
          have hinmk28 : ¬ ((2 : Int32) < 0 ∨ clmk28.slots.size ≤ ((2 : Int32)).toNatClampNeg) := inb_of qsmk28 ⟨by decide, by decide⟩
          obtain ⟨Tmk28, hmk28, Xmk28, emk28, Wmk28, stmk28⟩ := stC Xmk26 hx hZ emk26 Armk28 (j := (2 : Int32)) hinmk28 (g := (mkF m 82 #[.val (.int p0), .val (.int p1), .val (.int p2), .val (.int p3), .val (.int p4)] [(.int p3), (.int (2 : Int32)), (.ref bmk23), (.ref bmk23), (.ref bmk22), (.ref bmk22)])) rfl rfl (hb hby dmk_82)
          have V_bmk23x := Arv.set Armk28 qkmk28 qsmk28 qnmk28 qhmk28 qgmk28 (fits_nar_char _) Wmk28 2 rfl (Nat.le_of_ble_eq_true rfl)
          have Nmk28 := Fr.snoc Xmk28 Nmk26 g_bmk23
          obtain ⟨lcmkt29, Xmk28, Nmk28⟩ : ∃ lc, Stand p l e ({ frames := 6, cells := 6, slots := 20, locals := 88 } : Room) (s.setVm vm0) m #[(.int p0), (.int p1), (.int p2), (.int p3), (.int p4)] below meth c Tmk28 lc 2 7 ∧ Fr n0 lc := ⟨_, Xmk28, Nmk28⟩
          have SFw : Safe Z ownEL vm0 _ bmk23 := (Safe.arv hZ.alike V_bmk23 (by decide))
          replace CC := CC.wr Wmk28 SFw
          clear SFw
          replace E_bmk22 := E_bmk22.wr Wmk28
          replace F_value_bmk22 := F_value_bmk22.other Wmk28 (Or.inl ne_bmk22_bmk23)
          replace F_coder_bmk22 := F_coder_bmk22.other Wmk28 (Or.inl ne_bmk22_bmk23)
          have Kmk28 := Kmk26.wr Wmk28 (Or.inr sz_bmk23)
          have Zmk28 := Nat.le_trans Zmk26 (Keep.of_wr Wmk28).1
          have Omk28 := Omk26.wr Wmk28 g_bmk23
          replace V_bmk23 : Arv Z hmk28 bmk23 kmk23 .char (3 : Int32) [(.int (nar .char p1)), (.int (nar .char p2)), (.int (nar .char p3))] (.int (0 : Int32)) := V_bmk23x
          refine stp (fun t k => stmk28 t k) ?_
          show W (Tmk28.setTop (mkF m 83 #[.val (.int p0), .val (.int p1), .val (.int p2), .val (.int p3), .val (.int p4)] [(.ref bmk23), (.ref bmk22), (.ref bmk22)]))
          have V1_bmk23 : Arv Z hmk28 bmk23 kmk23 .char (Int32.ofNat 3) (own_vs 3 (own_g4 p1 p2 p3 p4)) (.int (0 : Int32)) := V_bmk23
          obtain ⟨_, _, ⟨Tmkc30, Lmkc30, kmkc30, nmkc30⟩, -, Xmkc30, ⟨Lcmkc30, hQmkc30, lmkc30, ymkc30, zmkc30⟩, stmkc30⟩ := Xmk28.specialBack hx (y := (⟨"java/lang/String", "<init>", "([C)V"⟩ : MethodName)) rfl hown (mvT hZ (hw _ (List.mem_of_getElem? (i := 8) rfl))) (mvT hZ (hw _ (List.mem_of_getElem? (i := 9) rfl))) (mvT hZ (hw _ (List.mem_of_getElem? (i := 10) rfl))) (by decide) (backOf (W := 1) (rmi1 l Z aa hw [] bmk22 bmk23 wc sx 3 (own_g4 p1 p2 p3 p4) kmk23 hmk28 n0 Zmk28 BW Omk28 (by decide) (own_g4R p1 p2 p3 p4 3 (by decide)) E_bmk22 F_value_bmk22 F_coder_bmk22 g_bmk22 V1_bmk23 ne_bmk22_bmk23 (by decide)) hZ (hw _ (List.mem_of_getElem? (i := 10) rfl)) (hw _ (List.mem_of_getElem? (i := 6) rfl)) (by decide) (by decide)) (g := (mkF m 83 #[.val (.int p0), .val (.int p1), .val (.int p2), .val (.int p3), .val (.int p4)] [(.ref bmk23), (.ref bmk22), (.ref bmk22)])) rfl (by rw [hml]; rfl) (Steps.refl _) (a := bmk22) (argsL := [(.ref bmk23)]) (rest := [(.ref bmk22)]) (lenOf pdmk_0 rfl) rfl (by show 2 * 0 + _ ≤ _; exact Nat.le_of_eq rfl) (hb hby dmk_83) (fun _ _ => ⟨rfl, emk28, (by decide : 2 + 2 ≤ _), (by decide : 7 + 12 ≤ _)⟩)
          dsimp only [Pt.U, Pt.locs, Pt.cells, Pt.slots] at Xmkc30 lmkc30 ymkc30 zmkc30 stmkc30 hQmkc30
          subst lmkc30 ymkc30 zmkc30
          obtain ⟨rfl, Nmkc30q, Kqmkc30, bmkc30, sz_bmkc30, S_mkc30⟩ := hQmkc30
          have Nmkc30 := Fr.app Nmk28 Nmkc30q
          obtain ⟨lcmkt31, Xmkc30, Nmkc30⟩ : ∃ lc, Stand p l e ({ frames := 6, cells := 6, slots := 20, locals := 88 } : Room) (s.setVm vm0) m #[(.int p0), (.int p1), (.int p2), (.int p3), (.int p4)] below meth c Tmkc30 lc 4 19 ∧ Fr n0 lc := ⟨_, Xmkc30, Nmkc30⟩
          obtain ⟨hmkc30, emkc30⟩ : ∃ h, Tmkc30.heap = h := ⟨_, rfl⟩
          rw [emkc30] at Kqmkc30 S_mkc30
          have ne_bmk22_bmkc30 : bmk22 ≠ bmkc30 := Nat.ne_of_lt (Nat.lt_of_lt_of_le E_bmk22.lt sz_bmkc30)
          have ne_bmk23_bmkc30 : bmk23 ≠ bmkc30 := Nat.ne_of_lt (Nat.lt_of_lt_of_le V_bmk23.lt sz_bmkc30)
          have g_bmkc30 : n0 ≤ bmkc30 := Nat.le_trans Zmk28 sz_bmkc30
          have SF_bmk22 : Safe Z ownEL vm0 _ bmk22 := (own_safeNull hZ.alike E_bmk22 F_value_bmk22)
          have SFk : ∀ x ∈ ([bmk22] : List Addr), Safe Z ownEL vm0 _ x := (sfS SF_bmk22 sf0)
          replace SF_bmk22 := Safe.keep Kqmkc30 SFk CC.2.1 SF_bmk22
          replace CC := CC.keep Kqmkc30 SFk
          clear SFk
          replace V_bmk23 := V_bmk23.keep Kqmkc30 (ninS (Ne.symm ne_bmk22_bmk23) nin0)
          have KKmkc30 := Keep.trans Kmk28 Kqmkc30 (allS (Or.inr sz_bmk22) all0)
          have Zmkc30 := Nat.le_trans Zmk28 Kqmkc30.1
          have Omkc30 := Omk28.keep Kqmkc30 (allS g_bmk22 all0)
          refine stp (fun t k => stmkc30.trans k) ?_
          show W (Tmkc30.setTop (mkF m 86 #[.val (.int p0), .val (.int p1), .val (.int p2), .val (.int p3), .val (.int p4)] [(.ref bmk22)]))
          show W (Tmkc30.setTop (mkF m 86 #[.val (.int p0), .val (.int p1), .val (.int p2), .val (.int p3), .val (.int p4)] [(.ref bmk22)]))
          rw [← hW]
          exact own_W hZ hEL CC (own_retR Xmkc30 hx Bd.notSynchronized Bd.returns rfl (hb hby dmk_86) (by show Qmk Z p0 p1 p2 p3 p4 wc sx n h0 n0 _ Tmkc30.heap _ ∧ Tmkc30.heap = hmkc30; rw [emkc30]; exact ⟨⟨bmk22, bmkc30, rfl, Nmkc30, KKmkc30, own_strEq (own_nOf hp0 hcmk_21 (by decide)) S_mkc30⟩, rfl⟩) (by decide) (by decide))
        · refine stp (fun t k => XS.icmpYes X0.here hx rfl (pc0 := 61) (pc' := 87) rfl (hb hby dmk_61) rfl ((feq hcmk_21).2) (by decide) (by decide) k) ?_
          show W (s₁.setTop (mkF m 87 #[.val (.int p0), .val (.int p1), .val (.int p2), .val (.int p3), .val (.int p4)] []))
          obtain ⟨Tmk32, hmk32, Xmk32, emk32, Emk32, Amk32, Dmk32, -, stmk32⟩ := newO X0 hx hZ hown (hw _ (List.mem_of_getElem? (i := 4) rfl)) (hw _ (List.mem_of_getElem? (i := 5) rfl)) (hw _ (List.mem_of_getElem? (i := 6) rfl)) e0 (g := (mkF m 87 #[.val (.int p0), .val (.int p1), .val (.int p2), .val (.int p3), .val (.int p4)] [])) rfl (hb hby dmk_87) (by decide) (by decide)
          obtain ⟨bmk32, gqmk32⟩ : ∃ z, z = h0.size := ⟨_, rfl⟩
          rw [← gqmk32] at Amk32 Dmk32 stmk32
          replace CC := CC.ext Emk32
          have g_bmk32 : n0 ≤ bmk32 := Nat.le_trans Z0 (Nat.le_of_eq gqmk32.symm)
          have sz_bmk32 : h0.size ≤ bmk32 := Nat.le_trans (Keep.refl h0 []).1 (Nat.le_of_eq gqmk32.symm)
          have Kmk32 := (Keep.refl h0 []).ext Emk32
          have Zmk32 := Nat.le_trans Z0 Emk32.1
          have Omk32 := O0.ext Emk32
          have E_bmk32 := Amk32
          have F_value_bmk32 : Fld Z hmk32 bmk32 "java/lang/String" "value" "[B" .null := Dmk32 (Or.inr (hw _ (List.mem_of_getElem? (i := 20) rfl))) (ty := (.array .byte)) (by decide)
          have F_coder_bmk32 : Fld Z hmk32 bmk32 "java/lang/String" "coder" "B" (.int (0 : Int32)) := Dmk32 (Or.inr (hw _ (List.mem_of_getElem? (i := 21) rfl))) (ty := .byte) (by decide)
          refine stp (fun t k => stmk32 t k) ?_
          show W (Tmk32.setTop (mkF m 90 #[.val (.int p0), .val (.int p1), .val (.int p2), .val (.int p3), .val (.int p4)] [(.ref bmk32)]))
          refine stp (fun t k => XS.dup Xmk32.here hx rfl (hb hby dmk_90) rfl rfl k) ?_
          show W (Tmk32.setTop (mkF m 91 #[.val (.int p0), .val (.int p1), .val (.int p2), .val (.int p3), .val (.int p4)] [(.ref bmk32), (.ref bmk32)]))
          refine stp (fun t k => XS.iconst Xmk32.here hx rfl (hb hby dmk_91) k) ?_
          show W (Tmk32.setTop (mkF m 92 #[.val (.int p0), .val (.int p1), .val (.int p2), .val (.int p3), .val (.int p4)] [(.int (4 : Int32)), (.ref bmk32), (.ref bmk32)]))
          obtain ⟨Tmk33, hmk33, kmk33, Xmk33, emk33, Emk33, Amk33, stmk33⟩ := newP Xmk32 hx hZ (hw _ (List.mem_of_getElem? (i := 7) rfl)) emk32 (g := (mkF m 92 #[.val (.int p0), .val (.int p1), .val (.int p2), .val (.int p3), .val (.int p4)] [(.int (4 : Int32)), (.ref bmk32), (.ref bmk32)])) rfl (hb hby dmk_92) rfl (by decide) (cap := 4) (by decide) (by decide) (by decide) (by decide)
          obtain ⟨bmk33, gqmk33⟩ : ∃ z, z = hmk32.size := ⟨_, rfl⟩
          rw [← gqmk33] at Amk33 stmk33
          replace CC := CC.ext Emk33
          have ne_bmk32_bmk33 : bmk32 ≠ bmk33 := Nat.ne_of_lt (Nat.lt_of_lt_of_le E_bmk32.lt (Nat.le_of_eq gqmk33.symm))
          have g_bmk33 : n0 ≤ bmk33 := Nat.le_trans Zmk32 (Nat.le_of_eq gqmk33.symm)
          have sz_bmk33 : h0.size ≤ bmk33 := Nat.le_trans Kmk32.1 (Nat.le_of_eq gqmk33.symm)
          replace E_bmk32 := E_bmk32.ext Emk33
          replace F_value_bmk32 := F_value_bmk32.ext Emk33
          replace F_coder_bmk32 := F_coder_bmk32.ext Emk33
          have Kmk33 := Kmk32.ext Emk33
          have Zmk33 := Nat.le_trans Zmk32 Emk33.1
          have Omk33 := Omk32.ext Emk33
          have V_bmk33 : Arv Z hmk33 bmk33 kmk33 .char (4 : Int32) [(.int (0 : Int32)), (.int (0 : Int32)), (.int (0 : Int32)), (.int (0 : Int32))] (.int (0 : Int32)) := (Arv.new Amk33 (by decide)).pad (pad_rep [] (.int (0 : Int32)) 4)
          refine stp (fun t k => stmk33 t k) ?_
          show W (Tmk33.setTop (mkF m 94 #[.val (.int p0), .val (.int p1), .val (.int p2), .val (.int p3), .val (.int p4)] [(.ref bmk33), (.ref bmk32), (.ref bmk32)]))
          refine stp (fun t k => XS.dup Xmk33.here hx rfl (hb hby dmk_94) rfl rfl k) ?_
          show W (Tmk33.setTop (mkF m 95 #[.val (.int p0), .val (.int p1), .val (.int p2), .val (.int p3), .val (.int p4)] [(.ref bmk33), (.ref bmk33), (.ref bmk32), (.ref bmk32)]))
          refine stp (fun t k => XS.iconst Xmk33.here hx rfl (hb hby dmk_95) k) ?_
          show W (Tmk33.setTop (mkF m 96 #[.val (.int p0), .val (.int p1), .val (.int p2), .val (.int p3), .val (.int p4)] [(.int (0 : Int32)), (.ref bmk33), (.ref bmk33), (.ref bmk32), (.ref bmk32)]))
          refine stp (fun t k => XS.iloadN Xmk33.here hx rfl (hb hby dmk_96) rfl k) ?_
          show W (Tmk33.setTop (mkF m 97 #[.val (.int p0), .val (.int p1), .val (.int p2), .val (.int p3), .val (.int p4)] [(.int p1), (.int (0 : Int32)), (.ref bmk33), (.ref bmk33), (.ref bmk32), (.ref bmk32)]))
          obtain ⟨clmk34, Armk34, qkmk34, qsmk34, qnmk34, qhmk34, qgmk34⟩ := id V_bmk33
          have hinmk34 : ¬ ((0 : Int32) < 0 ∨ clmk34.slots.size ≤ ((0 : Int32)).toNatClampNeg) := inb_of qsmk34 ⟨by decide, by decide⟩
          obtain ⟨Tmk34, hmk34, Xmk34, emk34, Wmk34, stmk34⟩ := stC Xmk33 hx hZ emk33 Armk34 (j := (0 : Int32)) hinmk34 (g := (mkF m 97 #[.val (.int p0), .val (.int p1), .val (.int p2), .val (.int p3), .val (.int p4)] [(.int p1), (.int (0 : Int32)), (.ref bmk33), (.ref bmk33), (.ref bmk32), (.ref bmk32)])) rfl rfl (hb hby dmk_97)
          have V_bmk33x := Arv.set Armk34 qkmk34 qsmk34 qnmk34 qhmk34 qgmk34 (fits_nar_char _) Wmk34 0 rfl (Nat.le_of_ble_eq_true rfl)
          have Nmk34 := Fr.snoc Xmk34 N0 g_bmk33
          obtain ⟨lcmkt35, Xmk34, Nmk34⟩ : ∃ lc, Stand p l e ({ frames := 6, cells := 6, slots := 20, locals := 88 } : Room) (s.setVm vm0) m #[(.int p0), (.int p1), (.int p2), (.int p3), (.int p4)] below meth c Tmk34 lc 2 8 ∧ Fr n0 lc := ⟨_, Xmk34, Nmk34⟩
          have SFw : Safe Z ownEL vm0 _ bmk33 := (Safe.arv hZ.alike V_bmk33 (by decide))
          replace CC := CC.wr Wmk34 SFw
          clear SFw
          replace E_bmk32 := E_bmk32.wr Wmk34
          replace F_value_bmk32 := F_value_bmk32.other Wmk34 (Or.inl ne_bmk32_bmk33)
          replace F_coder_bmk32 := F_coder_bmk32.other Wmk34 (Or.inl ne_bmk32_bmk33)
          have Kmk34 := Kmk33.wr Wmk34 (Or.inr sz_bmk33)
          have Zmk34 := Nat.le_trans Zmk33 (Keep.of_wr Wmk34).1
          have Omk34 := Omk33.wr Wmk34 g_bmk33
          replace V_bmk33 : Arv Z hmk34 bmk33 kmk33 .char (4 : Int32) [(.int (nar .char p1)), (.int (0 : Int32)), (.int (0 : Int32)), (.int (0 : Int32))] (.int (0 : Int32)) := V_bmk33x
          refine stp (fun t k => stmk34 t k) ?_
          show W (Tmk34.setTop (mkF m 98 #[.val (.int p0), .val (.int p1), .val (.int p2), .val (.int p3), .val (.int p4)] [(.ref bmk33), (.ref bmk32), (.ref bmk32)]))
          refine stp (fun t k => XS.dup Xmk34.here hx rfl (hb hby dmk_98) rfl rfl k) ?_
          show W (Tmk34.setTop (mkF m 99 #[.val (.int p0), .val (.int p1), .val (.int p2), .val (.int p3), .val (.int p4)] [(.ref bmk33), (.ref bmk33), (.ref bmk32), (.ref bmk32)]))
          refine stp (fun t k => XS.iconst Xmk34.here hx rfl (hb hby dmk_99) k) ?_
          show W (Tmk34.setTop (mkF m 100 #[.val (.int p0), .val (.int p1), .val (.int p2), .val (.int p3), .val (.int p4)] [(.int (1 : Int32)), (.ref bmk33), (.ref bmk33), (.ref bmk32), (.ref bmk32)]))
          refine stp (fun t k => XS.iloadN Xmk34.here hx rfl (hb hby dmk_100) rfl k) ?_
          show W (Tmk34.setTop (mkF m 101 #[.val (.int p0), .val (.int p1), .val (.int p2), .val (.int p3), .val (.int p4)] [(.int p2), (.int (1 : Int32)), (.ref bmk33), (.ref bmk33), (.ref bmk32), (.ref bmk32)]))
          obtain ⟨clmk36, Armk36, qkmk36, qsmk36, qnmk36, qhmk36, qgmk36⟩ := id V_bmk33
          have hinmk36 : ¬ ((1 : Int32) < 0 ∨ clmk36.slots.size ≤ ((1 : Int32)).toNatClampNeg) := inb_of qsmk36 ⟨by decide, by decide⟩
          obtain ⟨Tmk36, hmk36, Xmk36, emk36, Wmk36, stmk36⟩ := stC Xmk34 hx hZ emk34 Armk36 (j := (1 : Int32)) hinmk36 (g := (mkF m 101 #[.val (.int p0), .val (.int p1), .val (.int p2), .val (.int p3), .val (.int p4)] [(.int p2), (.int (1 : Int32)), (.ref bmk33), (.ref bmk33), (.ref bmk32), (.ref bmk32)])) rfl rfl (hb hby dmk_101)
          have V_bmk33x := Arv.set Armk36 qkmk36 qsmk36 qnmk36 qhmk36 qgmk36 (fits_nar_char _) Wmk36 1 rfl (Nat.le_of_ble_eq_true rfl)
          have Nmk36 := Fr.snoc Xmk36 Nmk34 g_bmk33
          obtain ⟨lcmkt37, Xmk36, Nmk36⟩ : ∃ lc, Stand p l e ({ frames := 6, cells := 6, slots := 20, locals := 88 } : Room) (s.setVm vm0) m #[(.int p0), (.int p1), (.int p2), (.int p3), (.int p4)] below meth c Tmk36 lc 2 8 ∧ Fr n0 lc := ⟨_, Xmk36, Nmk36⟩
          have SFw : Safe Z ownEL vm0 _ bmk33 := (Safe.arv hZ.alike V_bmk33 (by decide))
          replace CC := CC.wr Wmk36 SFw
          clear SFw
          replace E_bmk32 := E_bmk32.wr Wmk36
          replace F_value_bmk32 := F_value_bmk32.other Wmk36 (Or.inl ne_bmk32_bmk33)
          replace F_coder_bmk32 := F_coder_bmk32.other Wmk36 (Or.inl ne_bmk32_bmk33)
          have Kmk36 := Kmk34.wr Wmk36 (Or.inr sz_bmk33)
          have Zmk36 := Nat.le_trans Zmk34 (Keep.of_wr Wmk36).1
          have Omk36 := Omk34.wr Wmk36 g_bmk33
          replace V_bmk33 : Arv Z hmk36 bmk33 kmk33 .char (4 : Int32) [(.int (nar .char p1)), (.int (nar .char p2)), (.int (0 : Int32)), (.int (0 : Int32))] (.int (0 : Int32)) := V_bmk33x
          refine stp (fun t k => stmk36 t k) ?_
          show W (Tmk36.setTop (mkF m 102 #[.val (.int p0), .val (.int p1), .val (.int p2), .val (.int p3), .val (.int p4)] [(.ref bmk33), (.ref bmk32), (.ref bmk32)]))
          refine stp (fun t k => XS.dup Xmk36.here hx rfl (hb hby dmk_102) rfl rfl k) ?_
          show W (Tmk36.setTop (mkF m 103 #[.val (.int p0), .val (.int p1), .val (.int p2), .val (.int p3), .val (.int p4)] [(.ref bmk33), (.ref bmk33), (.ref bmk32), (.ref bmk32)]))
          refine stp (fun t k => XS.iconst Xmk36.here hx rfl (hb hby dmk_103) k) ?_
          show W (Tmk36.setTop (mkF m 104 #[.val (.int p0), .val (.int p1), .val (.int p2), .val (.int p3), .val (.int p4)] [(.int (2 : Int32)), (.ref bmk33), (.ref bmk33), (.ref bmk32), (.ref bmk32)]))
          refine stp (fun t k => XS.iloadN Xmk36.here hx rfl (hb hby dmk_104) rfl k) ?_
          show W (Tmk36.setTop (mkF m 105 #[.val (.int p0), .val (.int p1), .val (.int p2), .val (.int p3), .val (.int p4)] [(.int p3), (.int (2 : Int32)), (.ref bmk33), (.ref bmk33), (.ref bmk32), (.ref bmk32)]))
          obtain ⟨clmk38, Armk38, qkmk38, qsmk38, qnmk38, qhmk38, qgmk38⟩ := id V_bmk33
          have hinmk38 : ¬ ((2 : Int32) < 0 ∨ clmk38.slots.size ≤ ((2 : Int32)).toNatClampNeg) := inb_of qsmk38 ⟨by decide, by decide⟩
          obtain ⟨Tmk38, hmk38, Xmk38, emk38, Wmk38, stmk38⟩ := stC Xmk36 hx hZ emk36 Armk38 (j := (2 : Int32)) hinmk38 (g := (mkF m 105 #[.val (.int p0), .val (.int p1), .val (.int p2), .val (.int p3), .val (.int p4)] [(.int p3), (.int (2 : Int32)), (.ref bmk33), (.ref bmk33), (.ref bmk32), (.ref bmk32)])) rfl rfl (hb hby dmk_105)
          have V_bmk33x := Arv.set Armk38 qkmk38 qsmk38 qnmk38 qhmk38 qgmk38 (fits_nar_char _) Wmk38 2 rfl (Nat.le_of_ble_eq_true rfl)
          have Nmk38 := Fr.snoc Xmk38 Nmk36 g_bmk33
          obtain ⟨lcmkt39, Xmk38, Nmk38⟩ : ∃ lc, Stand p l e ({ frames := 6, cells := 6, slots := 20, locals := 88 } : Room) (s.setVm vm0) m #[(.int p0), (.int p1), (.int p2), (.int p3), (.int p4)] below meth c Tmk38 lc 2 8 ∧ Fr n0 lc := ⟨_, Xmk38, Nmk38⟩
          have SFw : Safe Z ownEL vm0 _ bmk33 := (Safe.arv hZ.alike V_bmk33 (by decide))
          replace CC := CC.wr Wmk38 SFw
          clear SFw
          replace E_bmk32 := E_bmk32.wr Wmk38
          replace F_value_bmk32 := F_value_bmk32.other Wmk38 (Or.inl ne_bmk32_bmk33)
          replace F_coder_bmk32 := F_coder_bmk32.other Wmk38 (Or.inl ne_bmk32_bmk33)
          have Kmk38 := Kmk36.wr Wmk38 (Or.inr sz_bmk33)
          have Zmk38 := Nat.le_trans Zmk36 (Keep.of_wr Wmk38).1
          have Omk38 := Omk36.wr Wmk38 g_bmk33
          replace V_bmk33 : Arv Z hmk38 bmk33 kmk33 .char (4 : Int32) [(.int (nar .char p1)), (.int (nar .char p2)), (.int (nar .char p3)), (.int (0 : Int32))] (.int (0 : Int32)) := V_bmk33x
          refine stp (fun t k => stmk38 t k) ?_
          show W (Tmk38.setTop (mkF m 106 #[.val (.int p0), .val (.int p1), .val (.int p2), .val (.int p3), .val (.int p4)] [(.ref bmk33), (.ref bmk32), (.ref bmk32)]))
          refine stp (fun t k => XS.dup Xmk38.here hx rfl (hb hby dmk_106) rfl rfl k) ?_
          show W (Tmk38.setTop (mkF m 107 #[.val (.int p0), .val (.int p1), .val (.int p2), .val (.int p3), .val (.int p4)] [(.ref bmk33), (.ref bmk33), (.ref bmk32), (.ref bmk32)]))
          refine stp (fun t k => XS.iconst Xmk38.here hx rfl (hb hby dmk_107) k) ?_
          show W (Tmk38.setTop (mkF m 108 #[.val (.int p0), .val (.int p1), .val (.int p2), .val (.int p3), .val (.int p4)] [(.int (3 : Int32)), (.ref bmk33), (.ref bmk33), (.ref bmk32), (.ref bmk32)]))
          refine stp (fun t k => XS.iload Xmk38.here hx rfl (hb hby dmk_108) rfl k) ?_
          show W (Tmk38.setTop (mkF m 110 #[.val (.int p0), .val (.int p1), .val (.int p2), .val (.int p3), .val (.int p4)] [(.int p4), (.int (3 : Int32)), (.ref bmk33), (.ref bmk33), (.ref bmk32), (.ref bmk32)]))
          obtain ⟨clmk40, Armk40, qkmk40, qsmk40, qnmk40, qhmk40, qgmk40⟩ := id V_bmk33
          have hinmk40 : ¬ ((3 : Int32) < 0 ∨ clmk40.slots.size ≤ ((3 : Int32)).toNatClampNeg) := inb_of qsmk40 ⟨by decide, by decide⟩
          obtain ⟨Tmk40, hmk40, Xmk40, emk40, Wmk40, stmk40⟩ := stC Xmk38 hx hZ emk38 Armk40 (j := (3 : Int32)) hinmk40 (g := (mkF m 110 #[.val (.int p0), .val (.int p1), .val (.int p2), .val (.int p3), .val (.int p4)] [(.int p4), (.int (3 : Int32)), (.ref bmk33), (.ref bmk33), (.ref bmk32), (.ref bmk32)])) rfl rfl (hb hby dmk_110)
          have V_bmk33x := Arv.set Armk40 qkmk40 qsmk40 qnmk40 qhmk40 qgmk40 (fits_nar_char _) Wmk40 3 rfl (Nat.le_of_ble_eq_true rfl)
          have Nmk40 := Fr.snoc Xmk40 Nmk38 g_bmk33
          obtain ⟨lcmkt41, Xmk40, Nmk40⟩ : ∃ lc, Stand p l e ({ frames := 6, cells := 6, slots := 20, locals := 88 } : Room) (s.setVm vm0) m #[(.int p0), (.int p1), (.int p2), (.int p3), (.int p4)] below meth c Tmk40 lc 2 8 ∧ Fr n0 lc := ⟨_, Xmk40, Nmk40⟩
          have SFw : Safe Z ownEL vm0 _ bmk33 := (Safe.arv hZ.alike V_bmk33 (by decide))
          replace CC := CC.wr Wmk40 SFw
          clear SFw
          replace E_bmk32 := E_bmk32.wr Wmk40
          replace F_value_bmk32 := F_value_bmk32.other Wmk40 (Or.inl ne_bmk32_bmk33)
          replace F_coder_bmk32 := F_coder_bmk32.other Wmk40 (Or.inl ne_bmk32_bmk33)
          have Kmk40 := Kmk38.wr Wmk40 (Or.inr sz_bmk33)
          have Zmk40 := Nat.le_trans Zmk38 (Keep.of_wr Wmk40).1
          have Omk40 := Omk38.wr Wmk40 g_bmk33
          replace V_bmk33 : Arv Z hmk40 bmk33 kmk33 .char (4 : Int32) [(.int (nar .char p1)), (.int (nar .char p2)), (.int (nar .char p3)), (.int (nar .char p4))] (.int (0 : Int32)) := V_bmk33x
          refine stp (fun t k => stmk40 t k) ?_
          show W (Tmk40.setTop (mkF m 111 #[.val (.int p0), .val (.int p1), .val (.int p2), .val (.int p3), .val (.int p4)] [(.ref bmk33), (.ref bmk32), (.ref bmk32)]))
          have V1_bmk33 : Arv Z hmk40 bmk33 kmk33 .char (Int32.ofNat 4) (own_vs 4 (own_g4 p1 p2 p3 p4)) (.int (0 : Int32)) := V_bmk33
          obtain ⟨_, _, ⟨Tmkc42, Lmkc42, kmkc42, nmkc42⟩, -, Xmkc42, ⟨Lcmkc42, hQmkc42, lmkc42, ymkc42, zmkc42⟩, stmkc42⟩ := Xmk40.specialBack hx (y := (⟨"java/lang/String", "<init>", "([C)V"⟩ : MethodName)) rfl hown (mvT hZ (hw _ (List.mem_of_getElem? (i := 8) rfl))) (mvT hZ (hw _ (List.mem_of_getElem? (i := 9) rfl))) (mvT hZ (hw _ (List.mem_of_getElem? (i := 10) rfl))) (by decide) (backOf (W := 1) (rmi1 l Z aa hw [] bmk32 bmk33 wc sx 4 (own_g4 p1 p2 p3 p4) kmk33 hmk40 n0 Zmk40 BW Omk40 (by decide) (own_g4R p1 p2 p3 p4 4 (by decide)) E_bmk32 F_value_bmk32 F_coder_bmk32 g_bmk32 V1_bmk33 ne_bmk32_bmk33 (by decide)) hZ (hw _ (List.mem_of_getElem? (i := 10) rfl)) (hw _ (List.mem_of_getElem? (i := 6) rfl)) (by decide) (by decide)) (g := (mkF m 111 #[.val (.int p0), .val (.int p1), .val (.int p2), .val (.int p3), .val (.int p4)] [(.ref bmk33), (.ref bmk32), (.ref bmk32)])) rfl (by rw [hml]; rfl) (Steps.refl _) (a := bmk32) (argsL := [(.ref bmk33)]) (rest := [(.ref bmk32)]) (lenOf pdmk_0 rfl) rfl (by show 2 * 0 + _ ≤ _; exact Nat.le_of_eq rfl) (hb hby dmk_111) (fun _ _ => ⟨rfl, emk40, (by decide : 2 + 2 ≤ _), (by decide : 8 + 12 ≤ _)⟩)
          dsimp only [Pt.U, Pt.locs, Pt.cells, Pt.slots] at Xmkc42 lmkc42 ymkc42 zmkc42 stmkc42 hQmkc42
          subst lmkc42 ymkc42 zmkc42
          obtain ⟨rfl, Nmkc42q, Kqmkc42, bmkc42, sz_bmkc42, S_mkc42⟩ := hQmkc42
          have Nmkc42 := Fr.app Nmk40 Nmkc42q
          obtain ⟨lcmkt43, Xmkc42, Nmkc42⟩ : ∃ lc, Stand p l e ({ frames := 6, cells := 6, slots := 20, locals := 88 } : Room) (s.setVm vm0) m #[(.int p0), (.int p1), (.int p2), (.int p3), (.int p4)] below meth c Tmkc42 lc 4 20 ∧ Fr n0 lc := ⟨_, Xmkc42, Nmkc42⟩
          obtain ⟨hmkc42, emkc42⟩ : ∃ h, Tmkc42.heap = h := ⟨_, rfl⟩
          rw [emkc42] at Kqmkc42 S_mkc42
          have ne_bmk32_bmkc42 : bmk32 ≠ bmkc42 := Nat.ne_of_lt (Nat.lt_of_lt_of_le E_bmk32.lt sz_bmkc42)
          have ne_bmk33_bmkc42 : bmk33 ≠ bmkc42 := Nat.ne_of_lt (Nat.lt_of_lt_of_le V_bmk33.lt sz_bmkc42)
          have g_bmkc42 : n0 ≤ bmkc42 := Nat.le_trans Zmk40 sz_bmkc42
          have SF_bmk32 : Safe Z ownEL vm0 _ bmk32 := (own_safeNull hZ.alike E_bmk32 F_value_bmk32)
          have SFk : ∀ x ∈ ([bmk32] : List Addr), Safe Z ownEL vm0 _ x := (sfS SF_bmk32 sf0)
          replace SF_bmk32 := Safe.keep Kqmkc42 SFk CC.2.1 SF_bmk32
          replace CC := CC.keep Kqmkc42 SFk
          clear SFk
          replace V_bmk33 := V_bmk33.keep Kqmkc42 (ninS (Ne.symm ne_bmk32_bmk33) nin0)
          have KKmkc42 := Keep.trans Kmk40 Kqmkc42 (allS (Or.inr sz_bmk32) all0)
          have Zmkc42 := Nat.le_trans Zmk40 Kqmkc42.1
          have Omkc42 := Omk40.keep Kqmkc42 (allS g_bmk32 all0)
          refine stp (fun t k => stmkc42.trans k) ?_
          show W (Tmkc42.setTop (mkF m 114 #[.val (.int p0), .val (.int p1), .val (.int p2), .val (.int p3), .val (.int p4)] [(.ref bmk32)]))
          show W (Tmkc42.setTop (mkF m 114 #[.val (.int p0), .val (.int p1), .val (.int p2), .val (.int p3), .val (.int p4)] [(.ref bmk32)]))
          rw [← hW]
          exact own_W hZ hEL CC (own_retR Xmkc42 hx Bd.notSynchronized Bd.returns rfl (hb hby dmk_114) (by show Qmk Z p0 p1 p2 p3 p4 wc sx n h0 n0 _ Tmkc42.heap _ ∧ Tmkc42.heap = hmkc42; rw [emkc42]; exact ⟨⟨bmk32, bmkc42, rfl, Nmkc42, KKmkc42, own_strEq (own_n4 hp0 hn4 hcmk_1 hcmk_5 hcmk_12 hcmk_21) S_mkc42⟩, rfl⟩) (by decide) (by decide))
theorem dws_0 : decode method_2_code 0 = .ok (.iload_n 0, 1) := by decide +kernel
theorem dws_1 : decode method_2_code 1 = .ok (.bipush 32, 2) := by decide +kernel
theorem dws_3 : decode method_2_code 3 = .ok (.if_icmp .eq 21, 3) := by decide +kernel
theorem dws_6 : decode method_2_code 6 = .ok (.iload_n 0, 1) := by decide +kernel
theorem dws_7 : decode method_2_code 7 = .ok (.bipush 9, 2) := by decide +kernel
theorem dws_9 : decode method_2_code 9 = .ok (.if_icmp .eq 15, 3) := by decide +kernel
theorem dws_12 : decode method_2_code 12 = .ok (.iload_n 0, 1) := by decide +kernel
theorem dws_13 : decode method_2_code 13 = .ok (.bipush 10, 2) := by decide +kernel
theorem dws_15 : decode method_2_code 15 = .ok (.if_icmp .eq 9, 3) := by decide +kernel
theorem dws_18 : decode method_2_code 18 = .ok (.iload_n 0, 1) := by decide +kernel
theorem dws_19 : decode method_2_code 19 = .ok (.bipush 13, 2) := by decide +kernel
theorem dws_21 : decode method_2_code 21 = .ok (.if_icmp .ne 7, 3) := by decide +kernel
theorem dws_24 : decode method_2_code 24 = .ok (.iconst 1, 1) := by decide +kernel
theorem dws_25 : decode method_2_code 25 = .ok (.goto 4, 3) := by decide +kernel
theorem dws_28 : decode method_2_code 28 = .ok (.iconst 0, 1) := by decide +kernel
theorem dws_29 : decode method_2_code 29 = .ok (.ireturn, 1) := by decide +kernel
theorem pnws : plainName "com/example/opuscule/opuscule/record/XmlSpaceIsSpace285PinLaw" = true := by first | (simp [plainName, overriddenIn]; done) | decide +kernel
theorem efws (m : MethodId) (p0 : Int32) : entryFrame m #[(.int p0)] 1 = mkF m 0 #[.val (.int p0)] [] := by first | (simp [entryFrame, mkF, argsToLocals, Value.category]; done) | rfl
def fws (p0 : Int32) : Int32 := (if p0 = (32 : Int32) then (1 : Int32) else (if p0 = (9 : Int32) then (1 : Int32) else (if p0 = (10 : Int32) then (1 : Int32) else (if p0 = (13 : Int32) then (1 : Int32) else (0 : Int32)))))
def Qws (Z : State) (p0 : Int32) (h0 : Heap) (n0 : Nat) (v : Option Value) (h : Heap) (L : List Loc) : Prop := v = some (.int (fws p0)) ∧ Fr n0 L ∧ h = h0
set_option maxRecDepth 65536 in
set_option maxHeartbeats 40000000 in
theorem rmws (l : Launch) (Z : State) (aa : Array Value) (hw : ∀ d ∈ tables_1, d.before aa Z = true) (ws : List Jvm.Cond) (p0 : Int32) (h0 : Heap) (n0 : Nat) (Z0 : n0 ≤ h0.size) :
    MetFree l (⟨"com/example/opuscule/opuscule/record/XmlSpaceIsSpace285PinLaw", "ws", "(C)Z"⟩ : MethodName) (head1 (Jvm.Cond.code (⟨"com/example/opuscule/opuscule/record/XmlSpaceIsSpace285PinLaw", "ws", "(C)Z"⟩ : MethodName) method_2_code 1 (some .boolean) :: ws) ({ frames := 0, cells := 0, slots := 0, locals := 0 } : Room)) (fun a U => a = #[(.int p0)] ∧ Z.Warmed39 U.vm ∧ U.heap = h0) (fun _ _ _ _ _ => True) (fun _ U o U' => ∃ v L, o = .returned v ∧ Qws Z p0 h0 n0 v U'.heap L ∧ FrameEnd U o U' L ({ frames := 0, cells := 0, slots := 0, locals := 0 } : Room).cells ({ frames := 0, cells := 0, slots := 0, locals := 0 } : Room).slots) := by
  refine MetFree.of_bodySF (plainFor_of_name pnws) hisR ?_
  intro p e s m args below meth c s₁ Bd hml0 hP hK
  obtain ⟨rfl, hZ, hh⟩ := hP
  have hx := Bd.exec
  have hby := Bd.bytes
  have hml : c.maxLocals = 1 := hml0
  have hown : s.vm.findClass "com/example/opuscule/opuscule/record/XmlSpaceIsSpace285PinLaw" = some m.cls := findClass_of_methodNamed Bd.named
  have hnm := (name_of_methodNamed Bd.named Bd.method).1
  have X0 : Stand p l e ({ frames := 0, cells := 0, slots := 0, locals := 0 } : Room) s m #[(.int p0)] below meth c s₁ [] 0 0 := Stand.of_body Bd
  have e0 : s₁.heap = h0 := by rw [← hh, Bd.state]; rfl
  have N0 := Fr.nil n0
  show OwnEnd p e below s (fun v h L => Qws Z p0 h0 n0 v h L) ({ frames := 0, cells := 0, slots := 0, locals := 0 } : Room).cells ({ frames := 0, cells := 0, slots := 0, locals := 0 } : Room).slots (s₁.setTop (entryFrame m #[(.int p0)] 1))
  rw [efws m p0]
  generalize hW : OwnEnd p e below s (fun v h L => Qws Z p0 h0 n0 v h L) ({ frames := 0, cells := 0, slots := 0, locals := 0 } : Room).cells ({ frames := 0, cells := 0, slots := 0, locals := 0 } : Room).slots = W
  have stp : ∀ {A B : State}, (∀ t, Steps p.tables e below B t → Steps p.tables e below A t) → W B → W A := by subst hW; exact own_step
  show W (s₁.setTop (mkF m 0 #[.val (.int p0)] []))
  refine stp (fun t k => XS.iloadN X0.here hx rfl (hb hby dws_0) rfl k) ?_
  show W (s₁.setTop (mkF m 1 #[.val (.int p0)] [(.int p0)]))
  refine stp (fun t k => XS.bipush X0.here hx rfl (hb hby dws_1) k) ?_
  show W (s₁.setTop (mkF m 3 #[.val (.int p0)] [(.int (32 : Int32)), (.int p0)]))
  by_cases hcws_1 : p0 = (32 : Int32)
  · refine stp (fun t k => XS.icmpYes X0.here hx rfl (pc0 := 3) (pc' := 24) rfl (hb hby dws_3) rfl ((teq hcws_1).1) (by decide) (by decide) k) ?_
    show W (s₁.setTop (mkF m 24 #[.val (.int p0)] []))
    refine stp (fun t k => XS.iconst X0.here hx rfl (hb hby dws_24) k) ?_
    show W (s₁.setTop (mkF m 25 #[.val (.int p0)] [(.int (1 : Int32))]))
    refine stp (fun t k => XS.goto X0.here hx rfl (pc0 := 25) (pc' := 29) rfl (hb hby dws_25) (by decide) (by decide) k) ?_
    show W (s₁.setTop (mkF m 29 #[.val (.int p0)] [(.int (1 : Int32))]))
    show W (s₁.setTop (mkF m 29 #[.val (.int p0)] [(.int (1 : Int32))]))
    rw [← hW]
    exact own_retN X0 hx Bd.notSynchronized Bd.returns (w := (1 : Int32)) (by simp) (hb hby dws_29) rfl (by show Qws Z p0 h0 n0 _ s₁.heap _; rw [e0]; exact ⟨(by rw [fws, if_pos hcws_1]), N0, rfl⟩) (by decide) (by decide)
  · refine stp (fun t k => XS.icmpNo X0.here hx rfl (hb hby dws_3) rfl ((feq hcws_1).1) k) ?_
    show W (s₁.setTop (mkF m 6 #[.val (.int p0)] []))
    refine stp (fun t k => XS.iloadN X0.here hx rfl (hb hby dws_6) rfl k) ?_
    show W (s₁.setTop (mkF m 7 #[.val (.int p0)] [(.int p0)]))
    refine stp (fun t k => XS.bipush X0.here hx rfl (hb hby dws_7) k) ?_
    show W (s₁.setTop (mkF m 9 #[.val (.int p0)] [(.int (9 : Int32)), (.int p0)]))
    by_cases hcws_2 : p0 = (9 : Int32)
    · refine stp (fun t k => XS.icmpYes X0.here hx rfl (pc0 := 9) (pc' := 24) rfl (hb hby dws_9) rfl ((teq hcws_2).1) (by decide) (by decide) k) ?_
      show W (s₁.setTop (mkF m 24 #[.val (.int p0)] []))
      refine stp (fun t k => XS.iconst X0.here hx rfl (hb hby dws_24) k) ?_
      show W (s₁.setTop (mkF m 25 #[.val (.int p0)] [(.int (1 : Int32))]))
      refine stp (fun t k => XS.goto X0.here hx rfl (pc0 := 25) (pc' := 29) rfl (hb hby dws_25) (by decide) (by decide) k) ?_
      show W (s₁.setTop (mkF m 29 #[.val (.int p0)] [(.int (1 : Int32))]))
      show W (s₁.setTop (mkF m 29 #[.val (.int p0)] [(.int (1 : Int32))]))
      rw [← hW]
      exact own_retN X0 hx Bd.notSynchronized Bd.returns (w := (1 : Int32)) (by simp) (hb hby dws_29) rfl (by show Qws Z p0 h0 n0 _ s₁.heap _; rw [e0]; exact ⟨(by rw [fws, if_neg hcws_1, if_pos hcws_2]), N0, rfl⟩) (by decide) (by decide)
    · refine stp (fun t k => XS.icmpNo X0.here hx rfl (hb hby dws_9) rfl ((feq hcws_2).1) k) ?_
      show W (s₁.setTop (mkF m 12 #[.val (.int p0)] []))
      refine stp (fun t k => XS.iloadN X0.here hx rfl (hb hby dws_12) rfl k) ?_
      show W (s₁.setTop (mkF m 13 #[.val (.int p0)] [(.int p0)]))
      refine stp (fun t k => XS.bipush X0.here hx rfl (hb hby dws_13) k) ?_
      show W (s₁.setTop (mkF m 15 #[.val (.int p0)] [(.int (10 : Int32)), (.int p0)]))
      by_cases hcws_3 : p0 = (10 : Int32)
      · refine stp (fun t k => XS.icmpYes X0.here hx rfl (pc0 := 15) (pc' := 24) rfl (hb hby dws_15) rfl ((teq hcws_3).1) (by decide) (by decide) k) ?_
        show W (s₁.setTop (mkF m 24 #[.val (.int p0)] []))
        refine stp (fun t k => XS.iconst X0.here hx rfl (hb hby dws_24) k) ?_
        show W (s₁.setTop (mkF m 25 #[.val (.int p0)] [(.int (1 : Int32))]))
        refine stp (fun t k => XS.goto X0.here hx rfl (pc0 := 25) (pc' := 29) rfl (hb hby dws_25) (by decide) (by decide) k) ?_
        show W (s₁.setTop (mkF m 29 #[.val (.int p0)] [(.int (1 : Int32))]))
        show W (s₁.setTop (mkF m 29 #[.val (.int p0)] [(.int (1 : Int32))]))
        rw [← hW]
        exact own_retN X0 hx Bd.notSynchronized Bd.returns (w := (1 : Int32)) (by simp) (hb hby dws_29) rfl (by show Qws Z p0 h0 n0 _ s₁.heap _; rw [e0]; exact ⟨(by rw [fws, if_neg hcws_1, if_neg hcws_2, if_pos hcws_3]), N0, rfl⟩) (by decide) (by decide)
      · refine stp (fun t k => XS.icmpNo X0.here hx rfl (hb hby dws_15) rfl ((feq hcws_3).1) k) ?_
        show W (s₁.setTop (mkF m 18 #[.val (.int p0)] []))
        refine stp (fun t k => XS.iloadN X0.here hx rfl (hb hby dws_18) rfl k) ?_
        show W (s₁.setTop (mkF m 19 #[.val (.int p0)] [(.int p0)]))
        refine stp (fun t k => XS.bipush X0.here hx rfl (hb hby dws_19) k) ?_
        show W (s₁.setTop (mkF m 21 #[.val (.int p0)] [(.int (13 : Int32)), (.int p0)]))
        by_cases hcws_4 : p0 = (13 : Int32)
        · refine stp (fun t k => XS.icmpNo X0.here hx rfl (hb hby dws_21) rfl ((teq hcws_4).2) k) ?_
          show W (s₁.setTop (mkF m 24 #[.val (.int p0)] []))
          refine stp (fun t k => XS.iconst X0.here hx rfl (hb hby dws_24) k) ?_
          show W (s₁.setTop (mkF m 25 #[.val (.int p0)] [(.int (1 : Int32))]))
          refine stp (fun t k => XS.goto X0.here hx rfl (pc0 := 25) (pc' := 29) rfl (hb hby dws_25) (by decide) (by decide) k) ?_
          show W (s₁.setTop (mkF m 29 #[.val (.int p0)] [(.int (1 : Int32))]))
          show W (s₁.setTop (mkF m 29 #[.val (.int p0)] [(.int (1 : Int32))]))
          rw [← hW]
          exact own_retN X0 hx Bd.notSynchronized Bd.returns (w := (1 : Int32)) (by simp) (hb hby dws_29) rfl (by show Qws Z p0 h0 n0 _ s₁.heap _; rw [e0]; exact ⟨(by rw [fws, if_neg hcws_1, if_neg hcws_2, if_neg hcws_3, if_pos hcws_4]), N0, rfl⟩) (by decide) (by decide)
        · refine stp (fun t k => XS.icmpYes X0.here hx rfl (pc0 := 21) (pc' := 28) rfl (hb hby dws_21) rfl ((feq hcws_4).2) (by decide) (by decide) k) ?_
          show W (s₁.setTop (mkF m 28 #[.val (.int p0)] []))
          refine stp (fun t k => XS.iconst X0.here hx rfl (hb hby dws_28) k) ?_
          show W (s₁.setTop (mkF m 29 #[.val (.int p0)] [(.int (0 : Int32))]))
          show W (s₁.setTop (mkF m 29 #[.val (.int p0)] [(.int (0 : Int32))]))
          rw [← hW]
          exact own_retN X0 hx Bd.notSynchronized Bd.returns (w := (0 : Int32)) (by simp) (hb hby dws_29) rfl (by show Qws Z p0 h0 n0 _ s₁.heap _; rw [e0]; exact ⟨(by rw [fws, if_neg hcws_1, if_neg hcws_2, if_neg hcws_3, if_neg hcws_4]), N0, rfl⟩) (by decide) (by decide)
theorem dis_0 : decode prog_49_method_4_code 0 = .ok (.iload_n 0, 1) := by decide +kernel
theorem dis_1 : decode prog_49_method_4_code 1 = .ok (.bipush 32, 2) := by decide +kernel
theorem dis_3 : decode prog_49_method_4_code 3 = .ok (.if_icmp .eq 21, 3) := by decide +kernel
theorem dis_6 : decode prog_49_method_4_code 6 = .ok (.iload_n 0, 1) := by decide +kernel
theorem dis_7 : decode prog_49_method_4_code 7 = .ok (.bipush 9, 2) := by decide +kernel
theorem dis_9 : decode prog_49_method_4_code 9 = .ok (.if_icmp .eq 15, 3) := by decide +kernel
theorem dis_12 : decode prog_49_method_4_code 12 = .ok (.iload_n 0, 1) := by decide +kernel
theorem dis_13 : decode prog_49_method_4_code 13 = .ok (.bipush 10, 2) := by decide +kernel
theorem dis_15 : decode prog_49_method_4_code 15 = .ok (.if_icmp .eq 9, 3) := by decide +kernel
theorem dis_18 : decode prog_49_method_4_code 18 = .ok (.iload_n 0, 1) := by decide +kernel
theorem dis_19 : decode prog_49_method_4_code 19 = .ok (.bipush 13, 2) := by decide +kernel
theorem dis_21 : decode prog_49_method_4_code 21 = .ok (.if_icmp .ne 7, 3) := by decide +kernel
theorem dis_24 : decode prog_49_method_4_code 24 = .ok (.iconst 1, 1) := by decide +kernel
theorem dis_25 : decode prog_49_method_4_code 25 = .ok (.goto 4, 3) := by decide +kernel
theorem dis_28 : decode prog_49_method_4_code 28 = .ok (.iconst 0, 1) := by decide +kernel
theorem dis_29 : decode prog_49_method_4_code 29 = .ok (.ireturn, 1) := by decide +kernel
theorem pnis : plainName "com/example/opuscule/opuscule/record/XmlSpace" = true := by first | (simp [plainName, overriddenIn]; done) | decide +kernel
theorem efis (m : MethodId) (p0 : Int32) : entryFrame m #[(.int p0)] 1 = mkF m 0 #[.val (.int p0)] [] := by first | (simp [entryFrame, mkF, argsToLocals, Value.category]; done) | rfl
def fis (p0 : Int32) : Int32 := (if p0 = (32 : Int32) then (1 : Int32) else (if p0 = (9 : Int32) then (1 : Int32) else (if p0 = (10 : Int32) then (1 : Int32) else (if p0 = (13 : Int32) then (1 : Int32) else (0 : Int32)))))
def Qis (Z : State) (p0 : Int32) (h0 : Heap) (n0 : Nat) (v : Option Value) (h : Heap) (L : List Loc) : Prop := v = some (.int (fis p0)) ∧ Fr n0 L ∧ h = h0
set_option maxRecDepth 65536 in
set_option maxHeartbeats 40000000 in
theorem rmis (l : Launch) (Z : State) (aa : Array Value) (hw : ∀ d ∈ tables_1, d.before aa Z = true) (ws : List Jvm.Cond) (p0 : Int32) (h0 : Heap) (n0 : Nat) (Z0 : n0 ≤ h0.size) :
    MetFree l (⟨"com/example/opuscule/opuscule/record/XmlSpace", "isSpace", "(I)Z"⟩ : MethodName) (head1 (Jvm.Cond.code (⟨"com/example/opuscule/opuscule/record/XmlSpace", "isSpace", "(I)Z"⟩ : MethodName) prog_49_method_4_code 1 (some .boolean) :: ws) ({ frames := 0, cells := 0, slots := 0, locals := 0 } : Room)) (fun a U => a = #[(.int p0)] ∧ Z.Warmed39 U.vm ∧ U.heap = h0) (fun _ _ _ _ _ => True) (fun _ U o U' => ∃ v L, o = .returned v ∧ Qis Z p0 h0 n0 v U'.heap L ∧ FrameEnd U o U' L ({ frames := 0, cells := 0, slots := 0, locals := 0 } : Room).cells ({ frames := 0, cells := 0, slots := 0, locals := 0 } : Room).slots) := by
  refine MetFree.of_bodySF (plainFor_of_name pnis) hisR ?_
  intro p e s m args below meth c s₁ Bd hml0 hP hK
  obtain ⟨rfl, hZ, hh⟩ := hP
  have hx := Bd.exec
  have hby := Bd.bytes
  have hml : c.maxLocals = 1 := hml0
  have hown : s.vm.findClass "com/example/opuscule/opuscule/record/XmlSpace" = some m.cls := findClass_of_methodNamed Bd.named
  have hnm := (name_of_methodNamed Bd.named Bd.method).1
  have X0 : Stand p l e ({ frames := 0, cells := 0, slots := 0, locals := 0 } : Room) s m #[(.int p0)] below meth c s₁ [] 0 0 := Stand.of_body Bd
  have e0 : s₁.heap = h0 := by rw [← hh, Bd.state]; rfl
  have N0 := Fr.nil n0
  show OwnEnd p e below s (fun v h L => Qis Z p0 h0 n0 v h L) ({ frames := 0, cells := 0, slots := 0, locals := 0 } : Room).cells ({ frames := 0, cells := 0, slots := 0, locals := 0 } : Room).slots (s₁.setTop (entryFrame m #[(.int p0)] 1))
  rw [efis m p0]
  generalize hW : OwnEnd p e below s (fun v h L => Qis Z p0 h0 n0 v h L) ({ frames := 0, cells := 0, slots := 0, locals := 0 } : Room).cells ({ frames := 0, cells := 0, slots := 0, locals := 0 } : Room).slots = W
  have stp : ∀ {A B : State}, (∀ t, Steps p.tables e below B t → Steps p.tables e below A t) → W B → W A := by subst hW; exact own_step
  show W (s₁.setTop (mkF m 0 #[.val (.int p0)] []))
  refine stp (fun t k => XS.iloadN X0.here hx rfl (hb hby dis_0) rfl k) ?_
  show W (s₁.setTop (mkF m 1 #[.val (.int p0)] [(.int p0)]))
  refine stp (fun t k => XS.bipush X0.here hx rfl (hb hby dis_1) k) ?_
  show W (s₁.setTop (mkF m 3 #[.val (.int p0)] [(.int (32 : Int32)), (.int p0)]))
  by_cases hcis_1 : p0 = (32 : Int32)
  · refine stp (fun t k => XS.icmpYes X0.here hx rfl (pc0 := 3) (pc' := 24) rfl (hb hby dis_3) rfl ((teq hcis_1).1) (by decide) (by decide) k) ?_
    show W (s₁.setTop (mkF m 24 #[.val (.int p0)] []))
    refine stp (fun t k => XS.iconst X0.here hx rfl (hb hby dis_24) k) ?_
    show W (s₁.setTop (mkF m 25 #[.val (.int p0)] [(.int (1 : Int32))]))
    refine stp (fun t k => XS.goto X0.here hx rfl (pc0 := 25) (pc' := 29) rfl (hb hby dis_25) (by decide) (by decide) k) ?_
    show W (s₁.setTop (mkF m 29 #[.val (.int p0)] [(.int (1 : Int32))]))
    show W (s₁.setTop (mkF m 29 #[.val (.int p0)] [(.int (1 : Int32))]))
    rw [← hW]
    exact own_retN X0 hx Bd.notSynchronized Bd.returns (w := (1 : Int32)) (by simp) (hb hby dis_29) rfl (by show Qis Z p0 h0 n0 _ s₁.heap _; rw [e0]; exact ⟨(by rw [fis, if_pos hcis_1]), N0, rfl⟩) (by decide) (by decide)
  · refine stp (fun t k => XS.icmpNo X0.here hx rfl (hb hby dis_3) rfl ((feq hcis_1).1) k) ?_
    show W (s₁.setTop (mkF m 6 #[.val (.int p0)] []))
    refine stp (fun t k => XS.iloadN X0.here hx rfl (hb hby dis_6) rfl k) ?_
    show W (s₁.setTop (mkF m 7 #[.val (.int p0)] [(.int p0)]))
    refine stp (fun t k => XS.bipush X0.here hx rfl (hb hby dis_7) k) ?_
    show W (s₁.setTop (mkF m 9 #[.val (.int p0)] [(.int (9 : Int32)), (.int p0)]))
    by_cases hcis_2 : p0 = (9 : Int32)
    · refine stp (fun t k => XS.icmpYes X0.here hx rfl (pc0 := 9) (pc' := 24) rfl (hb hby dis_9) rfl ((teq hcis_2).1) (by decide) (by decide) k) ?_
      show W (s₁.setTop (mkF m 24 #[.val (.int p0)] []))
      refine stp (fun t k => XS.iconst X0.here hx rfl (hb hby dis_24) k) ?_
      show W (s₁.setTop (mkF m 25 #[.val (.int p0)] [(.int (1 : Int32))]))
      refine stp (fun t k => XS.goto X0.here hx rfl (pc0 := 25) (pc' := 29) rfl (hb hby dis_25) (by decide) (by decide) k) ?_
      show W (s₁.setTop (mkF m 29 #[.val (.int p0)] [(.int (1 : Int32))]))
      show W (s₁.setTop (mkF m 29 #[.val (.int p0)] [(.int (1 : Int32))]))
      rw [← hW]
      exact own_retN X0 hx Bd.notSynchronized Bd.returns (w := (1 : Int32)) (by simp) (hb hby dis_29) rfl (by show Qis Z p0 h0 n0 _ s₁.heap _; rw [e0]; exact ⟨(by rw [fis, if_neg hcis_1, if_pos hcis_2]), N0, rfl⟩) (by decide) (by decide)
    · refine stp (fun t k => XS.icmpNo X0.here hx rfl (hb hby dis_9) rfl ((feq hcis_2).1) k) ?_
      show W (s₁.setTop (mkF m 12 #[.val (.int p0)] []))
      refine stp (fun t k => XS.iloadN X0.here hx rfl (hb hby dis_12) rfl k) ?_
      show W (s₁.setTop (mkF m 13 #[.val (.int p0)] [(.int p0)]))
      refine stp (fun t k => XS.bipush X0.here hx rfl (hb hby dis_13) k) ?_
      show W (s₁.setTop (mkF m 15 #[.val (.int p0)] [(.int (10 : Int32)), (.int p0)]))
      by_cases hcis_3 : p0 = (10 : Int32)
      · refine stp (fun t k => XS.icmpYes X0.here hx rfl (pc0 := 15) (pc' := 24) rfl (hb hby dis_15) rfl ((teq hcis_3).1) (by decide) (by decide) k) ?_
        show W (s₁.setTop (mkF m 24 #[.val (.int p0)] []))
        refine stp (fun t k => XS.iconst X0.here hx rfl (hb hby dis_24) k) ?_
        show W (s₁.setTop (mkF m 25 #[.val (.int p0)] [(.int (1 : Int32))]))
        refine stp (fun t k => XS.goto X0.here hx rfl (pc0 := 25) (pc' := 29) rfl (hb hby dis_25) (by decide) (by decide) k) ?_
        show W (s₁.setTop (mkF m 29 #[.val (.int p0)] [(.int (1 : Int32))]))
        show W (s₁.setTop (mkF m 29 #[.val (.int p0)] [(.int (1 : Int32))]))
        rw [← hW]
        exact own_retN X0 hx Bd.notSynchronized Bd.returns (w := (1 : Int32)) (by simp) (hb hby dis_29) rfl (by show Qis Z p0 h0 n0 _ s₁.heap _; rw [e0]; exact ⟨(by rw [fis, if_neg hcis_1, if_neg hcis_2, if_pos hcis_3]), N0, rfl⟩) (by decide) (by decide)
      · refine stp (fun t k => XS.icmpNo X0.here hx rfl (hb hby dis_15) rfl ((feq hcis_3).1) k) ?_
        show W (s₁.setTop (mkF m 18 #[.val (.int p0)] []))
        refine stp (fun t k => XS.iloadN X0.here hx rfl (hb hby dis_18) rfl k) ?_
        show W (s₁.setTop (mkF m 19 #[.val (.int p0)] [(.int p0)]))
        refine stp (fun t k => XS.bipush X0.here hx rfl (hb hby dis_19) k) ?_
        show W (s₁.setTop (mkF m 21 #[.val (.int p0)] [(.int (13 : Int32)), (.int p0)]))
        by_cases hcis_4 : p0 = (13 : Int32)
        · refine stp (fun t k => XS.icmpNo X0.here hx rfl (hb hby dis_21) rfl ((teq hcis_4).2) k) ?_
          show W (s₁.setTop (mkF m 24 #[.val (.int p0)] []))
          refine stp (fun t k => XS.iconst X0.here hx rfl (hb hby dis_24) k) ?_
          show W (s₁.setTop (mkF m 25 #[.val (.int p0)] [(.int (1 : Int32))]))
          refine stp (fun t k => XS.goto X0.here hx rfl (pc0 := 25) (pc' := 29) rfl (hb hby dis_25) (by decide) (by decide) k) ?_
          show W (s₁.setTop (mkF m 29 #[.val (.int p0)] [(.int (1 : Int32))]))
          show W (s₁.setTop (mkF m 29 #[.val (.int p0)] [(.int (1 : Int32))]))
          rw [← hW]
          exact own_retN X0 hx Bd.notSynchronized Bd.returns (w := (1 : Int32)) (by simp) (hb hby dis_29) rfl (by show Qis Z p0 h0 n0 _ s₁.heap _; rw [e0]; exact ⟨(by rw [fis, if_neg hcis_1, if_neg hcis_2, if_neg hcis_3, if_pos hcis_4]), N0, rfl⟩) (by decide) (by decide)
        · refine stp (fun t k => XS.icmpYes X0.here hx rfl (pc0 := 21) (pc' := 28) rfl (hb hby dis_21) rfl ((feq hcis_4).2) (by decide) (by decide) k) ?_
          show W (s₁.setTop (mkF m 28 #[.val (.int p0)] []))
          refine stp (fun t k => XS.iconst X0.here hx rfl (hb hby dis_28) k) ?_
          show W (s₁.setTop (mkF m 29 #[.val (.int p0)] [(.int (0 : Int32))]))
          show W (s₁.setTop (mkF m 29 #[.val (.int p0)] [(.int (0 : Int32))]))
          rw [← hW]
          exact own_retN X0 hx Bd.notSynchronized Bd.returns (w := (0 : Int32)) (by simp) (hb hby dis_29) rfl (by show Qis Z p0 h0 n0 _ s₁.heap _; rw [e0]; exact ⟨(by rw [fis, if_neg hcis_1, if_neg hcis_2, if_neg hcis_3, if_neg hcis_4]), N0, rfl⟩) (by decide) (by decide)
theorem own_ofI {i : Int32} {n : Nat} (h : i.toInt = (n : Int)) (hn : n < 2147483648) : i = Int32.ofNat n := by
  apply Int32.toInt_inj.mp
  rw [own_ofNat hn, h]
theorem own_N (p0 : Int32) : ∃ n : Nat, ((p0 &&& (7 : Int32)) % (5 : Int32)).toInt = (n : Int) ∧ n ≤ 4 := by
  have m := c_mask p0 7 3 (by decide) (by decide)
  have h := (c_iremV (p0 &&& 7) 5).1 (by omega) (by decide)
  have e : (5 : Int32).toInt = 5 := by decide
  exact ⟨((p0 &&& 7) % 5).toInt.toNat, by omega, by omega⟩
theorem own_p1 {x : Int32} {n : Nat} (h : x.toInt = (n : Int)) (hn : n ≤ 4) : (x + (1 : Int32)).toInt = (n : Int) + 1 := by
  have := own_inc h (by omega)
  simpa using this
theorem own_f (p0 x : Int32) {n : Nat} (h : x.toInt = (n : Int)) (hn : n ≤ 4) : ∃ f0 : Nat, (((p0.toUInt32 >>> ((3 : Int32) &&& 31).toUInt32).toInt32) % (x + (1 : Int32))).toInt = (f0 : Int) ∧ f0 ≤ n := by
  have m := c_iushr p0 3 3 (by decide) (by decide)
  have r := rng32 p0
  have e := own_p1 h hn
  have h := (c_iremV ((p0.toUInt32 >>> ((3 : Int32) &&& 31).toUInt32).toInt32) (x + 1)).1 (by omega) (by omega)
  exact ⟨(((p0.toUInt32 >>> ((3 : Int32) &&& 31).toUInt32).toInt32) % (x + 1)).toInt.toNat, by omega, by omega⟩
theorem own_nz1 (p0 : Int32) : ¬ (((p0 &&& (7 : Int32)) % (5 : Int32)) + (1 : Int32) = (0 : Int32)) := fun q => by
  obtain ⟨n, h, hn⟩ := own_N p0
  have e := own_p1 h hn
  rw [q, show (0 : Int32).toInt = 0 from by decide] at e
  omega
/-! what XmlSpace.isSpace computes -/
def own_sp (g : Nat → Int32) : Nat → Nat → Int32
  | _, 0 => 1
  | i, r + 1 => if fis (g i) = (0 : Int32) then 0 else own_sp g (i + 1) r
theorem own_spS {g : Nat → Int32} {i t : Nat} (h : i < t) : own_sp g i (t - i) = if fis (g i) = (0 : Int32) then 0 else own_sp g (i + 1) (t - (i + 1)) := by
  rw [show t - i = (t - (i + 1)) + 1 from by omega]
  rfl
theorem own_c16 (x : Int32) : nar .char (x.toUInt32.toUInt16.toUInt32.toInt32) = x.toUInt32.toUInt16.toUInt32.toInt32 := own_i2c (own_ch x).1 (own_ch x).2
def own_ok (j f n c : Int32) : Int32 := (if j < f then (1 : Int32) else (if j < n then (if fws c = (0 : Int32) then (0 : Int32) else (1 : Int32)) else (1 : Int32)))
theorem own_okA {j f n : Int32} (c : Int32) (h : j < f) : own_ok j f n c = 1 := by rw [own_ok, if_pos h]
theorem own_okB {j f n : Int32} (c : Int32) (h : ¬ j < f) (h2 : ¬ j < n) : own_ok j f n c = 1 := by rw [own_ok, if_neg h, if_neg h2]
theorem own_okC {j f n : Int32} (c : Int32) (h : ¬ j < f) (h2 : j < n) : own_ok j f n c = 0 ↔ fis c = 0 := by
  rw [own_ok, if_neg h, if_pos h2]
  have e : fws c = fis c := rfl
  rw [e]
  by_cases q : fis c = 0
  · rw [if_pos q]; exact ⟨fun _ => q, fun _ => rfl⟩
  · rw [if_neg q]; exact ⟨fun z => absurd z (by decide), fun z => absurd z q⟩
theorem own_final (c0 c1 c2 c3 f t : Int32) (k0 : nar .char c0 = c0) (k1 : nar .char c1 = c1) (k2 : nar .char c2 = c2) (k3 : nar .char c3 = c3) (f0 t0 : Nat) (hf : f.toInt = (f0 : Int)) (ht : t.toInt = (t0 : Int)) (hft : f0 ≤ t0) (h4 : t0 ≤ 4) :
    own_sp (own_g4 c0 c1 c2 c3) f0 (t0 - f0) = (if own_ok (0 : Int32) f t c0 = (0 : Int32) then (0 : Int32) else (if own_ok (1 : Int32) f t c1 = (0 : Int32) then (0 : Int32) else (if own_ok (2 : Int32) f t c2 = (0 : Int32) then (0 : Int32) else (if own_ok (3 : Int32) f t c3 = (0 : Int32) then (0 : Int32) else (1 : Int32))))) := by
  have ef := own_ofI hf (by omega)
  have et := own_ofI ht (by omega)
  subst ef et
  have g0 : own_g4 c0 c1 c2 c3 0 = c0 := k0
  have g1 : own_g4 c0 c1 c2 c3 1 = c1 := k1
  have g2 : own_g4 c0 c1 c2 c3 2 = c2 := k2
  have g3 : own_g4 c0 c1 c2 c3 3 = c3 := k3
  have a0 : ∀ g i, own_sp g i 0 = 1 := fun _ _ => rfl
  have aS : ∀ g i r, own_sp g i (r + 1) = if fis (g i) = (0 : Int32) then 0 else own_sp g (i + 1) r := fun _ _ _ => rfl
  have w : ∀ c, fws c = fis c := fun _ => rfl
  match t0, h4 with
  | 0, _ => match f0, hft with
    | 0, _ => simp [own_ok, a0]
  | 1, _ => match f0, hft with
    | 0, _ => simp [own_ok, a0, aS, g0, w]
    | 1, _ => simp [own_ok, a0]
  | 2, _ => match f0, hft with
    | 0, _ => simp [own_ok, a0, aS, g0, g1, w]
    | 1, _ => simp [own_ok, a0, aS, g1, w]
    | 2, _ => simp [own_ok, a0]
  | 3, _ => match f0, hft with
    | 0, _ => simp [own_ok, a0, aS, g0, g1, g2, w]
    | 1, _ => simp [own_ok, a0, aS, g1, g2, w]
    | 2, _ => simp [own_ok, a0, aS, g2, w]
    | 3, _ => simp [own_ok, a0]
  | 4, _ => match f0, hft with
    | 0, _ => simp [own_ok, a0, aS, g0, g1, g2, g3, w]
    | 1, _ => simp [own_ok, a0, aS, g1, g2, g3, w]
    | 2, _ => simp [own_ok, a0, aS, g2, g3, w]
    | 3, _ => simp [own_ok, a0, aS, g3, w]
    | 4, _ => simp [own_ok, a0]
theorem dsp_0 : decode prog_49_method_3_code 0 = .ok (.iload_n 1, 1) := by decide +kernel
theorem dsp_1 : decode prog_49_method_3_code 1 = .ok (.istore_n 2, 1) := by decide +kernel
theorem dsp_2 : decode prog_49_method_3_code 2 = .ok (.iload_n 2, 1) := by decide +kernel
theorem dsp_3 : decode prog_49_method_3_code 3 = .ok (.aload_n 0, 1) := by decide +kernel
theorem dsp_4 : decode prog_49_method_3_code 4 = .ok (.invokeinterface 7 1, 5) := by decide +kernel
theorem dsp_9 : decode prog_49_method_3_code 9 = .ok (.if_icmp .ge 22, 3) := by decide +kernel
theorem dsp_12 : decode prog_49_method_3_code 12 = .ok (.aload_n 0, 1) := by decide +kernel
theorem dsp_13 : decode prog_49_method_3_code 13 = .ok (.iload_n 2, 1) := by decide +kernel
theorem dsp_14 : decode prog_49_method_3_code 14 = .ok (.invokeinterface 13 2, 5) := by decide +kernel
theorem dsp_19 : decode prog_49_method_3_code 19 = .ok (.invokestatic 17, 3) := by decide +kernel
theorem dsp_22 : decode prog_49_method_3_code 22 = .ok (.ifCond .eq 9, 3) := by decide +kernel
theorem dsp_25 : decode prog_49_method_3_code 25 = .ok (.iinc 2 1, 3) := by decide +kernel
theorem dsp_28 : decode prog_49_method_3_code 28 = .ok (.goto (-26), 3) := by decide +kernel
theorem dsp_31 : decode prog_49_method_3_code 31 = .ok (.iload_n 2, 1) := by decide +kernel
theorem dsp_32 : decode prog_49_method_3_code 32 = .ok (.aload_n 0, 1) := by decide +kernel
theorem dsp_33 : decode prog_49_method_3_code 33 = .ok (.invokeinterface 7 1, 5) := by decide +kernel
theorem dsp_38 : decode prog_49_method_3_code 38 = .ok (.if_icmp .ne 7, 3) := by decide +kernel
theorem dsp_41 : decode prog_49_method_3_code 41 = .ok (.iconst 1, 1) := by decide +kernel
theorem dsp_42 : decode prog_49_method_3_code 42 = .ok (.goto 4, 3) := by decide +kernel
theorem dsp_45 : decode prog_49_method_3_code 45 = .ok (.iconst 0, 1) := by decide +kernel
theorem dsp_46 : decode prog_49_method_3_code 46 = .ok (.ireturn, 1) := by decide +kernel
theorem pnsp : plainName "com/example/opuscule/opuscule/record/XmlSpace" = true := by first | (simp [plainName, overriddenIn]; done) | decide +kernel
theorem pdsp_0 : parseMethodDescriptor "()I" = some ⟨[], some .int⟩ := by decide +kernel
theorem pdsp_1 : parseMethodDescriptor "(I)C" = some ⟨[.int], some .char⟩ := by decide +kernel
theorem pdsp_2 : parseMethodDescriptor "(I)Z" = some ⟨[.int], some .boolean⟩ := by decide +kernel
theorem efsp (m : MethodId) (a0 : Addr) (p1 : Int32) : entryFrame m #[(.ref a0), (.int p1)] 3 = mkF m 0 #[.val (.ref a0), .val (.int p1), .unset] [] := by first | (simp [entryFrame, mkF, argsToLocals, Value.category]; done) | rfl
def Qsp (Z : State) (a0 : Addr) (p1 : Int32) (wc : Int32) (sx : Value) (b : Addr) (n : Nat) (g : Nat → Int32) (f0 : Nat) (h0 : Heap) (n0 : Nat) (v : Option Value) (h : Heap) (L : List Loc) : Prop := v = some (.int (own_sp g f0 (n - f0))) ∧ Fr n0 L ∧ h = h0
set_option maxRecDepth 65536 in
set_option maxHeartbeats 40000000 in
theorem rmsp (l : Launch) (Z : State) (aa : Array Value) (hw : ∀ d ∈ tables_1, d.before aa Z = true) (ws : List Jvm.Cond) (a0 : Addr) (p1 : Int32) (wc : Int32) (sx : Value) (b : Addr) (n : Nat) (g : Nat → Int32) (f0 : Nat) (h0 : Heap) (n0 : Nat) (Z0 : n0 ≤ h0.size) (BW : OwnW Z wc sx) (O0 : Old Z n0 h0) (S_a0 : OwnStr Z h0 a0 b n g) (hn : n ≤ 4000) (hch : ∀ j, j < n → 0 ≤ (g j).toInt ∧ (g j).toInt < 65536) (hp1 : p1.toInt = (f0 : Int)) (hfn : f0 ≤ n) :
    MetFree l (⟨"com/example/opuscule/opuscule/record/XmlSpace", "isSpace", "(Ljava/lang/CharSequence;I)Z"⟩ : MethodName) (head1 (Jvm.Cond.code (⟨"com/example/opuscule/opuscule/record/XmlSpace", "isSpace", "(Ljava/lang/CharSequence;I)Z"⟩ : MethodName) prog_49_method_3_code 3 (some .boolean) :: ws) ({ frames := 5, cells := 0, slots := 0, locals := 66 } : Room)) (fun a U => a = #[(.ref a0), (.int p1)] ∧ Z.Warmed39 U.vm ∧ U.heap = h0) (fun _ _ _ _ _ => True) (fun _ U o U' => ∃ v L, o = .returned v ∧ Qsp Z a0 p1 wc sx b n g f0 h0 n0 v U'.heap L ∧ FrameEnd U o U' L ({ frames := 5, cells := 0, slots := 0, locals := 66 } : Room).cells ({ frames := 5, cells := 0, slots := 0, locals := 66 } : Room).slots) := by
  refine MetFree.of_bodySF (plainFor_of_name pnsp) hisR ?_
  intro p e s m args below meth c s₁ Bd hml0 hP hK
  obtain ⟨rfl, hZ, hh⟩ := hP
  have hx := Bd.exec
  have hby := Bd.bytes
  have hml : c.maxLocals = 3 := hml0
  have hown : s.vm.findClass "com/example/opuscule/opuscule/record/XmlSpace" = some m.cls := findClass_of_methodNamed Bd.named
  have hnm := (name_of_methodNamed Bd.named Bd.method).1
  have X0 : Stand p l e ({ frames := 5, cells := 0, slots := 0, locals := 66 } : Room) s m #[(.ref a0), (.int p1)] below meth c s₁ [] 0 0 := Stand.of_body Bd
  have e0 : s₁.heap = h0 := by rw [← hh, Bd.state]; rfl
  have N0 := Fr.nil n0
  show OwnEnd p e below s (fun v h L => Qsp Z a0 p1 wc sx b n g f0 h0 n0 v h L) ({ frames := 5, cells := 0, slots := 0, locals := 66 } : Room).cells ({ frames := 5, cells := 0, slots := 0, locals := 66 } : Room).slots (s₁.setTop (entryFrame m #[(.ref a0), (.int p1)] 3))
  rw [efsp m a0 p1]
  generalize hW : OwnEnd p e below s (fun v h L => Qsp Z a0 p1 wc sx b n g f0 h0 n0 v h L) ({ frames := 5, cells := 0, slots := 0, locals := 66 } : Room).cells ({ frames := 5, cells := 0, slots := 0, locals := 66 } : Room).slots = W
  have stp : ∀ {A B : State}, (∀ t, Steps p.tables e below B t → Steps p.tables e below A t) → W B → W A := by subst hW; exact own_step
  obtain ⟨S_cs, hcs, S_si, hr_sx, S_ad, S_hi, S_lo⟩ := id BW
  have hz := own_ofNat (n := n) (by omega)
  show W (s₁.setTop (mkF m 0 #[.val (.ref a0), .val (.int p1), .unset] []))
  refine stp (fun t k => XS.iloadN X0.here hx rfl (hb hby dsp_0) rfl k) ?_
  show W (s₁.setTop (mkF m 1 #[.val (.ref a0), .val (.int p1), .unset] [(.int p1)]))
  refine stp (fun t k => XS.istoreN X0.here hx rfl (hb hby dsp_1) rfl (l' := #[.val (.ref a0), .val (.int p1), .val (.int p1)]) rfl k) ?_
  have LP : ∀ (r i : Nat) (x : Int32) (T' : State) (lc : List Loc) (h' : Heap) (hir : i + r = n) (hx2 : x.toInt = (i : Int)) (hE : own_sp g i (n - i) = own_sp g f0 (n - f0)) (hfi : f0 ≤ i) (hh : h' = h0) (XL : Stand p l e ({ frames := 5, cells := 0, slots := 0, locals := 66 } : Room) s m #[(.ref a0), (.int p1)] below meth c T' lc 0 0) (eL : T'.heap = h') (NL : Fr n0 lc) (KL : Keep h0 h' []) (OL : Old Z n0 h') (S_a0 : OwnStr Z h' a0 b n g), W (T'.setTop (mkF m 2 #[.val (.ref a0), .val (.int p1), .val (.int x)] [])) := by
    intro r
    induction r with
    | zero =>
      intro i x T' lc h' hir hx2 hE hfi hh XL eL NL KL OL S_a0
      have ZL : n0 ≤ h'.size := Nat.le_trans Z0 KL.1
      show W (T'.setTop (mkF m 2 #[.val (.ref a0), .val (.int p1), .val (.int x)] []))
      refine stp (fun t k => XS.iloadN XL.here hx rfl (hb hby dsp_2) rfl k) ?_
      show W (T'.setTop (mkF m 3 #[.val (.ref a0), .val (.int p1), .val (.int x)] [(.int x)]))
      refine stp (fun t k => XS.aloadN XL.here hx rfl (hb hby dsp_3) rfl rfl k) ?_
      show W (T'.setTop (mkF m 4 #[.val (.ref a0), .val (.int p1), .val (.int x)] [(.ref a0), (.int x)]))
      obtain ⟨cqspc1, kqspc1, qspc1a, qspc1b, qspc1c⟩ := isOf hZ eL S_a0.1
      obtain ⟨_, _, ⟨Tspc1, Lspc1, kspc1, nspc1⟩, -, Xspc1, ⟨Lcspc1, hQspc1, lspc1, yspc1, zspc1⟩, stspc1⟩ := XL.interfaceBack hx (xi := (⟨"java/lang/CharSequence", "length", "()I"⟩ : MethodName)) (y := (⟨"java/lang/String", "length", "()I"⟩ : MethodName)) hown (mvT hZ (hw _ (List.mem_of_getElem? (i := 30) rfl))) (mvT hZ (hw _ (List.mem_of_getElem? (i := 31) rfl))) (mvT hZ (hw _ (List.mem_of_getElem? (i := 32) rfl))) (mvT hZ (hw _ (List.mem_of_getElem? (i := 33) rfl))) (mvT hZ (hw _ (List.mem_of_getElem? (i := 34) rfl))) (mvT hZ (hw _ (List.mem_of_getElem? (i := 35) rfl))) (mvT hZ (hw _ (List.mem_of_getElem? (i := 36) rfl))) (mvT hZ (hw _ (List.mem_of_getElem? (i := 37) rfl))) (by decide) (backOf (W := 1) (rmlA l Z aa hw [] a0 wc sx b n g h' n0 ZL BW OL S_a0 hn) hZ (hw _ (List.mem_of_getElem? (i := 38) rfl)) (hw _ (List.mem_of_getElem? (i := 6) rfl)) (by decide) (by decide)) qspc1a qspc1b qspc1c (g := (mkF m 4 #[.val (.ref a0), .val (.int p1), .val (.int x)] [(.ref a0), (.int x)])) rfl (by rw [hml]; rfl) (Steps.refl _) (argsL := []) (rest := [(.int x)]) (lenOf pdsp_0 rfl) rfl (by show 2 * 0 + _ ≤ _; exact Nat.le_of_eq rfl) (hb hby dsp_4) (fun _ _ => ⟨rfl, eL, (by decide : 0 + 0 ≤ _), (by decide : 0 + 0 ≤ _)⟩)
      dsimp only [Pt.U, Pt.locs, Pt.cells, Pt.slots] at Xspc1 lspc1 yspc1 zspc1 stspc1 hQspc1
      subst lspc1 yspc1 zspc1
      obtain ⟨rfl, Nspc1q, espc1⟩ := hQspc1
      have Nspc1 := Fr.app NL Nspc1q
      obtain ⟨lcspt2, Xspc1, Nspc1⟩ : ∃ lc, Stand p l e ({ frames := 5, cells := 0, slots := 0, locals := 66 } : Room) s m #[(.ref a0), (.int p1)] below meth c Tspc1 lc 0 0 ∧ Fr n0 lc := ⟨_, Xspc1, Nspc1⟩
      refine stp (fun t k => stspc1.trans k) ?_
      show W (Tspc1.setTop (mkF m 9 #[.val (.ref a0), .val (.int p1), .val (.int x)] [(.int (Int32.ofNat n)), (.int x)]))
      refine stp (fun t k => XS.icmpYes Xspc1.here hx rfl (pc0 := 9) (pc' := 31) rfl (hb hby dsp_9) rfl ((flt (fun q => by have := (own_lt32 hx2 hz).mp q; omega)).2.1) (by decide) (by decide) k) ?_
      show W (Tspc1.setTop (mkF m 31 #[.val (.ref a0), .val (.int p1), .val (.int x)] []))
      refine stp (fun t k => XS.iloadN Xspc1.here hx rfl (hb hby dsp_31) rfl k) ?_
      show W (Tspc1.setTop (mkF m 32 #[.val (.ref a0), .val (.int p1), .val (.int x)] [(.int x)]))
      refine stp (fun t k => XS.aloadN Xspc1.here hx rfl (hb hby dsp_32) rfl rfl k) ?_
      show W (Tspc1.setTop (mkF m 33 #[.val (.ref a0), .val (.int p1), .val (.int x)] [(.ref a0), (.int x)]))
      obtain ⟨cqspc3, kqspc3, qspc3a, qspc3b, qspc3c⟩ := isOf hZ espc1 S_a0.1
      obtain ⟨_, _, ⟨Tspc3, Lspc3, kspc3, nspc3⟩, -, Xspc3, ⟨Lcspc3, hQspc3, lspc3, yspc3, zspc3⟩, stspc3⟩ := Xspc1.interfaceBack hx (xi := (⟨"java/lang/CharSequence", "length", "()I"⟩ : MethodName)) (y := (⟨"java/lang/String", "length", "()I"⟩ : MethodName)) hown (mvT hZ (hw _ (List.mem_of_getElem? (i := 30) rfl))) (mvT hZ (hw _ (List.mem_of_getElem? (i := 31) rfl))) (mvT hZ (hw _ (List.mem_of_getElem? (i := 32) rfl))) (mvT hZ (hw _ (List.mem_of_getElem? (i := 33) rfl))) (mvT hZ (hw _ (List.mem_of_getElem? (i := 34) rfl))) (mvT hZ (hw _ (List.mem_of_getElem? (i := 35) rfl))) (mvT hZ (hw _ (List.mem_of_getElem? (i := 36) rfl))) (mvT hZ (hw _ (List.mem_of_getElem? (i := 37) rfl))) (by decide) (backOf (W := 1) (rmlA l Z aa hw [] a0 wc sx b n g h' n0 ZL BW OL S_a0 hn) hZ (hw _ (List.mem_of_getElem? (i := 38) rfl)) (hw _ (List.mem_of_getElem? (i := 6) rfl)) (by decide) (by decide)) qspc3a qspc3b qspc3c (g := (mkF m 33 #[.val (.ref a0), .val (.int p1), .val (.int x)] [(.ref a0), (.int x)])) rfl (by rw [hml]; rfl) (Steps.refl _) (argsL := []) (rest := [(.int x)]) (lenOf pdsp_0 rfl) rfl (by show 2 * 0 + _ ≤ _; exact Nat.le_of_eq rfl) (hb hby dsp_33) (fun _ _ => ⟨rfl, espc1, (by decide : 0 + 0 ≤ _), (by decide : 0 + 0 ≤ _)⟩)
      dsimp only [Pt.U, Pt.locs, Pt.cells, Pt.slots] at Xspc3 lspc3 yspc3 zspc3 stspc3 hQspc3
      subst lspc3 yspc3 zspc3
      obtain ⟨rfl, Nspc3q, espc3⟩ := hQspc3
      have Nspc3 := Fr.app Nspc1 Nspc3q
      obtain ⟨lcspt4, Xspc3, Nspc3⟩ : ∃ lc, Stand p l e ({ frames := 5, cells := 0, slots := 0, locals := 66 } : Room) s m #[(.ref a0), (.int p1)] below meth c Tspc3 lc 0 0 ∧ Fr n0 lc := ⟨_, Xspc3, Nspc3⟩
      refine stp (fun t k => stspc3.trans k) ?_
      show W (Tspc3.setTop (mkF m 38 #[.val (.ref a0), .val (.int p1), .val (.int x)] [(.int (Int32.ofNat n)), (.int x)]))
      refine stp (fun t k => XS.icmpNo Xspc3.here hx rfl (hb hby dsp_38) rfl ((teq (by obtain rfl : i = n := (by omega); exact own_ofI hx2 (by omega))).2) k) ?_
      show W (Tspc3.setTop (mkF m 41 #[.val (.ref a0), .val (.int p1), .val (.int x)] []))
      refine stp (fun t k => XS.iconst Xspc3.here hx rfl (hb hby dsp_41) k) ?_
      show W (Tspc3.setTop (mkF m 42 #[.val (.ref a0), .val (.int p1), .val (.int x)] [(.int (1 : Int32))]))
      refine stp (fun t k => XS.goto Xspc3.here hx rfl (pc0 := 42) (pc' := 46) rfl (hb hby dsp_42) (by decide) (by decide) k) ?_
      show W (Tspc3.setTop (mkF m 46 #[.val (.ref a0), .val (.int p1), .val (.int x)] [(.int (1 : Int32))]))
      show W (Tspc3.setTop (mkF m 46 #[.val (.ref a0), .val (.int p1), .val (.int x)] [(.int (1 : Int32))]))
      rw [← hW]
      exact own_retN Xspc3 hx Bd.notSynchronized Bd.returns (w := (1 : Int32)) (by simp) (hb hby dsp_46) rfl (by show Qsp Z a0 p1 wc sx b n g f0 h0 n0 _ Tspc3.heap _; rw [espc3]; exact ⟨(by rw [← hE, show n - i = 0 from by omega]; rfl), Nspc3, hh⟩) (by decide) (by decide)
    | succ r ih =>
      intro i x T' lc h' hir hx2 hE hfi hh XL eL NL KL OL S_a0
      have ZL : n0 ≤ h'.size := Nat.le_trans Z0 KL.1
      show W (T'.setTop (mkF m 2 #[.val (.ref a0), .val (.int p1), .val (.int x)] []))
      refine stp (fun t k => XS.iloadN XL.here hx rfl (hb hby dsp_2) rfl k) ?_
      show W (T'.setTop (mkF m 3 #[.val (.ref a0), .val (.int p1), .val (.int x)] [(.int x)]))
      refine stp (fun t k => XS.aloadN XL.here hx rfl (hb hby dsp_3) rfl rfl k) ?_
      show W (T'.setTop (mkF m 4 #[.val (.ref a0), .val (.int p1), .val (.int x)] [(.ref a0), (.int x)]))
      obtain ⟨cqspc5, kqspc5, qspc5a, qspc5b, qspc5c⟩ := isOf hZ eL S_a0.1
      obtain ⟨_, _, ⟨Tspc5, Lspc5, kspc5, nspc5⟩, -, Xspc5, ⟨Lcspc5, hQspc5, lspc5, yspc5, zspc5⟩, stspc5⟩ := XL.interfaceBack hx (xi := (⟨"java/lang/CharSequence", "length", "()I"⟩ : MethodName)) (y := (⟨"java/lang/String", "length", "()I"⟩ : MethodName)) hown (mvT hZ (hw _ (List.mem_of_getElem? (i := 30) rfl))) (mvT hZ (hw _ (List.mem_of_getElem? (i := 31) rfl))) (mvT hZ (hw _ (List.mem_of_getElem? (i := 32) rfl))) (mvT hZ (hw _ (List.mem_of_getElem? (i := 33) rfl))) (mvT hZ (hw _ (List.mem_of_getElem? (i := 34) rfl))) (mvT hZ (hw _ (List.mem_of_getElem? (i := 35) rfl))) (mvT hZ (hw _ (List.mem_of_getElem? (i := 36) rfl))) (mvT hZ (hw _ (List.mem_of_getElem? (i := 37) rfl))) (by decide) (backOf (W := 1) (rmlA l Z aa hw [] a0 wc sx b n g h' n0 ZL BW OL S_a0 hn) hZ (hw _ (List.mem_of_getElem? (i := 38) rfl)) (hw _ (List.mem_of_getElem? (i := 6) rfl)) (by decide) (by decide)) qspc5a qspc5b qspc5c (g := (mkF m 4 #[.val (.ref a0), .val (.int p1), .val (.int x)] [(.ref a0), (.int x)])) rfl (by rw [hml]; rfl) (Steps.refl _) (argsL := []) (rest := [(.int x)]) (lenOf pdsp_0 rfl) rfl (by show 2 * 0 + _ ≤ _; exact Nat.le_of_eq rfl) (hb hby dsp_4) (fun _ _ => ⟨rfl, eL, (by decide : 0 + 0 ≤ _), (by decide : 0 + 0 ≤ _)⟩)
      dsimp only [Pt.U, Pt.locs, Pt.cells, Pt.slots] at Xspc5 lspc5 yspc5 zspc5 stspc5 hQspc5
      subst lspc5 yspc5 zspc5
      obtain ⟨rfl, Nspc5q, espc5⟩ := hQspc5
      have Nspc5 := Fr.app NL Nspc5q
      obtain ⟨lcspt6, Xspc5, Nspc5⟩ : ∃ lc, Stand p l e ({ frames := 5, cells := 0, slots := 0, locals := 66 } : Room) s m #[(.ref a0), (.int p1)] below meth c Tspc5 lc 0 0 ∧ Fr n0 lc := ⟨_, Xspc5, Nspc5⟩
      refine stp (fun t k => stspc5.trans k) ?_
      show W (Tspc5.setTop (mkF m 9 #[.val (.ref a0), .val (.int p1), .val (.int x)] [(.int (Int32.ofNat n)), (.int x)]))
      refine stp (fun t k => XS.icmpNo Xspc5.here hx rfl (hb hby dsp_9) rfl ((tlt ((own_lt32 hx2 hz).mpr (by omega))).2.1) k) ?_
      show W (Tspc5.setTop (mkF m 12 #[.val (.ref a0), .val (.int p1), .val (.int x)] []))
      refine stp (fun t k => XS.aloadN Xspc5.here hx rfl (hb hby dsp_12) rfl rfl k) ?_
      show W (Tspc5.setTop (mkF m 13 #[.val (.ref a0), .val (.int p1), .val (.int x)] [(.ref a0)]))
      refine stp (fun t k => XS.iloadN Xspc5.here hx rfl (hb hby dsp_13) rfl k) ?_
      show W (Tspc5.setTop (mkF m 14 #[.val (.ref a0), .val (.int p1), .val (.int x)] [(.int x), (.ref a0)]))
      obtain ⟨cqspc7, kqspc7, qspc7a, qspc7b, qspc7c⟩ := isOf hZ espc5 S_a0.1
      obtain ⟨_, _, ⟨Tspc7, Lspc7, kspc7, nspc7⟩, -, Xspc7, ⟨Lcspc7, hQspc7, lspc7, yspc7, zspc7⟩, stspc7⟩ := Xspc5.interfaceBack hx (xi := (⟨"java/lang/CharSequence", "charAt", "(I)C"⟩ : MethodName)) (y := (⟨"java/lang/String", "charAt", "(I)C"⟩ : MethodName)) hown (mvT hZ (hw _ (List.mem_of_getElem? (i := 58) rfl))) (mvT hZ (hw _ (List.mem_of_getElem? (i := 59) rfl))) (mvT hZ (hw _ (List.mem_of_getElem? (i := 60) rfl))) (mvT hZ (hw _ (List.mem_of_getElem? (i := 61) rfl))) (mvT hZ (hw _ (List.mem_of_getElem? (i := 62) rfl))) (mvT hZ (hw _ (List.mem_of_getElem? (i := 63) rfl))) (mvT hZ (hw _ (List.mem_of_getElem? (i := 64) rfl))) (mvT hZ (hw _ (List.mem_of_getElem? (i := 37) rfl))) (by decide) (backOf (W := 0) (rmcA l Z aa hw [] a0 x wc sx b n g i h' n0 ZL BW OL S_a0 hn hch hx2 (by omega)) hZ (hw _ (List.mem_of_getElem? (i := 65) rfl)) (hw _ (List.mem_of_getElem? (i := 6) rfl)) (by decide) (by decide)) qspc7a qspc7b qspc7c (g := (mkF m 14 #[.val (.ref a0), .val (.int p1), .val (.int x)] [(.int x), (.ref a0)])) rfl (by rw [hml]; rfl) (Steps.refl _) (argsL := [(.int x)]) (rest := []) (lenOf pdsp_1 rfl) rfl (by show 2 * 0 + _ ≤ _; exact Nat.le_of_eq rfl) (hb hby dsp_14) (fun _ _ => ⟨rfl, espc5, (by decide : 0 + 0 ≤ _), (by decide : 0 + 0 ≤ _)⟩)
      dsimp only [Pt.U, Pt.locs, Pt.cells, Pt.slots] at Xspc7 lspc7 yspc7 zspc7 stspc7 hQspc7
      subst lspc7 yspc7 zspc7
      obtain ⟨rfl, Nspc7q, espc7⟩ := hQspc7
      have Nspc7 := Fr.app Nspc5 Nspc7q
      obtain ⟨lcspt8, Xspc7, Nspc7⟩ : ∃ lc, Stand p l e ({ frames := 5, cells := 0, slots := 0, locals := 66 } : Room) s m #[(.ref a0), (.int p1)] below meth c Tspc7 lc 0 0 ∧ Fr n0 lc := ⟨_, Xspc7, Nspc7⟩
      refine stp (fun t k => stspc7.trans k) ?_
      show W (Tspc7.setTop (mkF m 19 #[.val (.ref a0), .val (.int p1), .val (.int x)] [(.int (g i))]))
      obtain ⟨_, _, ⟨Tspc9, Lspc9, kspc9, nspc9⟩, -, Xspc9, ⟨Lcspc9, hQspc9, lspc9, yspc9, zspc9⟩, stspc9⟩ := Jvm.LawKit.callS Xspc7 hx (y := (⟨"com/example/opuscule/opuscule/record/XmlSpace", "isSpace", "(I)Z"⟩ : MethodName)) hown (mvT hZ (hw _ (List.mem_of_getElem? (i := 83) rfl))) (mvT hZ (hw _ (List.mem_of_getElem? (i := 84) rfl))) (mvT hZ (hw _ (List.mem_of_getElem? (i := 28) rfl))) (mvT hZ (hw _ (List.mem_of_getElem? (i := 85) rfl))) (by decide) (backOf (W := 0) (rmis l Z aa hw [] (g i)  h' n0 ZL ) hZ (hw _ (List.mem_of_getElem? (i := 85) rfl)) (hw _ (List.mem_of_getElem? (i := 28) rfl)) (by decide) (by decide)) (g := (mkF m 19 #[.val (.ref a0), .val (.int p1), .val (.int x)] [(.int (g i))])) rfl (by rw [hml]; rfl) (argsL := [(.int (g i))]) (rest := []) (lenOf pdsp_2 rfl) rfl (by show 2 * 0 + _ ≤ _; exact Nat.le_of_eq rfl) (hb hby dsp_19) (fun _ _ => ⟨rfl, espc7, (by decide : 0 + 0 ≤ _), (by decide : 0 + 0 ≤ _)⟩)
      dsimp only [Pt.U, Pt.locs, Pt.cells, Pt.slots] at Xspc9 lspc9 yspc9 zspc9 stspc9 hQspc9
      subst lspc9 yspc9 zspc9
      obtain ⟨rfl, Nspc9q, espc9⟩ := hQspc9
      have Nspc9 := Fr.app Nspc7 Nspc9q
      obtain ⟨lcspt10, Xspc9, Nspc9⟩ : ∃ lc, Stand p l e ({ frames := 5, cells := 0, slots := 0, locals := 66 } : Room) s m #[(.ref a0), (.int p1)] below meth c Tspc9 lc 0 0 ∧ Fr n0 lc := ⟨_, Xspc9, Nspc9⟩
      refine stp (fun t k => stspc9 t k) ?_
      show W (Tspc9.setTop (mkF m 22 #[.val (.ref a0), .val (.int p1), .val (.int x)] [(.int (fis (g i)))]))
      by_cases hcsp_11 : (fis (g i)) = (0 : Int32)
      · refine stp (fun t k => XS.ifYes Xspc9.here hx rfl (pc0 := 22) (pc' := 31) rfl (hb hby dsp_22) rfl ((if0 _ _).trans (teq hcsp_11).1) (by decide) (by decide) k) ?_
        show W (Tspc9.setTop (mkF m 31 #[.val (.ref a0), .val (.int p1), .val (.int x)] []))
        refine stp (fun t k => XS.iloadN Xspc9.here hx rfl (hb hby dsp_31) rfl k) ?_
        show W (Tspc9.setTop (mkF m 32 #[.val (.ref a0), .val (.int p1), .val (.int x)] [(.int x)]))
        refine stp (fun t k => XS.aloadN Xspc9.here hx rfl (hb hby dsp_32) rfl rfl k) ?_
        show W (Tspc9.setTop (mkF m 33 #[.val (.ref a0), .val (.int p1), .val (.int x)] [(.ref a0), (.int x)]))
        obtain ⟨cqspc12, kqspc12, qspc12a, qspc12b, qspc12c⟩ := isOf hZ espc9 S_a0.1
        obtain ⟨_, _, ⟨Tspc12, Lspc12, kspc12, nspc12⟩, -, Xspc12, ⟨Lcspc12, hQspc12, lspc12, yspc12, zspc12⟩, stspc12⟩ := Xspc9.interfaceBack hx (xi := (⟨"java/lang/CharSequence", "length", "()I"⟩ : MethodName)) (y := (⟨"java/lang/String", "length", "()I"⟩ : MethodName)) hown (mvT hZ (hw _ (List.mem_of_getElem? (i := 30) rfl))) (mvT hZ (hw _ (List.mem_of_getElem? (i := 31) rfl))) (mvT hZ (hw _ (List.mem_of_getElem? (i := 32) rfl))) (mvT hZ (hw _ (List.mem_of_getElem? (i := 33) rfl))) (mvT hZ (hw _ (List.mem_of_getElem? (i := 34) rfl))) (mvT hZ (hw _ (List.mem_of_getElem? (i := 35) rfl))) (mvT hZ (hw _ (List.mem_of_getElem? (i := 36) rfl))) (mvT hZ (hw _ (List.mem_of_getElem? (i := 37) rfl))) (by decide) (backOf (W := 1) (rmlA l Z aa hw [] a0 wc sx b n g h' n0 ZL BW OL S_a0 hn) hZ (hw _ (List.mem_of_getElem? (i := 38) rfl)) (hw _ (List.mem_of_getElem? (i := 6) rfl)) (by decide) (by decide)) qspc12a qspc12b qspc12c (g := (mkF m 33 #[.val (.ref a0), .val (.int p1), .val (.int x)] [(.ref a0), (.int x)])) rfl (by rw [hml]; rfl) (Steps.refl _) (argsL := []) (rest := [(.int x)]) (lenOf pdsp_0 rfl) rfl (by show 2 * 0 + _ ≤ _; exact Nat.le_of_eq rfl) (hb hby dsp_33) (fun _ _ => ⟨rfl, espc9, (by decide : 0 + 0 ≤ _), (by decide : 0 + 0 ≤ _)⟩)
        dsimp only [Pt.U, Pt.locs, Pt.cells, Pt.slots] at Xspc12 lspc12 yspc12 zspc12 stspc12 hQspc12
        subst lspc12 yspc12 zspc12
        obtain ⟨rfl, Nspc12q, espc12⟩ := hQspc12
        have Nspc12 := Fr.app Nspc9 Nspc12q
        obtain ⟨lcspt13, Xspc12, Nspc12⟩ : ∃ lc, Stand p l e ({ frames := 5, cells := 0, slots := 0, locals := 66 } : Room) s m #[(.ref a0), (.int p1)] below meth c Tspc12 lc 0 0 ∧ Fr n0 lc := ⟨_, Xspc12, Nspc12⟩
        refine stp (fun t k => stspc12.trans k) ?_
        show W (Tspc12.setTop (mkF m 38 #[.val (.ref a0), .val (.int p1), .val (.int x)] [(.int (Int32.ofNat n)), (.int x)]))
        refine stp (fun t k => XS.icmpYes Xspc12.here hx rfl (pc0 := 38) (pc' := 45) rfl (hb hby dsp_38) rfl ((feq (fun q => by rw [q, hz] at hx2; omega)).2) (by decide) (by decide) k) ?_
        show W (Tspc12.setTop (mkF m 45 #[.val (.ref a0), .val (.int p1), .val (.int x)] []))
        refine stp (fun t k => XS.iconst Xspc12.here hx rfl (hb hby dsp_45) k) ?_
        show W (Tspc12.setTop (mkF m 46 #[.val (.ref a0), .val (.int p1), .val (.int x)] [(.int (0 : Int32))]))
        show W (Tspc12.setTop (mkF m 46 #[.val (.ref a0), .val (.int p1), .val (.int x)] [(.int (0 : Int32))]))
        rw [← hW]
        exact own_retN Xspc12 hx Bd.notSynchronized Bd.returns (w := (0 : Int32)) (by simp) (hb hby dsp_46) rfl (by show Qsp Z a0 p1 wc sx b n g f0 h0 n0 _ Tspc12.heap _; rw [espc12]; exact ⟨(by rw [← hE, own_spS (i := i) (by omega), if_pos hcsp_11]), Nspc12, hh⟩) (by decide) (by decide)
      · refine stp (fun t k => XS.ifNo Xspc9.here hx rfl (hb hby dsp_22) rfl ((if0 _ _).trans (feq hcsp_11).1) k) ?_
        show W (Tspc9.setTop (mkF m 25 #[.val (.ref a0), .val (.int p1), .val (.int x)] []))
        refine stp (fun t k => XS.iinc Xspc9.here hx rfl (hb hby dsp_25) rfl (l' := #[.val (.ref a0), .val (.int p1), .val (.int (x + (1 : Int32)))]) rfl k) ?_
        show W (Tspc9.setTop (mkF m 28 #[.val (.ref a0), .val (.int p1), .val (.int (x + (1 : Int32)))] []))
        refine stp (fun t k => XS.goto Xspc9.here hx rfl (pc0 := 28) (pc' := 2) rfl (hb hby dsp_28) (by decide) (by decide) k) ?_
        exact ih (i + 1) _ _ _ _ (by omega) (own_inc hx2 (by omega)) (by rw [← hE, own_spS (i := i) (by omega), if_neg hcsp_11]) (by omega) hh Xspc9 espc9 Nspc9 KL OL S_a0
  exact LP (n - f0) f0 _ _ _ _ (by omega) hp1 rfl (Nat.le_refl _) rfl X0 e0 N0 (Keep.refl h0 []) O0 S_a0
theorem pn0 : plainName "com/example/opuscule/opuscule/record/XmlSpaceIsSpace285PinLaw" = true := by first | (simp [plainName, overriddenIn]; done) | decide +kernel
theorem pd0_0 : parseMethodDescriptor "(ICCCC)Ljava/lang/String;" = some ⟨[.int, .char, .char, .char, .char], some (.object "java/lang/String")⟩ := by decide +kernel
theorem pd0_1 : parseMethodDescriptor "(C)Z" = some ⟨[.char], some .boolean⟩ := by decide +kernel
theorem pd0_2 : parseMethodDescriptor "(Ljava/lang/CharSequence;I)Z" = some ⟨[(.object "java/lang/CharSequence"), .int], some .boolean⟩ := by decide +kernel
theorem ef0 (m : MethodId) (p0 : Int32) (p1 : Int32) (p2 : Int32) (p3 : Int32) (p4 : Int32) : entryFrame m #[(.int p0), (.int p1), (.int p2), (.int p3), (.int p4)] maxLocals = mkF m 0 #[.val (.int p0), .val (.int p1), .val (.int p2), .val (.int p3), .val (.int p4), .unset, .unset, .unset, .unset, .unset, .unset, .unset, .unset, .unset, .unset, .unset, .unset] [] := by first | (simp [entryFrame, mkF, argsToLocals, Value.category, maxLocals]; done) | rfl
theorem own_0_15_2 (p0 : Int32) (p1 : Int32) (p2 : Int32) (p3 : Int32) (p4 : Int32) (wc : Int32) (sx : Value)  : ¬ ((((p0 &&& (7 : Int32)) % (5 : Int32)) + (1 : Int32)) = (0 : Int32)) := own_nz1 p0
def Q0 (Z : State) (p0 : Int32) (p1 : Int32) (p2 : Int32) (p3 : Int32) (p4 : Int32) (wc : Int32) (sx : Value) (h0 : Heap) (n0 : Nat) (v : Option Value) (h : Heap) (L : List Loc) : Prop := v = some (.int (1 : Int32)) ∧ Fr n0 L
set_option maxRecDepth 65536 in
set_option maxHeartbeats 40000000 in
theorem rm0 (l : Launch) (Z : State) (aa : Array Value) (hw : ∀ d ∈ tables_1, d.before aa Z = true) (ws : List Jvm.Cond) (p0 : Int32) (p1 : Int32) (p2 : Int32) (p3 : Int32) (p4 : Int32) (wc : Int32) (sx : Value) (h0 : Heap) (n0 : Nat) (Z0 : n0 ≤ h0.size) (BW : OwnW Z wc sx) (O0 : Old Z n0 h0) :
    MetFree l x (head1 (Jvm.Cond.code x code maxLocals ret :: ws) room_1) (fun a U => a = #[(.int p0), (.int p1), (.int p2), (.int p3), (.int p4)] ∧ Z.Warmed39 U.vm ∧ U.heap = h0 ∧ CHv Z ownEL U.vm h0) (fun _ _ _ _ _ => True) (fun _ U o U' => ∃ v L, o = .returned v ∧ Q0 Z p0 p1 p2 p3 p4 wc sx h0 n0 v U'.heap L ∧ CHr Z ownEL U.vm U.heap U'.vm U'.heap ∧ ReturnedEndW U o U' L room_1.cells room_1.slots) := by
  refine MetFree.of_bodySF (plainFor_of_name pn0) hisR ?_
  intro p e s m args below meth c s₁ Bd hml0 hP hK
  obtain ⟨rfl, hZ, hh, hH⟩ := hP
  have hx := Bd.exec
  have hby := Bd.bytes
  have hml : c.maxLocals = 17 := hml0
  have hown : s.vm.findClass "com/example/opuscule/opuscule/record/XmlSpaceIsSpace285PinLaw" = some m.cls := findClass_of_methodNamed Bd.named
  have hnm := (name_of_methodNamed Bd.named Bd.method).1
  have X0 : Stand p l e room_1 s m #[(.int p0), (.int p1), (.int p2), (.int p3), (.int p4)] below meth c s₁ [] 0 0 := Stand.of_body Bd
  have e0 : s₁.heap = h0 := by rw [← hh, Bd.state]; rfl
  have N0 := Fr.nil n0
  have hEL := own_EW hw
  obtain ⟨vm0, X0, CC, hZ, hown⟩ : ∃ vm, Stand p l e room_1 (s.setVm vm) m #[(.int p0), (.int p1), (.int p2), (.int p3), (.int p4)] below meth c s₁ [] 0 0 ∧ OwnC Z ownEL s vm h0 ∧ Z.Warmed39 (s.setVm vm).vm ∧ (s.setVm vm).vm.findClass "com/example/opuscule/opuscule/record/XmlSpaceIsSpace285PinLaw" = some m.cls := ⟨s.vm, X0, OwnC.start hh hH, hZ, hown⟩
  show OwnEndW Z ownEL p e below s (fun v h L => Q0 Z p0 p1 p2 p3 p4 wc sx h0 n0 v h L) room_1.cells room_1.slots (s₁.setTop (entryFrame m #[(.int p0), (.int p1), (.int p2), (.int p3), (.int p4)] maxLocals))
  rw [ef0 m p0 p1 p2 p3 p4]
  generalize hW : OwnEndW Z ownEL p e below s (fun v h L => Q0 Z p0 p1 p2 p3 p4 wc sx h0 n0 v h L) room_1.cells room_1.slots = W
  have stp : ∀ {A B : State}, (∀ t, Steps p.tables e below B t → Steps p.tables e below A t) → W B → W A := by subst hW; exact own_stepW
  obtain ⟨S_cs, hcs, S_si, hr_sx, S_ad, S_hi, S_lo⟩ := id BW
  show W (s₁.setTop (mkF m 0 #[.val (.int p0), .val (.int p1), .val (.int p2), .val (.int p3), .val (.int p4), .unset, .unset, .unset, .unset, .unset, .unset, .unset, .unset, .unset, .unset, .unset, .unset] []))
  refine stp (fun t k => XS.iloadN X0.here hx rfl (hb hby at_0) rfl k) ?_
  show W (s₁.setTop (mkF m 1 #[.val (.int p0), .val (.int p1), .val (.int p2), .val (.int p3), .val (.int p4), .unset, .unset, .unset, .unset, .unset, .unset, .unset, .unset, .unset, .unset, .unset, .unset] [(.int p0)]))
  refine stp (fun t k => XS.bipush X0.here hx rfl (hb hby at_1) k) ?_
  show W (s₁.setTop (mkF m 3 #[.val (.int p0), .val (.int p1), .val (.int p2), .val (.int p3), .val (.int p4), .unset, .unset, .unset, .unset, .unset, .unset, .unset, .unset, .unset, .unset, .unset, .unset] [(.int (7 : Int32)), (.int p0)]))
  refine stp (fun t k => XS.iand X0.here hx rfl (hb hby at_3) rfl k) ?_
  show W (s₁.setTop (mkF m 4 #[.val (.int p0), .val (.int p1), .val (.int p2), .val (.int p3), .val (.int p4), .unset, .unset, .unset, .unset, .unset, .unset, .unset, .unset, .unset, .unset, .unset, .unset] [(.int (p0 &&& (7 : Int32)))]))
  refine stp (fun t k => XS.iconst X0.here hx rfl (hb hby at_4) k) ?_
  show W (s₁.setTop (mkF m 5 #[.val (.int p0), .val (.int p1), .val (.int p2), .val (.int p3), .val (.int p4), .unset, .unset, .unset, .unset, .unset, .unset, .unset, .unset, .unset, .unset, .unset, .unset] [(.int (5 : Int32)), (.int (p0 &&& (7 : Int32)))]))
  refine stp (fun t k => iremM X0 hx rfl (hb hby at_5) rfl (by decide) k) ?_
  show W (s₁.setTop (mkF m 6 #[.val (.int p0), .val (.int p1), .val (.int p2), .val (.int p3), .val (.int p4), .unset, .unset, .unset, .unset, .unset, .unset, .unset, .unset, .unset, .unset, .unset, .unset] [(.int ((p0 &&& (7 : Int32)) % (5 : Int32)))]))
  refine stp (fun t k => XS.istore X0.here hx rfl (hb hby at_6) rfl (l' := #[.val (.int p0), .val (.int p1), .val (.int p2), .val (.int p3), .val (.int p4), .val (.int ((p0 &&& (7 : Int32)) % (5 : Int32))), .unset, .unset, .unset, .unset, .unset, .unset, .unset, .unset, .unset, .unset, .unset]) rfl k) ?_
  show W (s₁.setTop (mkF m 8 #[.val (.int p0), .val (.int p1), .val (.int p2), .val (.int p3), .val (.int p4), .val (.int ((p0 &&& (7 : Int32)) % (5 : Int32))), .unset, .unset, .unset, .unset, .unset, .unset, .unset, .unset, .unset, .unset, .unset] []))
  generalize hu0_1 : ((p0 &&& (7 : Int32)) % (5 : Int32)) = u0_1
  show W (s₁.setTop (mkF m 8 #[.val (.int p0), .val (.int p1), .val (.int p2), .val (.int p3), .val (.int p4), .val (.int u0_1), .unset, .unset, .unset, .unset, .unset, .unset, .unset, .unset, .unset, .unset, .unset] []))
  refine stp (fun t k => XS.iloadN X0.here hx rfl (hb hby at_8) rfl k) ?_
  show W (s₁.setTop (mkF m 9 #[.val (.int p0), .val (.int p1), .val (.int p2), .val (.int p3), .val (.int p4), .val (.int u0_1), .unset, .unset, .unset, .unset, .unset, .unset, .unset, .unset, .unset, .unset, .unset] [(.int p0)]))
  refine stp (fun t k => XS.iconst X0.here hx rfl (hb hby at_9) k) ?_
  show W (s₁.setTop (mkF m 10 #[.val (.int p0), .val (.int p1), .val (.int p2), .val (.int p3), .val (.int p4), .val (.int u0_1), .unset, .unset, .unset, .unset, .unset, .unset, .unset, .unset, .unset, .unset, .unset] [(.int (3 : Int32)), (.int p0)]))
  refine stp (fun t k => XS.iushr X0.here hx rfl (hb hby at_10) rfl k) ?_
  show W (s₁.setTop (mkF m 11 #[.val (.int p0), .val (.int p1), .val (.int p2), .val (.int p3), .val (.int p4), .val (.int u0_1), .unset, .unset, .unset, .unset, .unset, .unset, .unset, .unset, .unset, .unset, .unset] [(.int ((p0.toUInt32 >>> ((3 : Int32) &&& 31).toUInt32).toInt32))]))
  refine stp (fun t k => XS.iload X0.here hx rfl (hb hby at_11) rfl k) ?_
  show W (s₁.setTop (mkF m 13 #[.val (.int p0), .val (.int p1), .val (.int p2), .val (.int p3), .val (.int p4), .val (.int u0_1), .unset, .unset, .unset, .unset, .unset, .unset, .unset, .unset, .unset, .unset, .unset] [(.int u0_1), (.int ((p0.toUInt32 >>> ((3 : Int32) &&& 31).toUInt32).toInt32))]))
  refine stp (fun t k => XS.iconst X0.here hx rfl (hb hby at_13) k) ?_
  show W (s₁.setTop (mkF m 14 #[.val (.int p0), .val (.int p1), .val (.int p2), .val (.int p3), .val (.int p4), .val (.int u0_1), .unset, .unset, .unset, .unset, .unset, .unset, .unset, .unset, .unset, .unset, .unset] [(.int (1 : Int32)), (.int u0_1), (.int ((p0.toUInt32 >>> ((3 : Int32) &&& 31).toUInt32).toInt32))]))
  refine stp (fun t k => XS.iadd X0.here hx rfl (hb hby at_14) rfl k) ?_
  show W (s₁.setTop (mkF m 15 #[.val (.int p0), .val (.int p1), .val (.int p2), .val (.int p3), .val (.int p4), .val (.int u0_1), .unset, .unset, .unset, .unset, .unset, .unset, .unset, .unset, .unset, .unset, .unset] [(.int (u0_1 + (1 : Int32))), (.int ((p0.toUInt32 >>> ((3 : Int32) &&& 31).toUInt32).toInt32))]))
  refine stp (fun t k => iremM X0 hx rfl (hb hby at_15) rfl ((by subst hu0_1; exact own_0_15_2 p0 p1 p2 p3 p4 wc sx )) k) ?_
  show W (s₁.setTop (mkF m 16 #[.val (.int p0), .val (.int p1), .val (.int p2), .val (.int p3), .val (.int p4), .val (.int u0_1), .unset, .unset, .unset, .unset, .unset, .unset, .unset, .unset, .unset, .unset, .unset] [(.int (((p0.toUInt32 >>> ((3 : Int32) &&& 31).toUInt32).toInt32) % (u0_1 + (1 : Int32))))]))
  refine stp (fun t k => XS.istore X0.here hx rfl (hb hby at_16) rfl (l' := #[.val (.int p0), .val (.int p1), .val (.int p2), .val (.int p3), .val (.int p4), .val (.int u0_1), .val (.int (((p0.toUInt32 >>> ((3 : Int32) &&& 31).toUInt32).toInt32) % (u0_1 + (1 : Int32)))), .unset, .unset, .unset, .unset, .unset, .unset, .unset, .unset, .unset, .unset]) rfl k) ?_
  show W (s₁.setTop (mkF m 18 #[.val (.int p0), .val (.int p1), .val (.int p2), .val (.int p3), .val (.int p4), .val (.int u0_1), .val (.int (((p0.toUInt32 >>> ((3 : Int32) &&& 31).toUInt32).toInt32) % (u0_1 + (1 : Int32)))), .unset, .unset, .unset, .unset, .unset, .unset, .unset, .unset, .unset, .unset] []))
  generalize hu0_3 : (((p0.toUInt32 >>> ((3 : Int32) &&& 31).toUInt32).toInt32) % (u0_1 + (1 : Int32))) = u0_3
  show W (s₁.setTop (mkF m 18 #[.val (.int p0), .val (.int p1), .val (.int p2), .val (.int p3), .val (.int p4), .val (.int u0_1), .val (.int u0_3), .unset, .unset, .unset, .unset, .unset, .unset, .unset, .unset, .unset, .unset] []))
  refine stp (fun t k => XS.iloadN X0.here hx rfl (hb hby at_18) rfl k) ?_
  show W (s₁.setTop (mkF m 19 #[.val (.int p0), .val (.int p1), .val (.int p2), .val (.int p3), .val (.int p4), .val (.int u0_1), .val (.int u0_3), .unset, .unset, .unset, .unset, .unset, .unset, .unset, .unset, .unset, .unset] [(.int p1)]))
  refine stp (fun t k => XS.i2c X0.here hx rfl (hb hby at_19) rfl k) ?_
  show W (s₁.setTop (mkF m 20 #[.val (.int p0), .val (.int p1), .val (.int p2), .val (.int p3), .val (.int p4), .val (.int u0_1), .val (.int u0_3), .unset, .unset, .unset, .unset, .unset, .unset, .unset, .unset, .unset, .unset] [(.int (p1.toUInt32.toUInt16.toUInt32.toInt32))]))
  refine stp (fun t k => XS.istore X0.here hx rfl (hb hby at_20) rfl (l' := #[.val (.int p0), .val (.int p1), .val (.int p2), .val (.int p3), .val (.int p4), .val (.int u0_1), .val (.int u0_3), .val (.int (p1.toUInt32.toUInt16.toUInt32.toInt32)), .unset, .unset, .unset, .unset, .unset, .unset, .unset, .unset, .unset]) rfl k) ?_
  show W (s₁.setTop (mkF m 22 #[.val (.int p0), .val (.int p1), .val (.int p2), .val (.int p3), .val (.int p4), .val (.int u0_1), .val (.int u0_3), .val (.int (p1.toUInt32.toUInt16.toUInt32.toInt32)), .unset, .unset, .unset, .unset, .unset, .unset, .unset, .unset, .unset] []))
  generalize hu0_4 : (p1.toUInt32.toUInt16.toUInt32.toInt32) = u0_4
  show W (s₁.setTop (mkF m 22 #[.val (.int p0), .val (.int p1), .val (.int p2), .val (.int p3), .val (.int p4), .val (.int u0_1), .val (.int u0_3), .val (.int u0_4), .unset, .unset, .unset, .unset, .unset, .unset, .unset, .unset, .unset] []))
  refine stp (fun t k => XS.iloadN X0.here hx rfl (hb hby at_22) rfl k) ?_
  show W (s₁.setTop (mkF m 23 #[.val (.int p0), .val (.int p1), .val (.int p2), .val (.int p3), .val (.int p4), .val (.int u0_1), .val (.int u0_3), .val (.int u0_4), .unset, .unset, .unset, .unset, .unset, .unset, .unset, .unset, .unset] [(.int p2)]))
  refine stp (fun t k => XS.i2c X0.here hx rfl (hb hby at_23) rfl k) ?_
  show W (s₁.setTop (mkF m 24 #[.val (.int p0), .val (.int p1), .val (.int p2), .val (.int p3), .val (.int p4), .val (.int u0_1), .val (.int u0_3), .val (.int u0_4), .unset, .unset, .unset, .unset, .unset, .unset, .unset, .unset, .unset] [(.int (p2.toUInt32.toUInt16.toUInt32.toInt32))]))
  refine stp (fun t k => XS.istore X0.here hx rfl (hb hby at_24) rfl (l' := #[.val (.int p0), .val (.int p1), .val (.int p2), .val (.int p3), .val (.int p4), .val (.int u0_1), .val (.int u0_3), .val (.int u0_4), .val (.int (p2.toUInt32.toUInt16.toUInt32.toInt32)), .unset, .unset, .unset, .unset, .unset, .unset, .unset, .unset]) rfl k) ?_
  show W (s₁.setTop (mkF m 26 #[.val (.int p0), .val (.int p1), .val (.int p2), .val (.int p3), .val (.int p4), .val (.int u0_1), .val (.int u0_3), .val (.int u0_4), .val (.int (p2.toUInt32.toUInt16.toUInt32.toInt32)), .unset, .unset, .unset, .unset, .unset, .unset, .unset, .unset] []))
  generalize hu0_5 : (p2.toUInt32.toUInt16.toUInt32.toInt32) = u0_5
  show W (s₁.setTop (mkF m 26 #[.val (.int p0), .val (.int p1), .val (.int p2), .val (.int p3), .val (.int p4), .val (.int u0_1), .val (.int u0_3), .val (.int u0_4), .val (.int u0_5), .unset, .unset, .unset, .unset, .unset, .unset, .unset, .unset] []))
  refine stp (fun t k => XS.iloadN X0.here hx rfl (hb hby at_26) rfl k) ?_
  show W (s₁.setTop (mkF m 27 #[.val (.int p0), .val (.int p1), .val (.int p2), .val (.int p3), .val (.int p4), .val (.int u0_1), .val (.int u0_3), .val (.int u0_4), .val (.int u0_5), .unset, .unset, .unset, .unset, .unset, .unset, .unset, .unset] [(.int p3)]))
  refine stp (fun t k => XS.i2c X0.here hx rfl (hb hby at_27) rfl k) ?_
  show W (s₁.setTop (mkF m 28 #[.val (.int p0), .val (.int p1), .val (.int p2), .val (.int p3), .val (.int p4), .val (.int u0_1), .val (.int u0_3), .val (.int u0_4), .val (.int u0_5), .unset, .unset, .unset, .unset, .unset, .unset, .unset, .unset] [(.int (p3.toUInt32.toUInt16.toUInt32.toInt32))]))
  refine stp (fun t k => XS.istore X0.here hx rfl (hb hby at_28) rfl (l' := #[.val (.int p0), .val (.int p1), .val (.int p2), .val (.int p3), .val (.int p4), .val (.int u0_1), .val (.int u0_3), .val (.int u0_4), .val (.int u0_5), .val (.int (p3.toUInt32.toUInt16.toUInt32.toInt32)), .unset, .unset, .unset, .unset, .unset, .unset, .unset]) rfl k) ?_
  show W (s₁.setTop (mkF m 30 #[.val (.int p0), .val (.int p1), .val (.int p2), .val (.int p3), .val (.int p4), .val (.int u0_1), .val (.int u0_3), .val (.int u0_4), .val (.int u0_5), .val (.int (p3.toUInt32.toUInt16.toUInt32.toInt32)), .unset, .unset, .unset, .unset, .unset, .unset, .unset] []))
  generalize hu0_6 : (p3.toUInt32.toUInt16.toUInt32.toInt32) = u0_6
  show W (s₁.setTop (mkF m 30 #[.val (.int p0), .val (.int p1), .val (.int p2), .val (.int p3), .val (.int p4), .val (.int u0_1), .val (.int u0_3), .val (.int u0_4), .val (.int u0_5), .val (.int u0_6), .unset, .unset, .unset, .unset, .unset, .unset, .unset] []))
  refine stp (fun t k => XS.iload X0.here hx rfl (hb hby at_30) rfl k) ?_
  show W (s₁.setTop (mkF m 32 #[.val (.int p0), .val (.int p1), .val (.int p2), .val (.int p3), .val (.int p4), .val (.int u0_1), .val (.int u0_3), .val (.int u0_4), .val (.int u0_5), .val (.int u0_6), .unset, .unset, .unset, .unset, .unset, .unset, .unset] [(.int p4)]))
  refine stp (fun t k => XS.i2c X0.here hx rfl (hb hby at_32) rfl k) ?_
  show W (s₁.setTop (mkF m 33 #[.val (.int p0), .val (.int p1), .val (.int p2), .val (.int p3), .val (.int p4), .val (.int u0_1), .val (.int u0_3), .val (.int u0_4), .val (.int u0_5), .val (.int u0_6), .unset, .unset, .unset, .unset, .unset, .unset, .unset] [(.int (p4.toUInt32.toUInt16.toUInt32.toInt32))]))
  refine stp (fun t k => XS.istore X0.here hx rfl (hb hby at_33) rfl (l' := #[.val (.int p0), .val (.int p1), .val (.int p2), .val (.int p3), .val (.int p4), .val (.int u0_1), .val (.int u0_3), .val (.int u0_4), .val (.int u0_5), .val (.int u0_6), .val (.int (p4.toUInt32.toUInt16.toUInt32.toInt32)), .unset, .unset, .unset, .unset, .unset, .unset]) rfl k) ?_
  show W (s₁.setTop (mkF m 35 #[.val (.int p0), .val (.int p1), .val (.int p2), .val (.int p3), .val (.int p4), .val (.int u0_1), .val (.int u0_3), .val (.int u0_4), .val (.int u0_5), .val (.int u0_6), .val (.int (p4.toUInt32.toUInt16.toUInt32.toInt32)), .unset, .unset, .unset, .unset, .unset, .unset] []))
  generalize hu0_7 : (p4.toUInt32.toUInt16.toUInt32.toInt32) = u0_7
  show W (s₁.setTop (mkF m 35 #[.val (.int p0), .val (.int p1), .val (.int p2), .val (.int p3), .val (.int p4), .val (.int u0_1), .val (.int u0_3), .val (.int u0_4), .val (.int u0_5), .val (.int u0_6), .val (.int u0_7), .unset, .unset, .unset, .unset, .unset, .unset] []))
  have kc0 : nar .char u0_4 = u0_4 := by subst hu0_1; subst hu0_3; subst hu0_4; subst hu0_5; subst hu0_6; subst hu0_7; exact own_c16 _
  have kc1 : nar .char u0_5 = u0_5 := by subst hu0_1; subst hu0_3; subst hu0_4; subst hu0_5; subst hu0_6; subst hu0_7; exact own_c16 _
  have kc2 : nar .char u0_6 = u0_6 := by subst hu0_1; subst hu0_3; subst hu0_4; subst hu0_5; subst hu0_6; subst hu0_7; exact own_c16 _
  have kc3 : nar .char u0_7 = u0_7 := by subst hu0_1; subst hu0_3; subst hu0_4; subst hu0_5; subst hu0_6; subst hu0_7; exact own_c16 _
  obtain ⟨n, f0, hn, hn4, hf, hfn⟩ : ∃ n f0 : Nat, u0_1.toInt = (n : Int) ∧ n ≤ 4 ∧ u0_3.toInt = (f0 : Int) ∧ f0 ≤ n := by
    subst hu0_1; subst hu0_3; subst hu0_4; subst hu0_5; subst hu0_6; subst hu0_7; obtain ⟨n, h1, h2⟩ := own_N p0
    obtain ⟨f0, h3, h4⟩ := own_f p0 _ h1 h2
    exact ⟨n, f0, h1, h2, h3, h4⟩
  show W (s₁.setTop (mkF m 35 #[.val (.int p0), .val (.int p1), .val (.int p2), .val (.int p3), .val (.int p4), .val (.int u0_1), .val (.int u0_3), .val (.int u0_4), .val (.int u0_5), .val (.int u0_6), .val (.int u0_7), .unset, .unset, .unset, .unset, .unset, .unset] []))
  refine stp (fun t k => XS.iload X0.here hx rfl (hb hby at_35) rfl k) ?_
  show W (s₁.setTop (mkF m 37 #[.val (.int p0), .val (.int p1), .val (.int p2), .val (.int p3), .val (.int p4), .val (.int u0_1), .val (.int u0_3), .val (.int u0_4), .val (.int u0_5), .val (.int u0_6), .val (.int u0_7), .unset, .unset, .unset, .unset, .unset, .unset] [(.int u0_1)]))
  refine stp (fun t k => XS.iload X0.here hx rfl (hb hby at_37) rfl k) ?_
  show W (s₁.setTop (mkF m 39 #[.val (.int p0), .val (.int p1), .val (.int p2), .val (.int p3), .val (.int p4), .val (.int u0_1), .val (.int u0_3), .val (.int u0_4), .val (.int u0_5), .val (.int u0_6), .val (.int u0_7), .unset, .unset, .unset, .unset, .unset, .unset] [(.int u0_4), (.int u0_1)]))
  refine stp (fun t k => XS.iload X0.here hx rfl (hb hby at_39) rfl k) ?_
  show W (s₁.setTop (mkF m 41 #[.val (.int p0), .val (.int p1), .val (.int p2), .val (.int p3), .val (.int p4), .val (.int u0_1), .val (.int u0_3), .val (.int u0_4), .val (.int u0_5), .val (.int u0_6), .val (.int u0_7), .unset, .unset, .unset, .unset, .unset, .unset] [(.int u0_5), (.int u0_4), (.int u0_1)]))
  refine stp (fun t k => XS.iload X0.here hx rfl (hb hby at_41) rfl k) ?_
  show W (s₁.setTop (mkF m 43 #[.val (.int p0), .val (.int p1), .val (.int p2), .val (.int p3), .val (.int p4), .val (.int u0_1), .val (.int u0_3), .val (.int u0_4), .val (.int u0_5), .val (.int u0_6), .val (.int u0_7), .unset, .unset, .unset, .unset, .unset, .unset] [(.int u0_6), (.int u0_5), (.int u0_4), (.int u0_1)]))
  refine stp (fun t k => XS.iload X0.here hx rfl (hb hby at_43) rfl k) ?_
  show W (s₁.setTop (mkF m 45 #[.val (.int p0), .val (.int p1), .val (.int p2), .val (.int p3), .val (.int p4), .val (.int u0_1), .val (.int u0_3), .val (.int u0_4), .val (.int u0_5), .val (.int u0_6), .val (.int u0_7), .unset, .unset, .unset, .unset, .unset, .unset] [(.int u0_7), (.int u0_6), (.int u0_5), (.int u0_4), (.int u0_1)]))
  obtain ⟨_, _, ⟨T0c8, L0c8, k0c8, n0c8⟩, -, X0c8, hS0c8, hG0c8, ⟨Lc0c8, hQ0c8, l0c8, y0c8, z0c8, hC0c8⟩, st0c8⟩ := callSS X0 hx (y := (⟨"com/example/opuscule/opuscule/record/XmlSpaceIsSpace285PinLaw", "make", "(ICCCC)Ljava/lang/String;"⟩ : MethodName)) hown (mvT hZ (hw _ (List.mem_of_getElem? (i := 0) rfl))) (mvT hZ (hw _ (List.mem_of_getElem? (i := 1) rfl))) (mvT hZ (hw _ (List.mem_of_getElem? (i := 2) rfl))) (mvT hZ (hw _ (List.mem_of_getElem? (i := 3) rfl))) (by decide) (backOfSH (W := 0) (rmmk l Z aa hw [] u0_1 u0_4 u0_5 u0_6 u0_7 wc sx n h0 n0 Z0 BW O0 hn hn4) hZ (hw _ (List.mem_of_getElem? (i := 3) rfl)) (hw _ (List.mem_of_getElem? (i := 2) rfl)) (by decide) (by decide) hEL CC.2.1) (g := (mkF m 45 #[.val (.int p0), .val (.int p1), .val (.int p2), .val (.int p3), .val (.int p4), .val (.int u0_1), .val (.int u0_3), .val (.int u0_4), .val (.int u0_5), .val (.int u0_6), .val (.int u0_7), .unset, .unset, .unset, .unset, .unset, .unset] [(.int u0_7), (.int u0_6), (.int u0_5), (.int u0_4), (.int u0_1)])) rfl (by rw [hml]; rfl) (argsL := [(.int u0_1), (.int u0_4), (.int u0_5), (.int u0_6), (.int u0_7)]) (rest := []) (lenOf pd0_0 rfl) rfl (by show 2 * 0 + _ ≤ _; exact Nat.le_of_eq rfl) (hb hby at_45) (fun _ _ => ⟨rfl, e0, (by decide : 0 + 6 ≤ _), (by decide : 0 + 20 ≤ _)⟩)
  dsimp only [Pt.U, Pt.locs, Pt.cells, Pt.slots] at X0c8 l0c8 y0c8 z0c8 st0c8 hQ0c8
  subst l0c8 y0c8 z0c8
  obtain ⟨a0c8, b0c8, rfl, N0c8q, Kq0c8, S_0c8⟩ := hQ0c8
  have N0c8 := Fr.app N0 N0c8q
  dsimp only [Pt.U] at hS0c8 hG0c8 hC0c8
  rw [e0] at hG0c8
  obtain ⟨vm0c8, ⟨lc0c8, X0c8, N0c8⟩, CC0c8, hZ, hown⟩ : ∃ vm, (∃ lc, Stand p l e room_1 (s.setVm vm) m #[(.int p0), (.int p1), (.int p2), (.int p3), (.int p4)] below meth c T0c8 lc 6 20 ∧ Fr n0 lc) ∧ OwnC Z ownEL s vm T0c8.heap ∧ Z.Warmed39 (s.setVm vm).vm ∧ (s.setVm vm).vm.findClass "com/example/opuscule/opuscule/record/XmlSpaceIsSpace285PinLaw" = some m.cls := ⟨_, ⟨_, X0c8, N0c8⟩, CC.reb hS0c8 hG0c8 hC0c8, State.Warmed39.trans hZ hS0c8.1, (hS0c8.1.alike.findClass _ _).trans hown⟩
  replace CC := CC0c8
  obtain ⟨h0c8, e0c8⟩ : ∃ h, T0c8.heap = h := ⟨_, rfl⟩
  rw [e0c8] at Kq0c8 S_0c8 CC
  have KK0c8 := Keep.trans (Keep.refl h0 []) Kq0c8 all0
  have Z0c8 := Nat.le_trans Z0 Kq0c8.1
  have O0c8 := O0.keep Kq0c8 all0
  refine stp (fun t k => st0c8.trans k) ?_
  show W (T0c8.setTop (mkF m 48 #[.val (.int p0), .val (.int p1), .val (.int p2), .val (.int p3), .val (.int p4), .val (.int u0_1), .val (.int u0_3), .val (.int u0_4), .val (.int u0_5), .val (.int u0_6), .val (.int u0_7), .unset, .unset, .unset, .unset, .unset, .unset] [(.ref a0c8)]))
  refine stp (fun t k => XS.astore X0c8.here hx rfl (hb hby at_48) rfl rfl (l' := #[.val (.int p0), .val (.int p1), .val (.int p2), .val (.int p3), .val (.int p4), .val (.int u0_1), .val (.int u0_3), .val (.int u0_4), .val (.int u0_5), .val (.int u0_6), .val (.int u0_7), .val (.ref a0c8), .unset, .unset, .unset, .unset, .unset]) rfl k) ?_
  show W (T0c8.setTop (mkF m 50 #[.val (.int p0), .val (.int p1), .val (.int p2), .val (.int p3), .val (.int p4), .val (.int u0_1), .val (.int u0_3), .val (.int u0_4), .val (.int u0_5), .val (.int u0_6), .val (.int u0_7), .val (.ref a0c8), .unset, .unset, .unset, .unset, .unset] []))
  refine stp (fun t k => XS.iconst X0c8.here hx rfl (hb hby at_50) k) ?_
  show W (T0c8.setTop (mkF m 51 #[.val (.int p0), .val (.int p1), .val (.int p2), .val (.int p3), .val (.int p4), .val (.int u0_1), .val (.int u0_3), .val (.int u0_4), .val (.int u0_5), .val (.int u0_6), .val (.int u0_7), .val (.ref a0c8), .unset, .unset, .unset, .unset, .unset] [(.int (0 : Int32))]))
  refine stp (fun t k => XS.iload X0c8.here hx rfl (hb hby at_51) rfl k) ?_
  show W (T0c8.setTop (mkF m 53 #[.val (.int p0), .val (.int p1), .val (.int p2), .val (.int p3), .val (.int p4), .val (.int u0_1), .val (.int u0_3), .val (.int u0_4), .val (.int u0_5), .val (.int u0_6), .val (.int u0_7), .val (.ref a0c8), .unset, .unset, .unset, .unset, .unset] [(.int u0_3), (.int (0 : Int32))]))
  have J0_75_15 : ∀ (T015 : State) (lc015 : List Loc) (v0_14 : Int32) (hv0_14 : v0_14 = (if (0 : Int32) < u0_3 then (1 : Int32) else (if (0 : Int32) < u0_1 then (if (fws u0_4) = (0 : Int32) then (0 : Int32) else (1 : Int32)) else (1 : Int32)))) (X015 : Stand p l e room_1 (s.setVm vm0c8) m #[(.int p0), (.int p1), (.int p2), (.int p3), (.int p4)] below meth c T015 lc015 6 20) (e015 : T015.heap = h0c8) (N015 : Fr n0 lc015), W (T015.setTop (mkF m 75 #[.val (.int p0), .val (.int p1), .val (.int p2), .val (.int p3), .val (.int p4), .val (.int u0_1), .val (.int u0_3), .val (.int u0_4), .val (.int u0_5), .val (.int u0_6), .val (.int u0_7), .val (.ref a0c8), .unset, .unset, .unset, .unset, .unset] [(.int v0_14)])) := by
    intro T015 lc015 v0_14 hv0_14  X015 e015 N015
    show W (T015.setTop (mkF m 75 #[.val (.int p0), .val (.int p1), .val (.int p2), .val (.int p3), .val (.int p4), .val (.int u0_1), .val (.int u0_3), .val (.int u0_4), .val (.int u0_5), .val (.int u0_6), .val (.int u0_7), .val (.ref a0c8), .unset, .unset, .unset, .unset, .unset] [(.int v0_14)]))
    refine stp (fun t k => XS.istore X015.here hx rfl (hb hby at_75) rfl (l' := #[.val (.int p0), .val (.int p1), .val (.int p2), .val (.int p3), .val (.int p4), .val (.int u0_1), .val (.int u0_3), .val (.int u0_4), .val (.int u0_5), .val (.int u0_6), .val (.int u0_7), .val (.ref a0c8), .val (.int v0_14), .unset, .unset, .unset, .unset]) rfl k) ?_
    show W (T015.setTop (mkF m 77 #[.val (.int p0), .val (.int p1), .val (.int p2), .val (.int p3), .val (.int p4), .val (.int u0_1), .val (.int u0_3), .val (.int u0_4), .val (.int u0_5), .val (.int u0_6), .val (.int u0_7), .val (.ref a0c8), .val (.int v0_14), .unset, .unset, .unset, .unset] []))
    refine stp (fun t k => XS.iconst X015.here hx rfl (hb hby at_77) k) ?_
    show W (T015.setTop (mkF m 78 #[.val (.int p0), .val (.int p1), .val (.int p2), .val (.int p3), .val (.int p4), .val (.int u0_1), .val (.int u0_3), .val (.int u0_4), .val (.int u0_5), .val (.int u0_6), .val (.int u0_7), .val (.ref a0c8), .val (.int v0_14), .unset, .unset, .unset, .unset] [(.int (1 : Int32))]))
    refine stp (fun t k => XS.iload X015.here hx rfl (hb hby at_78) rfl k) ?_
    show W (T015.setTop (mkF m 80 #[.val (.int p0), .val (.int p1), .val (.int p2), .val (.int p3), .val (.int p4), .val (.int u0_1), .val (.int u0_3), .val (.int u0_4), .val (.int u0_5), .val (.int u0_6), .val (.int u0_7), .val (.ref a0c8), .val (.int v0_14), .unset, .unset, .unset, .unset] [(.int u0_3), (.int (1 : Int32))]))
    have J0_102_22 : ∀ (T022 : State) (lc022 : List Loc) (v0_21 : Int32) (hv0_21 : v0_21 = (if (1 : Int32) < u0_3 then (1 : Int32) else (if (1 : Int32) < u0_1 then (if (fws u0_5) = (0 : Int32) then (0 : Int32) else (1 : Int32)) else (1 : Int32)))) (X022 : Stand p l e room_1 (s.setVm vm0c8) m #[(.int p0), (.int p1), (.int p2), (.int p3), (.int p4)] below meth c T022 lc022 6 20) (e022 : T022.heap = h0c8) (N022 : Fr n0 lc022), W (T022.setTop (mkF m 102 #[.val (.int p0), .val (.int p1), .val (.int p2), .val (.int p3), .val (.int p4), .val (.int u0_1), .val (.int u0_3), .val (.int u0_4), .val (.int u0_5), .val (.int u0_6), .val (.int u0_7), .val (.ref a0c8), .val (.int v0_14), .unset, .unset, .unset, .unset] [(.int v0_21)])) := by
      intro T022 lc022 v0_21 hv0_21  X022 e022 N022
      show W (T022.setTop (mkF m 102 #[.val (.int p0), .val (.int p1), .val (.int p2), .val (.int p3), .val (.int p4), .val (.int u0_1), .val (.int u0_3), .val (.int u0_4), .val (.int u0_5), .val (.int u0_6), .val (.int u0_7), .val (.ref a0c8), .val (.int v0_14), .unset, .unset, .unset, .unset] [(.int v0_21)]))
      refine stp (fun t k => XS.istore X022.here hx rfl (hb hby at_102) rfl (l' := #[.val (.int p0), .val (.int p1), .val (.int p2), .val (.int p3), .val (.int p4), .val (.int u0_1), .val (.int u0_3), .val (.int u0_4), .val (.int u0_5), .val (.int u0_6), .val (.int u0_7), .val (.ref a0c8), .val (.int v0_14), .val (.int v0_21), .unset, .unset, .unset]) rfl k) ?_
      show W (T022.setTop (mkF m 104 #[.val (.int p0), .val (.int p1), .val (.int p2), .val (.int p3), .val (.int p4), .val (.int u0_1), .val (.int u0_3), .val (.int u0_4), .val (.int u0_5), .val (.int u0_6), .val (.int u0_7), .val (.ref a0c8), .val (.int v0_14), .val (.int v0_21), .unset, .unset, .unset] []))
      refine stp (fun t k => XS.iconst X022.here hx rfl (hb hby at_104) k) ?_
      show W (T022.setTop (mkF m 105 #[.val (.int p0), .val (.int p1), .val (.int p2), .val (.int p3), .val (.int p4), .val (.int u0_1), .val (.int u0_3), .val (.int u0_4), .val (.int u0_5), .val (.int u0_6), .val (.int u0_7), .val (.ref a0c8), .val (.int v0_14), .val (.int v0_21), .unset, .unset, .unset] [(.int (2 : Int32))]))
      refine stp (fun t k => XS.iload X022.here hx rfl (hb hby at_105) rfl k) ?_
      show W (T022.setTop (mkF m 107 #[.val (.int p0), .val (.int p1), .val (.int p2), .val (.int p3), .val (.int p4), .val (.int u0_1), .val (.int u0_3), .val (.int u0_4), .val (.int u0_5), .val (.int u0_6), .val (.int u0_7), .val (.ref a0c8), .val (.int v0_14), .val (.int v0_21), .unset, .unset, .unset] [(.int u0_3), (.int (2 : Int32))]))
      have J0_129_29 : ∀ (T029 : State) (lc029 : List Loc) (v0_28 : Int32) (hv0_28 : v0_28 = (if (2 : Int32) < u0_3 then (1 : Int32) else (if (2 : Int32) < u0_1 then (if (fws u0_6) = (0 : Int32) then (0 : Int32) else (1 : Int32)) else (1 : Int32)))) (X029 : Stand p l e room_1 (s.setVm vm0c8) m #[(.int p0), (.int p1), (.int p2), (.int p3), (.int p4)] below meth c T029 lc029 6 20) (e029 : T029.heap = h0c8) (N029 : Fr n0 lc029), W (T029.setTop (mkF m 129 #[.val (.int p0), .val (.int p1), .val (.int p2), .val (.int p3), .val (.int p4), .val (.int u0_1), .val (.int u0_3), .val (.int u0_4), .val (.int u0_5), .val (.int u0_6), .val (.int u0_7), .val (.ref a0c8), .val (.int v0_14), .val (.int v0_21), .unset, .unset, .unset] [(.int v0_28)])) := by
        intro T029 lc029 v0_28 hv0_28  X029 e029 N029
        show W (T029.setTop (mkF m 129 #[.val (.int p0), .val (.int p1), .val (.int p2), .val (.int p3), .val (.int p4), .val (.int u0_1), .val (.int u0_3), .val (.int u0_4), .val (.int u0_5), .val (.int u0_6), .val (.int u0_7), .val (.ref a0c8), .val (.int v0_14), .val (.int v0_21), .unset, .unset, .unset] [(.int v0_28)]))
        refine stp (fun t k => XS.istore X029.here hx rfl (hb hby at_129) rfl (l' := #[.val (.int p0), .val (.int p1), .val (.int p2), .val (.int p3), .val (.int p4), .val (.int u0_1), .val (.int u0_3), .val (.int u0_4), .val (.int u0_5), .val (.int u0_6), .val (.int u0_7), .val (.ref a0c8), .val (.int v0_14), .val (.int v0_21), .val (.int v0_28), .unset, .unset]) rfl k) ?_
        show W (T029.setTop (mkF m 131 #[.val (.int p0), .val (.int p1), .val (.int p2), .val (.int p3), .val (.int p4), .val (.int u0_1), .val (.int u0_3), .val (.int u0_4), .val (.int u0_5), .val (.int u0_6), .val (.int u0_7), .val (.ref a0c8), .val (.int v0_14), .val (.int v0_21), .val (.int v0_28), .unset, .unset] []))
        refine stp (fun t k => XS.iconst X029.here hx rfl (hb hby at_131) k) ?_
        show W (T029.setTop (mkF m 132 #[.val (.int p0), .val (.int p1), .val (.int p2), .val (.int p3), .val (.int p4), .val (.int u0_1), .val (.int u0_3), .val (.int u0_4), .val (.int u0_5), .val (.int u0_6), .val (.int u0_7), .val (.ref a0c8), .val (.int v0_14), .val (.int v0_21), .val (.int v0_28), .unset, .unset] [(.int (3 : Int32))]))
        refine stp (fun t k => XS.iload X029.here hx rfl (hb hby at_132) rfl k) ?_
        show W (T029.setTop (mkF m 134 #[.val (.int p0), .val (.int p1), .val (.int p2), .val (.int p3), .val (.int p4), .val (.int u0_1), .val (.int u0_3), .val (.int u0_4), .val (.int u0_5), .val (.int u0_6), .val (.int u0_7), .val (.ref a0c8), .val (.int v0_14), .val (.int v0_21), .val (.int v0_28), .unset, .unset] [(.int u0_3), (.int (3 : Int32))]))
        have J0_156_36 : ∀ (T036 : State) (lc036 : List Loc) (v0_35 : Int32) (hv0_35 : v0_35 = (if (3 : Int32) < u0_3 then (1 : Int32) else (if (3 : Int32) < u0_1 then (if (fws u0_7) = (0 : Int32) then (0 : Int32) else (1 : Int32)) else (1 : Int32)))) (X036 : Stand p l e room_1 (s.setVm vm0c8) m #[(.int p0), (.int p1), (.int p2), (.int p3), (.int p4)] below meth c T036 lc036 6 20) (e036 : T036.heap = h0c8) (N036 : Fr n0 lc036), W (T036.setTop (mkF m 156 #[.val (.int p0), .val (.int p1), .val (.int p2), .val (.int p3), .val (.int p4), .val (.int u0_1), .val (.int u0_3), .val (.int u0_4), .val (.int u0_5), .val (.int u0_6), .val (.int u0_7), .val (.ref a0c8), .val (.int v0_14), .val (.int v0_21), .val (.int v0_28), .unset, .unset] [(.int v0_35)])) := by
          intro T036 lc036 v0_35 hv0_35  X036 e036 N036
          show W (T036.setTop (mkF m 156 #[.val (.int p0), .val (.int p1), .val (.int p2), .val (.int p3), .val (.int p4), .val (.int u0_1), .val (.int u0_3), .val (.int u0_4), .val (.int u0_5), .val (.int u0_6), .val (.int u0_7), .val (.ref a0c8), .val (.int v0_14), .val (.int v0_21), .val (.int v0_28), .unset, .unset] [(.int v0_35)]))
          refine stp (fun t k => XS.istore X036.here hx rfl (hb hby at_156) rfl (l' := #[.val (.int p0), .val (.int p1), .val (.int p2), .val (.int p3), .val (.int p4), .val (.int u0_1), .val (.int u0_3), .val (.int u0_4), .val (.int u0_5), .val (.int u0_6), .val (.int u0_7), .val (.ref a0c8), .val (.int v0_14), .val (.int v0_21), .val (.int v0_28), .val (.int v0_35), .unset]) rfl k) ?_
          show W (T036.setTop (mkF m 158 #[.val (.int p0), .val (.int p1), .val (.int p2), .val (.int p3), .val (.int p4), .val (.int u0_1), .val (.int u0_3), .val (.int u0_4), .val (.int u0_5), .val (.int u0_6), .val (.int u0_7), .val (.ref a0c8), .val (.int v0_14), .val (.int v0_21), .val (.int v0_28), .val (.int v0_35), .unset] []))
          refine stp (fun t k => XS.iload X036.here hx rfl (hb hby at_158) rfl k) ?_
          show W (T036.setTop (mkF m 160 #[.val (.int p0), .val (.int p1), .val (.int p2), .val (.int p3), .val (.int p4), .val (.int u0_1), .val (.int u0_3), .val (.int u0_4), .val (.int u0_5), .val (.int u0_6), .val (.int u0_7), .val (.ref a0c8), .val (.int v0_14), .val (.int v0_21), .val (.int v0_28), .val (.int v0_35), .unset] [(.int v0_14)]))
          have J0_183_42 : ∀ (T042 : State) (lc042 : List Loc) (v0_41 : Int32) (hv0_41 : v0_41 = (if v0_14 = (0 : Int32) then (0 : Int32) else (if v0_21 = (0 : Int32) then (0 : Int32) else (if v0_28 = (0 : Int32) then (0 : Int32) else (if v0_35 = (0 : Int32) then (0 : Int32) else (1 : Int32)))))) (X042 : Stand p l e room_1 (s.setVm vm0c8) m #[(.int p0), (.int p1), (.int p2), (.int p3), (.int p4)] below meth c T042 lc042 6 20) (e042 : T042.heap = h0c8) (N042 : Fr n0 lc042), W (T042.setTop (mkF m 183 #[.val (.int p0), .val (.int p1), .val (.int p2), .val (.int p3), .val (.int p4), .val (.int u0_1), .val (.int u0_3), .val (.int u0_4), .val (.int u0_5), .val (.int u0_6), .val (.int u0_7), .val (.ref a0c8), .val (.int v0_14), .val (.int v0_21), .val (.int v0_28), .val (.int v0_35), .unset] [(.int v0_41)])) := by
            intro T042 lc042 v0_41 hv0_41  X042 e042 N042
            show W (T042.setTop (mkF m 183 #[.val (.int p0), .val (.int p1), .val (.int p2), .val (.int p3), .val (.int p4), .val (.int u0_1), .val (.int u0_3), .val (.int u0_4), .val (.int u0_5), .val (.int u0_6), .val (.int u0_7), .val (.ref a0c8), .val (.int v0_14), .val (.int v0_21), .val (.int v0_28), .val (.int v0_35), .unset] [(.int v0_41)]))
            refine stp (fun t k => XS.istore X042.here hx rfl (hb hby at_183) rfl (l' := #[.val (.int p0), .val (.int p1), .val (.int p2), .val (.int p3), .val (.int p4), .val (.int u0_1), .val (.int u0_3), .val (.int u0_4), .val (.int u0_5), .val (.int u0_6), .val (.int u0_7), .val (.ref a0c8), .val (.int v0_14), .val (.int v0_21), .val (.int v0_28), .val (.int v0_35), .val (.int v0_41)]) rfl k) ?_
            show W (T042.setTop (mkF m 185 #[.val (.int p0), .val (.int p1), .val (.int p2), .val (.int p3), .val (.int p4), .val (.int u0_1), .val (.int u0_3), .val (.int u0_4), .val (.int u0_5), .val (.int u0_6), .val (.int u0_7), .val (.ref a0c8), .val (.int v0_14), .val (.int v0_21), .val (.int v0_28), .val (.int v0_35), .val (.int v0_41)] []))
            refine stp (fun t k => XS.aload X042.here hx rfl (hb hby at_185) rfl rfl k) ?_
            show W (T042.setTop (mkF m 187 #[.val (.int p0), .val (.int p1), .val (.int p2), .val (.int p3), .val (.int p4), .val (.int u0_1), .val (.int u0_3), .val (.int u0_4), .val (.int u0_5), .val (.int u0_6), .val (.int u0_7), .val (.ref a0c8), .val (.int v0_14), .val (.int v0_21), .val (.int v0_28), .val (.int v0_35), .val (.int v0_41)] [(.ref a0c8)]))
            refine stp (fun t k => XS.iload X042.here hx rfl (hb hby at_187) rfl k) ?_
            show W (T042.setTop (mkF m 189 #[.val (.int p0), .val (.int p1), .val (.int p2), .val (.int p3), .val (.int p4), .val (.int u0_1), .val (.int u0_3), .val (.int u0_4), .val (.int u0_5), .val (.int u0_6), .val (.int u0_7), .val (.ref a0c8), .val (.int v0_14), .val (.int v0_21), .val (.int v0_28), .val (.int v0_35), .val (.int v0_41)] [(.int u0_3), (.ref a0c8)]))
            obtain ⟨_, _, ⟨T0c43, L0c43, k0c43, n0c43⟩, -, X0c43, ⟨Lc0c43, hQ0c43, l0c43, y0c43, z0c43⟩, st0c43⟩ := Jvm.LawKit.callS X042 hx (y := (⟨"com/example/opuscule/opuscule/record/XmlSpace", "isSpace", "(Ljava/lang/CharSequence;I)Z"⟩ : MethodName)) hown (mvT hZ (hw _ (List.mem_of_getElem? (i := 26) rfl))) (mvT hZ (hw _ (List.mem_of_getElem? (i := 27) rfl))) (mvT hZ (hw _ (List.mem_of_getElem? (i := 28) rfl))) (mvT hZ (hw _ (List.mem_of_getElem? (i := 29) rfl))) (by decide) (backOf (W := 0) (rmsp l Z aa hw [] a0c8 u0_3 wc sx b0c8 n (own_g4 u0_4 u0_5 u0_6 u0_7) f0 h0c8 n0 Z0c8 BW O0c8 S_0c8 (Nat.le_trans hn4 (by decide)) (own_g4R u0_4 u0_5 u0_6 u0_7 n hn4) hf hfn) hZ (hw _ (List.mem_of_getElem? (i := 29) rfl)) (hw _ (List.mem_of_getElem? (i := 28) rfl)) (by decide) (by decide)) (g := (mkF m 189 #[.val (.int p0), .val (.int p1), .val (.int p2), .val (.int p3), .val (.int p4), .val (.int u0_1), .val (.int u0_3), .val (.int u0_4), .val (.int u0_5), .val (.int u0_6), .val (.int u0_7), .val (.ref a0c8), .val (.int v0_14), .val (.int v0_21), .val (.int v0_28), .val (.int v0_35), .val (.int v0_41)] [(.int u0_3), (.ref a0c8)])) rfl (by rw [hml]; rfl) (argsL := [(.ref a0c8), (.int u0_3)]) (rest := []) (lenOf pd0_2 rfl) rfl (by show 2 * 0 + _ ≤ _; exact Nat.le_of_eq rfl) (hb hby at_189) (fun _ _ => ⟨rfl, e042, (by decide : 6 + 0 ≤ _), (by decide : 20 + 0 ≤ _)⟩)
            dsimp only [Pt.U, Pt.locs, Pt.cells, Pt.slots] at X0c43 l0c43 y0c43 z0c43 st0c43 hQ0c43
            subst l0c43 y0c43 z0c43
            obtain ⟨rfl, N0c43q, e0c43⟩ := hQ0c43
            have N0c43 := Fr.app N042 N0c43q
            obtain ⟨lc0t44, X0c43, N0c43⟩ : ∃ lc, Stand p l e room_1 (s.setVm vm0c8) m #[(.int p0), (.int p1), (.int p2), (.int p3), (.int p4)] below meth c T0c43 lc 6 20 ∧ Fr n0 lc := ⟨_, X0c43, N0c43⟩
            refine stp (fun t k => st0c43 t k) ?_
            show W (T0c43.setTop (mkF m 192 #[.val (.int p0), .val (.int p1), .val (.int p2), .val (.int p3), .val (.int p4), .val (.int u0_1), .val (.int u0_3), .val (.int u0_4), .val (.int u0_5), .val (.int u0_6), .val (.int u0_7), .val (.ref a0c8), .val (.int v0_14), .val (.int v0_21), .val (.int v0_28), .val (.int v0_35), .val (.int v0_41)] [(.int (own_sp (own_g4 u0_4 u0_5 u0_6 u0_7) f0 (n - f0)))]))
            refine stp (fun t k => XS.iload X0c43.here hx rfl (hb hby at_192) rfl k) ?_
            show W (T0c43.setTop (mkF m 194 #[.val (.int p0), .val (.int p1), .val (.int p2), .val (.int p3), .val (.int p4), .val (.int u0_1), .val (.int u0_3), .val (.int u0_4), .val (.int u0_5), .val (.int u0_6), .val (.int u0_7), .val (.ref a0c8), .val (.int v0_14), .val (.int v0_21), .val (.int v0_28), .val (.int v0_35), .val (.int v0_41)] [(.int v0_41), (.int (own_sp (own_g4 u0_4 u0_5 u0_6 u0_7) f0 (n - f0)))]))
            refine stp (fun t k => XS.icmpNo X0c43.here hx rfl (hb hby at_194) rfl ((teq (by subst hv0_41; subst hv0_35; subst hv0_28; subst hv0_21; subst hv0_14; exact own_final _ _ _ _ _ _ kc0 kc1 kc2 kc3 f0 n hf hn hfn hn4)).2) k) ?_
            show W (T0c43.setTop (mkF m 197 #[.val (.int p0), .val (.int p1), .val (.int p2), .val (.int p3), .val (.int p4), .val (.int u0_1), .val (.int u0_3), .val (.int u0_4), .val (.int u0_5), .val (.int u0_6), .val (.int u0_7), .val (.ref a0c8), .val (.int v0_14), .val (.int v0_21), .val (.int v0_28), .val (.int v0_35), .val (.int v0_41)] []))
            refine stp (fun t k => XS.iconst X0c43.here hx rfl (hb hby at_197) k) ?_
            show W (T0c43.setTop (mkF m 198 #[.val (.int p0), .val (.int p1), .val (.int p2), .val (.int p3), .val (.int p4), .val (.int u0_1), .val (.int u0_3), .val (.int u0_4), .val (.int u0_5), .val (.int u0_6), .val (.int u0_7), .val (.ref a0c8), .val (.int v0_14), .val (.int v0_21), .val (.int v0_28), .val (.int v0_35), .val (.int v0_41)] [(.int (1 : Int32))]))
            refine stp (fun t k => XS.goto X0c43.here hx rfl (pc0 := 198) (pc' := 202) rfl (hb hby at_198) (by decide) (by decide) k) ?_
            show W (T0c43.setTop (mkF m 202 #[.val (.int p0), .val (.int p1), .val (.int p2), .val (.int p3), .val (.int p4), .val (.int u0_1), .val (.int u0_3), .val (.int u0_4), .val (.int u0_5), .val (.int u0_6), .val (.int u0_7), .val (.ref a0c8), .val (.int v0_14), .val (.int v0_21), .val (.int v0_28), .val (.int v0_35), .val (.int v0_41)] [(.int (1 : Int32))]))
            show W (T0c43.setTop (mkF m 202 #[.val (.int p0), .val (.int p1), .val (.int p2), .val (.int p3), .val (.int p4), .val (.int u0_1), .val (.int u0_3), .val (.int u0_4), .val (.int u0_5), .val (.int u0_6), .val (.int u0_7), .val (.ref a0c8), .val (.int v0_14), .val (.int v0_21), .val (.int v0_28), .val (.int v0_35), .val (.int v0_41)] [(.int (1 : Int32))]))
            rw [← hW]
            exact own_W hZ hEL CC (own_retN X0c43 hx Bd.notSynchronized Bd.returns (w := (1 : Int32)) (by simp) (hb hby at_202) rfl (by show Q0 Z p0 p1 p2 p3 p4 wc sx h0 n0 _ T0c43.heap _ ∧ T0c43.heap = h0c8; rw [e0c43]; exact ⟨⟨rfl, N0c43⟩, rfl⟩) (by decide) (by decide))
          by_cases hc0_37 : v0_14 = (0 : Int32)
          · refine stp (fun t k => XS.ifYes X036.here hx rfl (pc0 := 160) (pc' := 182) rfl (hb hby at_160) rfl ((if0 _ _).trans (teq hc0_37).1) (by decide) (by decide) k) ?_
            show W (T036.setTop (mkF m 182 #[.val (.int p0), .val (.int p1), .val (.int p2), .val (.int p3), .val (.int p4), .val (.int u0_1), .val (.int u0_3), .val (.int u0_4), .val (.int u0_5), .val (.int u0_6), .val (.int u0_7), .val (.ref a0c8), .val (.int v0_14), .val (.int v0_21), .val (.int v0_28), .val (.int v0_35), .unset] []))
            refine stp (fun t k => XS.iconst X036.here hx rfl (hb hby at_182) k) ?_
            show W (T036.setTop (mkF m 183 #[.val (.int p0), .val (.int p1), .val (.int p2), .val (.int p3), .val (.int p4), .val (.int u0_1), .val (.int u0_3), .val (.int u0_4), .val (.int u0_5), .val (.int u0_6), .val (.int u0_7), .val (.ref a0c8), .val (.int v0_14), .val (.int v0_21), .val (.int v0_28), .val (.int v0_35), .unset] [(.int (0 : Int32))]))
            exact J0_183_42 _ _ (0 : Int32) (by first | rfl | simp only [if_pos hc0_37]) X036 e036 N036
          · refine stp (fun t k => XS.ifNo X036.here hx rfl (hb hby at_160) rfl ((if0 _ _).trans (feq hc0_37).1) k) ?_
            show W (T036.setTop (mkF m 163 #[.val (.int p0), .val (.int p1), .val (.int p2), .val (.int p3), .val (.int p4), .val (.int u0_1), .val (.int u0_3), .val (.int u0_4), .val (.int u0_5), .val (.int u0_6), .val (.int u0_7), .val (.ref a0c8), .val (.int v0_14), .val (.int v0_21), .val (.int v0_28), .val (.int v0_35), .unset] []))
            refine stp (fun t k => XS.iload X036.here hx rfl (hb hby at_163) rfl k) ?_
            show W (T036.setTop (mkF m 165 #[.val (.int p0), .val (.int p1), .val (.int p2), .val (.int p3), .val (.int p4), .val (.int u0_1), .val (.int u0_3), .val (.int u0_4), .val (.int u0_5), .val (.int u0_6), .val (.int u0_7), .val (.ref a0c8), .val (.int v0_14), .val (.int v0_21), .val (.int v0_28), .val (.int v0_35), .unset] [(.int v0_21)]))
            by_cases hc0_38 : v0_21 = (0 : Int32)
            · refine stp (fun t k => XS.ifYes X036.here hx rfl (pc0 := 165) (pc' := 182) rfl (hb hby at_165) rfl ((if0 _ _).trans (teq hc0_38).1) (by decide) (by decide) k) ?_
              show W (T036.setTop (mkF m 182 #[.val (.int p0), .val (.int p1), .val (.int p2), .val (.int p3), .val (.int p4), .val (.int u0_1), .val (.int u0_3), .val (.int u0_4), .val (.int u0_5), .val (.int u0_6), .val (.int u0_7), .val (.ref a0c8), .val (.int v0_14), .val (.int v0_21), .val (.int v0_28), .val (.int v0_35), .unset] []))
              refine stp (fun t k => XS.iconst X036.here hx rfl (hb hby at_182) k) ?_
              show W (T036.setTop (mkF m 183 #[.val (.int p0), .val (.int p1), .val (.int p2), .val (.int p3), .val (.int p4), .val (.int u0_1), .val (.int u0_3), .val (.int u0_4), .val (.int u0_5), .val (.int u0_6), .val (.int u0_7), .val (.ref a0c8), .val (.int v0_14), .val (.int v0_21), .val (.int v0_28), .val (.int v0_35), .unset] [(.int (0 : Int32))]))
              exact J0_183_42 _ _ (0 : Int32) (by first | rfl | simp only [if_neg hc0_37, if_pos hc0_38]) X036 e036 N036
            · refine stp (fun t k => XS.ifNo X036.here hx rfl (hb hby at_165) rfl ((if0 _ _).trans (feq hc0_38).1) k) ?_
              show W (T036.setTop (mkF m 168 #[.val (.int p0), .val (.int p1), .val (.int p2), .val (.int p3), .val (.int p4), .val (.int u0_1), .val (.int u0_3), .val (.int u0_4), .val (.int u0_5), .val (.int u0_6), .val (.int u0_7), .val (.ref a0c8), .val (.int v0_14), .val (.int v0_21), .val (.int v0_28), .val (.int v0_35), .unset] []))
              refine stp (fun t k => XS.iload X036.here hx rfl (hb hby at_168) rfl k) ?_
              show W (T036.setTop (mkF m 170 #[.val (.int p0), .val (.int p1), .val (.int p2), .val (.int p3), .val (.int p4), .val (.int u0_1), .val (.int u0_3), .val (.int u0_4), .val (.int u0_5), .val (.int u0_6), .val (.int u0_7), .val (.ref a0c8), .val (.int v0_14), .val (.int v0_21), .val (.int v0_28), .val (.int v0_35), .unset] [(.int v0_28)]))
              by_cases hc0_39 : v0_28 = (0 : Int32)
              · refine stp (fun t k => XS.ifYes X036.here hx rfl (pc0 := 170) (pc' := 182) rfl (hb hby at_170) rfl ((if0 _ _).trans (teq hc0_39).1) (by decide) (by decide) k) ?_
                show W (T036.setTop (mkF m 182 #[.val (.int p0), .val (.int p1), .val (.int p2), .val (.int p3), .val (.int p4), .val (.int u0_1), .val (.int u0_3), .val (.int u0_4), .val (.int u0_5), .val (.int u0_6), .val (.int u0_7), .val (.ref a0c8), .val (.int v0_14), .val (.int v0_21), .val (.int v0_28), .val (.int v0_35), .unset] []))
                refine stp (fun t k => XS.iconst X036.here hx rfl (hb hby at_182) k) ?_
                show W (T036.setTop (mkF m 183 #[.val (.int p0), .val (.int p1), .val (.int p2), .val (.int p3), .val (.int p4), .val (.int u0_1), .val (.int u0_3), .val (.int u0_4), .val (.int u0_5), .val (.int u0_6), .val (.int u0_7), .val (.ref a0c8), .val (.int v0_14), .val (.int v0_21), .val (.int v0_28), .val (.int v0_35), .unset] [(.int (0 : Int32))]))
                exact J0_183_42 _ _ (0 : Int32) (by first | rfl | simp only [if_neg hc0_37, if_neg hc0_38, if_pos hc0_39]) X036 e036 N036
              · refine stp (fun t k => XS.ifNo X036.here hx rfl (hb hby at_170) rfl ((if0 _ _).trans (feq hc0_39).1) k) ?_
                show W (T036.setTop (mkF m 173 #[.val (.int p0), .val (.int p1), .val (.int p2), .val (.int p3), .val (.int p4), .val (.int u0_1), .val (.int u0_3), .val (.int u0_4), .val (.int u0_5), .val (.int u0_6), .val (.int u0_7), .val (.ref a0c8), .val (.int v0_14), .val (.int v0_21), .val (.int v0_28), .val (.int v0_35), .unset] []))
                refine stp (fun t k => XS.iload X036.here hx rfl (hb hby at_173) rfl k) ?_
                show W (T036.setTop (mkF m 175 #[.val (.int p0), .val (.int p1), .val (.int p2), .val (.int p3), .val (.int p4), .val (.int u0_1), .val (.int u0_3), .val (.int u0_4), .val (.int u0_5), .val (.int u0_6), .val (.int u0_7), .val (.ref a0c8), .val (.int v0_14), .val (.int v0_21), .val (.int v0_28), .val (.int v0_35), .unset] [(.int v0_35)]))
                by_cases hc0_40 : v0_35 = (0 : Int32)
                · refine stp (fun t k => XS.ifYes X036.here hx rfl (pc0 := 175) (pc' := 182) rfl (hb hby at_175) rfl ((if0 _ _).trans (teq hc0_40).1) (by decide) (by decide) k) ?_
                  show W (T036.setTop (mkF m 182 #[.val (.int p0), .val (.int p1), .val (.int p2), .val (.int p3), .val (.int p4), .val (.int u0_1), .val (.int u0_3), .val (.int u0_4), .val (.int u0_5), .val (.int u0_6), .val (.int u0_7), .val (.ref a0c8), .val (.int v0_14), .val (.int v0_21), .val (.int v0_28), .val (.int v0_35), .unset] []))
                  refine stp (fun t k => XS.iconst X036.here hx rfl (hb hby at_182) k) ?_
                  show W (T036.setTop (mkF m 183 #[.val (.int p0), .val (.int p1), .val (.int p2), .val (.int p3), .val (.int p4), .val (.int u0_1), .val (.int u0_3), .val (.int u0_4), .val (.int u0_5), .val (.int u0_6), .val (.int u0_7), .val (.ref a0c8), .val (.int v0_14), .val (.int v0_21), .val (.int v0_28), .val (.int v0_35), .unset] [(.int (0 : Int32))]))
                  exact J0_183_42 _ _ (0 : Int32) (by first | rfl | simp only [if_neg hc0_37, if_neg hc0_38, if_neg hc0_39, if_pos hc0_40]) X036 e036 N036
                · refine stp (fun t k => XS.ifNo X036.here hx rfl (hb hby at_175) rfl ((if0 _ _).trans (feq hc0_40).1) k) ?_
                  show W (T036.setTop (mkF m 178 #[.val (.int p0), .val (.int p1), .val (.int p2), .val (.int p3), .val (.int p4), .val (.int u0_1), .val (.int u0_3), .val (.int u0_4), .val (.int u0_5), .val (.int u0_6), .val (.int u0_7), .val (.ref a0c8), .val (.int v0_14), .val (.int v0_21), .val (.int v0_28), .val (.int v0_35), .unset] []))
                  refine stp (fun t k => XS.iconst X036.here hx rfl (hb hby at_178) k) ?_
                  show W (T036.setTop (mkF m 179 #[.val (.int p0), .val (.int p1), .val (.int p2), .val (.int p3), .val (.int p4), .val (.int u0_1), .val (.int u0_3), .val (.int u0_4), .val (.int u0_5), .val (.int u0_6), .val (.int u0_7), .val (.ref a0c8), .val (.int v0_14), .val (.int v0_21), .val (.int v0_28), .val (.int v0_35), .unset] [(.int (1 : Int32))]))
                  refine stp (fun t k => XS.goto X036.here hx rfl (pc0 := 179) (pc' := 183) rfl (hb hby at_179) (by decide) (by decide) k) ?_
                  show W (T036.setTop (mkF m 183 #[.val (.int p0), .val (.int p1), .val (.int p2), .val (.int p3), .val (.int p4), .val (.int u0_1), .val (.int u0_3), .val (.int u0_4), .val (.int u0_5), .val (.int u0_6), .val (.int u0_7), .val (.ref a0c8), .val (.int v0_14), .val (.int v0_21), .val (.int v0_28), .val (.int v0_35), .unset] [(.int (1 : Int32))]))
                  exact J0_183_42 _ _ (1 : Int32) (by first | rfl | simp only [if_neg hc0_37, if_neg hc0_38, if_neg hc0_39, if_neg hc0_40]) X036 e036 N036
        by_cases hc0_30 : (3 : Int32) < u0_3
        · refine stp (fun t k => XS.icmpYes X029.here hx rfl (pc0 := 134) (pc' := 151) rfl (hb hby at_134) rfl ((tlt hc0_30).1) (by decide) (by decide) k) ?_
          show W (T029.setTop (mkF m 151 #[.val (.int p0), .val (.int p1), .val (.int p2), .val (.int p3), .val (.int p4), .val (.int u0_1), .val (.int u0_3), .val (.int u0_4), .val (.int u0_5), .val (.int u0_6), .val (.int u0_7), .val (.ref a0c8), .val (.int v0_14), .val (.int v0_21), .val (.int v0_28), .unset, .unset] []))
          refine stp (fun t k => XS.iconst X029.here hx rfl (hb hby at_151) k) ?_
          show W (T029.setTop (mkF m 152 #[.val (.int p0), .val (.int p1), .val (.int p2), .val (.int p3), .val (.int p4), .val (.int u0_1), .val (.int u0_3), .val (.int u0_4), .val (.int u0_5), .val (.int u0_6), .val (.int u0_7), .val (.ref a0c8), .val (.int v0_14), .val (.int v0_21), .val (.int v0_28), .unset, .unset] [(.int (1 : Int32))]))
          refine stp (fun t k => XS.goto X029.here hx rfl (pc0 := 152) (pc' := 156) rfl (hb hby at_152) (by decide) (by decide) k) ?_
          show W (T029.setTop (mkF m 156 #[.val (.int p0), .val (.int p1), .val (.int p2), .val (.int p3), .val (.int p4), .val (.int u0_1), .val (.int u0_3), .val (.int u0_4), .val (.int u0_5), .val (.int u0_6), .val (.int u0_7), .val (.ref a0c8), .val (.int v0_14), .val (.int v0_21), .val (.int v0_28), .unset, .unset] [(.int (1 : Int32))]))
          exact J0_156_36 _ _ (1 : Int32) (by first | rfl | simp only [if_pos hc0_30]) X029 e029 N029
        · refine stp (fun t k => XS.icmpNo X029.here hx rfl (hb hby at_134) rfl ((flt hc0_30).1) k) ?_
          show W (T029.setTop (mkF m 137 #[.val (.int p0), .val (.int p1), .val (.int p2), .val (.int p3), .val (.int p4), .val (.int u0_1), .val (.int u0_3), .val (.int u0_4), .val (.int u0_5), .val (.int u0_6), .val (.int u0_7), .val (.ref a0c8), .val (.int v0_14), .val (.int v0_21), .val (.int v0_28), .unset, .unset] []))
          refine stp (fun t k => XS.iconst X029.here hx rfl (hb hby at_137) k) ?_
          show W (T029.setTop (mkF m 138 #[.val (.int p0), .val (.int p1), .val (.int p2), .val (.int p3), .val (.int p4), .val (.int u0_1), .val (.int u0_3), .val (.int u0_4), .val (.int u0_5), .val (.int u0_6), .val (.int u0_7), .val (.ref a0c8), .val (.int v0_14), .val (.int v0_21), .val (.int v0_28), .unset, .unset] [(.int (3 : Int32))]))
          refine stp (fun t k => XS.iload X029.here hx rfl (hb hby at_138) rfl k) ?_
          show W (T029.setTop (mkF m 140 #[.val (.int p0), .val (.int p1), .val (.int p2), .val (.int p3), .val (.int p4), .val (.int u0_1), .val (.int u0_3), .val (.int u0_4), .val (.int u0_5), .val (.int u0_6), .val (.int u0_7), .val (.ref a0c8), .val (.int v0_14), .val (.int v0_21), .val (.int v0_28), .unset, .unset] [(.int u0_1), (.int (3 : Int32))]))
          by_cases hc0_31 : (3 : Int32) < u0_1
          · refine stp (fun t k => XS.icmpNo X029.here hx rfl (hb hby at_140) rfl ((tlt hc0_31).2.1) k) ?_
            show W (T029.setTop (mkF m 143 #[.val (.int p0), .val (.int p1), .val (.int p2), .val (.int p3), .val (.int p4), .val (.int u0_1), .val (.int u0_3), .val (.int u0_4), .val (.int u0_5), .val (.int u0_6), .val (.int u0_7), .val (.ref a0c8), .val (.int v0_14), .val (.int v0_21), .val (.int v0_28), .unset, .unset] []))
            refine stp (fun t k => XS.iload X029.here hx rfl (hb hby at_143) rfl k) ?_
            show W (T029.setTop (mkF m 145 #[.val (.int p0), .val (.int p1), .val (.int p2), .val (.int p3), .val (.int p4), .val (.int u0_1), .val (.int u0_3), .val (.int u0_4), .val (.int u0_5), .val (.int u0_6), .val (.int u0_7), .val (.ref a0c8), .val (.int v0_14), .val (.int v0_21), .val (.int v0_28), .unset, .unset] [(.int u0_7)]))
            obtain ⟨_, _, ⟨T0c32, L0c32, k0c32, n0c32⟩, -, X0c32, ⟨Lc0c32, hQ0c32, l0c32, y0c32, z0c32⟩, st0c32⟩ := Jvm.LawKit.callS X029 hx (y := (⟨"com/example/opuscule/opuscule/record/XmlSpaceIsSpace285PinLaw", "ws", "(C)Z"⟩ : MethodName)) hown (mvT hZ (hw _ (List.mem_of_getElem? (i := 55) rfl))) (mvT hZ (hw _ (List.mem_of_getElem? (i := 56) rfl))) (mvT hZ (hw _ (List.mem_of_getElem? (i := 2) rfl))) (mvT hZ (hw _ (List.mem_of_getElem? (i := 57) rfl))) (by decide) (backOf (W := 0) (rmws l Z aa hw [] u0_7  h0c8 n0 Z0c8 ) hZ (hw _ (List.mem_of_getElem? (i := 57) rfl)) (hw _ (List.mem_of_getElem? (i := 2) rfl)) (by decide) (by decide)) (g := (mkF m 145 #[.val (.int p0), .val (.int p1), .val (.int p2), .val (.int p3), .val (.int p4), .val (.int u0_1), .val (.int u0_3), .val (.int u0_4), .val (.int u0_5), .val (.int u0_6), .val (.int u0_7), .val (.ref a0c8), .val (.int v0_14), .val (.int v0_21), .val (.int v0_28), .unset, .unset] [(.int u0_7)])) rfl (by rw [hml]; rfl) (argsL := [(.int u0_7)]) (rest := []) (lenOf pd0_1 rfl) rfl (by show 2 * 0 + _ ≤ _; exact Nat.le_of_eq rfl) (hb hby at_145) (fun _ _ => ⟨rfl, e029, (by decide : 6 + 0 ≤ _), (by decide : 20 + 0 ≤ _)⟩)
            dsimp only [Pt.U, Pt.locs, Pt.cells, Pt.slots] at X0c32 l0c32 y0c32 z0c32 st0c32 hQ0c32
            subst l0c32 y0c32 z0c32
            obtain ⟨rfl, N0c32q, e0c32⟩ := hQ0c32
            have N0c32 := Fr.app N029 N0c32q
            obtain ⟨lc0t33, X0c32, N0c32⟩ : ∃ lc, Stand p l e room_1 (s.setVm vm0c8) m #[(.int p0), (.int p1), (.int p2), (.int p3), (.int p4)] below meth c T0c32 lc 6 20 ∧ Fr n0 lc := ⟨_, X0c32, N0c32⟩
            refine stp (fun t k => st0c32 t k) ?_
            show W (T0c32.setTop (mkF m 148 #[.val (.int p0), .val (.int p1), .val (.int p2), .val (.int p3), .val (.int p4), .val (.int u0_1), .val (.int u0_3), .val (.int u0_4), .val (.int u0_5), .val (.int u0_6), .val (.int u0_7), .val (.ref a0c8), .val (.int v0_14), .val (.int v0_21), .val (.int v0_28), .unset, .unset] [(.int (fws u0_7))]))
            by_cases hc0_34 : (fws u0_7) = (0 : Int32)
            · refine stp (fun t k => XS.ifYes X0c32.here hx rfl (pc0 := 148) (pc' := 155) rfl (hb hby at_148) rfl ((if0 _ _).trans (teq hc0_34).1) (by decide) (by decide) k) ?_
              show W (T0c32.setTop (mkF m 155 #[.val (.int p0), .val (.int p1), .val (.int p2), .val (.int p3), .val (.int p4), .val (.int u0_1), .val (.int u0_3), .val (.int u0_4), .val (.int u0_5), .val (.int u0_6), .val (.int u0_7), .val (.ref a0c8), .val (.int v0_14), .val (.int v0_21), .val (.int v0_28), .unset, .unset] []))
              refine stp (fun t k => XS.iconst X0c32.here hx rfl (hb hby at_155) k) ?_
              show W (T0c32.setTop (mkF m 156 #[.val (.int p0), .val (.int p1), .val (.int p2), .val (.int p3), .val (.int p4), .val (.int u0_1), .val (.int u0_3), .val (.int u0_4), .val (.int u0_5), .val (.int u0_6), .val (.int u0_7), .val (.ref a0c8), .val (.int v0_14), .val (.int v0_21), .val (.int v0_28), .unset, .unset] [(.int (0 : Int32))]))
              exact J0_156_36 _ _ (0 : Int32) (by first | rfl | simp only [if_neg hc0_30, if_pos hc0_31, if_pos hc0_34]) X0c32 e0c32 N0c32
            · refine stp (fun t k => XS.ifNo X0c32.here hx rfl (hb hby at_148) rfl ((if0 _ _).trans (feq hc0_34).1) k) ?_
              show W (T0c32.setTop (mkF m 151 #[.val (.int p0), .val (.int p1), .val (.int p2), .val (.int p3), .val (.int p4), .val (.int u0_1), .val (.int u0_3), .val (.int u0_4), .val (.int u0_5), .val (.int u0_6), .val (.int u0_7), .val (.ref a0c8), .val (.int v0_14), .val (.int v0_21), .val (.int v0_28), .unset, .unset] []))
              refine stp (fun t k => XS.iconst X0c32.here hx rfl (hb hby at_151) k) ?_
              show W (T0c32.setTop (mkF m 152 #[.val (.int p0), .val (.int p1), .val (.int p2), .val (.int p3), .val (.int p4), .val (.int u0_1), .val (.int u0_3), .val (.int u0_4), .val (.int u0_5), .val (.int u0_6), .val (.int u0_7), .val (.ref a0c8), .val (.int v0_14), .val (.int v0_21), .val (.int v0_28), .unset, .unset] [(.int (1 : Int32))]))
              refine stp (fun t k => XS.goto X0c32.here hx rfl (pc0 := 152) (pc' := 156) rfl (hb hby at_152) (by decide) (by decide) k) ?_
              show W (T0c32.setTop (mkF m 156 #[.val (.int p0), .val (.int p1), .val (.int p2), .val (.int p3), .val (.int p4), .val (.int u0_1), .val (.int u0_3), .val (.int u0_4), .val (.int u0_5), .val (.int u0_6), .val (.int u0_7), .val (.ref a0c8), .val (.int v0_14), .val (.int v0_21), .val (.int v0_28), .unset, .unset] [(.int (1 : Int32))]))
              exact J0_156_36 _ _ (1 : Int32) (by first | rfl | simp only [if_neg hc0_30, if_pos hc0_31, if_neg hc0_34]) X0c32 e0c32 N0c32
          · refine stp (fun t k => XS.icmpYes X029.here hx rfl (pc0 := 140) (pc' := 151) rfl (hb hby at_140) rfl ((flt hc0_31).2.1) (by decide) (by decide) k) ?_
            show W (T029.setTop (mkF m 151 #[.val (.int p0), .val (.int p1), .val (.int p2), .val (.int p3), .val (.int p4), .val (.int u0_1), .val (.int u0_3), .val (.int u0_4), .val (.int u0_5), .val (.int u0_6), .val (.int u0_7), .val (.ref a0c8), .val (.int v0_14), .val (.int v0_21), .val (.int v0_28), .unset, .unset] []))
            refine stp (fun t k => XS.iconst X029.here hx rfl (hb hby at_151) k) ?_
            show W (T029.setTop (mkF m 152 #[.val (.int p0), .val (.int p1), .val (.int p2), .val (.int p3), .val (.int p4), .val (.int u0_1), .val (.int u0_3), .val (.int u0_4), .val (.int u0_5), .val (.int u0_6), .val (.int u0_7), .val (.ref a0c8), .val (.int v0_14), .val (.int v0_21), .val (.int v0_28), .unset, .unset] [(.int (1 : Int32))]))
            refine stp (fun t k => XS.goto X029.here hx rfl (pc0 := 152) (pc' := 156) rfl (hb hby at_152) (by decide) (by decide) k) ?_
            show W (T029.setTop (mkF m 156 #[.val (.int p0), .val (.int p1), .val (.int p2), .val (.int p3), .val (.int p4), .val (.int u0_1), .val (.int u0_3), .val (.int u0_4), .val (.int u0_5), .val (.int u0_6), .val (.int u0_7), .val (.ref a0c8), .val (.int v0_14), .val (.int v0_21), .val (.int v0_28), .unset, .unset] [(.int (1 : Int32))]))
            exact J0_156_36 _ _ (1 : Int32) (by first | rfl | simp only [if_neg hc0_30, if_neg hc0_31]) X029 e029 N029
      by_cases hc0_23 : (2 : Int32) < u0_3
      · refine stp (fun t k => XS.icmpYes X022.here hx rfl (pc0 := 107) (pc' := 124) rfl (hb hby at_107) rfl ((tlt hc0_23).1) (by decide) (by decide) k) ?_
        show W (T022.setTop (mkF m 124 #[.val (.int p0), .val (.int p1), .val (.int p2), .val (.int p3), .val (.int p4), .val (.int u0_1), .val (.int u0_3), .val (.int u0_4), .val (.int u0_5), .val (.int u0_6), .val (.int u0_7), .val (.ref a0c8), .val (.int v0_14), .val (.int v0_21), .unset, .unset, .unset] []))
        refine stp (fun t k => XS.iconst X022.here hx rfl (hb hby at_124) k) ?_
        show W (T022.setTop (mkF m 125 #[.val (.int p0), .val (.int p1), .val (.int p2), .val (.int p3), .val (.int p4), .val (.int u0_1), .val (.int u0_3), .val (.int u0_4), .val (.int u0_5), .val (.int u0_6), .val (.int u0_7), .val (.ref a0c8), .val (.int v0_14), .val (.int v0_21), .unset, .unset, .unset] [(.int (1 : Int32))]))
        refine stp (fun t k => XS.goto X022.here hx rfl (pc0 := 125) (pc' := 129) rfl (hb hby at_125) (by decide) (by decide) k) ?_
        show W (T022.setTop (mkF m 129 #[.val (.int p0), .val (.int p1), .val (.int p2), .val (.int p3), .val (.int p4), .val (.int u0_1), .val (.int u0_3), .val (.int u0_4), .val (.int u0_5), .val (.int u0_6), .val (.int u0_7), .val (.ref a0c8), .val (.int v0_14), .val (.int v0_21), .unset, .unset, .unset] [(.int (1 : Int32))]))
        exact J0_129_29 _ _ (1 : Int32) (by first | rfl | simp only [if_pos hc0_23]) X022 e022 N022
      · refine stp (fun t k => XS.icmpNo X022.here hx rfl (hb hby at_107) rfl ((flt hc0_23).1) k) ?_
        show W (T022.setTop (mkF m 110 #[.val (.int p0), .val (.int p1), .val (.int p2), .val (.int p3), .val (.int p4), .val (.int u0_1), .val (.int u0_3), .val (.int u0_4), .val (.int u0_5), .val (.int u0_6), .val (.int u0_7), .val (.ref a0c8), .val (.int v0_14), .val (.int v0_21), .unset, .unset, .unset] []))
        refine stp (fun t k => XS.iconst X022.here hx rfl (hb hby at_110) k) ?_
        show W (T022.setTop (mkF m 111 #[.val (.int p0), .val (.int p1), .val (.int p2), .val (.int p3), .val (.int p4), .val (.int u0_1), .val (.int u0_3), .val (.int u0_4), .val (.int u0_5), .val (.int u0_6), .val (.int u0_7), .val (.ref a0c8), .val (.int v0_14), .val (.int v0_21), .unset, .unset, .unset] [(.int (2 : Int32))]))
        refine stp (fun t k => XS.iload X022.here hx rfl (hb hby at_111) rfl k) ?_
        show W (T022.setTop (mkF m 113 #[.val (.int p0), .val (.int p1), .val (.int p2), .val (.int p3), .val (.int p4), .val (.int u0_1), .val (.int u0_3), .val (.int u0_4), .val (.int u0_5), .val (.int u0_6), .val (.int u0_7), .val (.ref a0c8), .val (.int v0_14), .val (.int v0_21), .unset, .unset, .unset] [(.int u0_1), (.int (2 : Int32))]))
        by_cases hc0_24 : (2 : Int32) < u0_1
        · refine stp (fun t k => XS.icmpNo X022.here hx rfl (hb hby at_113) rfl ((tlt hc0_24).2.1) k) ?_
          show W (T022.setTop (mkF m 116 #[.val (.int p0), .val (.int p1), .val (.int p2), .val (.int p3), .val (.int p4), .val (.int u0_1), .val (.int u0_3), .val (.int u0_4), .val (.int u0_5), .val (.int u0_6), .val (.int u0_7), .val (.ref a0c8), .val (.int v0_14), .val (.int v0_21), .unset, .unset, .unset] []))
          refine stp (fun t k => XS.iload X022.here hx rfl (hb hby at_116) rfl k) ?_
          show W (T022.setTop (mkF m 118 #[.val (.int p0), .val (.int p1), .val (.int p2), .val (.int p3), .val (.int p4), .val (.int u0_1), .val (.int u0_3), .val (.int u0_4), .val (.int u0_5), .val (.int u0_6), .val (.int u0_7), .val (.ref a0c8), .val (.int v0_14), .val (.int v0_21), .unset, .unset, .unset] [(.int u0_6)]))
          obtain ⟨_, _, ⟨T0c25, L0c25, k0c25, n0c25⟩, -, X0c25, ⟨Lc0c25, hQ0c25, l0c25, y0c25, z0c25⟩, st0c25⟩ := Jvm.LawKit.callS X022 hx (y := (⟨"com/example/opuscule/opuscule/record/XmlSpaceIsSpace285PinLaw", "ws", "(C)Z"⟩ : MethodName)) hown (mvT hZ (hw _ (List.mem_of_getElem? (i := 55) rfl))) (mvT hZ (hw _ (List.mem_of_getElem? (i := 56) rfl))) (mvT hZ (hw _ (List.mem_of_getElem? (i := 2) rfl))) (mvT hZ (hw _ (List.mem_of_getElem? (i := 57) rfl))) (by decide) (backOf (W := 0) (rmws l Z aa hw [] u0_6  h0c8 n0 Z0c8 ) hZ (hw _ (List.mem_of_getElem? (i := 57) rfl)) (hw _ (List.mem_of_getElem? (i := 2) rfl)) (by decide) (by decide)) (g := (mkF m 118 #[.val (.int p0), .val (.int p1), .val (.int p2), .val (.int p3), .val (.int p4), .val (.int u0_1), .val (.int u0_3), .val (.int u0_4), .val (.int u0_5), .val (.int u0_6), .val (.int u0_7), .val (.ref a0c8), .val (.int v0_14), .val (.int v0_21), .unset, .unset, .unset] [(.int u0_6)])) rfl (by rw [hml]; rfl) (argsL := [(.int u0_6)]) (rest := []) (lenOf pd0_1 rfl) rfl (by show 2 * 0 + _ ≤ _; exact Nat.le_of_eq rfl) (hb hby at_118) (fun _ _ => ⟨rfl, e022, (by decide : 6 + 0 ≤ _), (by decide : 20 + 0 ≤ _)⟩)
          dsimp only [Pt.U, Pt.locs, Pt.cells, Pt.slots] at X0c25 l0c25 y0c25 z0c25 st0c25 hQ0c25
          subst l0c25 y0c25 z0c25
          obtain ⟨rfl, N0c25q, e0c25⟩ := hQ0c25
          have N0c25 := Fr.app N022 N0c25q
          obtain ⟨lc0t26, X0c25, N0c25⟩ : ∃ lc, Stand p l e room_1 (s.setVm vm0c8) m #[(.int p0), (.int p1), (.int p2), (.int p3), (.int p4)] below meth c T0c25 lc 6 20 ∧ Fr n0 lc := ⟨_, X0c25, N0c25⟩
          refine stp (fun t k => st0c25 t k) ?_
          show W (T0c25.setTop (mkF m 121 #[.val (.int p0), .val (.int p1), .val (.int p2), .val (.int p3), .val (.int p4), .val (.int u0_1), .val (.int u0_3), .val (.int u0_4), .val (.int u0_5), .val (.int u0_6), .val (.int u0_7), .val (.ref a0c8), .val (.int v0_14), .val (.int v0_21), .unset, .unset, .unset] [(.int (fws u0_6))]))
          by_cases hc0_27 : (fws u0_6) = (0 : Int32)
          · refine stp (fun t k => XS.ifYes X0c25.here hx rfl (pc0 := 121) (pc' := 128) rfl (hb hby at_121) rfl ((if0 _ _).trans (teq hc0_27).1) (by decide) (by decide) k) ?_
            show W (T0c25.setTop (mkF m 128 #[.val (.int p0), .val (.int p1), .val (.int p2), .val (.int p3), .val (.int p4), .val (.int u0_1), .val (.int u0_3), .val (.int u0_4), .val (.int u0_5), .val (.int u0_6), .val (.int u0_7), .val (.ref a0c8), .val (.int v0_14), .val (.int v0_21), .unset, .unset, .unset] []))
            refine stp (fun t k => XS.iconst X0c25.here hx rfl (hb hby at_128) k) ?_
            show W (T0c25.setTop (mkF m 129 #[.val (.int p0), .val (.int p1), .val (.int p2), .val (.int p3), .val (.int p4), .val (.int u0_1), .val (.int u0_3), .val (.int u0_4), .val (.int u0_5), .val (.int u0_6), .val (.int u0_7), .val (.ref a0c8), .val (.int v0_14), .val (.int v0_21), .unset, .unset, .unset] [(.int (0 : Int32))]))
            exact J0_129_29 _ _ (0 : Int32) (by first | rfl | simp only [if_neg hc0_23, if_pos hc0_24, if_pos hc0_27]) X0c25 e0c25 N0c25
          · refine stp (fun t k => XS.ifNo X0c25.here hx rfl (hb hby at_121) rfl ((if0 _ _).trans (feq hc0_27).1) k) ?_
            show W (T0c25.setTop (mkF m 124 #[.val (.int p0), .val (.int p1), .val (.int p2), .val (.int p3), .val (.int p4), .val (.int u0_1), .val (.int u0_3), .val (.int u0_4), .val (.int u0_5), .val (.int u0_6), .val (.int u0_7), .val (.ref a0c8), .val (.int v0_14), .val (.int v0_21), .unset, .unset, .unset] []))
            refine stp (fun t k => XS.iconst X0c25.here hx rfl (hb hby at_124) k) ?_
            show W (T0c25.setTop (mkF m 125 #[.val (.int p0), .val (.int p1), .val (.int p2), .val (.int p3), .val (.int p4), .val (.int u0_1), .val (.int u0_3), .val (.int u0_4), .val (.int u0_5), .val (.int u0_6), .val (.int u0_7), .val (.ref a0c8), .val (.int v0_14), .val (.int v0_21), .unset, .unset, .unset] [(.int (1 : Int32))]))
            refine stp (fun t k => XS.goto X0c25.here hx rfl (pc0 := 125) (pc' := 129) rfl (hb hby at_125) (by decide) (by decide) k) ?_
            show W (T0c25.setTop (mkF m 129 #[.val (.int p0), .val (.int p1), .val (.int p2), .val (.int p3), .val (.int p4), .val (.int u0_1), .val (.int u0_3), .val (.int u0_4), .val (.int u0_5), .val (.int u0_6), .val (.int u0_7), .val (.ref a0c8), .val (.int v0_14), .val (.int v0_21), .unset, .unset, .unset] [(.int (1 : Int32))]))
            exact J0_129_29 _ _ (1 : Int32) (by first | rfl | simp only [if_neg hc0_23, if_pos hc0_24, if_neg hc0_27]) X0c25 e0c25 N0c25
        · refine stp (fun t k => XS.icmpYes X022.here hx rfl (pc0 := 113) (pc' := 124) rfl (hb hby at_113) rfl ((flt hc0_24).2.1) (by decide) (by decide) k) ?_
          show W (T022.setTop (mkF m 124 #[.val (.int p0), .val (.int p1), .val (.int p2), .val (.int p3), .val (.int p4), .val (.int u0_1), .val (.int u0_3), .val (.int u0_4), .val (.int u0_5), .val (.int u0_6), .val (.int u0_7), .val (.ref a0c8), .val (.int v0_14), .val (.int v0_21), .unset, .unset, .unset] []))
          refine stp (fun t k => XS.iconst X022.here hx rfl (hb hby at_124) k) ?_
          show W (T022.setTop (mkF m 125 #[.val (.int p0), .val (.int p1), .val (.int p2), .val (.int p3), .val (.int p4), .val (.int u0_1), .val (.int u0_3), .val (.int u0_4), .val (.int u0_5), .val (.int u0_6), .val (.int u0_7), .val (.ref a0c8), .val (.int v0_14), .val (.int v0_21), .unset, .unset, .unset] [(.int (1 : Int32))]))
          refine stp (fun t k => XS.goto X022.here hx rfl (pc0 := 125) (pc' := 129) rfl (hb hby at_125) (by decide) (by decide) k) ?_
          show W (T022.setTop (mkF m 129 #[.val (.int p0), .val (.int p1), .val (.int p2), .val (.int p3), .val (.int p4), .val (.int u0_1), .val (.int u0_3), .val (.int u0_4), .val (.int u0_5), .val (.int u0_6), .val (.int u0_7), .val (.ref a0c8), .val (.int v0_14), .val (.int v0_21), .unset, .unset, .unset] [(.int (1 : Int32))]))
          exact J0_129_29 _ _ (1 : Int32) (by first | rfl | simp only [if_neg hc0_23, if_neg hc0_24]) X022 e022 N022
    by_cases hc0_16 : (1 : Int32) < u0_3
    · refine stp (fun t k => XS.icmpYes X015.here hx rfl (pc0 := 80) (pc' := 97) rfl (hb hby at_80) rfl ((tlt hc0_16).1) (by decide) (by decide) k) ?_
      show W (T015.setTop (mkF m 97 #[.val (.int p0), .val (.int p1), .val (.int p2), .val (.int p3), .val (.int p4), .val (.int u0_1), .val (.int u0_3), .val (.int u0_4), .val (.int u0_5), .val (.int u0_6), .val (.int u0_7), .val (.ref a0c8), .val (.int v0_14), .unset, .unset, .unset, .unset] []))
      refine stp (fun t k => XS.iconst X015.here hx rfl (hb hby at_97) k) ?_
      show W (T015.setTop (mkF m 98 #[.val (.int p0), .val (.int p1), .val (.int p2), .val (.int p3), .val (.int p4), .val (.int u0_1), .val (.int u0_3), .val (.int u0_4), .val (.int u0_5), .val (.int u0_6), .val (.int u0_7), .val (.ref a0c8), .val (.int v0_14), .unset, .unset, .unset, .unset] [(.int (1 : Int32))]))
      refine stp (fun t k => XS.goto X015.here hx rfl (pc0 := 98) (pc' := 102) rfl (hb hby at_98) (by decide) (by decide) k) ?_
      show W (T015.setTop (mkF m 102 #[.val (.int p0), .val (.int p1), .val (.int p2), .val (.int p3), .val (.int p4), .val (.int u0_1), .val (.int u0_3), .val (.int u0_4), .val (.int u0_5), .val (.int u0_6), .val (.int u0_7), .val (.ref a0c8), .val (.int v0_14), .unset, .unset, .unset, .unset] [(.int (1 : Int32))]))
      exact J0_102_22 _ _ (1 : Int32) (by first | rfl | simp only [if_pos hc0_16]) X015 e015 N015
    · refine stp (fun t k => XS.icmpNo X015.here hx rfl (hb hby at_80) rfl ((flt hc0_16).1) k) ?_
      show W (T015.setTop (mkF m 83 #[.val (.int p0), .val (.int p1), .val (.int p2), .val (.int p3), .val (.int p4), .val (.int u0_1), .val (.int u0_3), .val (.int u0_4), .val (.int u0_5), .val (.int u0_6), .val (.int u0_7), .val (.ref a0c8), .val (.int v0_14), .unset, .unset, .unset, .unset] []))
      refine stp (fun t k => XS.iconst X015.here hx rfl (hb hby at_83) k) ?_
      show W (T015.setTop (mkF m 84 #[.val (.int p0), .val (.int p1), .val (.int p2), .val (.int p3), .val (.int p4), .val (.int u0_1), .val (.int u0_3), .val (.int u0_4), .val (.int u0_5), .val (.int u0_6), .val (.int u0_7), .val (.ref a0c8), .val (.int v0_14), .unset, .unset, .unset, .unset] [(.int (1 : Int32))]))
      refine stp (fun t k => XS.iload X015.here hx rfl (hb hby at_84) rfl k) ?_
      show W (T015.setTop (mkF m 86 #[.val (.int p0), .val (.int p1), .val (.int p2), .val (.int p3), .val (.int p4), .val (.int u0_1), .val (.int u0_3), .val (.int u0_4), .val (.int u0_5), .val (.int u0_6), .val (.int u0_7), .val (.ref a0c8), .val (.int v0_14), .unset, .unset, .unset, .unset] [(.int u0_1), (.int (1 : Int32))]))
      by_cases hc0_17 : (1 : Int32) < u0_1
      · refine stp (fun t k => XS.icmpNo X015.here hx rfl (hb hby at_86) rfl ((tlt hc0_17).2.1) k) ?_
        show W (T015.setTop (mkF m 89 #[.val (.int p0), .val (.int p1), .val (.int p2), .val (.int p3), .val (.int p4), .val (.int u0_1), .val (.int u0_3), .val (.int u0_4), .val (.int u0_5), .val (.int u0_6), .val (.int u0_7), .val (.ref a0c8), .val (.int v0_14), .unset, .unset, .unset, .unset] []))
        refine stp (fun t k => XS.iload X015.here hx rfl (hb hby at_89) rfl k) ?_
        show W (T015.setTop (mkF m 91 #[.val (.int p0), .val (.int p1), .val (.int p2), .val (.int p3), .val (.int p4), .val (.int u0_1), .val (.int u0_3), .val (.int u0_4), .val (.int u0_5), .val (.int u0_6), .val (.int u0_7), .val (.ref a0c8), .val (.int v0_14), .unset, .unset, .unset, .unset] [(.int u0_5)]))
        obtain ⟨_, _, ⟨T0c18, L0c18, k0c18, n0c18⟩, -, X0c18, ⟨Lc0c18, hQ0c18, l0c18, y0c18, z0c18⟩, st0c18⟩ := Jvm.LawKit.callS X015 hx (y := (⟨"com/example/opuscule/opuscule/record/XmlSpaceIsSpace285PinLaw", "ws", "(C)Z"⟩ : MethodName)) hown (mvT hZ (hw _ (List.mem_of_getElem? (i := 55) rfl))) (mvT hZ (hw _ (List.mem_of_getElem? (i := 56) rfl))) (mvT hZ (hw _ (List.mem_of_getElem? (i := 2) rfl))) (mvT hZ (hw _ (List.mem_of_getElem? (i := 57) rfl))) (by decide) (backOf (W := 0) (rmws l Z aa hw [] u0_5  h0c8 n0 Z0c8 ) hZ (hw _ (List.mem_of_getElem? (i := 57) rfl)) (hw _ (List.mem_of_getElem? (i := 2) rfl)) (by decide) (by decide)) (g := (mkF m 91 #[.val (.int p0), .val (.int p1), .val (.int p2), .val (.int p3), .val (.int p4), .val (.int u0_1), .val (.int u0_3), .val (.int u0_4), .val (.int u0_5), .val (.int u0_6), .val (.int u0_7), .val (.ref a0c8), .val (.int v0_14), .unset, .unset, .unset, .unset] [(.int u0_5)])) rfl (by rw [hml]; rfl) (argsL := [(.int u0_5)]) (rest := []) (lenOf pd0_1 rfl) rfl (by show 2 * 0 + _ ≤ _; exact Nat.le_of_eq rfl) (hb hby at_91) (fun _ _ => ⟨rfl, e015, (by decide : 6 + 0 ≤ _), (by decide : 20 + 0 ≤ _)⟩)
        dsimp only [Pt.U, Pt.locs, Pt.cells, Pt.slots] at X0c18 l0c18 y0c18 z0c18 st0c18 hQ0c18
        subst l0c18 y0c18 z0c18
        obtain ⟨rfl, N0c18q, e0c18⟩ := hQ0c18
        have N0c18 := Fr.app N015 N0c18q
        obtain ⟨lc0t19, X0c18, N0c18⟩ : ∃ lc, Stand p l e room_1 (s.setVm vm0c8) m #[(.int p0), (.int p1), (.int p2), (.int p3), (.int p4)] below meth c T0c18 lc 6 20 ∧ Fr n0 lc := ⟨_, X0c18, N0c18⟩
        refine stp (fun t k => st0c18 t k) ?_
        show W (T0c18.setTop (mkF m 94 #[.val (.int p0), .val (.int p1), .val (.int p2), .val (.int p3), .val (.int p4), .val (.int u0_1), .val (.int u0_3), .val (.int u0_4), .val (.int u0_5), .val (.int u0_6), .val (.int u0_7), .val (.ref a0c8), .val (.int v0_14), .unset, .unset, .unset, .unset] [(.int (fws u0_5))]))
        by_cases hc0_20 : (fws u0_5) = (0 : Int32)
        · refine stp (fun t k => XS.ifYes X0c18.here hx rfl (pc0 := 94) (pc' := 101) rfl (hb hby at_94) rfl ((if0 _ _).trans (teq hc0_20).1) (by decide) (by decide) k) ?_
          show W (T0c18.setTop (mkF m 101 #[.val (.int p0), .val (.int p1), .val (.int p2), .val (.int p3), .val (.int p4), .val (.int u0_1), .val (.int u0_3), .val (.int u0_4), .val (.int u0_5), .val (.int u0_6), .val (.int u0_7), .val (.ref a0c8), .val (.int v0_14), .unset, .unset, .unset, .unset] []))
          refine stp (fun t k => XS.iconst X0c18.here hx rfl (hb hby at_101) k) ?_
          show W (T0c18.setTop (mkF m 102 #[.val (.int p0), .val (.int p1), .val (.int p2), .val (.int p3), .val (.int p4), .val (.int u0_1), .val (.int u0_3), .val (.int u0_4), .val (.int u0_5), .val (.int u0_6), .val (.int u0_7), .val (.ref a0c8), .val (.int v0_14), .unset, .unset, .unset, .unset] [(.int (0 : Int32))]))
          exact J0_102_22 _ _ (0 : Int32) (by first | rfl | simp only [if_neg hc0_16, if_pos hc0_17, if_pos hc0_20]) X0c18 e0c18 N0c18
        · refine stp (fun t k => XS.ifNo X0c18.here hx rfl (hb hby at_94) rfl ((if0 _ _).trans (feq hc0_20).1) k) ?_
          show W (T0c18.setTop (mkF m 97 #[.val (.int p0), .val (.int p1), .val (.int p2), .val (.int p3), .val (.int p4), .val (.int u0_1), .val (.int u0_3), .val (.int u0_4), .val (.int u0_5), .val (.int u0_6), .val (.int u0_7), .val (.ref a0c8), .val (.int v0_14), .unset, .unset, .unset, .unset] []))
          refine stp (fun t k => XS.iconst X0c18.here hx rfl (hb hby at_97) k) ?_
          show W (T0c18.setTop (mkF m 98 #[.val (.int p0), .val (.int p1), .val (.int p2), .val (.int p3), .val (.int p4), .val (.int u0_1), .val (.int u0_3), .val (.int u0_4), .val (.int u0_5), .val (.int u0_6), .val (.int u0_7), .val (.ref a0c8), .val (.int v0_14), .unset, .unset, .unset, .unset] [(.int (1 : Int32))]))
          refine stp (fun t k => XS.goto X0c18.here hx rfl (pc0 := 98) (pc' := 102) rfl (hb hby at_98) (by decide) (by decide) k) ?_
          show W (T0c18.setTop (mkF m 102 #[.val (.int p0), .val (.int p1), .val (.int p2), .val (.int p3), .val (.int p4), .val (.int u0_1), .val (.int u0_3), .val (.int u0_4), .val (.int u0_5), .val (.int u0_6), .val (.int u0_7), .val (.ref a0c8), .val (.int v0_14), .unset, .unset, .unset, .unset] [(.int (1 : Int32))]))
          exact J0_102_22 _ _ (1 : Int32) (by first | rfl | simp only [if_neg hc0_16, if_pos hc0_17, if_neg hc0_20]) X0c18 e0c18 N0c18
      · refine stp (fun t k => XS.icmpYes X015.here hx rfl (pc0 := 86) (pc' := 97) rfl (hb hby at_86) rfl ((flt hc0_17).2.1) (by decide) (by decide) k) ?_
        show W (T015.setTop (mkF m 97 #[.val (.int p0), .val (.int p1), .val (.int p2), .val (.int p3), .val (.int p4), .val (.int u0_1), .val (.int u0_3), .val (.int u0_4), .val (.int u0_5), .val (.int u0_6), .val (.int u0_7), .val (.ref a0c8), .val (.int v0_14), .unset, .unset, .unset, .unset] []))
        refine stp (fun t k => XS.iconst X015.here hx rfl (hb hby at_97) k) ?_
        show W (T015.setTop (mkF m 98 #[.val (.int p0), .val (.int p1), .val (.int p2), .val (.int p3), .val (.int p4), .val (.int u0_1), .val (.int u0_3), .val (.int u0_4), .val (.int u0_5), .val (.int u0_6), .val (.int u0_7), .val (.ref a0c8), .val (.int v0_14), .unset, .unset, .unset, .unset] [(.int (1 : Int32))]))
        refine stp (fun t k => XS.goto X015.here hx rfl (pc0 := 98) (pc' := 102) rfl (hb hby at_98) (by decide) (by decide) k) ?_
        show W (T015.setTop (mkF m 102 #[.val (.int p0), .val (.int p1), .val (.int p2), .val (.int p3), .val (.int p4), .val (.int u0_1), .val (.int u0_3), .val (.int u0_4), .val (.int u0_5), .val (.int u0_6), .val (.int u0_7), .val (.ref a0c8), .val (.int v0_14), .unset, .unset, .unset, .unset] [(.int (1 : Int32))]))
        exact J0_102_22 _ _ (1 : Int32) (by first | rfl | simp only [if_neg hc0_16, if_neg hc0_17]) X015 e015 N015
  by_cases hc0_9 : (0 : Int32) < u0_3
  · refine stp (fun t k => XS.icmpYes X0c8.here hx rfl (pc0 := 53) (pc' := 70) rfl (hb hby at_53) rfl ((tlt hc0_9).1) (by decide) (by decide) k) ?_
    show W (T0c8.setTop (mkF m 70 #[.val (.int p0), .val (.int p1), .val (.int p2), .val (.int p3), .val (.int p4), .val (.int u0_1), .val (.int u0_3), .val (.int u0_4), .val (.int u0_5), .val (.int u0_6), .val (.int u0_7), .val (.ref a0c8), .unset, .unset, .unset, .unset, .unset] []))
    refine stp (fun t k => XS.iconst X0c8.here hx rfl (hb hby at_70) k) ?_
    show W (T0c8.setTop (mkF m 71 #[.val (.int p0), .val (.int p1), .val (.int p2), .val (.int p3), .val (.int p4), .val (.int u0_1), .val (.int u0_3), .val (.int u0_4), .val (.int u0_5), .val (.int u0_6), .val (.int u0_7), .val (.ref a0c8), .unset, .unset, .unset, .unset, .unset] [(.int (1 : Int32))]))
    refine stp (fun t k => XS.goto X0c8.here hx rfl (pc0 := 71) (pc' := 75) rfl (hb hby at_71) (by decide) (by decide) k) ?_
    show W (T0c8.setTop (mkF m 75 #[.val (.int p0), .val (.int p1), .val (.int p2), .val (.int p3), .val (.int p4), .val (.int u0_1), .val (.int u0_3), .val (.int u0_4), .val (.int u0_5), .val (.int u0_6), .val (.int u0_7), .val (.ref a0c8), .unset, .unset, .unset, .unset, .unset] [(.int (1 : Int32))]))
    exact J0_75_15 _ _ (1 : Int32) (by first | rfl | simp only [if_pos hc0_9]) X0c8 e0c8 N0c8
  · refine stp (fun t k => XS.icmpNo X0c8.here hx rfl (hb hby at_53) rfl ((flt hc0_9).1) k) ?_
    show W (T0c8.setTop (mkF m 56 #[.val (.int p0), .val (.int p1), .val (.int p2), .val (.int p3), .val (.int p4), .val (.int u0_1), .val (.int u0_3), .val (.int u0_4), .val (.int u0_5), .val (.int u0_6), .val (.int u0_7), .val (.ref a0c8), .unset, .unset, .unset, .unset, .unset] []))
    refine stp (fun t k => XS.iconst X0c8.here hx rfl (hb hby at_56) k) ?_
    show W (T0c8.setTop (mkF m 57 #[.val (.int p0), .val (.int p1), .val (.int p2), .val (.int p3), .val (.int p4), .val (.int u0_1), .val (.int u0_3), .val (.int u0_4), .val (.int u0_5), .val (.int u0_6), .val (.int u0_7), .val (.ref a0c8), .unset, .unset, .unset, .unset, .unset] [(.int (0 : Int32))]))
    refine stp (fun t k => XS.iload X0c8.here hx rfl (hb hby at_57) rfl k) ?_
    show W (T0c8.setTop (mkF m 59 #[.val (.int p0), .val (.int p1), .val (.int p2), .val (.int p3), .val (.int p4), .val (.int u0_1), .val (.int u0_3), .val (.int u0_4), .val (.int u0_5), .val (.int u0_6), .val (.int u0_7), .val (.ref a0c8), .unset, .unset, .unset, .unset, .unset] [(.int u0_1), (.int (0 : Int32))]))
    by_cases hc0_10 : (0 : Int32) < u0_1
    · refine stp (fun t k => XS.icmpNo X0c8.here hx rfl (hb hby at_59) rfl ((tlt hc0_10).2.1) k) ?_
      show W (T0c8.setTop (mkF m 62 #[.val (.int p0), .val (.int p1), .val (.int p2), .val (.int p3), .val (.int p4), .val (.int u0_1), .val (.int u0_3), .val (.int u0_4), .val (.int u0_5), .val (.int u0_6), .val (.int u0_7), .val (.ref a0c8), .unset, .unset, .unset, .unset, .unset] []))
      refine stp (fun t k => XS.iload X0c8.here hx rfl (hb hby at_62) rfl k) ?_
      show W (T0c8.setTop (mkF m 64 #[.val (.int p0), .val (.int p1), .val (.int p2), .val (.int p3), .val (.int p4), .val (.int u0_1), .val (.int u0_3), .val (.int u0_4), .val (.int u0_5), .val (.int u0_6), .val (.int u0_7), .val (.ref a0c8), .unset, .unset, .unset, .unset, .unset] [(.int u0_4)]))
      obtain ⟨_, _, ⟨T0c11, L0c11, k0c11, n0c11⟩, -, X0c11, ⟨Lc0c11, hQ0c11, l0c11, y0c11, z0c11⟩, st0c11⟩ := Jvm.LawKit.callS X0c8 hx (y := (⟨"com/example/opuscule/opuscule/record/XmlSpaceIsSpace285PinLaw", "ws", "(C)Z"⟩ : MethodName)) hown (mvT hZ (hw _ (List.mem_of_getElem? (i := 55) rfl))) (mvT hZ (hw _ (List.mem_of_getElem? (i := 56) rfl))) (mvT hZ (hw _ (List.mem_of_getElem? (i := 2) rfl))) (mvT hZ (hw _ (List.mem_of_getElem? (i := 57) rfl))) (by decide) (backOf (W := 0) (rmws l Z aa hw [] u0_4  h0c8 n0 Z0c8 ) hZ (hw _ (List.mem_of_getElem? (i := 57) rfl)) (hw _ (List.mem_of_getElem? (i := 2) rfl)) (by decide) (by decide)) (g := (mkF m 64 #[.val (.int p0), .val (.int p1), .val (.int p2), .val (.int p3), .val (.int p4), .val (.int u0_1), .val (.int u0_3), .val (.int u0_4), .val (.int u0_5), .val (.int u0_6), .val (.int u0_7), .val (.ref a0c8), .unset, .unset, .unset, .unset, .unset] [(.int u0_4)])) rfl (by rw [hml]; rfl) (argsL := [(.int u0_4)]) (rest := []) (lenOf pd0_1 rfl) rfl (by show 2 * 0 + _ ≤ _; exact Nat.le_of_eq rfl) (hb hby at_64) (fun _ _ => ⟨rfl, e0c8, (by decide : 6 + 0 ≤ _), (by decide : 20 + 0 ≤ _)⟩)
      dsimp only [Pt.U, Pt.locs, Pt.cells, Pt.slots] at X0c11 l0c11 y0c11 z0c11 st0c11 hQ0c11
      subst l0c11 y0c11 z0c11
      obtain ⟨rfl, N0c11q, e0c11⟩ := hQ0c11
      have N0c11 := Fr.app N0c8 N0c11q
      obtain ⟨lc0t12, X0c11, N0c11⟩ : ∃ lc, Stand p l e room_1 (s.setVm vm0c8) m #[(.int p0), (.int p1), (.int p2), (.int p3), (.int p4)] below meth c T0c11 lc 6 20 ∧ Fr n0 lc := ⟨_, X0c11, N0c11⟩
      refine stp (fun t k => st0c11 t k) ?_
      show W (T0c11.setTop (mkF m 67 #[.val (.int p0), .val (.int p1), .val (.int p2), .val (.int p3), .val (.int p4), .val (.int u0_1), .val (.int u0_3), .val (.int u0_4), .val (.int u0_5), .val (.int u0_6), .val (.int u0_7), .val (.ref a0c8), .unset, .unset, .unset, .unset, .unset] [(.int (fws u0_4))]))
      by_cases hc0_13 : (fws u0_4) = (0 : Int32)
      · refine stp (fun t k => XS.ifYes X0c11.here hx rfl (pc0 := 67) (pc' := 74) rfl (hb hby at_67) rfl ((if0 _ _).trans (teq hc0_13).1) (by decide) (by decide) k) ?_
        show W (T0c11.setTop (mkF m 74 #[.val (.int p0), .val (.int p1), .val (.int p2), .val (.int p3), .val (.int p4), .val (.int u0_1), .val (.int u0_3), .val (.int u0_4), .val (.int u0_5), .val (.int u0_6), .val (.int u0_7), .val (.ref a0c8), .unset, .unset, .unset, .unset, .unset] []))
        refine stp (fun t k => XS.iconst X0c11.here hx rfl (hb hby at_74) k) ?_
        show W (T0c11.setTop (mkF m 75 #[.val (.int p0), .val (.int p1), .val (.int p2), .val (.int p3), .val (.int p4), .val (.int u0_1), .val (.int u0_3), .val (.int u0_4), .val (.int u0_5), .val (.int u0_6), .val (.int u0_7), .val (.ref a0c8), .unset, .unset, .unset, .unset, .unset] [(.int (0 : Int32))]))
        exact J0_75_15 _ _ (0 : Int32) (by first | rfl | simp only [if_neg hc0_9, if_pos hc0_10, if_pos hc0_13]) X0c11 e0c11 N0c11
      · refine stp (fun t k => XS.ifNo X0c11.here hx rfl (hb hby at_67) rfl ((if0 _ _).trans (feq hc0_13).1) k) ?_
        show W (T0c11.setTop (mkF m 70 #[.val (.int p0), .val (.int p1), .val (.int p2), .val (.int p3), .val (.int p4), .val (.int u0_1), .val (.int u0_3), .val (.int u0_4), .val (.int u0_5), .val (.int u0_6), .val (.int u0_7), .val (.ref a0c8), .unset, .unset, .unset, .unset, .unset] []))
        refine stp (fun t k => XS.iconst X0c11.here hx rfl (hb hby at_70) k) ?_
        show W (T0c11.setTop (mkF m 71 #[.val (.int p0), .val (.int p1), .val (.int p2), .val (.int p3), .val (.int p4), .val (.int u0_1), .val (.int u0_3), .val (.int u0_4), .val (.int u0_5), .val (.int u0_6), .val (.int u0_7), .val (.ref a0c8), .unset, .unset, .unset, .unset, .unset] [(.int (1 : Int32))]))
        refine stp (fun t k => XS.goto X0c11.here hx rfl (pc0 := 71) (pc' := 75) rfl (hb hby at_71) (by decide) (by decide) k) ?_
        show W (T0c11.setTop (mkF m 75 #[.val (.int p0), .val (.int p1), .val (.int p2), .val (.int p3), .val (.int p4), .val (.int u0_1), .val (.int u0_3), .val (.int u0_4), .val (.int u0_5), .val (.int u0_6), .val (.int u0_7), .val (.ref a0c8), .unset, .unset, .unset, .unset, .unset] [(.int (1 : Int32))]))
        exact J0_75_15 _ _ (1 : Int32) (by first | rfl | simp only [if_neg hc0_9, if_pos hc0_10, if_neg hc0_13]) X0c11 e0c11 N0c11
    · refine stp (fun t k => XS.icmpYes X0c8.here hx rfl (pc0 := 59) (pc' := 70) rfl (hb hby at_59) rfl ((flt hc0_10).2.1) (by decide) (by decide) k) ?_
      show W (T0c8.setTop (mkF m 70 #[.val (.int p0), .val (.int p1), .val (.int p2), .val (.int p3), .val (.int p4), .val (.int u0_1), .val (.int u0_3), .val (.int u0_4), .val (.int u0_5), .val (.int u0_6), .val (.int u0_7), .val (.ref a0c8), .unset, .unset, .unset, .unset, .unset] []))
      refine stp (fun t k => XS.iconst X0c8.here hx rfl (hb hby at_70) k) ?_
      show W (T0c8.setTop (mkF m 71 #[.val (.int p0), .val (.int p1), .val (.int p2), .val (.int p3), .val (.int p4), .val (.int u0_1), .val (.int u0_3), .val (.int u0_4), .val (.int u0_5), .val (.int u0_6), .val (.int u0_7), .val (.ref a0c8), .unset, .unset, .unset, .unset, .unset] [(.int (1 : Int32))]))
      refine stp (fun t k => XS.goto X0c8.here hx rfl (pc0 := 71) (pc' := 75) rfl (hb hby at_71) (by decide) (by decide) k) ?_
      show W (T0c8.setTop (mkF m 75 #[.val (.int p0), .val (.int p1), .val (.int p2), .val (.int p3), .val (.int p4), .val (.int u0_1), .val (.int u0_3), .val (.int u0_4), .val (.int u0_5), .val (.int u0_6), .val (.int u0_7), .val (.ref a0c8), .unset, .unset, .unset, .unset, .unset] [(.int (1 : Int32))]))
      exact J0_75_15 _ _ (1 : Int32) (by first | rfl | simp only [if_neg hc0_9, if_neg hc0_10]) X0c8 e0c8 N0c8
theorem own_eqI {args : Array Value} {first s : State} {o : Option Outcome} {idx : List Nat} {a b : Term} {k : Int32} (h : (Jvm.Cond.eq a b).value args first o s idx = some true) (hb : b.eval args first o idx s = some (.int k)) : a.eval args first o idx s = some (.int k) := by
  obtain ⟨x, y, e1, e2, k1, k2⟩ := cmp_v (Or.inl h)
  cases hb.symm.trans e2
  obtain ⟨z, rfl⟩ := k2
  simp only [Cond.value, e1, hb] at h
  simp at h
  rw [e1, h]
set_option maxRecDepth 65536 in
set_option maxHeartbeats 40000000 in
theorem comes_1 {Post : Tables → Env → Array Value → State → Outcome → State → Prop} (hpost : ∀ tb e args s v u, (limb_1_1.after args s (.returned v) u = true ∧ limb_1_2.after args s (.returned v) u = true ∧ True) → ReturnedEndW s (.returned v) u (Jvm.fieldLocs frame_1_writes args s ++ Jvm.arrayLocs frame_1_arrays args s ++ Jvm.staticLocs frame_1_statics s) 24 1152 → Post tb e args s (.returned v) u) :
    ArmFor flags0 classFile x code maxLocals ret World_1 tables_1 room_1 Calls_1 rest_1 Pre_1 Post := by
  intro l hfl _ _ p e ha hc hk s m args below hf hA hF happ hP
  obtain ⟨hcalls, hrest, hpre⟩ := hP
  obtain ⟨-, -, -, hnamed, -, -, -, hat⟩ := (Spec.applies_iff hf).mp happ
  obtain ⟨hg, hn⟩ := and_e (Cond.before_iff.mp (show (Jvm.Cond.and given_1 narrow_1).before args s = true from hpre))
  obtain ⟨gc, hg⟩ := and_e hg
  obtain ⟨g0, hg⟩ := and_e hg
  obtain ⟨g1, hg⟩ := and_e hg
  obtain ⟨g2, hg⟩ := and_e hg
  obtain ⟨g3, hg⟩ := and_e hg
  have g4 := hg
  obtain ⟨w0, w1, w2, w3, w4, rfl⟩ : ∃ w0 w1 w2 w3 w4 : Value, args = #[w0, w1, w2, w3, w4] := by
    have hs : args.size = 5 := by simpa [Cond.value, given_1] using gc
    obtain ⟨L⟩ := args
    match L, hs with
    | [w0, w1, w2, w3, w4], _ => exact ⟨w0, w1, w2, w3, w4, rfl⟩
  have hw := fun d (hd : d ∈ tables_1) => atoms_spec (ws := Jvm.Cond.code x code maxLocals ret :: tables_1) hat d (List.mem_cons_of_mem _ hd)
  have hfit : Fit s := fun {y c} hc i hi => by
    obtain ⟨ha, rfl⟩ := Array.getElem?_eq_some_iff.mp hc
    have q := List.all_eq_true.mp ((Array.all_eq_true_iff_forall_mem.mp hF) _ (Array.getElem_mem ha)) i (List.mem_range.mpr hi)
    simpa [Array.getElem?_eq_getElem hi] using q
  obtain ⟨hsets, hown0⟩ := atoms_of _ (rest_1_c_eq ▸ (show rest_1_c.before _ s = true from hrest))
  have hr0 := Cond.before_iff.mp hown0
  obtain ⟨i0, ei0⟩ := is_v g0
  obtain rfl : w0 = (.int i0) := Option.some.inj ei0
  obtain ⟨i1, ei1⟩ := is_v g1
  obtain rfl : w1 = (.int i1) := Option.some.inj ei1
  obtain ⟨i2, ei2⟩ := is_v g2
  obtain rfl : w2 = (.int i2) := Option.some.inj ei2
  obtain ⟨i3, ei3⟩ := is_v g3
  obtain rfl : w3 = (.int i3) := Option.some.inj ei3
  obtain ⟨i4, ei4⟩ := is_v g4
  obtain rfl : w4 = (.int i4) := Option.some.inj ei4
  obtain ⟨wc, ewc⟩ := is_v (Cond.before_iff.mp (hsets _ (List.mem_of_getElem? (i := 1) rfl)))
  have S_cs := Sta.start ewc (Or.inl (hsets _ (List.mem_of_getElem? (i := 0) rfl)))
  have hcs : ¬ (wc = (0 : Int32)) := fun q => by
    have h2 := not_v (Cond.before_iff.mp (hsets _ (List.mem_of_getElem? (i := 2) rfl)))
    rw [q] at ewc
    rw [eq_i ewc (Term.int_eval 0) rfl] at h2
    cases h2
  obtain ⟨sx, esx, hr_sx⟩ := isR_v (Cond.before_iff.mp (hsets _ (List.mem_of_getElem? (i := 8) rfl)))
  have S_si := Sta.start esx (Or.inl (hsets _ (List.mem_of_getElem? (i := 7) rfl)))
  have S_ad := Sta.start (own_eqI (Cond.before_iff.mp (hsets _ (List.mem_of_getElem? (i := 12) rfl))) (Term.int_eval 1)) (Or.inl (hsets _ (List.mem_of_getElem? (i := 11) rfl)))
  have S_hi := Sta.start (own_eqI (Cond.before_iff.mp (hsets _ (List.mem_of_getElem? (i := 15) rfl))) (Term.int_eval 0)) (Or.inl (hsets _ (List.mem_of_getElem? (i := 14) rfl)))
  have S_lo := Sta.start (own_eqI (Cond.before_iff.mp (hsets _ (List.mem_of_getElem? (i := 18) rfl))) (Term.int_eval 8)) (Or.inl (hsets _ (List.mem_of_getElem? (i := 17) rfl)))
  have BW : OwnW s wc sx := ⟨S_cs, hcs, S_si, hr_sx, S_ad, S_hi, S_lo⟩
  have HH : CHv s ownEL s.vm s.heap := CHv.start (own_EW hw) (fun p hp => hcalls.1 p hp) (hsets _ (List.mem_of_getElem? (i := 2) rfl)) (hw _ (List.mem_of_getElem? (i := 19) rfl)) (hw _ (List.mem_of_getElem? (i := 5) rfl))
  obtain ⟨n, o, h1, h2, h3, _, L, rfl, ⟨rfl, N⟩, -, hq⟩ := rm0 l s _ hw tables_1 i0 i1 i2 i3 i4 wc sx s.heap s.heap.size (Nat.le_refl _) BW (Old.start s) p e ha hc hk s m _ below hf ((Spec.applies_iff_loose hf).mp happ).1 ⟨rfl, State.Warmed39.refl s, rfl, HH⟩ trivial
  refine ⟨n, _, h1, h2, h3, hpost _ _ _ _ _ _ ⟨Cond.after_iff.mpr rfl, Cond.after_iff.mpr (eq_i res_at (Term.int_eval (1)) rfl), trivial⟩ ⟨hq.1, hq.2.1, hq.2.2.1, (hq.2.2.2.sift fun y hy => Or.inr (N y hy)).mono (by decide) (by decide)⟩⟩
theorem main_1_1 : Claimed_1_1 := comes_1 fun _ _ _ _ _ _ h hF => ⟨h.1, hF⟩
theorem main_1_2 : Claimed_1_2 := comes_1 fun _ _ _ _ _ _ h hF => ⟨h.2.1, hF⟩
end Jvm.Pilot.@@N@@
namespace Jvm.Pilot.@@N@@
open Jvm Jvm.ClassFile Sem Op Lib Jvm.Free Jvm.Stand Jvm.Pilot.@@N@@.Jvm.D
/-! MADE BY PROGRAM (witnessworld.py) out of the Statement's table words and the real class files: 20 classes; the members and pool entries that the words name. The judged class is class 1, her method 3. -/
namespace start1
open Jvm.ClassFile
def u (s : String) : CpInfo := .utf8 (stringToUtf16 s)
/-- a pool by its gaps: so many unusable entries, then the entry; so many at the end -/
def gap : Nat → List CpInfo → List CpInfo
  | 0, r => r
  | n + 1, r => .unusable :: gap n r
def poolList (es : List (Nat × CpInfo)) (last : Nat) : List CpInfo := es.foldr (fun e r => gap e.1 (e.2 :: r)) (gap last [])
def pool (es : List (Nat × CpInfo)) (last : Nat) : Array CpInfo := ⟨poolList es last⟩
def fileOf (pool : Array CpInfo) (this : Nat) (attrs : Array Attribute := #[]) (ms : Array MethodInfo := #[]) (fl : Nat := 33) (sup : Nat := 0) (ifs : Array Nat := #[]) (fds : Array FieldInfo := #[]) : ClassFile where
  minorVersion := 0
  majorVersion := 65
  constantPool := pool
  accessFlags := fl
  thisClass := this
  superClass := sup
  interfaces := ifs
  fields := fds
  methods := ms
  attributes := attrs
def plain (name : String) (sup : Option ClassId) : Class where
  name := name
  kind := .ordinary
  loader := none
  accessFlags := 33
  super := sup
  interfaces := #[]
  cf := none
  fields := #[]
  methods := #[]
  instanceTypes := #[]
  staticTypes := #[]
  resolved := #[]
  callSites := []
  init := .initialized
  statics := none
  mirror := none

def pool0 : Array CpInfo := pool [(5, u "<init>"), (0, u "()V"), (1, .class_ 10), (1, u "java/lang/Object")] 113

def k0c0 : Code := { maxStack := 0, maxLocals := 1, code := object_method_1_code, exceptionTable := #[], attributes := #[] }
def k0m0 : Method := { name := "<init>", desc := "()V", sig := { parameters := [], returnType := none }, accessFlags := 1, code := some k0c0 }
/-- java/lang/Object -/
def k0 : Class := { plain "java/lang/Object" none with
  accessFlags := 33
  interfaces := #[]
  cf := some (fileOf pool0 8 #[] #[{ accessFlags := 1, nameIndex := 5, descriptorIndex := 6, attributes := #[] }] 33 0 #[] #[])
  fields := #[]
  methods := #[k0m0]
  instanceTypes := #[]
  staticTypes := #[]
  resolved := Array.replicate 124 none
  statics := none }

def pool1 : Array CpInfo := pool [(2, .class_ 4), (1, u "java/lang/Object"), (0, u "<init>"), (0, u "()V"), (0, .class_ 8), (0, u "java/lang/String"), (0, .methodref 7 10), (0, .nameAndType 5 11), (0, u "([C)V"), (0, .methodref 13 14), (0, .class_ 15), (0, .nameAndType 16 17), (0, u "com/example/opuscule/opuscule/record/XmlSpaceIsSpace285PinLaw"), (0, u "make"), (0, u "(ICCCC)Ljava/lang/String;"), (0, .methodref 13 19), (0, .nameAndType 20 21), (0, u "ws"), (0, u "(C)Z"), (0, .methodref 23 24), (0, .class_ 25), (0, .nameAndType 26 27), (0, u "com/example/opuscule/opuscule/record/XmlSpace"), (0, u "isSpace"), (0, u "(Ljava/lang/CharSequence;I)Z"), (3, u "law"), (0, u "(IIIII)Z")] 2

def k1m0 : Method := { name := "<init>", desc := "()V", sig := { parameters := [], returnType := none }, accessFlags := 2, code := none }
def k1c1 : Code := { maxStack := 2, maxLocals := 1, code := method_2_code, exceptionTable := #[], attributes := #[] }
def k1m1 : Method := { name := "ws", desc := "(C)Z", sig := { parameters := [.char], returnType := some .boolean }, accessFlags := 10, code := some k1c1 }
def k1c2 : Code := { maxStack := 6, maxLocals := 5, code := method_3_code, exceptionTable := #[], attributes := #[] }
def k1m2 : Method := { name := "make", desc := "(ICCCC)Ljava/lang/String;", sig := { parameters := [.int, .char, .char, .char, .char], returnType := some (.object "java/lang/String") }, accessFlags := 10, code := some k1c2 }
def k1c3 : Code := { maxStack := 5, maxLocals := 17, code := code, exceptionTable := #[], attributes := #[] }
def k1m3 : Method := { name := "law", desc := "(IIIII)Z", sig := { parameters := [.int, .int, .int, .int, .int], returnType := some .boolean }, accessFlags := 9, code := some k1c3 }
/-- com/example/opuscule/opuscule/record/XmlSpaceIsSpace285PinLaw -/
def k1 : Class := { plain "com/example/opuscule/opuscule/record/XmlSpaceIsSpace285PinLaw" (some 0) with
  accessFlags := 49
  interfaces := #[]
  cf := some (fileOf pool1 13 #[] #[{ accessFlags := 2, nameIndex := 5, descriptorIndex := 6, attributes := #[] }, { accessFlags := 10, nameIndex := 20, descriptorIndex := 21, attributes := #[] }, { accessFlags := 10, nameIndex := 16, descriptorIndex := 17, attributes := #[] }, { accessFlags := 9, nameIndex := 31, descriptorIndex := 32, attributes := #[] }] 49 2 #[] #[])
  fields := #[]
  methods := #[k1m0, k1m1, k1m2, k1m3]
  instanceTypes := #[]
  staticTypes := #[]
  resolved := Array.replicate 35 none
  statics := none }

def pool2 : Array CpInfo := pool [(1, .class_ 2), (0, u "java/io/Serializable"), (0, .class_ 4), (0, u "java/lang/Object")] 2

/-- java/io/Serializable -/
def k2 : Class := { plain "java/io/Serializable" (some 0) with
  accessFlags := 1537
  interfaces := #[]
  cf := some (fileOf pool2 1 #[] #[] 1537 3 #[] #[])
  fields := #[]
  methods := #[]
  instanceTypes := #[]
  staticTypes := #[]
  resolved := Array.replicate 7 none
  statics := none }

def pool3 : Array CpInfo := pool [(1, .class_ 2), (0, u "java/lang/Comparable"), (0, .class_ 4), (0, u "java/lang/Object")] 7

/-- java/lang/Comparable -/
def k3 : Class := { plain "java/lang/Comparable" (some 0) with
  accessFlags := 1537
  interfaces := #[]
  cf := some (fileOf pool3 1 #[] #[] 1537 3 #[] #[])
  fields := #[]
  methods := #[]
  instanceTypes := #[]
  staticTypes := #[]
  resolved := Array.replicate 12 none
  statics := none }

def pool4 : Array CpInfo := pool [(2, .class_ 4), (1, u "java/lang/CharSequence"), (0, u "length"), (0, u "()I"), (38, u "charAt"), (0, u "(I)C"), (0, .class_ 48), (0, u "java/lang/CharSequence$1CodePointIterator"), (10, .class_ 60), (0, u "java/lang/CharSequence$1CharIterator"), (5, .class_ 67), (0, u "java/lang/Object")] 63

def k4m0 : Method := { name := "length", desc := "()I", sig := { parameters := [], returnType := some .int }, accessFlags := 1025, code := none }
def k4m1 : Method := { name := "charAt", desc := "(I)C", sig := { parameters := [.int], returnType := some .char }, accessFlags := 1025, code := none }
/-- java/lang/CharSequence -/
def k4 : Class := { plain "java/lang/CharSequence" (some 0) with
  accessFlags := 1537
  interfaces := #[]
  cf := some (fileOf pool4 2 #[.nestMembers #[47, 59]] #[{ accessFlags := 1025, nameIndex := 5, descriptorIndex := 6, attributes := #[] }, { accessFlags := 1025, nameIndex := 45, descriptorIndex := 46, attributes := #[] }] 1537 66 #[] #[])
  fields := #[]
  methods := #[k4m0, k4m1]
  instanceTypes := #[]
  staticTypes := #[]
  resolved := Array.replicate 131 none
  statics := none }

def pool5 : Array CpInfo := pool [(1, .class_ 2), (0, u "java/lang/constant/Constable"), (0, .class_ 4), (0, u "java/lang/Object")] 6

/-- java/lang/constant/Constable -/
def k5 : Class := { plain "java/lang/constant/Constable" (some 0) with
  accessFlags := 1537
  interfaces := #[]
  cf := some (fileOf pool5 1 #[] #[] 1537 3 #[] #[])
  fields := #[]
  methods := #[]
  instanceTypes := #[]
  staticTypes := #[]
  resolved := Array.replicate 11 none
  statics := none }

def pool6 : Array CpInfo := pool [(1, .class_ 2), (0, u "java/lang/constant/ConstantDesc"), (0, .class_ 4), (0, u "java/lang/Object")] 32

/-- java/lang/constant/ConstantDesc -/
def k6 : Class := { plain "java/lang/constant/ConstantDesc" (some 0) with
  accessFlags := 1537
  interfaces := #[]
  cf := some (fileOf pool6 1 #[] #[] 1537 3 #[] #[])
  fields := #[]
  methods := #[]
  instanceTypes := #[]
  staticTypes := #[]
  resolved := Array.replicate 37 none
  statics := none }

def pool7 : Array CpInfo := pool [(1, .methodref 2 3), (0, .class_ 4), (0, .nameAndType 5 6), (0, u "java/lang/Object"), (0, u "<init>"), (0, u "()V"), (0, .string 8), (0, u ""), (0, .fieldref 10 11), (0, .class_ 12), (0, .nameAndType 13 14), (0, u "java/lang/String"), (0, u "value"), (0, u "[B"), (0, .fieldref 10 16), (0, .nameAndType 17 18), (0, u "coder"), (0, u "B"), (2, u "hash"), (0, u "I"), (2, u "hashIsZero"), (0, u "Z"), (0, .methodref 10 28), (0, .nameAndType 5 29), (0, u "([CIILjava/lang/Void;)V"), (8, .fieldref 10 39), (0, .nameAndType 40 26), (0, u "COMPACT_STRINGS"), (1, .class_ 44), (1, u "java/lang/StringUTF16"), (0, u "compress"), (1, .methodref 42 48), (0, .nameAndType 49 50), (0, u "coderFromArrayLen"), (0, u "([BI)B"), (56, .class_ 109), (1, u "java/lang/StringLatin1"), (32, u "()Z"), (34, .methodref 42 178), (0, .nameAndType 45 179), (0, u "([CII)[B"), (154, u "()I"), (0, .methodref 10 336), (0, .nameAndType 17 337), (0, u "()B"), (25, u "([BI)C"), (27, u "(II)V"), (35, u "(I)C"), (64, .methodref 10 493), (0, .nameAndType 494 142), (0, u "isLatin1"), (0, .methodref 107 496), (0, .nameAndType 497 363), (0, u "charAt"), (0, .methodref 42 496), (2, u "checkIndex"), (5, u "length"), (67, .class_ 576), (0, u "java/lang/CharSequence"), (22, u "CASE_INSENSITIVE_ORDER"), (0, u "Ljava/util/Comparator;"), (409, u "([C)V"), (42, .fieldref 1054 1055), (0, .class_ 1056), (0, .nameAndType 1057 1058), (0, u "jdk/internal/util/Preconditions"), (0, u "SIOOBE_FORMATTER"), (0, u "Ljava/util/function/BiFunction;"), (0, .methodref 1054 1060), (0, .nameAndType 501 1061), (0, u "(IILjava/util/function/BiFunction;)I"), (39, u "serialPersistentFields"), (0, u "[Ljava/io/ObjectStreamField;"), (0, .class_ 1104), (0, u "java/lang/String$CaseInsensitiveComparator"), (1, .class_ 1107), (0, u "java/io/Serializable"), (0, .class_ 1109), (0, u "java/lang/Comparable"), (0, .class_ 1111), (0, u "java/lang/constant/Constable"), (0, .class_ 1113), (0, u "java/lang/constant/ConstantDesc"), (2, u "serialVersionUID"), (0, u "J"), (3, u "REPL"), (0, u "C"), (2, u "LATIN1"), (1, u "UTF16")] 323

def k7m0 : Method := { name := "<init>", desc := "()V", sig := { parameters := [], returnType := none }, accessFlags := 1, code := none }
def k7c1 : Code := { maxStack := 5, maxLocals := 2, code := jdk_42_method_3_code, exceptionTable := #[], attributes := #[] }
def k7m1 : Method := { name := "<init>", desc := "([C)V", sig := { parameters := [(.array .char)], returnType := none }, accessFlags := 1, code := some k7c1 }
def k7c2 : Code := { maxStack := 2, maxLocals := 1, code := jdk_42_method_54_code, exceptionTable := #[], attributes := #[] }
def k7m2 : Method := { name := "length", desc := "()I", sig := { parameters := [], returnType := some .int }, accessFlags := 1, code := some k7c2 }
def k7c3 : Code := { maxStack := 2, maxLocals := 2, code := jdk_42_method_56_code, exceptionTable := #[], attributes := #[] }
def k7m3 : Method := { name := "charAt", desc := "(I)C", sig := { parameters := [.int], returnType := some .char }, accessFlags := 1, code := some k7c3 }
def k7c4 : Code := { maxStack := 4, maxLocals := 6, code := jdk_42_method_149_code, exceptionTable := #[], attributes := #[] }
def k7m4 : Method := { name := "<init>", desc := "([CIILjava/lang/Void;)V", sig := { parameters := [(.array .char), .int, .int, (.object "java/lang/Void")], returnType := none }, accessFlags := 2, code := some k7c4 }
def k7c5 : Code := { maxStack := 1, maxLocals := 1, code := jdk_42_method_152_code, exceptionTable := #[], attributes := #[] }
def k7m5 : Method := { name := "coder", desc := "()B", sig := { parameters := [], returnType := some .byte }, accessFlags := 0, code := some k7c5 }
def k7c6 : Code := { maxStack := 1, maxLocals := 1, code := jdk_42_method_154_code, exceptionTable := #[], attributes := #[] }
def k7m6 : Method := { name := "isLatin1", desc := "()Z", sig := { parameters := [], returnType := some .boolean }, accessFlags := 0, code := some k7c6 }
def k7c7 : Code := { maxStack := 3, maxLocals := 2, code := jdk_42_method_155_code, exceptionTable := #[], attributes := #[] }
def k7m7 : Method := { name := "checkIndex", desc := "(II)V", sig := { parameters := [.int, .int], returnType := none }, accessFlags := 8, code := some k7c7 }
/-- java/lang/String -/
def k7 : Class := { plain "java/lang/String" (some 0) with
  accessFlags := 49
  interfaces := #[2, 3, 4, 5, 6]
  cf := some (fileOf pool7 10 #[.nestMembers #[1103]] #[{ accessFlags := 1, nameIndex := 5, descriptorIndex := 6, attributes := #[] }, { accessFlags := 1, nameIndex := 5, descriptorIndex := 1010, attributes := #[] }, { accessFlags := 1, nameIndex := 507, descriptorIndex := 334, attributes := #[] }, { accessFlags := 1, nameIndex := 497, descriptorIndex := 427, attributes := #[] }, { accessFlags := 2, nameIndex := 5, descriptorIndex := 29, attributes := #[] }, { accessFlags := 0, nameIndex := 17, descriptorIndex := 337, attributes := #[] }, { accessFlags := 0, nameIndex := 494, descriptorIndex := 142, attributes := #[] }, { accessFlags := 8, nameIndex := 501, descriptorIndex := 391, attributes := #[] }] 49 2 #[1106, 1108, 575, 1110, 1112] #[{ accessFlags := 18, nameIndex := 13, descriptorIndex := 14, attributes := #[] }, { accessFlags := 18, nameIndex := 17, descriptorIndex := 18, attributes := #[] }, { accessFlags := 2, nameIndex := 21, descriptorIndex := 22, attributes := #[] }, { accessFlags := 2, nameIndex := 25, descriptorIndex := 26, attributes := #[] }, { accessFlags := 26, nameIndex := 1116, descriptorIndex := 1117, attributes := #[] }, { accessFlags := 24, nameIndex := 40, descriptorIndex := 26, attributes := #[] }, { accessFlags := 26, nameIndex := 1101, descriptorIndex := 1102, attributes := #[] }, { accessFlags := 26, nameIndex := 1121, descriptorIndex := 1122, attributes := #[] }, { accessFlags := 25, nameIndex := 599, descriptorIndex := 600, attributes := #[] }, { accessFlags := 24, nameIndex := 1125, descriptorIndex := 18, attributes := #[] }, { accessFlags := 24, nameIndex := 1127, descriptorIndex := 18, attributes := #[] }])
  fields := #[{ name := "value", type := (.array .byte), accessFlags := 18, slot := 0, constantValue := 0 }, { name := "coder", type := .byte, accessFlags := 18, slot := 1, constantValue := 0 }, { name := "hash", type := .int, accessFlags := 2, slot := 2, constantValue := 0 }, { name := "hashIsZero", type := .boolean, accessFlags := 2, slot := 3, constantValue := 0 }, { name := "serialVersionUID", type := .long, accessFlags := 26, slot := 0, constantValue := 0 }, { name := "COMPACT_STRINGS", type := .boolean, accessFlags := 24, slot := 1, constantValue := 0 }, { name := "serialPersistentFields", type := (.array (.object "java/io/ObjectStreamField")), accessFlags := 26, slot := 2, constantValue := 0 }, { name := "REPL", type := .char, accessFlags := 26, slot := 3, constantValue := 0 }, { name := "CASE_INSENSITIVE_ORDER", type := (.object "java/util/Comparator"), accessFlags := 25, slot := 4, constantValue := 0 }, { name := "LATIN1", type := .byte, accessFlags := 24, slot := 5, constantValue := 0 }, { name := "UTF16", type := .byte, accessFlags := 24, slot := 6, constantValue := 0 }]
  methods := #[k7m0, k7m1, k7m2, k7m3, k7m4, k7m5, k7m6, k7m7]
  instanceTypes := #[(.array .byte), .byte, .int, .boolean]
  staticTypes := #[.long, .boolean, (.array (.object "java/io/ObjectStreamField")), .char, (.object "java/util/Comparator"), .byte, .byte]
  resolved := Array.replicate 1451 none
  statics := some 0 }

def pool8 : Array CpInfo := pool [(2, .class_ 4), (1, u "java/lang/Object"), (0, u "<init>"), (0, u "()V"), (0, .interfaceMethodref 8 9), (0, .class_ 10), (0, .nameAndType 11 12), (0, u "java/lang/CharSequence"), (0, u "length"), (0, u "()I"), (0, .interfaceMethodref 8 14), (0, .nameAndType 15 16), (0, u "charAt"), (0, u "(I)C"), (0, .methodref 18 19), (0, .class_ 20), (0, .nameAndType 21 22), (0, u "com/example/opuscule/opuscule/record/XmlSpace"), (0, u "isSpace"), (0, u "(I)Z"), (13, u "(Ljava/lang/CharSequence;I)Z")] 2

def k8m0 : Method := { name := "<init>", desc := "()V", sig := { parameters := [], returnType := none }, accessFlags := 2, code := none }
def k8c1 : Code := { maxStack := 2, maxLocals := 3, code := prog_49_method_3_code, exceptionTable := #[], attributes := #[] }
def k8m1 : Method := { name := "isSpace", desc := "(Ljava/lang/CharSequence;I)Z", sig := { parameters := [(.object "java/lang/CharSequence"), .int], returnType := some .boolean }, accessFlags := 9, code := some k8c1 }
def k8c2 : Code := { maxStack := 2, maxLocals := 1, code := prog_49_method_4_code, exceptionTable := #[], attributes := #[] }
def k8m2 : Method := { name := "isSpace", desc := "(I)Z", sig := { parameters := [.int], returnType := some .boolean }, accessFlags := 9, code := some k8c2 }
/-- com/example/opuscule/opuscule/record/XmlSpace -/
def k8 : Class := { plain "com/example/opuscule/opuscule/record/XmlSpace" (some 0) with
  accessFlags := 49
  interfaces := #[]
  cf := some (fileOf pool8 18 #[] #[{ accessFlags := 2, nameIndex := 5, descriptorIndex := 6, attributes := #[] }, { accessFlags := 9, nameIndex := 21, descriptorIndex := 36, attributes := #[] }, { accessFlags := 9, nameIndex := 21, descriptorIndex := 22, attributes := #[] }] 49 2 #[] #[])
  fields := #[]
  methods := #[k8m0, k8m1, k8m2]
  instanceTypes := #[]
  staticTypes := #[]
  resolved := Array.replicate 39 none
  statics := none }

def pool9 : Array CpInfo := pool [(3, .class_ 4), (0, u "java/lang/String"), (1, .class_ 8), (1, u "java/lang/Object"), (0, u "<init>"), (0, u "()V"), (0, .methodref 12 13), (0, .class_ 14), (0, .nameAndType 15 16), (0, u "java/lang/StringUTF16"), (0, u "newBytesLength"), (0, u "(I)I"), (3, .integer 1073741823), (23, .fieldref 12 45), (0, .nameAndType 46 47), (0, u "$assertionsDisabled"), (0, u "Z"), (0, .methodref 12 49), (0, .nameAndType 50 51), (0, u "length"), (0, u "([B)I"), (7, .fieldref 12 60), (0, .nameAndType 61 62), (0, u "HI_BYTE_SHIFT"), (0, u "I"), (0, .fieldref 12 64), (0, .nameAndType 65 62), (0, u "LO_BYTE_SHIFT"), (1, .methodref 12 68), (0, .nameAndType 69 70), (0, u "checkIndex"), (0, u "(I[B)V"), (0, .methodref 12 72), (0, .nameAndType 73 74), (0, u "getChar"), (0, u "([BI)C"), (32, .methodref 12 108), (0, .nameAndType 109 110), (0, u "newBytesFor"), (0, u "(I)[B"), (0, .methodref 12 112), (0, .nameAndType 113 114), (0, u "putChar"), (0, u "([BII)V"), (0, .methodref 12 116), (0, .nameAndType 117 118), (0, u "compress"), (0, u "([CI[BII)I"), (0, .methodref 12 120), (0, .nameAndType 121 122), (0, u "toBytes"), (0, u "([CII)[B"), (138, u "coderFromArrayLen"), (0, u "([BI)B"), (106, .class_ 371), (1, u "java/lang/StringUTF16$LinesSpliterator"), (20, u "charAt"), (21, .methodref 3 415), (0, .nameAndType 69 416), (0, u "(II)V"), (13, u "MAX_LENGTH"), (196, .class_ 628), (0, u "java/lang/StringUTF16$CodePointsSpliterator"), (0, .class_ 630), (0, u "java/lang/StringUTF16$CharsSpliterator")] 4

def k9m0 : Method := { name := "<init>", desc := "()V", sig := { parameters := [], returnType := none }, accessFlags := 0, code := none }
def k9c1 : Code := { maxStack := 1, maxLocals := 1, code := jdk_52_method_2_code, exceptionTable := #[], attributes := #[] }
def k9m1 : Method := { name := "newBytesFor", desc := "(I)[B", sig := { parameters := [.int], returnType := some (.array .byte) }, accessFlags := 9, code := some k9c1 }
def k9c2 : Code := { maxStack := 4, maxLocals := 1, code := jdk_52_method_3_code, exceptionTable := #[], attributes := #[] }
def k9m2 : Method := { name := "newBytesLength", desc := "(I)I", sig := { parameters := [.int], returnType := some .int }, accessFlags := 9, code := some k9c2 }
def k9c3 : Code := { maxStack := 4, maxLocals := 3, code := jdk_52_method_4_code, exceptionTable := #[], attributes := #[] }
def k9m3 : Method := { name := "putChar", desc := "([BII)V", sig := { parameters := [(.array .byte), .int, .int], returnType := none }, accessFlags := 8, code := some k9c3 }
def k9c4 : Code := { maxStack := 3, maxLocals := 2, code := jdk_52_method_5_code, exceptionTable := #[], attributes := #[] }
def k9m4 : Method := { name := "getChar", desc := "([BI)C", sig := { parameters := [(.array .byte), .int], returnType := some .char }, accessFlags := 8, code := some k9c4 }
def k9c5 : Code := { maxStack := 2, maxLocals := 1, code := jdk_52_method_6_code, exceptionTable := #[], attributes := #[] }
def k9m5 : Method := { name := "length", desc := "([B)I", sig := { parameters := [(.array .byte)], returnType := some .int }, accessFlags := 9, code := some k9c5 }
def k9c6 : Code := { maxStack := 4, maxLocals := 5, code := jdk_52_method_14_code, exceptionTable := #[], attributes := #[] }
def k9m6 : Method := { name := "toBytes", desc := "([CII)[B", sig := { parameters := [(.array .char), .int, .int], returnType := some (.array .byte) }, accessFlags := 9, code := some k9c6 }
def k9c7 : Code := { maxStack := 2, maxLocals := 2, code := jdk_52_method_15_code, exceptionTable := #[], attributes := #[] }
def k9m7 : Method := { name := "coderFromArrayLen", desc := "([BI)B", sig := { parameters := [(.array .byte), .int], returnType := some .byte }, accessFlags := 8, code := some k9c7 }
def k9c8 : Code := { maxStack := 5, maxLocals := 6, code := jdk_52_method_16_code, exceptionTable := #[], attributes := #[] }
def k9m8 : Method := { name := "compress", desc := "([CII)[B", sig := { parameters := [(.array .char), .int, .int], returnType := some (.array .byte) }, accessFlags := 9, code := some k9c8 }
def k9c9 : Code := { maxStack := 3, maxLocals := 7, code := jdk_52_method_21_code, exceptionTable := #[], attributes := #[] }
def k9m9 : Method := { name := "compress", desc := "([CI[BII)I", sig := { parameters := [(.array .char), .int, (.array .byte), .int, .int], returnType := some .int }, accessFlags := 9, code := some k9c9 }
def k9c10 : Code := { maxStack := 2, maxLocals := 2, code := jdk_52_method_83_code, exceptionTable := #[], attributes := #[] }
def k9m10 : Method := { name := "charAt", desc := "([BI)C", sig := { parameters := [(.array .byte), .int], returnType := some .char }, accessFlags := 9, code := some k9c10 }
def k9c11 : Code := { maxStack := 2, maxLocals := 2, code := jdk_52_method_91_code, exceptionTable := #[], attributes := #[] }
def k9m11 : Method := { name := "checkIndex", desc := "(I[B)V", sig := { parameters := [.int, (.array .byte)], returnType := none }, accessFlags := 9, code := some k9c11 }
/-- java/lang/StringUTF16 -/
def k9 : Class := { plain "java/lang/StringUTF16" (some 0) with
  accessFlags := 48
  interfaces := #[]
  cf := some (fileOf pool9 12 #[.nestMembers #[627, 629, 369]] #[{ accessFlags := 0, nameIndex := 9, descriptorIndex := 10, attributes := #[] }, { accessFlags := 9, nameIndex := 109, descriptorIndex := 110, attributes := #[] }, { accessFlags := 9, nameIndex := 15, descriptorIndex := 16, attributes := #[] }, { accessFlags := 8, nameIndex := 113, descriptorIndex := 114, attributes := #[] }, { accessFlags := 8, nameIndex := 73, descriptorIndex := 74, attributes := #[] }, { accessFlags := 9, nameIndex := 50, descriptorIndex := 51, attributes := #[] }, { accessFlags := 9, nameIndex := 121, descriptorIndex := 122, attributes := #[] }, { accessFlags := 8, nameIndex := 261, descriptorIndex := 262, attributes := #[] }, { accessFlags := 9, nameIndex := 117, descriptorIndex := 122, attributes := #[] }, { accessFlags := 9, nameIndex := 117, descriptorIndex := 118, attributes := #[] }, { accessFlags := 9, nameIndex := 392, descriptorIndex := 74, attributes := #[] }, { accessFlags := 9, nameIndex := 69, descriptorIndex := 70, attributes := #[] }] 48 6 #[] #[{ accessFlags := 26, nameIndex := 61, descriptorIndex := 62, attributes := #[] }, { accessFlags := 26, nameIndex := 65, descriptorIndex := 62, attributes := #[] }, { accessFlags := 24, nameIndex := 430, descriptorIndex := 62, attributes := #[] }, { accessFlags := 4120, nameIndex := 46, descriptorIndex := 47, attributes := #[] }])
  fields := #[{ name := "HI_BYTE_SHIFT", type := .int, accessFlags := 26, slot := 0, constantValue := 0 }, { name := "LO_BYTE_SHIFT", type := .int, accessFlags := 26, slot := 1, constantValue := 0 }, { name := "MAX_LENGTH", type := .int, accessFlags := 24, slot := 2, constantValue := 0 }, { name := "$assertionsDisabled", type := .boolean, accessFlags := 4120, slot := 3, constantValue := 0 }]
  methods := #[k9m0, k9m1, k9m2, k9m3, k9m4, k9m5, k9m6, k9m7, k9m8, k9m9, k9m10, k9m11]
  instanceTypes := #[]
  staticTypes := #[.int, .int, .int, .boolean]
  resolved := Array.replicate 635 none
  statics := some 1 }

def pool10 : Array CpInfo := pool [(1, .class_ 2), (0, u "java/lang/String"), (1, .class_ 6), (1, u "java/lang/Object"), (0, u "<init>"), (0, u "()V"), (0, .methodref 1 10), (0, .nameAndType 11 12), (0, u "checkIndex"), (0, u "(II)V"), (1, .class_ 16), (1, u "java/lang/StringLatin1"), (36, u "([BI)C"), (67, u "$assertionsDisabled"), (0, u "Z"), (98, .class_ 223), (1, u "java/lang/StringLatin1$LinesSpliterator"), (28, u "charAt"), (137, .class_ 391), (0, u "java/lang/StringLatin1$CharsSpliterator")] 3

def k10m0 : Method := { name := "<init>", desc := "()V", sig := { parameters := [], returnType := none }, accessFlags := 0, code := none }
def k10c1 : Code := { maxStack := 2, maxLocals := 2, code := jdk_43_method_2_code, exceptionTable := #[], attributes := #[] }
def k10m1 : Method := { name := "charAt", desc := "([BI)C", sig := { parameters := [(.array .byte), .int], returnType := some .char }, accessFlags := 9, code := some k10c1 }
/-- java/lang/StringLatin1 -/
def k10 : Class := { plain "java/lang/StringLatin1" (some 0) with
  accessFlags := 48
  interfaces := #[]
  cf := some (fileOf pool10 14 #[.nestMembers #[390, 221]] #[{ accessFlags := 0, nameIndex := 7, descriptorIndex := 8, attributes := #[] }, { accessFlags := 9, nameIndex := 252, descriptorIndex := 53, attributes := #[] }] 48 4 #[] #[{ accessFlags := 4120, nameIndex := 121, descriptorIndex := 122, attributes := #[] }])
  fields := #[{ name := "$assertionsDisabled", type := .boolean, accessFlags := 4120, slot := 0, constantValue := 0 }]
  methods := #[k10m0, k10m1]
  instanceTypes := #[]
  staticTypes := #[.boolean]
  resolved := Array.replicate 395 none
  statics := none }

def pool11 : Array CpInfo := pool [(2, .class_ 4), (1, u "java/lang/Object"), (0, u "<init>"), (0, u "()V"), (17, .class_ 26), (1, u "jdk/internal/util/Preconditions"), (6, u "checkIndex"), (21, .class_ 56), (0, u "jdk/internal/util/Preconditions$4"), (57, .class_ 115), (0, u "jdk/internal/util/Preconditions$1"), (7, u "SIOOBE_FORMATTER"), (0, u "Ljava/util/function/BiFunction;"), (0, .class_ 126), (0, u "jdk/internal/util/Preconditions$2"), (3, u "AIOOBE_FORMATTER"), (0, .class_ 132), (0, u "jdk/internal/util/Preconditions$3"), (3, u "IOOBE_FORMATTER"), (41, u "(IILjava/util/function/BiFunction;)I")] 15

def k11m0 : Method := { name := "<init>", desc := "()V", sig := { parameters := [], returnType := none }, accessFlags := 1, code := none }
def k11c1 : Code := { maxStack := 3, maxLocals := 3, code := jdk_41_method_11_code, exceptionTable := #[], attributes := #[] }
def k11m1 : Method := { name := "checkIndex", desc := "(IILjava/util/function/BiFunction;)I", sig := { parameters := [.int, .int, (.object "java/util/function/BiFunction")], returnType := some .int }, accessFlags := 9, code := some k11c1 }
/-- jdk/internal/util/Preconditions -/
def k11 : Class := { plain "jdk/internal/util/Preconditions" (some 0) with
  accessFlags := 33
  interfaces := #[]
  cf := some (fileOf pool11 24 #[.nestMembers #[55, 131, 125, 114]] #[{ accessFlags := 1, nameIndex := 5, descriptorIndex := 6, attributes := #[] }, { accessFlags := 9, nameIndex := 33, descriptorIndex := 178, attributes := #[] }] 33 2 #[] #[{ accessFlags := 25, nameIndex := 123, descriptorIndex := 124, attributes := #[] }, { accessFlags := 25, nameIndex := 130, descriptorIndex := 124, attributes := #[] }, { accessFlags := 25, nameIndex := 136, descriptorIndex := 124, attributes := #[] }])
  fields := #[{ name := "SIOOBE_FORMATTER", type := (.object "java/util/function/BiFunction"), accessFlags := 25, slot := 0, constantValue := 0 }, { name := "AIOOBE_FORMATTER", type := (.object "java/util/function/BiFunction"), accessFlags := 25, slot := 1, constantValue := 0 }, { name := "IOOBE_FORMATTER", type := (.object "java/util/function/BiFunction"), accessFlags := 25, slot := 2, constantValue := 0 }]
  methods := #[k11m0, k11m1]
  instanceTypes := #[]
  staticTypes := #[(.object "java/util/function/BiFunction"), (.object "java/util/function/BiFunction"), (.object "java/util/function/BiFunction")]
  resolved := Array.replicate 194 none
  statics := some 2 }

def pool12 : Array CpInfo := pool [(9, u "<init>"), (6, .class_ 18), (1, u "java/lang/Object"), (0, u "()V"), (1, .class_ 23), (1, u "jdk/internal/util/ArraysSupport"), (0, u "LOG2_ARRAY_LONG_INDEX_SCALE"), (0, u "I"), (2, u "U"), (0, u "Ljdk/internal/misc/Unsafe;"), (8, u "BIG_ENDIAN"), (0, u "Z"), (8, u "LOG2_BYTE_BIT_SIZE"), (4, u "LOG2_ARRAY_INT_INDEX_SCALE"), (54, u "JLA"), (0, u "Ljdk/internal/access/JavaLangAccess;"), (11, u "LOG2_ARRAY_BOOLEAN_INDEX_SCALE"), (9, u "LOG2_ARRAY_BYTE_INDEX_SCALE"), (5, u "LOG2_ARRAY_CHAR_INDEX_SCALE"), (5, u "LOG2_ARRAY_SHORT_INDEX_SCALE"), (18, u "LOG2_ARRAY_FLOAT_INDEX_SCALE"), (24, u "LOG2_ARRAY_DOUBLE_INDEX_SCALE"), (89, u "T_BOOLEAN"), (2, u "T_CHAR"), (1, u "T_FLOAT"), (1, u "T_DOUBLE"), (1, u "T_BYTE"), (1, u "T_SHORT"), (1, u "T_INT"), (1, u "T_LONG"), (1, u "SOFT_MAX_ARRAY_LENGTH")] 83

def k12m0 : Method := { name := "<init>", desc := "()V", sig := { parameters := [], returnType := none }, accessFlags := 2, code := none }
/-- jdk/internal/util/ArraysSupport -/
def k12 : Class := { plain "jdk/internal/util/ArraysSupport" (some 0) with
  accessFlags := 33
  interfaces := #[]
  cf := some (fileOf pool12 21 #[] #[{ accessFlags := 2, nameIndex := 9, descriptorIndex := 19, attributes := #[] }] 33 16 #[] #[{ accessFlags := 24, nameIndex := 28, descriptorIndex := 29, attributes := #[] }, { accessFlags := 26, nameIndex := 38, descriptorIndex := 39, attributes := #[] }, { accessFlags := 25, nameIndex := 121, descriptorIndex := 25, attributes := #[] }, { accessFlags := 25, nameIndex := 131, descriptorIndex := 25, attributes := #[] }, { accessFlags := 25, nameIndex := 137, descriptorIndex := 25, attributes := #[] }, { accessFlags := 25, nameIndex := 143, descriptorIndex := 25, attributes := #[] }, { accessFlags := 25, nameIndex := 53, descriptorIndex := 25, attributes := #[] }, { accessFlags := 25, nameIndex := 24, descriptorIndex := 25, attributes := #[] }, { accessFlags := 25, nameIndex := 162, descriptorIndex := 25, attributes := #[] }, { accessFlags := 25, nameIndex := 187, descriptorIndex := 25, attributes := #[] }, { accessFlags := 26, nameIndex := 48, descriptorIndex := 25, attributes := #[] }, { accessFlags := 25, nameIndex := 277, descriptorIndex := 25, attributes := #[] }, { accessFlags := 25, nameIndex := 280, descriptorIndex := 25, attributes := #[] }, { accessFlags := 25, nameIndex := 282, descriptorIndex := 25, attributes := #[] }, { accessFlags := 25, nameIndex := 284, descriptorIndex := 25, attributes := #[] }, { accessFlags := 25, nameIndex := 286, descriptorIndex := 25, attributes := #[] }, { accessFlags := 25, nameIndex := 288, descriptorIndex := 25, attributes := #[] }, { accessFlags := 25, nameIndex := 290, descriptorIndex := 25, attributes := #[] }, { accessFlags := 25, nameIndex := 292, descriptorIndex := 25, attributes := #[] }, { accessFlags := 26, nameIndex := 108, descriptorIndex := 109, attributes := #[] }, { accessFlags := 25, nameIndex := 294, descriptorIndex := 25, attributes := #[] }])
  fields := #[{ name := "U", type := (.object "jdk/internal/misc/Unsafe"), accessFlags := 24, slot := 0, constantValue := 0 }, { name := "BIG_ENDIAN", type := .boolean, accessFlags := 26, slot := 1, constantValue := 0 }, { name := "LOG2_ARRAY_BOOLEAN_INDEX_SCALE", type := .int, accessFlags := 25, slot := 2, constantValue := 0 }, { name := "LOG2_ARRAY_BYTE_INDEX_SCALE", type := .int, accessFlags := 25, slot := 3, constantValue := 0 }, { name := "LOG2_ARRAY_CHAR_INDEX_SCALE", type := .int, accessFlags := 25, slot := 4, constantValue := 0 }, { name := "LOG2_ARRAY_SHORT_INDEX_SCALE", type := .int, accessFlags := 25, slot := 5, constantValue := 0 }, { name := "LOG2_ARRAY_INT_INDEX_SCALE", type := .int, accessFlags := 25, slot := 6, constantValue := 0 }, { name := "LOG2_ARRAY_LONG_INDEX_SCALE", type := .int, accessFlags := 25, slot := 7, constantValue := 0 }, { name := "LOG2_ARRAY_FLOAT_INDEX_SCALE", type := .int, accessFlags := 25, slot := 8, constantValue := 0 }, { name := "LOG2_ARRAY_DOUBLE_INDEX_SCALE", type := .int, accessFlags := 25, slot := 9, constantValue := 0 }, { name := "LOG2_BYTE_BIT_SIZE", type := .int, accessFlags := 26, slot := 10, constantValue := 0 }, { name := "T_BOOLEAN", type := .int, accessFlags := 25, slot := 11, constantValue := 0 }, { name := "T_CHAR", type := .int, accessFlags := 25, slot := 12, constantValue := 0 }, { name := "T_FLOAT", type := .int, accessFlags := 25, slot := 13, constantValue := 0 }, { name := "T_DOUBLE", type := .int, accessFlags := 25, slot := 14, constantValue := 0 }, { name := "T_BYTE", type := .int, accessFlags := 25, slot := 15, constantValue := 0 }, { name := "T_SHORT", type := .int, accessFlags := 25, slot := 16, constantValue := 0 }, { name := "T_INT", type := .int, accessFlags := 25, slot := 17, constantValue := 0 }, { name := "T_LONG", type := .int, accessFlags := 25, slot := 18, constantValue := 0 }, { name := "JLA", type := (.object "jdk/internal/access/JavaLangAccess"), accessFlags := 26, slot := 19, constantValue := 0 }, { name := "SOFT_MAX_ARRAY_LENGTH", type := .int, accessFlags := 25, slot := 20, constantValue := 0 }]
  methods := #[k12m0]
  instanceTypes := #[]
  staticTypes := #[(.object "jdk/internal/misc/Unsafe"), .boolean, .int, .int, .int, .int, .int, .int, .int, .int, .int, .int, .int, .int, .int, .int, .int, .int, .int, (.object "jdk/internal/access/JavaLangAccess"), .int]
  resolved := Array.replicate 378 none
  statics := none }

def pool13 : Array CpInfo := pool [(1, u "java/lang/Cloneable"), (0, .class_ 1), (0, u "java/lang/Object"), (0, .class_ 3)] 3

/-- java/lang/Cloneable -/
def k13 : Class := { plain "java/lang/Cloneable" (some 0) with
  accessFlags := 1537
  interfaces := #[]
  cf := some (fileOf pool13 2 #[] #[] 1537 4 #[] #[])
  fields := #[]
  methods := #[]
  instanceTypes := #[]
  staticTypes := #[]
  resolved := Array.replicate 8 none
  statics := none }

/-- the primitive byte -/
def k14 : Class := { plain "byte" none with kind := .primitive 'B', accessFlags := 0x411 }
/-- [B -/
def k15 : Class := { plain "[B" (some 0) with kind := .array 14 .byte, interfaces := #[13, 2], accessFlags := 1041 }

/-- the primitive char -/
def k16 : Class := { plain "char" none with kind := .primitive 'C', accessFlags := 0x411 }
/-- [C -/
def k17 : Class := { plain "[C" (some 0) with kind := .array 16 .char, interfaces := #[13, 2], accessFlags := 1041 }

/-- the primitive int -/
def k18 : Class := { plain "int" none with kind := .primitive 'I', accessFlags := 0x411 }
/-- [I -/
def k19 : Class := { plain "[I" (some 0) with kind := .array 18 .int, interfaces := #[13, 2], accessFlags := 1041 }

def heap : Heap := #[{ cls := 7, slots := #[.long 0, .int 1, .null, .int 0, .null, .int 0, .int 0], vm := .statics 7 },
  { cls := 9, slots := #[.int 0, .int 8, .int 0, .int 1], vm := .statics 9 },
  { cls := 11, slots := #[.null, .null, .null], vm := .statics 11 }]
def classes : Array Class := #[k0, k1, k2, k3, k4, k5, k6, k7, k8, k9, k10, k11, k12, k13, k14, k15, k16, k17, k18, k19]
def interned : List (Array UInt16 × Addr) := []
def slotsUsed : Nat := 14
def theMethod : MethodId := ⟨1, 3⟩
def args0 : Array Value := #[.int 2, .int 32, .int 9, .int 10, .int 13]
def aboutOver (below : List Frame) : State where
  vm := { classes := classes, interned := interned.toArray }
  heap := heap
  slotsUsed := slotsUsed
  threads := #[{ frames := .invoking theMethod args0 :: below }]
def below0 : List Frame := [.native { method := ⟨0, 0⟩, args := #[] }]
def about1 : State := aboutOver below0
def p0 : Program := .bare "" "" ""
def e0 : Env := launch0.env 0 0 0
theorem w_frames : about1.frames = Frame.invoking theMethod args0 :: below0 := rfl
set_option maxRecDepth 65536 in
theorem w_args : argsFit about1.vm theMethod args0 = true := by decide +kernel
set_option maxRecDepth 65536 in
theorem w_heap : heapFits about1 = true := by decide +kernel
set_option maxRecDepth 65536 in
theorem w_runnable : about1.curStatus? = some .runnable := by decide +kernel
set_option maxRecDepth 65536 in
theorem w_alone : about1.alone = true := by decide +kernel
set_option maxRecDepth 65536 in
theorem w_named : about1.methodNamed? x = some theMethod := by decide +kernel
set_option maxRecDepth 65536 in
theorem w_hears : about1.hears theMethod below0 = true := by decide +kernel
set_option maxRecDepth 65536 in
theorem w_ripe : about1.ripe theMethod args0 below0 = true := by decide +kernel
theorem w_running : about1.status = .running := rfl
set_option maxRecDepth 65536 in
theorem w_room : about1.hasRoom e0.platform room_1 = true :=
  launch0.hasRoom_least _ room_1 (by decide +kernel) (by decide +kernel) (by decide +kernel) (by decide +kernel) (by decide +kernel) (by decide +kernel)
theorem allAtoms_all (ts : List Jvm.Cond) (a : Array Jvm.Value) (st : Jvm.State) : (allAtoms ts).before a st = ts.all (fun c => c.before a st) := by
  induction ts with
  | nil => rfl
  | cons c t ih =>
    show (Jvm.Cond.and c (allAtoms t)).before a st = _
    rw [Jvm.Cond.before_and, ih, List.all_cons]
def words1 : List Jvm.Cond := Jvm.Cond.code x code maxLocals ret :: tables_1
/-- a 'code' word, met by the world's own term for the bytes: nothing is compared byte by byte -/
theorem code_word {y : MethodName} {bytes : ByteArray} {mx : Nat} {rt : Option FieldType} {a : Array Value} {s : State} {m : MethodId} {meth : Method} {c : Code} (h1 : s.methodNamed? y = some m) (h2 : s.vm.method? m = some meth) (h3 : meth.code = some c) (h4 : c.code = bytes)
    (h5 : (c.maxLocals == mx && c.exceptionTable.isEmpty && decide (c.maxStack ≤ mostOperands) && decide (meth.sig.returnType = rt) && !meth.locks && decide (parseMethodDescriptor y.desc = some meth.sig)) = true) : (Jvm.Cond.code y bytes mx rt).before a s = true := by
  simp only [Bool.and_eq_true, beq_iff_eq, Bool.not_eq_true', decide_eq_true_eq] at h5
  obtain ⟨⟨⟨⟨⟨g1, g2⟩, g3⟩, g4⟩, g5⟩, g6⟩ := h5
  simp [Cond.before, Cond.holds, Cond.value, h1, h2, h3, h4, g1, g2, g3, g4, g5, g6]
def isCode : Jvm.Cond → Bool
  | .code _ _ _ _ => true
  | _ => false
theorem all_split {L : List Jvm.Cond} {P : Jvm.Cond → Bool} (h1 : L.all (fun c => isCode c || P c) = true) (h2 : ∀ c ∈ L.filter isCode, P c = true) : L.all P = true := by
  refine List.all_eq_true.mpr fun c hc => ?_
  have h := List.all_eq_true.mp h1 c hc
  rcases Bool.eq_false_or_eq_true (isCode c) with hi | hi
  · exact h2 c (List.mem_filter.mpr ⟨hc, hi⟩)
  · simpa [hi] using h
set_option maxRecDepth 65536 in
theorem w_c0 : (Jvm.Cond.code x code maxLocals ret).before args0 about1 = true := code_word (m := ⟨1, 3⟩) (meth := k1m3) (c := k1c3) (by decide +kernel) rfl rfl rfl (by decide +kernel)
set_option maxRecDepth 65536 in
theorem w_c1 : (Jvm.Cond.code ({ cls := "com/example/opuscule/opuscule/record/XmlSpaceIsSpace285PinLaw", name := "make", desc := "(ICCCC)Ljava/lang/String;" } : Jvm.MethodName) method_3_code (5 : Nat) (Option.some (Jvm.ClassFile.FieldType.object "java/lang/String"))).before args0 about1 = true := code_word (m := ⟨1, 2⟩) (meth := k1m2) (c := k1c2) (by decide +kernel) rfl rfl rfl (by decide +kernel)
set_option maxRecDepth 65536 in
theorem w_c2 : (Jvm.Cond.code ({ cls := "java/lang/String", name := "<init>", desc := "([C)V" } : Jvm.MethodName) jdk_42_method_3_code (2 : Nat) (Option.none : Option Jvm.ClassFile.FieldType)).before args0 about1 = true := code_word (m := ⟨7, 1⟩) (meth := k7m1) (c := k7c1) (by decide +kernel) rfl rfl rfl (by decide +kernel)
set_option maxRecDepth 65536 in
theorem w_c3 : (Jvm.Cond.code ({ cls := "java/lang/String", name := "<init>", desc := "([CIILjava/lang/Void;)V" } : Jvm.MethodName) jdk_42_method_149_code (6 : Nat) (Option.none : Option Jvm.ClassFile.FieldType)).before args0 about1 = true := code_word (m := ⟨7, 4⟩) (meth := k7m4) (c := k7c4) (by decide +kernel) rfl rfl rfl (by decide +kernel)
set_option maxRecDepth 65536 in
theorem w_c4 : (Jvm.Cond.code ({ cls := "java/lang/Object", name := "<init>", desc := "()V" } : Jvm.MethodName) object_method_1_code (1 : Nat) (Option.none : Option Jvm.ClassFile.FieldType)).before args0 about1 = true := code_word (m := ⟨0, 0⟩) (meth := k0m0) (c := k0c0) (by decide +kernel) rfl rfl rfl (by decide +kernel)
set_option maxRecDepth 65536 in
theorem w_c5 : (Jvm.Cond.code ({ cls := "com/example/opuscule/opuscule/record/XmlSpace", name := "isSpace", desc := "(Ljava/lang/CharSequence;I)Z" } : Jvm.MethodName) prog_49_method_3_code (3 : Nat) (Option.some Jvm.ClassFile.FieldType.boolean)).before args0 about1 = true := code_word (m := ⟨8, 1⟩) (meth := k8m1) (c := k8c1) (by decide +kernel) rfl rfl rfl (by decide +kernel)
set_option maxRecDepth 65536 in
theorem w_c6 : (Jvm.Cond.code ({ cls := "java/lang/String", name := "length", desc := "()I" } : Jvm.MethodName) jdk_42_method_54_code (1 : Nat) (Option.some Jvm.ClassFile.FieldType.int)).before args0 about1 = true := code_word (m := ⟨7, 2⟩) (meth := k7m2) (c := k7c2) (by decide +kernel) rfl rfl rfl (by decide +kernel)
set_option maxRecDepth 65536 in
theorem w_c7 : (Jvm.Cond.code ({ cls := "java/lang/String", name := "coder", desc := "()B" } : Jvm.MethodName) jdk_42_method_152_code (1 : Nat) (Option.some Jvm.ClassFile.FieldType.byte)).before args0 about1 = true := code_word (m := ⟨7, 5⟩) (meth := k7m5) (c := k7c5) (by decide +kernel) rfl rfl rfl (by decide +kernel)
set_option maxRecDepth 65536 in
theorem w_c8 : (Jvm.Cond.code ({ cls := "java/lang/StringUTF16", name := "compress", desc := "([CII)[B" } : Jvm.MethodName) jdk_52_method_16_code (6 : Nat) (Option.some (Jvm.ClassFile.FieldType.array Jvm.ClassFile.FieldType.byte))).before args0 about1 = true := code_word (m := ⟨9, 8⟩) (meth := k9m8) (c := k9c8) (by decide +kernel) rfl rfl rfl (by decide +kernel)
set_option maxRecDepth 65536 in
theorem w_c9 : (Jvm.Cond.code ({ cls := "java/lang/StringUTF16", name := "compress", desc := "([CI[BII)I" } : Jvm.MethodName) jdk_52_method_21_code (7 : Nat) (Option.some Jvm.ClassFile.FieldType.int)).before args0 about1 = true := code_word (m := ⟨9, 9⟩) (meth := k9m9) (c := k9c9) (by decide +kernel) rfl rfl rfl (by decide +kernel)
set_option maxRecDepth 65536 in
theorem w_c10 : (Jvm.Cond.code ({ cls := "java/lang/StringUTF16", name := "coderFromArrayLen", desc := "([BI)B" } : Jvm.MethodName) jdk_52_method_15_code (2 : Nat) (Option.some Jvm.ClassFile.FieldType.byte)).before args0 about1 = true := code_word (m := ⟨9, 7⟩) (meth := k9m7) (c := k9c7) (by decide +kernel) rfl rfl rfl (by decide +kernel)
set_option maxRecDepth 65536 in
theorem w_c11 : (Jvm.Cond.code ({ cls := "com/example/opuscule/opuscule/record/XmlSpaceIsSpace285PinLaw", name := "ws", desc := "(C)Z" } : Jvm.MethodName) method_2_code (1 : Nat) (Option.some Jvm.ClassFile.FieldType.boolean)).before args0 about1 = true := code_word (m := ⟨1, 1⟩) (meth := k1m1) (c := k1c1) (by decide +kernel) rfl rfl rfl (by decide +kernel)
set_option maxRecDepth 65536 in
theorem w_c12 : (Jvm.Cond.code ({ cls := "java/lang/String", name := "charAt", desc := "(I)C" } : Jvm.MethodName) jdk_42_method_56_code (2 : Nat) (Option.some Jvm.ClassFile.FieldType.char)).before args0 about1 = true := code_word (m := ⟨7, 3⟩) (meth := k7m3) (c := k7c3) (by decide +kernel) rfl rfl rfl (by decide +kernel)
set_option maxRecDepth 65536 in
theorem w_c13 : (Jvm.Cond.code ({ cls := "java/lang/String", name := "isLatin1", desc := "()Z" } : Jvm.MethodName) jdk_42_method_154_code (1 : Nat) (Option.some Jvm.ClassFile.FieldType.boolean)).before args0 about1 = true := code_word (m := ⟨7, 6⟩) (meth := k7m6) (c := k7c6) (by decide +kernel) rfl rfl rfl (by decide +kernel)
set_option maxRecDepth 65536 in
theorem w_c14 : (Jvm.Cond.code ({ cls := "java/lang/StringLatin1", name := "charAt", desc := "([BI)C" } : Jvm.MethodName) jdk_43_method_2_code (2 : Nat) (Option.some Jvm.ClassFile.FieldType.char)).before args0 about1 = true := code_word (m := ⟨10, 1⟩) (meth := k10m1) (c := k10c1) (by decide +kernel) rfl rfl rfl (by decide +kernel)
set_option maxRecDepth 65536 in
theorem w_c15 : (Jvm.Cond.code ({ cls := "java/lang/String", name := "checkIndex", desc := "(II)V" } : Jvm.MethodName) jdk_42_method_155_code (2 : Nat) (Option.none : Option Jvm.ClassFile.FieldType)).before args0 about1 = true := code_word (m := ⟨7, 7⟩) (meth := k7m7) (c := k7c7) (by decide +kernel) rfl rfl rfl (by decide +kernel)
set_option maxRecDepth 65536 in
theorem w_c16 : (Jvm.Cond.code ({ cls := "jdk/internal/util/Preconditions", name := "checkIndex", desc := "(IILjava/util/function/BiFunction;)I" } : Jvm.MethodName) jdk_41_method_11_code (3 : Nat) (Option.some Jvm.ClassFile.FieldType.int)).before args0 about1 = true := code_word (m := ⟨11, 1⟩) (meth := k11m1) (c := k11c1) (by decide +kernel) rfl rfl rfl (by decide +kernel)
set_option maxRecDepth 65536 in
theorem w_c17 : (Jvm.Cond.code ({ cls := "com/example/opuscule/opuscule/record/XmlSpace", name := "isSpace", desc := "(I)Z" } : Jvm.MethodName) prog_49_method_4_code (1 : Nat) (Option.some Jvm.ClassFile.FieldType.boolean)).before args0 about1 = true := code_word (m := ⟨8, 2⟩) (meth := k8m2) (c := k8c2) (by decide +kernel) rfl rfl rfl (by decide +kernel)
set_option maxRecDepth 65536 in
theorem w_c18 : (Jvm.Cond.code ({ cls := "java/lang/StringUTF16", name := "toBytes", desc := "([CII)[B" } : Jvm.MethodName) jdk_52_method_14_code (5 : Nat) (Option.some (Jvm.ClassFile.FieldType.array Jvm.ClassFile.FieldType.byte))).before args0 about1 = true := code_word (m := ⟨9, 6⟩) (meth := k9m6) (c := k9c6) (by decide +kernel) rfl rfl rfl (by decide +kernel)
set_option maxRecDepth 65536 in
theorem w_c19 : (Jvm.Cond.code ({ cls := "java/lang/StringUTF16", name := "newBytesFor", desc := "(I)[B" } : Jvm.MethodName) jdk_52_method_2_code (1 : Nat) (Option.some (Jvm.ClassFile.FieldType.array Jvm.ClassFile.FieldType.byte))).before args0 about1 = true := code_word (m := ⟨9, 1⟩) (meth := k9m1) (c := k9c1) (by decide +kernel) rfl rfl rfl (by decide +kernel)
set_option maxRecDepth 65536 in
theorem w_c20 : (Jvm.Cond.code ({ cls := "java/lang/StringUTF16", name := "newBytesLength", desc := "(I)I" } : Jvm.MethodName) jdk_52_method_3_code (1 : Nat) (Option.some Jvm.ClassFile.FieldType.int)).before args0 about1 = true := code_word (m := ⟨9, 2⟩) (meth := k9m2) (c := k9c2) (by decide +kernel) rfl rfl rfl (by decide +kernel)
set_option maxRecDepth 65536 in
theorem w_c21 : (Jvm.Cond.code ({ cls := "java/lang/StringUTF16", name := "putChar", desc := "([BII)V" } : Jvm.MethodName) jdk_52_method_4_code (3 : Nat) (Option.none : Option Jvm.ClassFile.FieldType)).before args0 about1 = true := code_word (m := ⟨9, 3⟩) (meth := k9m3) (c := k9c3) (by decide +kernel) rfl rfl rfl (by decide +kernel)
set_option maxRecDepth 65536 in
theorem w_c22 : (Jvm.Cond.code ({ cls := "java/lang/StringUTF16", name := "getChar", desc := "([BI)C" } : Jvm.MethodName) jdk_52_method_5_code (2 : Nat) (Option.some Jvm.ClassFile.FieldType.char)).before args0 about1 = true := code_word (m := ⟨9, 4⟩) (meth := k9m4) (c := k9c4) (by decide +kernel) rfl rfl rfl (by decide +kernel)
set_option maxRecDepth 65536 in
theorem w_c23 : (Jvm.Cond.code ({ cls := "java/lang/StringUTF16", name := "charAt", desc := "([BI)C" } : Jvm.MethodName) jdk_52_method_83_code (2 : Nat) (Option.some Jvm.ClassFile.FieldType.char)).before args0 about1 = true := code_word (m := ⟨9, 10⟩) (meth := k9m10) (c := k9c10) (by decide +kernel) rfl rfl rfl (by decide +kernel)
set_option maxRecDepth 65536 in
theorem w_c24 : (Jvm.Cond.code ({ cls := "java/lang/StringUTF16", name := "checkIndex", desc := "(I[B)V" } : Jvm.MethodName) jdk_52_method_91_code (2 : Nat) (Option.none : Option Jvm.ClassFile.FieldType)).before args0 about1 = true := code_word (m := ⟨9, 11⟩) (meth := k9m11) (c := k9c11) (by decide +kernel) rfl rfl rfl (by decide +kernel)
set_option maxRecDepth 65536 in
theorem w_c25 : (Jvm.Cond.code ({ cls := "java/lang/StringUTF16", name := "length", desc := "([B)I" } : Jvm.MethodName) jdk_52_method_6_code (1 : Nat) (Option.some Jvm.ClassFile.FieldType.int)).before args0 about1 = true := code_word (m := ⟨9, 5⟩) (meth := k9m5) (c := k9c5) (by decide +kernel) rfl rfl rfl (by decide +kernel)
def codes1 : List Jvm.Cond := [Jvm.Cond.code x code maxLocals ret, Jvm.Cond.code ({ cls := "com/example/opuscule/opuscule/record/XmlSpaceIsSpace285PinLaw", name := "make", desc := "(ICCCC)Ljava/lang/String;" } : Jvm.MethodName) method_3_code (5 : Nat) (Option.some (Jvm.ClassFile.FieldType.object "java/lang/String")), Jvm.Cond.code ({ cls := "java/lang/String", name := "<init>", desc := "([C)V" } : Jvm.MethodName) jdk_42_method_3_code (2 : Nat) (Option.none : Option Jvm.ClassFile.FieldType), Jvm.Cond.code ({ cls := "java/lang/String", name := "<init>", desc := "([CIILjava/lang/Void;)V" } : Jvm.MethodName) jdk_42_method_149_code (6 : Nat) (Option.none : Option Jvm.ClassFile.FieldType), Jvm.Cond.code ({ cls := "java/lang/Object", name := "<init>", desc := "()V" } : Jvm.MethodName) object_method_1_code (1 : Nat) (Option.none : Option Jvm.ClassFile.FieldType), Jvm.Cond.code ({ cls := "com/example/opuscule/opuscule/record/XmlSpace", name := "isSpace", desc := "(Ljava/lang/CharSequence;I)Z" } : Jvm.MethodName) prog_49_method_3_code (3 : Nat) (Option.some Jvm.ClassFile.FieldType.boolean), Jvm.Cond.code ({ cls := "java/lang/String", name := "length", desc := "()I" } : Jvm.MethodName) jdk_42_method_54_code (1 : Nat) (Option.some Jvm.ClassFile.FieldType.int), Jvm.Cond.code ({ cls := "java/lang/String", name := "coder", desc := "()B" } : Jvm.MethodName) jdk_42_method_152_code (1 : Nat) (Option.some Jvm.ClassFile.FieldType.byte), Jvm.Cond.code ({ cls := "java/lang/StringUTF16", name := "compress", desc := "([CII)[B" } : Jvm.MethodName) jdk_52_method_16_code (6 : Nat) (Option.some (Jvm.ClassFile.FieldType.array Jvm.ClassFile.FieldType.byte)), Jvm.Cond.code ({ cls := "java/lang/StringUTF16", name := "compress", desc := "([CI[BII)I" } : Jvm.MethodName) jdk_52_method_21_code (7 : Nat) (Option.some Jvm.ClassFile.FieldType.int), Jvm.Cond.code ({ cls := "java/lang/StringUTF16", name := "coderFromArrayLen", desc := "([BI)B" } : Jvm.MethodName) jdk_52_method_15_code (2 : Nat) (Option.some Jvm.ClassFile.FieldType.byte), Jvm.Cond.code ({ cls := "com/example/opuscule/opuscule/record/XmlSpaceIsSpace285PinLaw", name := "ws", desc := "(C)Z" } : Jvm.MethodName) method_2_code (1 : Nat) (Option.some Jvm.ClassFile.FieldType.boolean), Jvm.Cond.code ({ cls := "java/lang/String", name := "charAt", desc := "(I)C" } : Jvm.MethodName) jdk_42_method_56_code (2 : Nat) (Option.some Jvm.ClassFile.FieldType.char), Jvm.Cond.code ({ cls := "java/lang/String", name := "isLatin1", desc := "()Z" } : Jvm.MethodName) jdk_42_method_154_code (1 : Nat) (Option.some Jvm.ClassFile.FieldType.boolean), Jvm.Cond.code ({ cls := "java/lang/StringLatin1", name := "charAt", desc := "([BI)C" } : Jvm.MethodName) jdk_43_method_2_code (2 : Nat) (Option.some Jvm.ClassFile.FieldType.char), Jvm.Cond.code ({ cls := "java/lang/String", name := "checkIndex", desc := "(II)V" } : Jvm.MethodName) jdk_42_method_155_code (2 : Nat) (Option.none : Option Jvm.ClassFile.FieldType), Jvm.Cond.code ({ cls := "jdk/internal/util/Preconditions", name := "checkIndex", desc := "(IILjava/util/function/BiFunction;)I" } : Jvm.MethodName) jdk_41_method_11_code (3 : Nat) (Option.some Jvm.ClassFile.FieldType.int), Jvm.Cond.code ({ cls := "com/example/opuscule/opuscule/record/XmlSpace", name := "isSpace", desc := "(I)Z" } : Jvm.MethodName) prog_49_method_4_code (1 : Nat) (Option.some Jvm.ClassFile.FieldType.boolean), Jvm.Cond.code ({ cls := "java/lang/StringUTF16", name := "toBytes", desc := "([CII)[B" } : Jvm.MethodName) jdk_52_method_14_code (5 : Nat) (Option.some (Jvm.ClassFile.FieldType.array Jvm.ClassFile.FieldType.byte)), Jvm.Cond.code ({ cls := "java/lang/StringUTF16", name := "newBytesFor", desc := "(I)[B" } : Jvm.MethodName) jdk_52_method_2_code (1 : Nat) (Option.some (Jvm.ClassFile.FieldType.array Jvm.ClassFile.FieldType.byte)), Jvm.Cond.code ({ cls := "java/lang/StringUTF16", name := "newBytesLength", desc := "(I)I" } : Jvm.MethodName) jdk_52_method_3_code (1 : Nat) (Option.some Jvm.ClassFile.FieldType.int), Jvm.Cond.code ({ cls := "java/lang/StringUTF16", name := "putChar", desc := "([BII)V" } : Jvm.MethodName) jdk_52_method_4_code (3 : Nat) (Option.none : Option Jvm.ClassFile.FieldType), Jvm.Cond.code ({ cls := "java/lang/StringUTF16", name := "getChar", desc := "([BI)C" } : Jvm.MethodName) jdk_52_method_5_code (2 : Nat) (Option.some Jvm.ClassFile.FieldType.char), Jvm.Cond.code ({ cls := "java/lang/StringUTF16", name := "charAt", desc := "([BI)C" } : Jvm.MethodName) jdk_52_method_83_code (2 : Nat) (Option.some Jvm.ClassFile.FieldType.char), Jvm.Cond.code ({ cls := "java/lang/StringUTF16", name := "checkIndex", desc := "(I[B)V" } : Jvm.MethodName) jdk_52_method_91_code (2 : Nat) (Option.none : Option Jvm.ClassFile.FieldType), Jvm.Cond.code ({ cls := "java/lang/StringUTF16", name := "length", desc := "([B)I" } : Jvm.MethodName) jdk_52_method_6_code (1 : Nat) (Option.some Jvm.ClassFile.FieldType.int)]
set_option maxRecDepth 65536 in
theorem codes_eq : words1.filter isCode = codes1 := rfl
theorem w_codes : ∀ c ∈ words1.filter isCode, c.before args0 about1 = true := by
  rw [codes_eq]
  intro c hc
  simp only [codes1, List.mem_cons, List.not_mem_nil, or_false] at hc
  rcases hc with rfl | rfl | rfl | rfl | rfl | rfl | rfl | rfl | rfl | rfl | rfl | rfl | rfl | rfl | rfl | rfl | rfl | rfl | rfl | rfl | rfl | rfl | rfl | rfl | rfl | rfl
  · exact w_c0
  · exact w_c1
  · exact w_c2
  · exact w_c3
  · exact w_c4
  · exact w_c5
  · exact w_c6
  · exact w_c7
  · exact w_c8
  · exact w_c9
  · exact w_c10
  · exact w_c11
  · exact w_c12
  · exact w_c13
  · exact w_c14
  · exact w_c15
  · exact w_c16
  · exact w_c17
  · exact w_c18
  · exact w_c19
  · exact w_c20
  · exact w_c21
  · exact w_c22
  · exact w_c23
  · exact w_c24
  · exact w_c25
set_option maxRecDepth 65536 in
theorem w_t1 : (words1.take 24).all (fun c => isCode c || c.before args0 about1) = true := by decide +kernel
set_option maxRecDepth 65536 in
theorem w_t2 : ((words1.drop 24).take 24).all (fun c => isCode c || c.before args0 about1) = true := by decide +kernel
set_option maxRecDepth 65536 in
theorem w_t3 : (((words1.drop 24).drop 24).take 24).all (fun c => isCode c || c.before args0 about1) = true := by decide +kernel
set_option maxRecDepth 65536 in
theorem w_t4 : ((((words1.drop 24).drop 24).drop 24).take 24).all (fun c => isCode c || c.before args0 about1) = true := by decide +kernel
set_option maxRecDepth 65536 in
theorem w_t5 : ((((words1.drop 24).drop 24).drop 24).drop 24).all (fun c => isCode c || c.before args0 about1) = true := by decide +kernel
theorem w_tables : (allAtoms (Jvm.Cond.code x code maxLocals ret :: tables_1)).before args0 about1 = true := by
  rw [allAtoms_all]
  show words1.all (fun c => c.before args0 about1) = true
  refine all_split ?_ w_codes
  rw [← List.take_append_drop 24 words1, List.all_append, w_t1, ← List.take_append_drop 24 (words1.drop 24), List.all_append, w_t2, ← List.take_append_drop 24 ((words1.drop 24).drop 24), List.all_append, w_t3, ← List.take_append_drop 24 (((words1.drop 24).drop 24).drop 24), List.all_append, w_t4, w_t5]
  rfl
set_option maxRecDepth 65536 in
theorem w_rest : rest_1_c.before args0 about1 = true := by decide +kernel
set_option maxRecDepth 65536 in
theorem w_case : (Jvm.Cond.and given_1 narrow_1).before args0 about1 = true := by decide +kernel
set_option maxRecDepth 65536 in
theorem w_consts : constsHeld consts_1 about1 := Jvm.Lit.constsHeldB_iff.mp (by decide +kernel)
theorem w_applies : (headSpec (Jvm.Cond.code x code maxLocals ret :: tables_1) room_1).applies x e0.platform about1 = true :=
  (Spec.applies_iff w_frames).mpr ⟨w_running, w_runnable, w_alone, w_named, w_hears, w_ripe, w_room, w_tables⟩
theorem atStart : AtStart classFile x code maxLocals ret World_1 tables_1 room_1 Calls_1 rest_1 Pre_1 launch0 p0 e0 about1 theMethod args0 below0 :=
  ⟨lists_1, trivial, launch0.admits_env _ _ _, launch0.least_env, fairChoices_fair.cas, fairChoices_fair.clock, w_frames, w_args, w_heap, w_applies, ⟨w_consts, trivial⟩, w_rest, w_case⟩
end start1
theorem witness_1 : WitnessClaimed_1 := ⟨start1.p0, start1.e0, start1.about1, start1.theMethod, start1.args0, start1.below0, start1.atStart⟩
end Jvm.Pilot.@@N@@
