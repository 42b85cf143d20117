import JvmDerived
import JvmDerived.Pilot.@@N@@Statement
import JvmDerived.Pilot.@@N@@Code
set_option linter.unusedVariables false
set_option linter.unusedSimpArgs false
namespace Jvm.Pilot.@@N@@
open Jvm Jvm.ClassFile Sem Op Lib Jvm.Free Jvm.Stand Jvm.LawKit Jvm.RoadKit Bundle Jvm.Pilot.@@N@@.Jvm.D
/-! the walk's goal: from the state A the run ends, returning what Qv says -/
def OwnEnd (p : Program) (e : Env) (below : List Frame) (s : State) (Qv : Option Value → Heap → List Loc → Prop) (k n : Nat) (A : State) : Prop :=
  ∃ s₂ o, Steps p.tables e below A s₂ ∧ s₂.status = .running ∧ Ended s₂ below o ∧ ∃ v L, o = .returned v ∧ Qv v s₂.heap L ∧ FrameEnd s o s₂ L k n
theorem own_step {p : Program} {e : Env} {below : List Frame} {s : State} {Qv : Option Value → Heap → List Loc → Prop} {k n : Nat} {A B : State} (h : ∀ t, Steps p.tables e below B t → Steps p.tables e below A t) (q : OwnEnd p e below s Qv k n B) : OwnEnd p e below s Qv k n A := by
  obtain ⟨s₂, o, h1, h2⟩ := q
  exact ⟨s₂, o, h _ h1, h2⟩
theorem own_arvEq {Z : State} {h : Heap} {a : Addr} {k : ClassId} {ty : FieldType} {z : Int32} {vs vs' : List Value} {d : Value} (e : vs = vs') (F : Arv Z h a k ty z vs d) : Arv Z h a k ty z vs' d := by subst e; exact F
theorem own_fldEq {Z : State} {h : Heap} {a : Addr} {C n d : String} {x y : Int32} (e : x = y) (F : Fld Z h a C n d (.int x)) : Fld Z h a C n d (.int y) := by subst e; exact F
section OwnRet
variable {p : Program} {l : Launch} {e : Env} {R : Room} {s : State} {m : MethodId} {args : Array Value} {below : List Frame} {meth : Method} {c : Code} {T : State} {locs : List Loc} {cells slots k n : Nat} {Qv : Option Value → Heap → List Loc → Prop}
theorem own_retN (X : Stand p l e R s m args below meth c T locs cells slots) (hx : p.tables.exec = Jvm.exec) (hlocks : meth.locks = false) {pc : Nat} {Ls : Array Slot} {z w : Int32} {t : FieldType} {rest : List Value} (hret : meth.sig.returnType = some t) (ht : t = .boolean ∨ t = .byte ∨ t = .char ∨ t = .short) (hd : decode c.code pc = .ok (.ireturn, 1)) (hz : nar t z = w) (hq : Qv (some (.int w)) T.heap locs) (hk : cells ≤ k) (hn : slots ≤ n) :
    OwnEnd p e below s Qv k n (T.setTop (mkF m pc Ls (.int z :: rest))) := by
  obtain ⟨fs, hr, hrun, hended, hW, hsame⟩ := X.leave (v := some (.int w)) (fun h => by rw [hret] at h; cases h) hlocks
  exact ⟨_, _, retN X hx hret ht hd (fs := fs) (by rw [hz]; exact hr), hrun, hended, _, _, rfl, hq, ⟨_, rfl⟩, hW, hsame.mono hk hn⟩
theorem own_retI (X : Stand p l e R s m args below meth c T locs cells slots) (hx : p.tables.exec = Jvm.exec) (hlocks : meth.locks = false) {pc : Nat} {Ls : Array Slot} {z : Int32} {rest : List Value} (hret : meth.sig.returnType = some .int) (hd : decode c.code pc = .ok (.ireturn, 1)) (hq : Qv (some (.int z)) T.heap locs) (hk : cells ≤ k) (hn : slots ≤ n) :
    OwnEnd p e below s Qv k n (T.setTop (mkF m pc Ls (.int z :: rest))) := by
  obtain ⟨fs, hr, hrun, hended, hW, hsame⟩ := X.leave (v := some (.int z)) (fun h => by rw [hret] at h; cases h) hlocks
  refine ⟨T.setFrames fs, _, ?_, hrun, hended, _, _, rfl, hq, ⟨_, rfl⟩, hW, hsame.mono hk hn⟩
  have hm' : T.vm.method? m = some meth := X.method'
  have hn' : narrow .int (.int z) = .int z := rfl
  show Steps p.tables e below (T.setTop { method := m, pc := pc, locals := Ls, stack := _ :: rest, locked := none }) _
  jvm_step X.here [X.here.top, hx, hd, hm', hret, hn']
  first | (intro acts; rw [hr _ acts rfl rfl rfl]) | rw [hr _ _ rfl rfl rfl]
  exact Steps.refl _
theorem own_retJ (X : Stand p l e R s m args below meth c T locs cells slots) (hx : p.tables.exec = Jvm.exec) (hlocks : meth.locks = false) {pc : Nat} {Ls : Array Slot} {z : Int64} {rest : List Value} (hret : meth.sig.returnType = some .long) (hd : decode c.code pc = .ok (.lreturn, 1)) (hq : Qv (some (.long z)) T.heap locs) (hk : cells ≤ k) (hn : slots ≤ n) :
    OwnEnd p e below s Qv k n (T.setTop (mkF m pc Ls (.long z :: rest))) := by
  obtain ⟨fs, hr, hrun, hended, hW, hsame⟩ := X.leave (v := some (.long z)) (fun h => by rw [hret] at h; cases h) hlocks
  refine ⟨T.setFrames fs, _, ?_, hrun, hended, _, _, rfl, hq, ⟨_, rfl⟩, hW, hsame.mono hk hn⟩
  have hm' : T.vm.method? m = some meth := X.method'
  have hn' : narrow .long (.long z) = .long z := rfl
  show Steps p.tables e below (T.setTop { method := m, pc := pc, locals := Ls, stack := _ :: rest, locked := none }) _
  jvm_step X.here [X.here.top, hx, hd, hm', hret, hn']
  first | (intro acts; rw [hr _ acts rfl rfl rfl]) | rw [hr _ _ rfl rfl rfl]
  exact Steps.refl _
theorem own_retD (X : Stand p l e R s m args below meth c T locs cells slots) (hx : p.tables.exec = Jvm.exec) (hlocks : meth.locks = false) {pc : Nat} {Ls : Array Slot} {z : UInt64} {rest : List Value} (hret : meth.sig.returnType = some .double) (hd : decode c.code pc = .ok (.dreturn, 1)) (hq : Qv (some (.double z)) T.heap locs) (hk : cells ≤ k) (hn : slots ≤ n) :
    OwnEnd p e below s Qv k n (T.setTop (mkF m pc Ls (.double z :: rest))) := by
  obtain ⟨fs, hr, hrun, hended, hW, hsame⟩ := X.leave (v := some (.double z)) (fun h => by rw [hret] at h; cases h) hlocks
  refine ⟨T.setFrames fs, _, ?_, hrun, hended, _, _, rfl, hq, ⟨_, rfl⟩, hW, hsame.mono hk hn⟩
  have hm' : T.vm.method? m = some meth := X.method'
  have hn' : narrow .double (.double z) = .double z := rfl
  show Steps p.tables e below (T.setTop { method := m, pc := pc, locals := Ls, stack := _ :: rest, locked := none }) _
  jvm_step X.here [X.here.top, hx, hd, hm', hret, hn']
  first | (intro acts; rw [hr _ acts rfl rfl rfl]) | rw [hr _ _ rfl rfl rfl]
  exact Steps.refl _
theorem own_retR (X : Stand p l e R s m args below meth c T locs cells slots) (hx : p.tables.exec = Jvm.exec) (hlocks : meth.locks = false) {pc : Nat} {Ls : Array Slot} {z : Addr} {t : FieldType} {rest : List Value} (hret : meth.sig.returnType = some t) (ht : t.isReference = true) (hd : decode c.code pc = .ok (.areturn, 1)) (hq : Qv (some (.ref z)) T.heap locs) (hk : cells ≤ k) (hn : slots ≤ n) :
    OwnEnd p e below s Qv k n (T.setTop (mkF m pc Ls (.ref z :: rest))) := by
  obtain ⟨fs, hr, hrun, hended, hW, hsame⟩ := X.leave (v := some (.ref z)) (fun h => by rw [hret] at h; cases h) hlocks
  refine ⟨T.setFrames fs, _, ?_, hrun, hended, _, _, rfl, hq, ⟨_, rfl⟩, hW, hsame.mono hk hn⟩
  have hm' : T.vm.method? m = some meth := X.method'
  show Steps p.tables e below (T.setTop { method := m, pc := pc, locals := Ls, stack := _ :: rest, locked := none }) _
  jvm_step X.here [X.here.top, hx, hd, hm', hret, ht, Value.isRef]
  first | (intro acts; rw [hr _ acts rfl rfl rfl]) | rw [hr _ _ rfl rfl rfl]
  exact Steps.refl _
theorem own_ret0 (X : Stand p l e R s m args below meth c T locs cells slots) (hx : p.tables.exec = Jvm.exec) (hlocks : meth.locks = false) {pc : Nat} {Ls : Array Slot} (hret : meth.sig.returnType = none) (hd : decode c.code pc = .ok (.return_, 1)) (hq : Qv none T.heap locs) (hk : cells ≤ k) (hn : slots ≤ n) :
    OwnEnd p e below s Qv k n (T.setTop (mkF m pc Ls [])) := by
  obtain ⟨fs, hr, hrun, hended, hW, hsame⟩ := X.leave (v := none) (fun _ => rfl) hlocks
  exact ⟨_, _, X.returnOut hx hret hd hr, hrun, hended, _, _, rfl, hq, ⟨_, rfl⟩, hW, hsame.mono hk hn⟩
end OwnRet
/-! lists of ints by a function of the place -/
def own_vs (n : Nat) (F : Nat → Int32) : List Value := (List.range n).map fun j => Value.int (F j)
theorem own_vsLen (n : Nat) (F : Nat → Int32) : (own_vs n F).length = n := by simp [own_vs]
theorem own_vsGet {n : Nat} {F : Nat → Int32} {j : Nat} {d : Value} (h : j < n) : (own_vs n F).getD j d = .int (F j) := by
  simp [own_vs, List.getD_eq_getElem?_getD, h]
theorem own_vsCongr {n : Nat} {F G : Nat → Int32} (h : ∀ j, j < n → F j = G j) : own_vs n F = own_vs n G := by
  apply List.map_congr_left
  intro j hj
  rw [h j (List.mem_range.mp hj)]
theorem own_vsSet {n : Nat} {F : Nat → Int32} {i : Nat} {x : Int32} : (own_vs n F).set i (.int x) = own_vs n (fun j => if j = i then x else F j) := by
  apply List.ext_getElem?
  intro j
  rw [List.getElem?_set]
  by_cases hj : j < n
  · by_cases hi : i = j
    · subst hi; simp [own_vs, hj]
    · have hi' : ¬ j = i := fun q => hi q.symm
      simp [own_vs, hj, hi, hi']
  · by_cases hi : i = j
    · subst hi; simp [own_vs, hj]
    · simp [own_vs, hj, hi]
theorem own_vsPad (n : Nat) : ∀ i, (own_vs n fun _ => (0 : Int32)).getD i (.int (0 : Int32)) = ([] : List Value).getD i (.int (0 : Int32)) := by
  intro i
  by_cases h : i < n
  · rw [own_vsGet h]; rfl
  · simp [own_vs, List.getD_eq_getElem?_getD, h]
theorem own_clamp {p : Int32} {i : Nat} (h : p.toInt = i) : p.toNatClampNeg = i := by
  simp only [Int32.toNatClampNeg, h]; rfl
theorem own_inc {p : Int32} {i : Nat} (h : p.toInt = i) (hi : i < 2147483647) : (p + 1).toInt = ((i + 1 : Nat) : Int) := by
  have h1 := c_iadd p 1
  have h2 := rng32 (p + 1)
  have h3 : (1 : Int32).toInt = 1 := by decide
  omega
theorem own_lt32 {p q : Int32} {i j : Nat} (hp : p.toInt = i) (hq : q.toInt = j) : p < q ↔ i < j := by
  rw [Int32.lt_iff_toInt_lt, hp, hq]; omega
theorem own_nn {p : Int32} {i : Nat} (hp : p.toInt = i) : ¬ p < 0 := by
  rw [Int32.lt_iff_toInt_lt, hp, show (0 : Int32).toInt = 0 from by decide]; omega
theorem own_ofNat {n : Nat} (h : n < 2147483648) : (Int32.ofNat n).toInt = n := Int32.toInt_ofNat_of_lt h
/-! the bytes of a char -/
def own_b (c : Int32) : Int32 := (c.toInt8.toInt32).toInt8.toInt32
def own_lo (c : Int32) : Int32 := own_b (c >>> ((0 : Int32) &&& 31))
def own_hi (c : Int32) : Int32 := own_b (c >>> ((8 : Int32) &&& 31))
def own_u (g : Nat → Int32) (j : Nat) : Int32 := if j % 2 = 0 then own_lo (g (j / 2)) else own_hi (g (j / 2))
def own_cL (x : Int32) : Int32 := ((x &&& (255 : Int32)).toUInt32.toUInt16.toUInt32.toInt32)
def own_cU (x y : Int32) : Int32 := ((((x &&& (255 : Int32)) <<< ((0 : Int32) &&& 31)) ||| ((y &&& (255 : Int32)) <<< ((8 : Int32) &&& 31))).toUInt32.toUInt16.toUInt32.toInt32)
theorem own_bInt (c : Int32) : ((own_b c).toInt - c.toInt) % 256 = 0 := by
  have h1 := c_i2b (c.toInt8.toInt32)
  have h2 := c_i2b c
  unfold own_b
  omega
theorem own_i2c {x : Int32} (h0 : 0 ≤ x.toInt) (h1 : x.toInt < 65536) : x.toUInt32.toUInt16.toUInt32.toInt32 = x := by
  have h := c_i2c x
  apply Int32.toInt_inj.mp
  omega
theorem own_shr0 (c : Int32) : c >>> ((0 : Int32) &&& 31) = c := by
  have h := c_ishr c 0 0 (by decide)
  apply Int32.toInt_inj.mp
  rw [h]; simp
theorem own_shl0 (c : Int32) : c <<< ((0 : Int32) &&& 31) = c := by
  have h := c_ishl c 0 0 (by decide)
  have h2 := rng32 c
  have h3 := rng32 (c <<< ((0 : Int32) &&& 31))
  apply Int32.toInt_inj.mp
  simp only [Nat.pow_zero] at h
  omega
theorem own_decL {c : Int32} (h0 : 0 ≤ c.toInt) (h1 : c.toInt < 256) : own_cL (own_b c) = c := by
  have h2 := c_mask (own_b c) 255 8 (by decide) (by decide)
  have h3 := own_bInt c
  have e : own_b c &&& 255 = c := by apply Int32.toInt_inj.mp; rw [h2]; omega
  unfold own_cL
  rw [e]
  exact own_i2c h0 (by omega)
theorem own_decU {c : Int32} (h0 : 0 ≤ c.toInt) (h1 : c.toInt < 65536) : own_cU (own_lo c) (own_hi c) = c := by
  have a1 := c_mask (own_lo c) 255 8 (by decide) (by decide)
  have a2 := c_mask (own_hi c) 255 8 (by decide) (by decide)
  have a3 : ((own_lo c).toInt - c.toInt) % 256 = 0 := by
    have := own_bInt (c >>> ((0 : Int32) &&& 31)); rw [own_shr0] at this
    unfold own_lo; rw [own_shr0]; exact this
  have a4 : ((own_hi c).toInt - c.toInt / 256) % 256 = 0 := by
    have := own_bInt (c >>> ((8 : Int32) &&& 31)); rw [c_ishr c 8 8 (by decide)] at this
    exact this
  unfold own_cU
  rw [own_shl0]
  generalize own_lo c &&& 255 = x at *
  generalize own_hi c &&& 255 = y at *
  have b1 := c_ishl y 8 8 (by decide)
  have b2 := rng32 (y <<< ((8 : Int32) &&& 31))
  have b3 := c_or' x (y <<< ((8 : Int32) &&& 31)) 8 (by decide) 256 (by decide) (by omega) (by omega) (by omega)
  have b4 := rng32 (x ||| y <<< ((8 : Int32) &&& 31))
  have e : x ||| y <<< ((8 : Int32) &&& 31) = c := by apply Int32.toInt_inj.mp; omega
  rw [e]
  exact own_i2c h0 h1
/-! the statics on which the String bodies rest -/
def OwnW (Z : State) (wc : Int32) (sx : Value) : Prop := Sta Z Z.heap "java/lang/String" "COMPACT_STRINGS" "Z" (.int wc) ∧ ¬ (wc = (0 : Int32)) ∧ Sta Z Z.heap "jdk/internal/util/Preconditions" "SIOOBE_FORMATTER" "Ljava/util/function/BiFunction;" sx ∧ sx.isRef = true ∧ Sta Z Z.heap "java/lang/StringUTF16" "$assertionsDisabled" "Z" (.int (1 : Int32)) ∧ Sta Z Z.heap "java/lang/StringUTF16" "HI_BYTE_SHIFT" "I" (.int (0 : Int32)) ∧ Sta Z Z.heap "java/lang/StringUTF16" "LO_BYTE_SHIFT" "I" (.int (8 : Int32))
theorem own_mono {l : Launch} {x : MethodName} {S : Spec} {P : Array Value → State → Prop} {K : Program → Env → List Frame → State → Array Value → Prop} {Q Q' : Array Value → State → Outcome → State → Prop} (h : MetFree l x S P K Q) (hq : ∀ a s o t, Q a s o t → Q' a s o t) : MetFree l x S P K Q' := by
  intro p e ha hc hk s m args below hf happ hP hK
  obtain ⟨n, o, h1, h2, h3, h4⟩ := h p e ha hc hk s m args below hf happ hP hK
  exact ⟨n, o, h1, h2, h3, hq _ _ _ _ h4⟩
/-! a String object and its chars -/
def OwnStr (Z : State) (h : Heap) (a b : Addr) (n : Nat) (g : Nat → Int32) : Prop :=
  Exa Z h a "java/lang/String" ∧ Fld Z h a "java/lang/String" "value" "[B" (.ref b) ∧
  ((Fld Z h a "java/lang/String" "coder" "B" (.int (0 : Int32)) ∧ (∀ j, j < n → (g j).toInt < 256) ∧ ∃ k, Arv Z h b k .byte (Int32.ofNat n) (own_vs n fun j => own_b (g j)) (.int (0 : Int32))) ∨
   (Fld Z h a "java/lang/String" "coder" "B" (.int (1 : Int32)) ∧ ∃ k, Arv Z h b k .byte (Int32.ofNat (2 * n)) (own_vs (2 * n) (own_u g)) (.int (0 : Int32))))
section OwnStrLaws
variable {Z : State} {h h' : Heap} {a b o : Addr} {n : Nat} {g : Nat → Int32} {sl : Nat} {v : Value} {ws : List Addr}
theorem OwnStr.ext (S : OwnStr Z h a b n g) (E : Ext h h') : OwnStr Z h' a b n g := by
  obtain ⟨A, F, C⟩ := S
  refine ⟨A.ext E, F.ext E, ?_⟩
  rcases C with ⟨C, q, k, V⟩ | ⟨C, k, V⟩
  · exact Or.inl ⟨C.ext E, q, k, V.ext E⟩
  · exact Or.inr ⟨C.ext E, k, V.ext E⟩
theorem OwnStr.other (S : OwnStr Z h a b n g) (W : Wr h h' o sl v) (ha : a ≠ o) (hb : b ≠ o) : OwnStr Z h' a b n g := by
  obtain ⟨A, F, C⟩ := S
  refine ⟨A.wr W, F.other W (Or.inl ha), ?_⟩
  rcases C with ⟨C, q, k, V⟩ | ⟨C, k, V⟩
  · exact Or.inl ⟨C.other W (Or.inl ha), q, k, V.other W hb⟩
  · exact Or.inr ⟨C.other W (Or.inl ha), k, V.other W hb⟩
theorem OwnStr.keep (S : OwnStr Z h a b n g) (K : Keep h h' ws) (ha : a ∉ ws) (hb : b ∉ ws) : OwnStr Z h' a b n g := by
  obtain ⟨A, F, C⟩ := S
  refine ⟨A.keep K, F.keep K ha, ?_⟩
  rcases C with ⟨C, q, k, V⟩ | ⟨C, k, V⟩
  · exact Or.inl ⟨C.keep K ha, q, k, V.keep K hb⟩
  · exact Or.inr ⟨C.keep K ha, k, V.keep K hb⟩
theorem OwnStr.lt0 (S : OwnStr Z h a b n g) : a < h.size := S.1.lt
theorem OwnStr.lt1 (S : OwnStr Z h a b n g) : b < h.size := by
  rcases S.2.2 with ⟨-, -, k, V⟩ | ⟨-, k, V⟩ <;> exact V.lt
end OwnStrLaws
theorem own_len2 {p : Int32} {n : Nat} (hp : p.toInt = n) (hn : n ≤ 1000000) : p <<< ((1 : Int32) &&& 31) = Int32.ofNat (2 * n) := by
  apply Int32.toInt_inj.mp
  rw [own_ofNat (by omega)]
  have h := c_ishl p 1 1 (by decide)
  have h2 := rng32 (p <<< ((1 : Int32) &&& 31))
  omega
theorem own_shl1 {p : Int32} {i : Nat} (hp : p.toInt = i) (hn : i ≤ 1000000) : (p <<< ((1 : Int32) &&& 31)).toInt = ((2 * i : Nat) : Int) := by
  rw [own_len2 hp hn, own_ofNat (by omega)]
theorem own_shr1 {n : Nat} (hn : n ≤ 1000000) : (Int32.ofNat (2 * n) >>> ((1 : Int32) &&& 31)) = Int32.ofNat n := by
  apply Int32.toInt_inj.mp
  rw [c_ishr _ 1 1 (by decide), own_ofNat (by omega), own_ofNat (by omega)]
  omega
def ownEL : List (String × Nat) := []
theorem own_EW {Z : State} {aa : Array Value} (hw : ∀ d ∈ tables_1, d.before aa Z = true) : EW Z aa ownEL := EW.nil
theorem own_safe0 {Z : State} {vm : Vm} {h : Heap} {x : Addr} : Safe Z ownEL vm h x := fun B => by
  obtain ⟨p, hp, -⟩ := B
  simp [ownEL] at hp
theorem own_wS {Z : State} {aa : Array Value} (hw : ∀ d ∈ tables_1, d.before aa Z = true) : ∀ a ∈ Bundle.stringAtoms, a.before aa Z = true := fun d hd => by
  simp only [Bundle.stringAtoms, List.mem_cons, List.not_mem_nil, or_false] at hd
  rcases hd with rfl | rfl | rfl | rfl | rfl | rfl | rfl
  · exact hw _ (List.mem_of_getElem? (i := 10) rfl)
  · exact hw _ (List.mem_of_getElem? (i := 18) rfl)
  · exact hw _ (List.mem_of_getElem? (i := 22) rfl)
  · exact hw _ (List.mem_of_getElem? (i := 31) rfl)
  · exact hw _ (List.mem_of_getElem? (i := 33) rfl)
  · exact hw _ (List.mem_of_getElem? (i := 136) rfl)
  · exact hw _ (List.mem_of_getElem? (i := 137) rfl)
/-! walks that may load String constants cold: the invariant of RW14 beside the Stand over the start with the tables at hand -/
def OwnC (Z : State) (EL : List (String × Nat)) (s : State) (vm : Vm) (h : Heap) : Prop := (∃ k0, s.Since vm k0 ∧ k0 ≤ h.size) ∧ CHr Z EL s.vm s.heap vm h
section OwnCold
variable {Z : State} {EL : List (String × Nat)} {s : State} {vm vm1 : Vm} {h h' : Heap} {aa : Array Value}
theorem OwnC.start (hh : s.heap = h) (H : CHv Z EL s.vm h) : OwnC Z EL s s.vm h := by
  subst hh
  exact ⟨⟨s.heap.size, ((State.WarmedH.refl s).since _), Nat.le_refl _⟩, CHr.refl H⟩
theorem OwnC.ext (C : OwnC Z EL s vm h) (E : Ext h h') : OwnC Z EL s vm h' := by
  obtain ⟨⟨k, a, b⟩, c⟩ := C
  exact ⟨⟨k, a, Nat.le_trans b E.1⟩, c.trans (CHr.ext E c.1)⟩
theorem OwnC.wr {a : Addr} {sl : Nat} {v : Value} (C : OwnC Z EL s vm h) (W : Wr h h' a sl v) (S : Safe Z EL vm h a) : OwnC Z EL s vm h' := by
  obtain ⟨⟨k, a, b⟩, c⟩ := C
  exact ⟨⟨k, a, Nat.le_trans b (Keep.of_wr W).1⟩, c.trans (CHr.wr W S c.1)⟩
theorem OwnC.keep {ws : List Addr} (C : OwnC Z EL s vm h) (K : Keep h h' ws) (S : ∀ x ∈ ws, Safe Z EL vm h x) : OwnC Z EL s vm h' := by
  obtain ⟨⟨k, a, b⟩, c⟩ := C
  exact ⟨⟨k, a, Nat.le_trans b K.1⟩, c.trans (CHr.keep K S c.1)⟩
theorem OwnC.reb (C : OwnC Z EL s vm h) (h2 : (s.setVm vm).Since vm1 h'.size) (g : h.size ≤ h'.size) (q : CHr Z EL vm h vm1 h') : OwnC Z EL s vm1 h' := by
  obtain ⟨⟨k, a, b⟩, c⟩ := C
  exact ⟨⟨h'.size, a.trans h2 (Nat.le_trans b g), Nat.le_refl _⟩, c.trans q⟩
theorem own_safeNull {x : Addr} (hal : Z.vm.Alike vm) (E : Exa Z h x "java/lang/String") (F : Fld Z h x "java/lang/String" "value" "[B" .null) : Safe Z EL vm h x := fun B => by
  obtain ⟨cell, k, e1, e2, e3, -, -⟩ := E
  obtain ⟨p, -, u, a, -, q, -, FB, rfl | rfl⟩ := B
  · obtain ⟨cS, ⟨⟨s1, s2, s3, ⟨cv, kv, iv, s4, s4'⟩, -, s6, s7, s8, -⟩, -⟩, -⟩ := FB
    obtain ⟨cell1, cf1, kf1, i1, fc, g1, g2, g3, g4, g5, g6, g7⟩ := F
    obtain ⟨kv', z4⟩ := ff_back (U := Wst Z vm h) hal s4
    cases (show h[q.sa]? = some q.sC from s1).symm.trans g1
    have e4 := z4.symm.trans g2
    simp only [Option.some.injEq, Prod.mk.injEq] at e4
    rw [← e4.2.2.2, s8] at g7
    cases g7
  · cases (show h[q.sd]? = some q.SA from FB.hd).symm.trans e1
    obtain ⟨cS, -, -, f, -⟩ := FB
    have f' : vm.findClass "[B" = some q.SA.cls := f
    rw [hal.findClass] at f'
    obtain ⟨k1, q1, q2⟩ := Vm.findClass_spec f'
    obtain ⟨k2, q3, q4⟩ := Vm.findClass_spec e2
    cases q1.symm.trans q3
    have := q2.symm.trans q4
    exact absurd this (by decide)
/-- the walk's goal: it ends, returning what Qv says; what is booked says its units -/
def OwnEndW (Z : State) (EL : List (String × Nat)) (p : Program) (e : Env) (below : List Frame) (s : State) (Qv : Option Value → Heap → List Loc → Prop) (k n : Nat) (A : State) : Prop :=
  ∃ s₂ o, Steps p.tables e below A s₂ ∧ s₂.status = .running ∧ Ended s₂ below o ∧ ∃ v L, o = .returned v ∧ Qv v s₂.heap L ∧ CHr Z EL s.vm s.heap s₂.vm s₂.heap ∧ ReturnedEndW s o s₂ L k n
theorem own_stepW {p : Program} {e : Env} {below : List Frame} {Qv : Option Value → Heap → List Loc → Prop} {k n : Nat} {A B : State} (h : ∀ t, Steps p.tables e below B t → Steps p.tables e below A t) (q : OwnEndW Z EL p e below s Qv k n B) : OwnEndW Z EL p e below s Qv k n A := by
  obtain ⟨s₂, o, h1, h2⟩ := q
  exact ⟨s₂, o, h _ h1, h2⟩
theorem own_W {p : Program} {e : Env} {below : List Frame} {Qv : Option Value → Heap → List Loc → Prop} {k n : Nat} {A : State} (hZ : Z.Warmed39 (s.setVm vm).vm) (w : EW Z aa EL) (C : OwnC Z EL s vm h) (q : OwnEnd p e below (s.setVm vm) (fun v g L => Qv v g L ∧ g = h) k n A) : OwnEndW Z EL p e below s Qv k n A := by
  obtain ⟨s₂, o, st, run, en, v, L, rfl, ⟨hq, hg⟩, hr, hW, hs⟩ := q
  obtain ⟨⟨k0, hS, hk⟩, hC⟩ := C
  obtain ⟨a, b, c⟩ := hS.ended (U := s₂) hW (by rw [hg]; exact hk) hs
  have z := CHv.later (h' := h) hZ (hW := (show (Wst Z vm h).Warmed39 s₂.vm from hW.wide)) w ⟨Nat.le_refl _, fun _ _ q => q⟩ (Or.inl hW.interned_eq) hC.1
  refine ⟨s₂, _, st, run, en, v, L, rfl, hq, ?_, ⟨v, rfl⟩, a, b, c⟩
  rw [hg]
  exact hC.trans ⟨z.1, Nat.le_refl _, z.2⟩
end OwnCold
theorem dci_0 : decode jdk_41_method_11_code 0 = .ok (.iload_n 0, 1) := by decide +kernel
theorem dci_1 : decode jdk_41_method_11_code 1 = .ok (.ifCond .lt 8, 3) := by decide +kernel
theorem dci_4 : decode jdk_41_method_11_code 4 = .ok (.iload_n 0, 1) := by decide +kernel
theorem dci_5 : decode jdk_41_method_11_code 5 = .ok (.iload_n 1, 1) := by decide +kernel
theorem dci_6 : decode jdk_41_method_11_code 6 = .ok (.if_icmp .lt 10, 3) := by decide +kernel
theorem dci_16 : decode jdk_41_method_11_code 16 = .ok (.iload_n 0, 1) := by decide +kernel
theorem dci_17 : decode jdk_41_method_11_code 17 = .ok (.ireturn, 1) := by decide +kernel
theorem pnci : plainName "jdk/internal/util/Preconditions" = true := by first | (simp [plainName, overriddenIn]; done) | decide +kernel
theorem efci (m : MethodId) (p0 : Int32) (p1 : Int32) (x2 : Value) (hr_x2 : x2.isRef = true) : entryFrame m #[(.int p0), (.int p1), x2] 3 = mkF m 0 #[.val (.int p0), .val (.int p1), .val x2] [] := by
  rcases ref_cases hr_x2 with rfl | ⟨_, rfl⟩
  · rfl
  rfl
def fci (p0 : Int32) : Int32 := p0
def Qci (Z : State) (p0 : Int32) (p1 : Int32) (x2 : Value) (h0 : Heap) (n0 : Nat) (v : Option Value) (h : Heap) (L : List Loc) : Prop := v = some (.int (fci p0)) ∧ Fr n0 L ∧ h = h0
set_option maxRecDepth 65536 in
set_option maxHeartbeats 40000000 in
theorem rmci (l : Launch) (Z : State) (aa : Array Value) (hw : ∀ d ∈ tables_1, d.before aa Z = true) (ws : List Jvm.Cond) (p0 : Int32) (p1 : Int32) (x2 : Value) (h0 : Heap) (n0 : Nat) (Z0 : n0 ≤ h0.size) (hr_x2 : x2.isRef = true) (hlo : ¬ p0 < (0 : Int32)) (hhi : p0 < p1) :
    MetFree l (⟨"jdk/internal/util/Preconditions", "checkIndex", "(IILjava/util/function/BiFunction;)I"⟩ : MethodName) (head1 (Jvm.Cond.code (⟨"jdk/internal/util/Preconditions", "checkIndex", "(IILjava/util/function/BiFunction;)I"⟩ : MethodName) jdk_41_method_11_code 3 (some .int) :: ws) ({ frames := 0, cells := 0, slots := 0, locals := 0 } : Room)) (fun a U => a = #[(.int p0), (.int p1), x2] ∧ Z.Warmed39 U.vm ∧ U.heap = h0) (fun _ _ _ _ _ => True) (fun _ U o U' => ∃ v L, o = .returned v ∧ Qci Z p0 p1 x2 h0 n0 v U'.heap L ∧ FrameEnd U o U' L ({ frames := 0, cells := 0, slots := 0, locals := 0 } : Room).cells ({ frames := 0, cells := 0, slots := 0, locals := 0 } : Room).slots) := by
  refine MetFree.of_bodySF (plainFor_of_name pnci) hisR ?_
  intro p e s m args below meth c s₁ Bd hml0 hP hK
  obtain ⟨rfl, hZ, hh⟩ := hP
  have hx := Bd.exec
  have hby := Bd.bytes
  have hml : c.maxLocals = 3 := hml0
  have hown : s.vm.findClass "jdk/internal/util/Preconditions" = some m.cls := findClass_of_methodNamed Bd.named
  have hnm := (name_of_methodNamed Bd.named Bd.method).1
  have X0 : Stand p l e ({ frames := 0, cells := 0, slots := 0, locals := 0 } : Room) s m #[(.int p0), (.int p1), x2] below meth c s₁ [] 0 0 := Stand.of_body Bd
  have e0 : s₁.heap = h0 := by rw [← hh, Bd.state]; rfl
  have N0 := Fr.nil n0
  show OwnEnd p e below s (fun v h L => Qci Z p0 p1 x2 h0 n0 v h L) ({ frames := 0, cells := 0, slots := 0, locals := 0 } : Room).cells ({ frames := 0, cells := 0, slots := 0, locals := 0 } : Room).slots (s₁.setTop (entryFrame m #[(.int p0), (.int p1), x2] 3))
  rw [efci m p0 p1 x2 hr_x2]
  generalize hW : OwnEnd p e below s (fun v h L => Qci Z p0 p1 x2 h0 n0 v h L) ({ frames := 0, cells := 0, slots := 0, locals := 0 } : Room).cells ({ frames := 0, cells := 0, slots := 0, locals := 0 } : Room).slots = W
  have stp : ∀ {A B : State}, (∀ t, Steps p.tables e below B t → Steps p.tables e below A t) → W B → W A := by subst hW; exact own_step
  show W (s₁.setTop (mkF m 0 #[.val (.int p0), .val (.int p1), .val x2] []))
  refine stp (fun t k => XS.iloadN X0.here hx rfl (hb hby dci_0) rfl k) ?_
  show W (s₁.setTop (mkF m 1 #[.val (.int p0), .val (.int p1), .val x2] [(.int p0)]))
  refine stp (fun t k => XS.ifNo X0.here hx rfl (hb hby dci_1) rfl ((if0 _ _).trans (flt (hlo)).1) k) ?_
  show W (s₁.setTop (mkF m 4 #[.val (.int p0), .val (.int p1), .val x2] []))
  refine stp (fun t k => XS.iloadN X0.here hx rfl (hb hby dci_4) rfl k) ?_
  show W (s₁.setTop (mkF m 5 #[.val (.int p0), .val (.int p1), .val x2] [(.int p0)]))
  refine stp (fun t k => XS.iloadN X0.here hx rfl (hb hby dci_5) rfl k) ?_
  show W (s₁.setTop (mkF m 6 #[.val (.int p0), .val (.int p1), .val x2] [(.int p1), (.int p0)]))
  refine stp (fun t k => XS.icmpYes X0.here hx rfl (pc0 := 6) (pc' := 16) rfl (hb hby dci_6) rfl ((tlt (hhi)).1) (by decide) (by decide) k) ?_
  show W (s₁.setTop (mkF m 16 #[.val (.int p0), .val (.int p1), .val x2] []))
  refine stp (fun t k => XS.iloadN X0.here hx rfl (hb hby dci_16) rfl k) ?_
  show W (s₁.setTop (mkF m 17 #[.val (.int p0), .val (.int p1), .val x2] [(.int p0)]))
  show W (s₁.setTop (mkF m 17 #[.val (.int p0), .val (.int p1), .val x2] [(.int p0)]))
  rw [← hW]
  exact own_retI X0 hx Bd.notSynchronized Bd.returns (hb hby dci_17) (by show Qci Z p0 p1 x2 h0 n0 _ s₁.heap _; rw [e0]; exact ⟨rfl, N0, rfl⟩) (by decide) (by decide)
theorem dsc_0 : decode jdk_42_method_155_code 0 = .ok (.iload_n 0, 1) := by decide +kernel
theorem dsc_1 : decode jdk_42_method_155_code 1 = .ok (.iload_n 1, 1) := by decide +kernel
theorem dsc_2 : decode jdk_42_method_155_code 2 = .ok (.getstatic 1053, 3) := by decide +kernel
theorem dsc_5 : decode jdk_42_method_155_code 5 = .ok (.invokestatic 1059, 3) := by decide +kernel
theorem dsc_8 : decode jdk_42_method_155_code 8 = .ok (.pop, 1) := by decide +kernel
theorem dsc_9 : decode jdk_42_method_155_code 9 = .ok (.return_, 1) := by decide +kernel
theorem pnsc : plainName "java/lang/String" = true := by first | (simp [plainName, overriddenIn]; done) | decide +kernel
theorem pdsc_0 : parseMethodDescriptor "(IILjava/util/function/BiFunction;)I" = some ⟨[.int, .int, (.object "java/util/function/BiFunction")], some .int⟩ := by decide +kernel
theorem efsc (m : MethodId) (p0 : Int32) (p1 : Int32) : entryFrame m #[(.int p0), (.int p1)] 2 = mkF m 0 #[.val (.int p0), .val (.int p1)] [] := by first | (simp [entryFrame, mkF, argsToLocals, Value.category]; done) | rfl
def Qsc (Z : State) (p0 : Int32) (p1 : Int32) (wc : Int32) (sx : Value) (h0 : Heap) (n0 : Nat) (v : Option Value) (h : Heap) (L : List Loc) : Prop := v = none ∧ Fr n0 L ∧ h = h0
set_option maxRecDepth 65536 in
set_option maxHeartbeats 40000000 in
theorem rmsc (l : Launch) (Z : State) (aa : Array Value) (hw : ∀ d ∈ tables_1, d.before aa Z = true) (ws : List Jvm.Cond) (p0 : Int32) (p1 : Int32) (wc : Int32) (sx : Value) (h0 : Heap) (n0 : Nat) (Z0 : n0 ≤ h0.size) (BW : OwnW Z wc sx) (O0 : Old Z n0 h0) (hlo : ¬ p0 < (0 : Int32)) (hhi : p0 < p1) :
    MetFree l (⟨"java/lang/String", "checkIndex", "(II)V"⟩ : MethodName) (head1 (Jvm.Cond.code (⟨"java/lang/String", "checkIndex", "(II)V"⟩ : MethodName) jdk_42_method_155_code 2 none :: ws) ({ frames := 1, cells := 0, slots := 0, locals := 14 } : Room)) (fun a U => a = #[(.int p0), (.int p1)] ∧ Z.Warmed39 U.vm ∧ U.heap = h0) (fun _ _ _ _ _ => True) (fun _ U o U' => ∃ v L, o = .returned v ∧ Qsc Z p0 p1 wc sx h0 n0 v U'.heap L ∧ FrameEnd U o U' L ({ frames := 1, cells := 0, slots := 0, locals := 14 } : Room).cells ({ frames := 1, cells := 0, slots := 0, locals := 14 } : Room).slots) := by
  refine MetFree.of_bodySF (plainFor_of_name pnsc) hisR ?_
  intro p e s m args below meth c s₁ Bd hml0 hP hK
  obtain ⟨rfl, hZ, hh⟩ := hP
  have hx := Bd.exec
  have hby := Bd.bytes
  have hml : c.maxLocals = 2 := hml0
  have hown : s.vm.findClass "java/lang/String" = some m.cls := findClass_of_methodNamed Bd.named
  have hnm := (name_of_methodNamed Bd.named Bd.method).1
  have X0 : Stand p l e ({ frames := 1, cells := 0, slots := 0, locals := 14 } : Room) s m #[(.int p0), (.int p1)] below meth c s₁ [] 0 0 := Stand.of_body Bd
  have e0 : s₁.heap = h0 := by rw [← hh, Bd.state]; rfl
  have N0 := Fr.nil n0
  show OwnEnd p e below s (fun v h L => Qsc Z p0 p1 wc sx h0 n0 v h L) ({ frames := 1, cells := 0, slots := 0, locals := 14 } : Room).cells ({ frames := 1, cells := 0, slots := 0, locals := 14 } : Room).slots (s₁.setTop (entryFrame m #[(.int p0), (.int p1)] 2))
  rw [efsc m p0 p1]
  generalize hW : OwnEnd p e below s (fun v h L => Qsc Z p0 p1 wc sx h0 n0 v h L) ({ frames := 1, cells := 0, slots := 0, locals := 14 } : Room).cells ({ frames := 1, cells := 0, slots := 0, locals := 14 } : Room).slots = W
  have stp : ∀ {A B : State}, (∀ t, Steps p.tables e below B t → Steps p.tables e below A t) → W B → W A := by subst hW; exact own_step
  obtain ⟨S_cs, hcs, S_si, hr_sx, S_ad, S_hi, S_lo⟩ := id BW
  show W (s₁.setTop (mkF m 0 #[.val (.int p0), .val (.int p1)] []))
  refine stp (fun t k => XS.iloadN X0.here hx rfl (hb hby dsc_0) rfl k) ?_
  show W (s₁.setTop (mkF m 1 #[.val (.int p0), .val (.int p1)] [(.int p0)]))
  refine stp (fun t k => XS.iloadN X0.here hx rfl (hb hby dsc_1) rfl k) ?_
  show W (s₁.setTop (mkF m 2 #[.val (.int p0), .val (.int p1)] [(.int p1), (.int p0)]))
  obtain ⟨Tsc1, Xsc1, esc1, stsc1⟩ := getS2 X0 hx hZ hown (host := "") (Or.inl (hw _ (List.mem_of_getElem? (i := 92) rfl))) Via.refl e0 (S_si.ext O0.2) (g := (mkF m 2 #[.val (.int p0), .val (.int p1)] [(.int p1), (.int p0)])) rfl (hb hby dsc_2)
  refine stp (fun t k => stsc1 t k) ?_
  show W (Tsc1.setTop (mkF m 5 #[.val (.int p0), .val (.int p1)] [sx, (.int p1), (.int p0)]))
  obtain ⟨_, _, ⟨Tscc2, Lscc2, kscc2, nscc2⟩, -, Xscc2, ⟨Lcscc2, hQscc2, lscc2, yscc2, zscc2⟩, stscc2⟩ := Jvm.LawKit.callS Xsc1 hx (y := (⟨"jdk/internal/util/Preconditions", "checkIndex", "(IILjava/util/function/BiFunction;)I"⟩ : MethodName)) hown (mvT hZ (hw _ (List.mem_of_getElem? (i := 94) rfl))) (mvT hZ (hw _ (List.mem_of_getElem? (i := 95) rfl))) (mvT hZ (hw _ (List.mem_of_getElem? (i := 93) rfl))) (mvT hZ (hw _ (List.mem_of_getElem? (i := 96) rfl))) (by decide) (backOf (W := 0) (rmci l Z aa hw [] p0 p1 sx  h0 n0 Z0 hr_sx hlo hhi) hZ (hw _ (List.mem_of_getElem? (i := 96) rfl)) (hw _ (List.mem_of_getElem? (i := 93) rfl)) (by decide) (by decide)) (g := (mkF m 5 #[.val (.int p0), .val (.int p1)] [sx, (.int p1), (.int p0)])) rfl (by rw [hml]; rfl) (argsL := [(.int p0), (.int p1), sx]) (rest := []) (lenOf pdsc_0 rfl) rfl (by show 2 * 0 + _ ≤ _; exact Nat.le_of_eq rfl) (hb hby dsc_5) (fun _ _ => ⟨rfl, esc1, (by decide : 0 + 0 ≤ _), (by decide : 0 + 0 ≤ _)⟩)
  dsimp only [Pt.U, Pt.locs, Pt.cells, Pt.slots] at Xscc2 lscc2 yscc2 zscc2 stscc2 hQscc2
  subst lscc2 yscc2 zscc2
  obtain ⟨rfl, Nscc2q, escc2⟩ := hQscc2
  have Nscc2 := Fr.app N0 Nscc2q
  obtain ⟨lcsct3, Xscc2, Nscc2⟩ : ∃ lc, Stand p l e ({ frames := 1, cells := 0, slots := 0, locals := 14 } : Room) s m #[(.int p0), (.int p1)] below meth c Tscc2 lc 0 0 ∧ Fr n0 lc := ⟨_, Xscc2, Nscc2⟩
  refine stp (fun t k => stscc2 t k) ?_
  show W (Tscc2.setTop (mkF m 8 #[.val (.int p0), .val (.int p1)] [(.int (fci p0))]))
  refine stp (fun t k => XS.pop Xscc2.here hx rfl (hb hby dsc_8) rfl rfl k) ?_
  show W (Tscc2.setTop (mkF m 9 #[.val (.int p0), .val (.int p1)] []))
  show W (Tscc2.setTop (mkF m 9 #[.val (.int p0), .val (.int p1)] []))
  rw [← hW]
  exact own_ret0 Xscc2 hx Bd.notSynchronized Bd.returns (hb hby dsc_9) (by show Qsc Z p0 p1 wc sx h0 n0 _ Tscc2.heap _; rw [escc2]; exact ⟨rfl, Nscc2, rfl⟩) (by decide) (by decide)
theorem dlc_0 : decode jdk_43_method_2_code 0 = .ok (.iload_n 1, 1) := by decide +kernel
theorem dlc_1 : decode jdk_43_method_2_code 1 = .ok (.aload_n 0, 1) := by decide +kernel
theorem dlc_2 : decode jdk_43_method_2_code 2 = .ok (.arraylength, 1) := by decide +kernel
theorem dlc_3 : decode jdk_43_method_2_code 3 = .ok (.invokestatic 9, 3) := by decide +kernel
theorem dlc_6 : decode jdk_43_method_2_code 6 = .ok (.aload_n 0, 1) := by decide +kernel
theorem dlc_7 : decode jdk_43_method_2_code 7 = .ok (.iload_n 1, 1) := by decide +kernel
theorem dlc_8 : decode jdk_43_method_2_code 8 = .ok (.baload, 1) := by decide +kernel
theorem dlc_9 : decode jdk_43_method_2_code 9 = .ok (.sipush 255, 3) := by decide +kernel
theorem dlc_12 : decode jdk_43_method_2_code 12 = .ok (.iand, 1) := by decide +kernel
theorem dlc_13 : decode jdk_43_method_2_code 13 = .ok (.i2c, 1) := by decide +kernel
theorem dlc_14 : decode jdk_43_method_2_code 14 = .ok (.ireturn, 1) := by decide +kernel
theorem pnlc : plainName "java/lang/StringLatin1" = true := by first | (simp [plainName, overriddenIn]; done) | decide +kernel
theorem pdlc_0 : parseMethodDescriptor "(II)V" = some ⟨[.int, .int], none⟩ := by decide +kernel
theorem eflc (m : MethodId) (a0 : Addr) (p1 : Int32) : entryFrame m #[(.ref a0), (.int p1)] 2 = mkF m 0 #[.val (.ref a0), .val (.int p1)] [] := by first | (simp [entryFrame, mkF, argsToLocals, Value.category]; done) | rfl
def flc (x : Int32) : Int32 := (nar .char ((x &&& (255 : Int32)).toUInt32.toUInt16.toUInt32.toInt32))
def Qlc (Z : State) (a0 : Addr) (p1 : Int32) (wc : Int32) (sx : Value) (kb : ClassId) (z : Int32) (vs : List Value) (x : Int32) (h0 : Heap) (n0 : Nat) (v : Option Value) (h : Heap) (L : List Loc) : Prop := v = some (.int (flc x)) ∧ Fr n0 L ∧ h = h0
set_option maxRecDepth 65536 in
set_option maxHeartbeats 40000000 in
theorem rmlc (l : Launch) (Z : State) (aa : Array Value) (hw : ∀ d ∈ tables_1, d.before aa Z = true) (ws : List Jvm.Cond) (a0 : Addr) (p1 : Int32) (wc : Int32) (sx : Value) (kb : ClassId) (z : Int32) (vs : List Value) (x : Int32) (h0 : Heap) (n0 : Nat) (Z0 : n0 ≤ h0.size) (BW : OwnW Z wc sx) (O0 : Old Z n0 h0) (V_a0 : Arv Z h0 a0 kb .byte z vs (.int (0 : Int32))) (hlo : ¬ p1 < (0 : Int32)) (hhi : p1 < z) (hgx : vs.getD p1.toNatClampNeg (.int (0 : Int32)) = .int x) :
    MetFree l (⟨"java/lang/StringLatin1", "charAt", "([BI)C"⟩ : MethodName) (head1 (Jvm.Cond.code (⟨"java/lang/StringLatin1", "charAt", "([BI)C"⟩ : MethodName) jdk_43_method_2_code 2 (some .char) :: ws) ({ frames := 2, cells := 0, slots := 0, locals := 27 } : Room)) (fun a U => a = #[(.ref a0), (.int p1)] ∧ Z.Warmed39 U.vm ∧ U.heap = h0) (fun _ _ _ _ _ => True) (fun _ U o U' => ∃ v L, o = .returned v ∧ Qlc Z a0 p1 wc sx kb z vs x h0 n0 v U'.heap L ∧ FrameEnd U o U' L ({ frames := 2, cells := 0, slots := 0, locals := 27 } : Room).cells ({ frames := 2, cells := 0, slots := 0, locals := 27 } : Room).slots) := by
  refine MetFree.of_bodySF (plainFor_of_name pnlc) hisR ?_
  intro p e s m args below meth c s₁ Bd hml0 hP hK
  obtain ⟨rfl, hZ, hh⟩ := hP
  have hx := Bd.exec
  have hby := Bd.bytes
  have hml : c.maxLocals = 2 := hml0
  have hown : s.vm.findClass "java/lang/StringLatin1" = some m.cls := findClass_of_methodNamed Bd.named
  have hnm := (name_of_methodNamed Bd.named Bd.method).1
  have X0 : Stand p l e ({ frames := 2, cells := 0, slots := 0, locals := 27 } : Room) s m #[(.ref a0), (.int p1)] below meth c s₁ [] 0 0 := Stand.of_body Bd
  have e0 : s₁.heap = h0 := by rw [← hh, Bd.state]; rfl
  have N0 := Fr.nil n0
  show OwnEnd p e below s (fun v h L => Qlc Z a0 p1 wc sx kb z vs x h0 n0 v h L) ({ frames := 2, cells := 0, slots := 0, locals := 27 } : Room).cells ({ frames := 2, cells := 0, slots := 0, locals := 27 } : Room).slots (s₁.setTop (entryFrame m #[(.ref a0), (.int p1)] 2))
  rw [eflc m a0 p1]
  generalize hW : OwnEnd p e below s (fun v h L => Qlc Z a0 p1 wc sx kb z vs x h0 n0 v h L) ({ frames := 2, cells := 0, slots := 0, locals := 27 } : Room).cells ({ frames := 2, cells := 0, slots := 0, locals := 27 } : Room).slots = W
  have stp : ∀ {A B : State}, (∀ t, Steps p.tables e below B t → Steps p.tables e below A t) → W B → W A := by subst hW; exact own_step
  obtain ⟨S_cs, hcs, S_si, hr_sx, S_ad, S_hi, S_lo⟩ := id BW
  show W (s₁.setTop (mkF m 0 #[.val (.ref a0), .val (.int p1)] []))
  refine stp (fun t k => XS.iloadN X0.here hx rfl (hb hby dlc_0) rfl k) ?_
  show W (s₁.setTop (mkF m 1 #[.val (.ref a0), .val (.int p1)] [(.int p1)]))
  refine stp (fun t k => XS.aloadN X0.here hx rfl (hb hby dlc_1) rfl rfl k) ?_
  show W (s₁.setTop (mkF m 2 #[.val (.ref a0), .val (.int p1)] [(.ref a0), (.int p1)]))
  obtain ⟨cllc1, Arlc1, qklc1, qslc1, qnlc1, qhlc1, qglc1⟩ := id V_a0
  refine stp (fun t k => X0.arraylength hx (by rw [e0]; exact Arlc1.1) (State.isArrayOf_alike hZ.alike Arlc1.2.1) (g := (mkF m 2 #[.val (.ref a0), .val (.int p1)] [(.ref a0), (.int p1)])) rfl rfl (hb hby dlc_2) _ k) ?_
  rw [len_of qslc1 qnlc1]
  show W (s₁.setTop (mkF m 3 #[.val (.ref a0), .val (.int p1)] [(.int z), (.int p1)]))
  obtain ⟨_, _, ⟨Tlcc2, Llcc2, klcc2, nlcc2⟩, -, Xlcc2, ⟨Lclcc2, hQlcc2, llcc2, ylcc2, zlcc2⟩, stlcc2⟩ := Jvm.LawKit.callS X0 hx (y := (⟨"java/lang/String", "checkIndex", "(II)V"⟩ : MethodName)) hown (mvT hZ (hw _ (List.mem_of_getElem? (i := 89) rfl))) (mvT hZ (hw _ (List.mem_of_getElem? (i := 90) rfl))) (mvT hZ (hw _ (List.mem_of_getElem? (i := 10) rfl))) (mvT hZ (hw _ (List.mem_of_getElem? (i := 91) rfl))) (by decide) (backOf (W := 0) (rmsc l Z aa hw [] p1 z wc sx h0 n0 Z0 BW O0 hlo hhi) hZ (hw _ (List.mem_of_getElem? (i := 91) rfl)) (hw _ (List.mem_of_getElem? (i := 10) rfl)) (by decide) (by decide)) (g := (mkF m 3 #[.val (.ref a0), .val (.int p1)] [(.int z), (.int p1)])) rfl (by rw [hml]; rfl) (argsL := [(.int p1), (.int z)]) (rest := []) (lenOf pdlc_0 rfl) rfl (by show 2 * 0 + _ ≤ _; exact Nat.le_of_eq rfl) (hb hby dlc_3) (fun _ _ => ⟨rfl, e0, (by decide : 0 + 0 ≤ _), (by decide : 0 + 0 ≤ _)⟩)
  dsimp only [Pt.U, Pt.locs, Pt.cells, Pt.slots] at Xlcc2 llcc2 ylcc2 zlcc2 stlcc2 hQlcc2
  subst llcc2 ylcc2 zlcc2
  obtain ⟨rfl, Nlcc2q, elcc2⟩ := hQlcc2
  have Nlcc2 := Fr.app N0 Nlcc2q
  obtain ⟨lclct3, Xlcc2, Nlcc2⟩ : ∃ lc, Stand p l e ({ frames := 2, cells := 0, slots := 0, locals := 27 } : Room) s m #[(.ref a0), (.int p1)] below meth c Tlcc2 lc 0 0 ∧ Fr n0 lc := ⟨_, Xlcc2, Nlcc2⟩
  refine stp (fun t k => stlcc2 t k) ?_
  show W (Tlcc2.setTop (mkF m 6 #[.val (.ref a0), .val (.int p1)] []))
  refine stp (fun t k => XS.aloadN Xlcc2.here hx rfl (hb hby dlc_6) rfl rfl k) ?_
  show W (Tlcc2.setTop (mkF m 7 #[.val (.ref a0), .val (.int p1)] [(.ref a0)]))
  refine stp (fun t k => XS.iloadN Xlcc2.here hx rfl (hb hby dlc_7) rfl k) ?_
  show W (Tlcc2.setTop (mkF m 8 #[.val (.ref a0), .val (.int p1)] [(.int p1), (.ref a0)]))
  obtain ⟨cllc4, Arlc4, qklc4, qslc4, qnlc4, qhlc4, qglc4⟩ := id V_a0
  have hinlc4 : ¬ (p1 < 0 ∨ cllc4.slots.size ≤ (p1).toNatClampNeg) := inb_of qslc4 ⟨hlo, hhi⟩
  have hatlc4 : cllc4.slots[(p1).toNatClampNeg]? = some (.int x) := qhlc4.at hinlc4 hgx
  refine stp (fun t k => Xlcc2.baloadBytes hx (j := p1) (v := (.int x)) (by rw [elcc2]; exact Arlc4.1) (State.isArrayOf_alike hZ.alike Arlc4.2.1) Arlc4.2.2 hinlc4 hatlc4 (g := (mkF m 8 #[.val (.ref a0), .val (.int p1)] [(.int p1), (.ref a0)])) rfl rfl (hb hby dlc_8) _ k) ?_
  show W (Tlcc2.setTop (mkF m 9 #[.val (.ref a0), .val (.int p1)] [(.int x)]))
  refine stp (fun t k => XS.sipush Xlcc2.here hx rfl (hb hby dlc_9) k) ?_
  show W (Tlcc2.setTop (mkF m 12 #[.val (.ref a0), .val (.int p1)] [(.int (255 : Int32)), (.int x)]))
  refine stp (fun t k => XS.iand Xlcc2.here hx rfl (hb hby dlc_12) rfl k) ?_
  show W (Tlcc2.setTop (mkF m 13 #[.val (.ref a0), .val (.int p1)] [(.int (x &&& (255 : Int32)))]))
  refine stp (fun t k => XS.i2c Xlcc2.here hx rfl (hb hby dlc_13) rfl k) ?_
  show W (Tlcc2.setTop (mkF m 14 #[.val (.ref a0), .val (.int p1)] [(.int ((x &&& (255 : Int32)).toUInt32.toUInt16.toUInt32.toInt32))]))
  show W (Tlcc2.setTop (mkF m 14 #[.val (.ref a0), .val (.int p1)] [(.int ((x &&& (255 : Int32)).toUInt32.toUInt16.toUInt32.toInt32))]))
  rw [← hW]
  exact own_retN Xlcc2 hx Bd.notSynchronized Bd.returns (w := (nar .char ((x &&& (255 : Int32)).toUInt32.toUInt16.toUInt32.toInt32))) (by simp) (hb hby dlc_14) rfl (by show Qlc Z a0 p1 wc sx kb z vs x h0 n0 _ Tlcc2.heap _; rw [elcc2]; exact ⟨rfl, Nlcc2, rfl⟩) (by decide) (by decide)
theorem dil_0 : decode jdk_42_method_154_code 0 = .ok (.getstatic 38, 3) := by decide +kernel
theorem dil_3 : decode jdk_42_method_154_code 3 = .ok (.ifCond .eq 14, 3) := by decide +kernel
theorem dil_6 : decode jdk_42_method_154_code 6 = .ok (.aload_n 0, 1) := by decide +kernel
theorem dil_7 : decode jdk_42_method_154_code 7 = .ok (.getfield 15, 3) := by decide +kernel
theorem dil_10 : decode jdk_42_method_154_code 10 = .ok (.ifCond .ne 7, 3) := by decide +kernel
theorem dil_13 : decode jdk_42_method_154_code 13 = .ok (.iconst 1, 1) := by decide +kernel
theorem dil_14 : decode jdk_42_method_154_code 14 = .ok (.goto 4, 3) := by decide +kernel
theorem dil_17 : decode jdk_42_method_154_code 17 = .ok (.iconst 0, 1) := by decide +kernel
theorem dil_18 : decode jdk_42_method_154_code 18 = .ok (.ireturn, 1) := by decide +kernel
theorem pnil : plainName "java/lang/String" = true := by first | (simp [plainName, overriddenIn]; done) | decide +kernel
theorem efil (m : MethodId) (a0 : Addr) : entryFrame m #[(.ref a0)] 1 = mkF m 0 #[.val (.ref a0)] [] := by first | (simp [entryFrame, mkF, argsToLocals, Value.category]; done) | rfl
def fil (cd : Int32) : Int32 := (if cd = (0 : Int32) then (1 : Int32) else (0 : Int32))
def Qil (Z : State) (a0 : Addr) (wc : Int32) (sx : Value) (cd : Int32) (h0 : Heap) (n0 : Nat) (v : Option Value) (h : Heap) (L : List Loc) : Prop := v = some (.int (fil cd)) ∧ Fr n0 L ∧ h = h0
set_option maxRecDepth 65536 in
set_option maxHeartbeats 40000000 in
theorem rmil (l : Launch) (Z : State) (aa : Array Value) (hw : ∀ d ∈ tables_1, d.before aa Z = true) (ws : List Jvm.Cond) (a0 : Addr) (wc : Int32) (sx : Value) (cd : Int32) (h0 : Heap) (n0 : Nat) (Z0 : n0 ≤ h0.size) (BW : OwnW Z wc sx) (O0 : Old Z n0 h0) (F_coder_a0 : Fld Z h0 a0 "java/lang/String" "coder" "B" (.int cd)) :
    MetFree l (⟨"java/lang/String", "isLatin1", "()Z"⟩ : MethodName) (head1 (Jvm.Cond.code (⟨"java/lang/String", "isLatin1", "()Z"⟩ : MethodName) jdk_42_method_154_code 1 (some .boolean) :: ws) ({ frames := 0, cells := 0, slots := 0, locals := 0 } : Room)) (fun a U => a = #[(.ref a0)] ∧ Z.Warmed39 U.vm ∧ U.heap = h0) (fun _ _ _ _ _ => True) (fun _ U o U' => ∃ v L, o = .returned v ∧ Qil Z a0 wc sx cd h0 n0 v U'.heap L ∧ FrameEnd U o U' L ({ frames := 0, cells := 0, slots := 0, locals := 0 } : Room).cells ({ frames := 0, cells := 0, slots := 0, locals := 0 } : Room).slots) := by
  refine MetFree.of_bodySF (plainFor_of_name pnil) hisR ?_
  intro p e s m args below meth c s₁ Bd hml0 hP hK
  obtain ⟨rfl, hZ, hh⟩ := hP
  have hx := Bd.exec
  have hby := Bd.bytes
  have hml : c.maxLocals = 1 := hml0
  have hown : s.vm.findClass "java/lang/String" = some m.cls := findClass_of_methodNamed Bd.named
  have hnm := (name_of_methodNamed Bd.named Bd.method).1
  have X0 : Stand p l e ({ frames := 0, cells := 0, slots := 0, locals := 0 } : Room) s m #[(.ref a0)] below meth c s₁ [] 0 0 := Stand.of_body Bd
  have e0 : s₁.heap = h0 := by rw [← hh, Bd.state]; rfl
  have N0 := Fr.nil n0
  show OwnEnd p e below s (fun v h L => Qil Z a0 wc sx cd h0 n0 v h L) ({ frames := 0, cells := 0, slots := 0, locals := 0 } : Room).cells ({ frames := 0, cells := 0, slots := 0, locals := 0 } : Room).slots (s₁.setTop (entryFrame m #[(.ref a0)] 1))
  rw [efil m a0]
  generalize hW : OwnEnd p e below s (fun v h L => Qil Z a0 wc sx cd h0 n0 v h L) ({ frames := 0, cells := 0, slots := 0, locals := 0 } : Room).cells ({ frames := 0, cells := 0, slots := 0, locals := 0 } : Room).slots = W
  have stp : ∀ {A B : State}, (∀ t, Steps p.tables e below B t → Steps p.tables e below A t) → W B → W A := by subst hW; exact own_step
  obtain ⟨S_cs, hcs, S_si, hr_sx, S_ad, S_hi, S_lo⟩ := id BW
  show W (s₁.setTop (mkF m 0 #[.val (.ref a0)] []))
  obtain ⟨Til1, Xil1, eil1, stil1⟩ := getS2 X0 hx hZ hown (host := "") (Or.inl (hw _ (List.mem_of_getElem? (i := 12) rfl))) Via.refl e0 (S_cs.ext O0.2) (g := (mkF m 0 #[.val (.ref a0)] [])) rfl (hb hby dil_0)
  refine stp (fun t k => stil1 t k) ?_
  show W (Til1.setTop (mkF m 3 #[.val (.ref a0)] [(.int wc)]))
  refine stp (fun t k => XS.ifNo Xil1.here hx rfl (hb hby dil_3) rfl ((if0 _ _).trans (feq (hcs)).1) k) ?_
  show W (Til1.setTop (mkF m 6 #[.val (.ref a0)] []))
  refine stp (fun t k => XS.aloadN Xil1.here hx rfl (hb hby dil_6) rfl rfl k) ?_
  show W (Til1.setTop (mkF m 7 #[.val (.ref a0)] [(.ref a0)]))
  obtain ⟨Til2, Xil2, eil2, stil2⟩ := getF Xil1 hx hZ hown (host := "") (Or.inl (hw _ (List.mem_of_getElem? (i := 32) rfl))) Via.refl eil1 F_coder_a0 (g := (mkF m 7 #[.val (.ref a0)] [(.ref a0)])) rfl rfl (hb hby dil_7)
  refine stp (fun t k => stil2 t k) ?_
  show W (Til2.setTop (mkF m 10 #[.val (.ref a0)] [(.int cd)]))
  by_cases hcil_3 : cd = (0 : Int32)
  · refine stp (fun t k => XS.ifNo Xil2.here hx rfl (hb hby dil_10) rfl ((if0 _ _).trans (teq hcil_3).2) k) ?_
    show W (Til2.setTop (mkF m 13 #[.val (.ref a0)] []))
    refine stp (fun t k => XS.iconst Xil2.here hx rfl (hb hby dil_13) k) ?_
    show W (Til2.setTop (mkF m 14 #[.val (.ref a0)] [(.int (1 : Int32))]))
    refine stp (fun t k => XS.goto Xil2.here hx rfl (pc0 := 14) (pc' := 18) rfl (hb hby dil_14) (by decide) (by decide) k) ?_
    show W (Til2.setTop (mkF m 18 #[.val (.ref a0)] [(.int (1 : Int32))]))
    show W (Til2.setTop (mkF m 18 #[.val (.ref a0)] [(.int (1 : Int32))]))
    rw [← hW]
    exact own_retN Xil2 hx Bd.notSynchronized Bd.returns (w := (1 : Int32)) (by simp) (hb hby dil_18) rfl (by show Qil Z a0 wc sx cd h0 n0 _ Til2.heap _; rw [eil2]; exact ⟨(by rw [fil, if_pos hcil_3]), N0, rfl⟩) (by decide) (by decide)
  · refine stp (fun t k => XS.ifYes Xil2.here hx rfl (pc0 := 10) (pc' := 17) rfl (hb hby dil_10) rfl ((if0 _ _).trans (feq hcil_3).2) (by decide) (by decide) k) ?_
    show W (Til2.setTop (mkF m 17 #[.val (.ref a0)] []))
    refine stp (fun t k => XS.iconst Xil2.here hx rfl (hb hby dil_17) k) ?_
    show W (Til2.setTop (mkF m 18 #[.val (.ref a0)] [(.int (0 : Int32))]))
    show W (Til2.setTop (mkF m 18 #[.val (.ref a0)] [(.int (0 : Int32))]))
    rw [← hW]
    exact own_retN Xil2 hx Bd.notSynchronized Bd.returns (w := (0 : Int32)) (by simp) (hb hby dil_18) rfl (by show Qil Z a0 wc sx cd h0 n0 _ Til2.heap _; rw [eil2]; exact ⟨(by rw [fil, if_neg hcil_3]), N0, rfl⟩) (by decide) (by decide)
theorem dul_0 : decode jdk_52_method_6_code 0 = .ok (.aload_n 0, 1) := by decide +kernel
theorem dul_1 : decode jdk_52_method_6_code 1 = .ok (.arraylength, 1) := by decide +kernel
theorem dul_2 : decode jdk_52_method_6_code 2 = .ok (.iconst 1, 1) := by decide +kernel
theorem dul_3 : decode jdk_52_method_6_code 3 = .ok (.ishr, 1) := by decide +kernel
theorem dul_4 : decode jdk_52_method_6_code 4 = .ok (.ireturn, 1) := by decide +kernel
theorem pnul : plainName "java/lang/StringUTF16" = true := by first | (simp [plainName, overriddenIn]; done) | decide +kernel
theorem eful (m : MethodId) (a0 : Addr) : entryFrame m #[(.ref a0)] 1 = mkF m 0 #[.val (.ref a0)] [] := by first | (simp [entryFrame, mkF, argsToLocals, Value.category]; done) | rfl
def ful (z : Int32) : Int32 := (z >>> ((1 : Int32) &&& 31))
def Qul (Z : State) (a0 : Addr) (wc : Int32) (sx : Value) (kb : ClassId) (z : Int32) (vs : List Value) (h0 : Heap) (n0 : Nat) (v : Option Value) (h : Heap) (L : List Loc) : Prop := v = some (.int (ful z)) ∧ Fr n0 L ∧ h = h0
set_option maxRecDepth 65536 in
set_option maxHeartbeats 40000000 in
theorem rmul (l : Launch) (Z : State) (aa : Array Value) (hw : ∀ d ∈ tables_1, d.before aa Z = true) (ws : List Jvm.Cond) (a0 : Addr) (wc : Int32) (sx : Value) (kb : ClassId) (z : Int32) (vs : List Value) (h0 : Heap) (n0 : Nat) (Z0 : n0 ≤ h0.size) (BW : OwnW Z wc sx) (O0 : Old Z n0 h0) (V_a0 : Arv Z h0 a0 kb .byte z vs (.int (0 : Int32))) :
    MetFree l (⟨"java/lang/StringUTF16", "length", "([B)I"⟩ : MethodName) (head1 (Jvm.Cond.code (⟨"java/lang/StringUTF16", "length", "([B)I"⟩ : MethodName) jdk_52_method_6_code 1 (some .int) :: ws) ({ frames := 0, cells := 0, slots := 0, locals := 0 } : Room)) (fun a U => a = #[(.ref a0)] ∧ Z.Warmed39 U.vm ∧ U.heap = h0) (fun _ _ _ _ _ => True) (fun _ U o U' => ∃ v L, o = .returned v ∧ Qul Z a0 wc sx kb z vs h0 n0 v U'.heap L ∧ FrameEnd U o U' L ({ frames := 0, cells := 0, slots := 0, locals := 0 } : Room).cells ({ frames := 0, cells := 0, slots := 0, locals := 0 } : Room).slots) := by
  refine MetFree.of_bodySF (plainFor_of_name pnul) hisR ?_
  intro p e s m args below meth c s₁ Bd hml0 hP hK
  obtain ⟨rfl, hZ, hh⟩ := hP
  have hx := Bd.exec
  have hby := Bd.bytes
  have hml : c.maxLocals = 1 := hml0
  have hown : s.vm.findClass "java/lang/StringUTF16" = some m.cls := findClass_of_methodNamed Bd.named
  have hnm := (name_of_methodNamed Bd.named Bd.method).1
  have X0 : Stand p l e ({ frames := 0, cells := 0, slots := 0, locals := 0 } : Room) s m #[(.ref a0)] below meth c s₁ [] 0 0 := Stand.of_body Bd
  have e0 : s₁.heap = h0 := by rw [← hh, Bd.state]; rfl
  have N0 := Fr.nil n0
  show OwnEnd p e below s (fun v h L => Qul Z a0 wc sx kb z vs h0 n0 v h L) ({ frames := 0, cells := 0, slots := 0, locals := 0 } : Room).cells ({ frames := 0, cells := 0, slots := 0, locals := 0 } : Room).slots (s₁.setTop (entryFrame m #[(.ref a0)] 1))
  rw [eful m a0]
  generalize hW : OwnEnd p e below s (fun v h L => Qul Z a0 wc sx kb z vs h0 n0 v h L) ({ frames := 0, cells := 0, slots := 0, locals := 0 } : Room).cells ({ frames := 0, cells := 0, slots := 0, locals := 0 } : Room).slots = W
  have stp : ∀ {A B : State}, (∀ t, Steps p.tables e below B t → Steps p.tables e below A t) → W B → W A := by subst hW; exact own_step
  obtain ⟨S_cs, hcs, S_si, hr_sx, S_ad, S_hi, S_lo⟩ := id BW
  show W (s₁.setTop (mkF m 0 #[.val (.ref a0)] []))
  refine stp (fun t k => XS.aloadN X0.here hx rfl (hb hby dul_0) rfl rfl k) ?_
  show W (s₁.setTop (mkF m 1 #[.val (.ref a0)] [(.ref a0)]))
  obtain ⟨clul1, Arul1, qkul1, qsul1, qnul1, qhul1, qgul1⟩ := id V_a0
  refine stp (fun t k => X0.arraylength hx (by rw [e0]; exact Arul1.1) (State.isArrayOf_alike hZ.alike Arul1.2.1) (g := (mkF m 1 #[.val (.ref a0)] [(.ref a0)])) rfl rfl (hb hby dul_1) _ k) ?_
  rw [len_of qsul1 qnul1]
  show W (s₁.setTop (mkF m 2 #[.val (.ref a0)] [(.int z)]))
  refine stp (fun t k => XS.iconst X0.here hx rfl (hb hby dul_2) k) ?_
  show W (s₁.setTop (mkF m 3 #[.val (.ref a0)] [(.int (1 : Int32)), (.int z)]))
  refine stp (fun t k => XS.ishr X0.here hx rfl (hb hby dul_3) rfl k) ?_
  show W (s₁.setTop (mkF m 4 #[.val (.ref a0)] [(.int (z >>> ((1 : Int32) &&& 31)))]))
  show W (s₁.setTop (mkF m 4 #[.val (.ref a0)] [(.int (z >>> ((1 : Int32) &&& 31)))]))
  rw [← hW]
  exact own_retI X0 hx Bd.notSynchronized Bd.returns (hb hby dul_4) (by show Qul Z a0 wc sx kb z vs h0 n0 _ s₁.heap _; rw [e0]; exact ⟨rfl, N0, rfl⟩) (by decide) (by decide)
theorem duc_0 : decode jdk_52_method_91_code 0 = .ok (.iload_n 0, 1) := by decide +kernel
theorem duc_1 : decode jdk_52_method_91_code 1 = .ok (.aload_n 1, 1) := by decide +kernel
theorem duc_2 : decode jdk_52_method_91_code 2 = .ok (.invokestatic 48, 3) := by decide +kernel
theorem duc_5 : decode jdk_52_method_91_code 5 = .ok (.invokestatic 414, 3) := by decide +kernel
theorem duc_8 : decode jdk_52_method_91_code 8 = .ok (.return_, 1) := by decide +kernel
theorem pnuc : plainName "java/lang/StringUTF16" = true := by first | (simp [plainName, overriddenIn]; done) | decide +kernel
theorem pduc_0 : parseMethodDescriptor "([B)I" = some ⟨[(.array .byte)], some .int⟩ := by decide +kernel
theorem pduc_1 : parseMethodDescriptor "(II)V" = some ⟨[.int, .int], none⟩ := by decide +kernel
theorem efuc (m : MethodId) (p0 : Int32) (a1 : Addr) : entryFrame m #[(.int p0), (.ref a1)] 2 = mkF m 0 #[.val (.int p0), .val (.ref a1)] [] := by first | (simp [entryFrame, mkF, argsToLocals, Value.category]; done) | rfl
def Quc (Z : State) (p0 : Int32) (a1 : Addr) (wc : Int32) (sx : Value) (kb : ClassId) (z : Int32) (vs : List Value) (h0 : Heap) (n0 : Nat) (v : Option Value) (h : Heap) (L : List Loc) : Prop := v = none ∧ Fr n0 L ∧ h = h0
set_option maxRecDepth 65536 in
set_option maxHeartbeats 40000000 in
theorem rmuc (l : Launch) (Z : State) (aa : Array Value) (hw : ∀ d ∈ tables_1, d.before aa Z = true) (ws : List Jvm.Cond) (p0 : Int32) (a1 : Addr) (wc : Int32) (sx : Value) (kb : ClassId) (z : Int32) (vs : List Value) (h0 : Heap) (n0 : Nat) (Z0 : n0 ≤ h0.size) (BW : OwnW Z wc sx) (O0 : Old Z n0 h0) (V_a1 : Arv Z h0 a1 kb .byte z vs (.int (0 : Int32))) (hlo : ¬ p0 < (0 : Int32)) (hhi : p0 < (ful z)) :
    MetFree l (⟨"java/lang/StringUTF16", "checkIndex", "(I[B)V"⟩ : MethodName) (head1 (Jvm.Cond.code (⟨"java/lang/StringUTF16", "checkIndex", "(I[B)V"⟩ : MethodName) jdk_52_method_91_code 2 none :: ws) ({ frames := 2, cells := 0, slots := 0, locals := 27 } : Room)) (fun a U => a = #[(.int p0), (.ref a1)] ∧ Z.Warmed39 U.vm ∧ U.heap = h0) (fun _ _ _ _ _ => True) (fun _ U o U' => ∃ v L, o = .returned v ∧ Quc Z p0 a1 wc sx kb z vs h0 n0 v U'.heap L ∧ FrameEnd U o U' L ({ frames := 2, cells := 0, slots := 0, locals := 27 } : Room).cells ({ frames := 2, cells := 0, slots := 0, locals := 27 } : Room).slots) := by
  refine MetFree.of_bodySF (plainFor_of_name pnuc) hisR ?_
  intro p e s m args below meth c s₁ Bd hml0 hP hK
  obtain ⟨rfl, hZ, hh⟩ := hP
  have hx := Bd.exec
  have hby := Bd.bytes
  have hml : c.maxLocals = 2 := hml0
  have hown : s.vm.findClass "java/lang/StringUTF16" = some m.cls := findClass_of_methodNamed Bd.named
  have hnm := (name_of_methodNamed Bd.named Bd.method).1
  have X0 : Stand p l e ({ frames := 2, cells := 0, slots := 0, locals := 27 } : Room) s m #[(.int p0), (.ref a1)] below meth c s₁ [] 0 0 := Stand.of_body Bd
  have e0 : s₁.heap = h0 := by rw [← hh, Bd.state]; rfl
  have N0 := Fr.nil n0
  show OwnEnd p e below s (fun v h L => Quc Z p0 a1 wc sx kb z vs h0 n0 v h L) ({ frames := 2, cells := 0, slots := 0, locals := 27 } : Room).cells ({ frames := 2, cells := 0, slots := 0, locals := 27 } : Room).slots (s₁.setTop (entryFrame m #[(.int p0), (.ref a1)] 2))
  rw [efuc m p0 a1]
  generalize hW : OwnEnd p e below s (fun v h L => Quc Z p0 a1 wc sx kb z vs h0 n0 v h L) ({ frames := 2, cells := 0, slots := 0, locals := 27 } : Room).cells ({ frames := 2, cells := 0, slots := 0, locals := 27 } : Room).slots = W
  have stp : ∀ {A B : State}, (∀ t, Steps p.tables e below B t → Steps p.tables e below A t) → W B → W A := by subst hW; exact own_step
  obtain ⟨S_cs, hcs, S_si, hr_sx, S_ad, S_hi, S_lo⟩ := id BW
  show W (s₁.setTop (mkF m 0 #[.val (.int p0), .val (.ref a1)] []))
  refine stp (fun t k => XS.iloadN X0.here hx rfl (hb hby duc_0) rfl k) ?_
  show W (s₁.setTop (mkF m 1 #[.val (.int p0), .val (.ref a1)] [(.int p0)]))
  refine stp (fun t k => XS.aloadN X0.here hx rfl (hb hby duc_1) rfl rfl k) ?_
  show W (s₁.setTop (mkF m 2 #[.val (.int p0), .val (.ref a1)] [(.ref a1), (.int p0)]))
  obtain ⟨_, _, ⟨Tucc1, Lucc1, kucc1, nucc1⟩, -, Xucc1, ⟨Lcucc1, hQucc1, lucc1, yucc1, zucc1⟩, stucc1⟩ := Jvm.LawKit.callS X0 hx (y := (⟨"java/lang/StringUTF16", "length", "([B)I"⟩ : MethodName)) hown (mvT hZ (hw _ (List.mem_of_getElem? (i := 129) rfl))) (mvT hZ (hw _ (List.mem_of_getElem? (i := 130) rfl))) (mvT hZ (hw _ (List.mem_of_getElem? (i := 68) rfl))) (mvT hZ (hw _ (List.mem_of_getElem? (i := 131) rfl))) (by decide) (backOf (W := 1) (rmul l Z aa hw [] a1 wc sx kb z vs h0 n0 Z0 BW O0 V_a1) hZ (hw _ (List.mem_of_getElem? (i := 131) rfl)) (hw _ (List.mem_of_getElem? (i := 68) rfl)) (by decide) (by decide)) (g := (mkF m 2 #[.val (.int p0), .val (.ref a1)] [(.ref a1), (.int p0)])) rfl (by rw [hml]; rfl) (argsL := [(.ref a1)]) (rest := [(.int p0)]) (lenOf pduc_0 rfl) rfl (by show 2 * 0 + _ ≤ _; exact Nat.le_of_eq rfl) (hb hby duc_2) (fun _ _ => ⟨rfl, e0, (by decide : 0 + 0 ≤ _), (by decide : 0 + 0 ≤ _)⟩)
  dsimp only [Pt.U, Pt.locs, Pt.cells, Pt.slots] at Xucc1 lucc1 yucc1 zucc1 stucc1 hQucc1
  subst lucc1 yucc1 zucc1
  obtain ⟨rfl, Nucc1q, eucc1⟩ := hQucc1
  have Nucc1 := Fr.app N0 Nucc1q
  obtain ⟨lcuct2, Xucc1, Nucc1⟩ : ∃ lc, Stand p l e ({ frames := 2, cells := 0, slots := 0, locals := 27 } : Room) s m #[(.int p0), (.ref a1)] below meth c Tucc1 lc 0 0 ∧ Fr n0 lc := ⟨_, Xucc1, Nucc1⟩
  refine stp (fun t k => stucc1 t k) ?_
  show W (Tucc1.setTop (mkF m 5 #[.val (.int p0), .val (.ref a1)] [(.int (ful z)), (.int p0)]))
  obtain ⟨_, _, ⟨Tucc3, Lucc3, kucc3, nucc3⟩, -, Xucc3, ⟨Lcucc3, hQucc3, lucc3, yucc3, zucc3⟩, stucc3⟩ := Jvm.LawKit.callS Xucc1 hx (y := (⟨"java/lang/String", "checkIndex", "(II)V"⟩ : MethodName)) hown (mvT hZ (hw _ (List.mem_of_getElem? (i := 132) rfl))) (mvT hZ (hw _ (List.mem_of_getElem? (i := 90) rfl))) (mvT hZ (hw _ (List.mem_of_getElem? (i := 10) rfl))) (mvT hZ (hw _ (List.mem_of_getElem? (i := 91) rfl))) (by decide) (backOf (W := 0) (rmsc l Z aa hw [] p0 (ful z) wc sx h0 n0 Z0 BW O0 hlo hhi) hZ (hw _ (List.mem_of_getElem? (i := 91) rfl)) (hw _ (List.mem_of_getElem? (i := 10) rfl)) (by decide) (by decide)) (g := (mkF m 5 #[.val (.int p0), .val (.ref a1)] [(.int (ful z)), (.int p0)])) rfl (by rw [hml]; rfl) (argsL := [(.int p0), (.int (ful z))]) (rest := []) (lenOf pduc_1 rfl) rfl (by show 2 * 0 + _ ≤ _; exact Nat.le_of_eq rfl) (hb hby duc_5) (fun _ _ => ⟨rfl, eucc1, (by decide : 0 + 0 ≤ _), (by decide : 0 + 0 ≤ _)⟩)
  dsimp only [Pt.U, Pt.locs, Pt.cells, Pt.slots] at Xucc3 lucc3 yucc3 zucc3 stucc3 hQucc3
  subst lucc3 yucc3 zucc3
  obtain ⟨rfl, Nucc3q, eucc3⟩ := hQucc3
  have Nucc3 := Fr.app Nucc1 Nucc3q
  obtain ⟨lcuct4, Xucc3, Nucc3⟩ : ∃ lc, Stand p l e ({ frames := 2, cells := 0, slots := 0, locals := 27 } : Room) s m #[(.int p0), (.ref a1)] below meth c Tucc3 lc 0 0 ∧ Fr n0 lc := ⟨_, Xucc3, Nucc3⟩
  refine stp (fun t k => stucc3 t k) ?_
  show W (Tucc3.setTop (mkF m 8 #[.val (.int p0), .val (.ref a1)] []))
  show W (Tucc3.setTop (mkF m 8 #[.val (.int p0), .val (.ref a1)] []))
  rw [← hW]
  exact own_ret0 Xucc3 hx Bd.notSynchronized Bd.returns (hb hby duc_8) (by show Quc Z p0 a1 wc sx kb z vs h0 n0 _ Tucc3.heap _; rw [eucc3]; exact ⟨rfl, Nucc3, rfl⟩) (by decide) (by decide)
theorem dgc_0 : decode jdk_52_method_5_code 0 = .ok (.getstatic 44, 3) := by decide +kernel
theorem dgc_3 : decode jdk_52_method_5_code 3 = .ok (.ifCond .ne 25, 3) := by decide +kernel
theorem dgc_28 : decode jdk_52_method_5_code 28 = .ok (.iload_n 1, 1) := by decide +kernel
theorem dgc_29 : decode jdk_52_method_5_code 29 = .ok (.iconst 1, 1) := by decide +kernel
theorem dgc_30 : decode jdk_52_method_5_code 30 = .ok (.ishl, 1) := by decide +kernel
theorem dgc_31 : decode jdk_52_method_5_code 31 = .ok (.istore_n 1, 1) := by decide +kernel
theorem dgc_32 : decode jdk_52_method_5_code 32 = .ok (.aload_n 0, 1) := by decide +kernel
theorem dgc_33 : decode jdk_52_method_5_code 33 = .ok (.iload_n 1, 1) := by decide +kernel
theorem dgc_34 : decode jdk_52_method_5_code 34 = .ok (.iinc 1 1, 3) := by decide +kernel
theorem dgc_37 : decode jdk_52_method_5_code 37 = .ok (.baload, 1) := by decide +kernel
theorem dgc_38 : decode jdk_52_method_5_code 38 = .ok (.sipush 255, 3) := by decide +kernel
theorem dgc_41 : decode jdk_52_method_5_code 41 = .ok (.iand, 1) := by decide +kernel
theorem dgc_42 : decode jdk_52_method_5_code 42 = .ok (.getstatic 59, 3) := by decide +kernel
theorem dgc_45 : decode jdk_52_method_5_code 45 = .ok (.ishl, 1) := by decide +kernel
theorem dgc_46 : decode jdk_52_method_5_code 46 = .ok (.aload_n 0, 1) := by decide +kernel
theorem dgc_47 : decode jdk_52_method_5_code 47 = .ok (.iload_n 1, 1) := by decide +kernel
theorem dgc_48 : decode jdk_52_method_5_code 48 = .ok (.baload, 1) := by decide +kernel
theorem dgc_49 : decode jdk_52_method_5_code 49 = .ok (.sipush 255, 3) := by decide +kernel
theorem dgc_52 : decode jdk_52_method_5_code 52 = .ok (.iand, 1) := by decide +kernel
theorem dgc_53 : decode jdk_52_method_5_code 53 = .ok (.getstatic 63, 3) := by decide +kernel
theorem dgc_56 : decode jdk_52_method_5_code 56 = .ok (.ishl, 1) := by decide +kernel
theorem dgc_57 : decode jdk_52_method_5_code 57 = .ok (.ior, 1) := by decide +kernel
theorem dgc_58 : decode jdk_52_method_5_code 58 = .ok (.i2c, 1) := by decide +kernel
theorem dgc_59 : decode jdk_52_method_5_code 59 = .ok (.ireturn, 1) := by decide +kernel
theorem pngc : plainName "java/lang/StringUTF16" = true := by first | (simp [plainName, overriddenIn]; done) | decide +kernel
theorem efgc (m : MethodId) (a0 : Addr) (p1 : Int32) : entryFrame m #[(.ref a0), (.int p1)] 2 = mkF m 0 #[.val (.ref a0), .val (.int p1)] [] := by first | (simp [entryFrame, mkF, argsToLocals, Value.category]; done) | rfl
def fgc (x : Int32) (y : Int32) : Int32 := (nar .char ((((x &&& (255 : Int32)) <<< ((0 : Int32) &&& 31)) ||| ((y &&& (255 : Int32)) <<< ((8 : Int32) &&& 31))).toUInt32.toUInt16.toUInt32.toInt32))
def Qgc (Z : State) (a0 : Addr) (p1 : Int32) (wc : Int32) (sx : Value) (kb : ClassId) (z : Int32) (vs : List Value) (x : Int32) (y : Int32) (h0 : Heap) (n0 : Nat) (v : Option Value) (h : Heap) (L : List Loc) : Prop := v = some (.int (fgc x y)) ∧ Fr n0 L ∧ h = h0
set_option maxRecDepth 65536 in
set_option maxHeartbeats 40000000 in
theorem rmgc (l : Launch) (Z : State) (aa : Array Value) (hw : ∀ d ∈ tables_1, d.before aa Z = true) (ws : List Jvm.Cond) (a0 : Addr) (p1 : Int32) (wc : Int32) (sx : Value) (kb : ClassId) (z : Int32) (vs : List Value) (x : Int32) (y : Int32) (h0 : Heap) (n0 : Nat) (Z0 : n0 ≤ h0.size) (BW : OwnW Z wc sx) (O0 : Old Z n0 h0) (V_a0 : Arv Z h0 a0 kb .byte z vs (.int (0 : Int32))) (hi0 : ¬ (p1 <<< ((1 : Int32) &&& 31)) < 0 ∧ (p1 <<< ((1 : Int32) &&& 31)) < z) (hi1 : ¬ ((p1 <<< ((1 : Int32) &&& 31)) + (1 : Int32)) < 0 ∧ ((p1 <<< ((1 : Int32) &&& 31)) + (1 : Int32)) < z) (hg0 : vs.getD (p1 <<< ((1 : Int32) &&& 31)).toNatClampNeg (.int (0 : Int32)) = .int x) (hg1 : vs.getD ((p1 <<< ((1 : Int32) &&& 31)) + (1 : Int32)).toNatClampNeg (.int (0 : Int32)) = .int y) :
    MetFree l (⟨"java/lang/StringUTF16", "getChar", "([BI)C"⟩ : MethodName) (head1 (Jvm.Cond.code (⟨"java/lang/StringUTF16", "getChar", "([BI)C"⟩ : MethodName) jdk_52_method_5_code 2 (some .char) :: ws) ({ frames := 0, cells := 0, slots := 0, locals := 0 } : Room)) (fun a U => a = #[(.ref a0), (.int p1)] ∧ Z.Warmed39 U.vm ∧ U.heap = h0) (fun _ _ _ _ _ => True) (fun _ U o U' => ∃ v L, o = .returned v ∧ Qgc Z a0 p1 wc sx kb z vs x y h0 n0 v U'.heap L ∧ FrameEnd U o U' L ({ frames := 0, cells := 0, slots := 0, locals := 0 } : Room).cells ({ frames := 0, cells := 0, slots := 0, locals := 0 } : Room).slots) := by
  refine MetFree.of_bodySF (plainFor_of_name pngc) hisR ?_
  intro p e s m args below meth c s₁ Bd hml0 hP hK
  obtain ⟨rfl, hZ, hh⟩ := hP
  have hx := Bd.exec
  have hby := Bd.bytes
  have hml : c.maxLocals = 2 := hml0
  have hown : s.vm.findClass "java/lang/StringUTF16" = some m.cls := findClass_of_methodNamed Bd.named
  have hnm := (name_of_methodNamed Bd.named Bd.method).1
  have X0 : Stand p l e ({ frames := 0, cells := 0, slots := 0, locals := 0 } : Room) s m #[(.ref a0), (.int p1)] below meth c s₁ [] 0 0 := Stand.of_body Bd
  have e0 : s₁.heap = h0 := by rw [← hh, Bd.state]; rfl
  have N0 := Fr.nil n0
  show OwnEnd p e below s (fun v h L => Qgc Z a0 p1 wc sx kb z vs x y h0 n0 v h L) ({ frames := 0, cells := 0, slots := 0, locals := 0 } : Room).cells ({ frames := 0, cells := 0, slots := 0, locals := 0 } : Room).slots (s₁.setTop (entryFrame m #[(.ref a0), (.int p1)] 2))
  rw [efgc m a0 p1]
  generalize hW : OwnEnd p e below s (fun v h L => Qgc Z a0 p1 wc sx kb z vs x y h0 n0 v h L) ({ frames := 0, cells := 0, slots := 0, locals := 0 } : Room).cells ({ frames := 0, cells := 0, slots := 0, locals := 0 } : Room).slots = W
  have stp : ∀ {A B : State}, (∀ t, Steps p.tables e below B t → Steps p.tables e below A t) → W B → W A := by subst hW; exact own_step
  obtain ⟨S_cs, hcs, S_si, hr_sx, S_ad, S_hi, S_lo⟩ := id BW
  show W (s₁.setTop (mkF m 0 #[.val (.ref a0), .val (.int p1)] []))
  obtain ⟨Tgc1, Xgc1, egc1, stgc1⟩ := getS2 X0 hx hZ hown (host := "") (Or.inl (hw _ (List.mem_of_getElem? (i := 105) rfl))) Via.refl e0 (S_ad.ext O0.2) (g := (mkF m 0 #[.val (.ref a0), .val (.int p1)] [])) rfl (hb hby dgc_0)
  refine stp (fun t k => stgc1 t k) ?_
  show W (Tgc1.setTop (mkF m 3 #[.val (.ref a0), .val (.int p1)] [(.int (1 : Int32))]))
  refine stp (fun t k => XS.ifYes Xgc1.here hx rfl (pc0 := 3) (pc' := 28) rfl (hb hby dgc_3) rfl ((if0 _ _).trans (feq (by decide)).2) (by decide) (by decide) k) ?_
  show W (Tgc1.setTop (mkF m 28 #[.val (.ref a0), .val (.int p1)] []))
  refine stp (fun t k => XS.iloadN Xgc1.here hx rfl (hb hby dgc_28) rfl k) ?_
  show W (Tgc1.setTop (mkF m 29 #[.val (.ref a0), .val (.int p1)] [(.int p1)]))
  refine stp (fun t k => XS.iconst Xgc1.here hx rfl (hb hby dgc_29) k) ?_
  show W (Tgc1.setTop (mkF m 30 #[.val (.ref a0), .val (.int p1)] [(.int (1 : Int32)), (.int p1)]))
  refine stp (fun t k => XS.ishl Xgc1.here hx rfl (hb hby dgc_30) rfl k) ?_
  show W (Tgc1.setTop (mkF m 31 #[.val (.ref a0), .val (.int p1)] [(.int (p1 <<< ((1 : Int32) &&& 31)))]))
  refine stp (fun t k => XS.istoreN Xgc1.here hx rfl (hb hby dgc_31) rfl (l' := #[.val (.ref a0), .val (.int (p1 <<< ((1 : Int32) &&& 31)))]) rfl k) ?_
  show W (Tgc1.setTop (mkF m 32 #[.val (.ref a0), .val (.int (p1 <<< ((1 : Int32) &&& 31)))] []))
  refine stp (fun t k => XS.aloadN Xgc1.here hx rfl (hb hby dgc_32) rfl rfl k) ?_
  show W (Tgc1.setTop (mkF m 33 #[.val (.ref a0), .val (.int (p1 <<< ((1 : Int32) &&& 31)))] [(.ref a0)]))
  refine stp (fun t k => XS.iloadN Xgc1.here hx rfl (hb hby dgc_33) rfl k) ?_
  show W (Tgc1.setTop (mkF m 34 #[.val (.ref a0), .val (.int (p1 <<< ((1 : Int32) &&& 31)))] [(.int (p1 <<< ((1 : Int32) &&& 31))), (.ref a0)]))
  refine stp (fun t k => XS.iinc Xgc1.here hx rfl (hb hby dgc_34) rfl (l' := #[.val (.ref a0), .val (.int ((p1 <<< ((1 : Int32) &&& 31)) + (1 : Int32)))]) rfl k) ?_
  show W (Tgc1.setTop (mkF m 37 #[.val (.ref a0), .val (.int ((p1 <<< ((1 : Int32) &&& 31)) + (1 : Int32)))] [(.int (p1 <<< ((1 : Int32) &&& 31))), (.ref a0)]))
  obtain ⟨clgc2, Argc2, qkgc2, qsgc2, qngc2, qhgc2, qggc2⟩ := id V_a0
  have hingc2 : ¬ ((p1 <<< ((1 : Int32) &&& 31)) < 0 ∨ clgc2.slots.size ≤ ((p1 <<< ((1 : Int32) &&& 31))).toNatClampNeg) := inb_of qsgc2 hi0
  have hatgc2 : clgc2.slots[((p1 <<< ((1 : Int32) &&& 31))).toNatClampNeg]? = some (.int x) := qhgc2.at hingc2 hg0
  refine stp (fun t k => Xgc1.baloadBytes hx (j := (p1 <<< ((1 : Int32) &&& 31))) (v := (.int x)) (by rw [egc1]; exact Argc2.1) (State.isArrayOf_alike hZ.alike Argc2.2.1) Argc2.2.2 hingc2 hatgc2 (g := (mkF m 37 #[.val (.ref a0), .val (.int ((p1 <<< ((1 : Int32) &&& 31)) + (1 : Int32)))] [(.int (p1 <<< ((1 : Int32) &&& 31))), (.ref a0)])) rfl rfl (hb hby dgc_37) _ k) ?_
  show W (Tgc1.setTop (mkF m 38 #[.val (.ref a0), .val (.int ((p1 <<< ((1 : Int32) &&& 31)) + (1 : Int32)))] [(.int x)]))
  refine stp (fun t k => XS.sipush Xgc1.here hx rfl (hb hby dgc_38) k) ?_
  show W (Tgc1.setTop (mkF m 41 #[.val (.ref a0), .val (.int ((p1 <<< ((1 : Int32) &&& 31)) + (1 : Int32)))] [(.int (255 : Int32)), (.int x)]))
  refine stp (fun t k => XS.iand Xgc1.here hx rfl (hb hby dgc_41) rfl k) ?_
  show W (Tgc1.setTop (mkF m 42 #[.val (.ref a0), .val (.int ((p1 <<< ((1 : Int32) &&& 31)) + (1 : Int32)))] [(.int (x &&& (255 : Int32)))]))
  obtain ⟨Tgc3, Xgc3, egc3, stgc3⟩ := getS2 Xgc1 hx hZ hown (host := "") (Or.inl (hw _ (List.mem_of_getElem? (i := 106) rfl))) Via.refl egc1 (S_hi.ext O0.2) (g := (mkF m 42 #[.val (.ref a0), .val (.int ((p1 <<< ((1 : Int32) &&& 31)) + (1 : Int32)))] [(.int (x &&& (255 : Int32)))])) rfl (hb hby dgc_42)
  refine stp (fun t k => stgc3 t k) ?_
  show W (Tgc3.setTop (mkF m 45 #[.val (.ref a0), .val (.int ((p1 <<< ((1 : Int32) &&& 31)) + (1 : Int32)))] [(.int (0 : Int32)), (.int (x &&& (255 : Int32)))]))
  refine stp (fun t k => XS.ishl Xgc3.here hx rfl (hb hby dgc_45) rfl k) ?_
  show W (Tgc3.setTop (mkF m 46 #[.val (.ref a0), .val (.int ((p1 <<< ((1 : Int32) &&& 31)) + (1 : Int32)))] [(.int ((x &&& (255 : Int32)) <<< ((0 : Int32) &&& 31)))]))
  refine stp (fun t k => XS.aloadN Xgc3.here hx rfl (hb hby dgc_46) rfl rfl k) ?_
  show W (Tgc3.setTop (mkF m 47 #[.val (.ref a0), .val (.int ((p1 <<< ((1 : Int32) &&& 31)) + (1 : Int32)))] [(.ref a0), (.int ((x &&& (255 : Int32)) <<< ((0 : Int32) &&& 31)))]))
  refine stp (fun t k => XS.iloadN Xgc3.here hx rfl (hb hby dgc_47) rfl k) ?_
  show W (Tgc3.setTop (mkF m 48 #[.val (.ref a0), .val (.int ((p1 <<< ((1 : Int32) &&& 31)) + (1 : Int32)))] [(.int ((p1 <<< ((1 : Int32) &&& 31)) + (1 : Int32))), (.ref a0), (.int ((x &&& (255 : Int32)) <<< ((0 : Int32) &&& 31)))]))
  obtain ⟨clgc4, Argc4, qkgc4, qsgc4, qngc4, qhgc4, qggc4⟩ := id V_a0
  have hingc4 : ¬ (((p1 <<< ((1 : Int32) &&& 31)) + (1 : Int32)) < 0 ∨ clgc4.slots.size ≤ (((p1 <<< ((1 : Int32) &&& 31)) + (1 : Int32))).toNatClampNeg) := inb_of qsgc4 hi1
  have hatgc4 : clgc4.slots[(((p1 <<< ((1 : Int32) &&& 31)) + (1 : Int32))).toNatClampNeg]? = some (.int y) := qhgc4.at hingc4 hg1
  refine stp (fun t k => Xgc3.baloadBytes hx (j := ((p1 <<< ((1 : Int32) &&& 31)) + (1 : Int32))) (v := (.int y)) (by rw [egc3]; exact Argc4.1) (State.isArrayOf_alike hZ.alike Argc4.2.1) Argc4.2.2 hingc4 hatgc4 (g := (mkF m 48 #[.val (.ref a0), .val (.int ((p1 <<< ((1 : Int32) &&& 31)) + (1 : Int32)))] [(.int ((p1 <<< ((1 : Int32) &&& 31)) + (1 : Int32))), (.ref a0), (.int ((x &&& (255 : Int32)) <<< ((0 : Int32) &&& 31)))])) rfl rfl (hb hby dgc_48) _ k) ?_
  show W (Tgc3.setTop (mkF m 49 #[.val (.ref a0), .val (.int ((p1 <<< ((1 : Int32) &&& 31)) + (1 : Int32)))] [(.int y), (.int ((x &&& (255 : Int32)) <<< ((0 : Int32) &&& 31)))]))
  refine stp (fun t k => XS.sipush Xgc3.here hx rfl (hb hby dgc_49) k) ?_
  show W (Tgc3.setTop (mkF m 52 #[.val (.ref a0), .val (.int ((p1 <<< ((1 : Int32) &&& 31)) + (1 : Int32)))] [(.int (255 : Int32)), (.int y), (.int ((x &&& (255 : Int32)) <<< ((0 : Int32) &&& 31)))]))
  refine stp (fun t k => XS.iand Xgc3.here hx rfl (hb hby dgc_52) rfl k) ?_
  show W (Tgc3.setTop (mkF m 53 #[.val (.ref a0), .val (.int ((p1 <<< ((1 : Int32) &&& 31)) + (1 : Int32)))] [(.int (y &&& (255 : Int32))), (.int ((x &&& (255 : Int32)) <<< ((0 : Int32) &&& 31)))]))
  obtain ⟨Tgc5, Xgc5, egc5, stgc5⟩ := getS2 Xgc3 hx hZ hown (host := "") (Or.inl (hw _ (List.mem_of_getElem? (i := 107) rfl))) Via.refl egc3 (S_lo.ext O0.2) (g := (mkF m 53 #[.val (.ref a0), .val (.int ((p1 <<< ((1 : Int32) &&& 31)) + (1 : Int32)))] [(.int (y &&& (255 : Int32))), (.int ((x &&& (255 : Int32)) <<< ((0 : Int32) &&& 31)))])) rfl (hb hby dgc_53)
  refine stp (fun t k => stgc5 t k) ?_
  show W (Tgc5.setTop (mkF m 56 #[.val (.ref a0), .val (.int ((p1 <<< ((1 : Int32) &&& 31)) + (1 : Int32)))] [(.int (8 : Int32)), (.int (y &&& (255 : Int32))), (.int ((x &&& (255 : Int32)) <<< ((0 : Int32) &&& 31)))]))
  refine stp (fun t k => XS.ishl Xgc5.here hx rfl (hb hby dgc_56) rfl k) ?_
  show W (Tgc5.setTop (mkF m 57 #[.val (.ref a0), .val (.int ((p1 <<< ((1 : Int32) &&& 31)) + (1 : Int32)))] [(.int ((y &&& (255 : Int32)) <<< ((8 : Int32) &&& 31))), (.int ((x &&& (255 : Int32)) <<< ((0 : Int32) &&& 31)))]))
  refine stp (fun t k => XS.ior Xgc5.here hx rfl (hb hby dgc_57) rfl k) ?_
  show W (Tgc5.setTop (mkF m 58 #[.val (.ref a0), .val (.int ((p1 <<< ((1 : Int32) &&& 31)) + (1 : Int32)))] [(.int (((x &&& (255 : Int32)) <<< ((0 : Int32) &&& 31)) ||| ((y &&& (255 : Int32)) <<< ((8 : Int32) &&& 31))))]))
  refine stp (fun t k => XS.i2c Xgc5.here hx rfl (hb hby dgc_58) rfl k) ?_
  show W (Tgc5.setTop (mkF m 59 #[.val (.ref a0), .val (.int ((p1 <<< ((1 : Int32) &&& 31)) + (1 : Int32)))] [(.int ((((x &&& (255 : Int32)) <<< ((0 : Int32) &&& 31)) ||| ((y &&& (255 : Int32)) <<< ((8 : Int32) &&& 31))).toUInt32.toUInt16.toUInt32.toInt32))]))
  show W (Tgc5.setTop (mkF m 59 #[.val (.ref a0), .val (.int ((p1 <<< ((1 : Int32) &&& 31)) + (1 : Int32)))] [(.int ((((x &&& (255 : Int32)) <<< ((0 : Int32) &&& 31)) ||| ((y &&& (255 : Int32)) <<< ((8 : Int32) &&& 31))).toUInt32.toUInt16.toUInt32.toInt32))]))
  rw [← hW]
  exact own_retN Xgc5 hx Bd.notSynchronized Bd.returns (w := (nar .char ((((x &&& (255 : Int32)) <<< ((0 : Int32) &&& 31)) ||| ((y &&& (255 : Int32)) <<< ((8 : Int32) &&& 31))).toUInt32.toUInt16.toUInt32.toInt32))) (by simp) (hb hby dgc_59) rfl (by show Qgc Z a0 p1 wc sx kb z vs x y h0 n0 _ Tgc5.heap _; rw [egc5]; exact ⟨rfl, N0, rfl⟩) (by decide) (by decide)
theorem dua_0 : decode jdk_52_method_83_code 0 = .ok (.iload_n 1, 1) := by decide +kernel
theorem dua_1 : decode jdk_52_method_83_code 1 = .ok (.aload_n 0, 1) := by decide +kernel
theorem dua_2 : decode jdk_52_method_83_code 2 = .ok (.invokestatic 67, 3) := by decide +kernel
theorem dua_5 : decode jdk_52_method_83_code 5 = .ok (.aload_n 0, 1) := by decide +kernel
theorem dua_6 : decode jdk_52_method_83_code 6 = .ok (.iload_n 1, 1) := by decide +kernel
theorem dua_7 : decode jdk_52_method_83_code 7 = .ok (.invokestatic 71, 3) := by decide +kernel
theorem dua_10 : decode jdk_52_method_83_code 10 = .ok (.ireturn, 1) := by decide +kernel
theorem pnua : plainName "java/lang/StringUTF16" = true := by first | (simp [plainName, overriddenIn]; done) | decide +kernel
theorem pdua_0 : parseMethodDescriptor "(I[B)V" = some ⟨[.int, (.array .byte)], none⟩ := by decide +kernel
theorem pdua_1 : parseMethodDescriptor "([BI)C" = some ⟨[(.array .byte), .int], some .char⟩ := by decide +kernel
theorem efua (m : MethodId) (a0 : Addr) (p1 : Int32) : entryFrame m #[(.ref a0), (.int p1)] 2 = mkF m 0 #[.val (.ref a0), .val (.int p1)] [] := by first | (simp [entryFrame, mkF, argsToLocals, Value.category]; done) | rfl
def fua (x : Int32) (y : Int32) : Int32 := (nar .char (fgc x y))
def Qua (Z : State) (a0 : Addr) (p1 : Int32) (wc : Int32) (sx : Value) (kb : ClassId) (z : Int32) (vs : List Value) (x : Int32) (y : Int32) (h0 : Heap) (n0 : Nat) (v : Option Value) (h : Heap) (L : List Loc) : Prop := v = some (.int (fua x y)) ∧ Fr n0 L ∧ h = h0
set_option maxRecDepth 65536 in
set_option maxHeartbeats 40000000 in
theorem rmua (l : Launch) (Z : State) (aa : Array Value) (hw : ∀ d ∈ tables_1, d.before aa Z = true) (ws : List Jvm.Cond) (a0 : Addr) (p1 : Int32) (wc : Int32) (sx : Value) (kb : ClassId) (z : Int32) (vs : List Value) (x : Int32) (y : Int32) (h0 : Heap) (n0 : Nat) (Z0 : n0 ≤ h0.size) (BW : OwnW Z wc sx) (O0 : Old Z n0 h0) (V_a0 : Arv Z h0 a0 kb .byte z vs (.int (0 : Int32))) (hlo : ¬ p1 < (0 : Int32)) (hhi : p1 < (ful z)) (hi0 : ¬ (p1 <<< ((1 : Int32) &&& 31)) < 0 ∧ (p1 <<< ((1 : Int32) &&& 31)) < z) (hi1 : ¬ ((p1 <<< ((1 : Int32) &&& 31)) + (1 : Int32)) < 0 ∧ ((p1 <<< ((1 : Int32) &&& 31)) + (1 : Int32)) < z) (hg0 : vs.getD (p1 <<< ((1 : Int32) &&& 31)).toNatClampNeg (.int (0 : Int32)) = .int x) (hg1 : vs.getD ((p1 <<< ((1 : Int32) &&& 31)) + (1 : Int32)).toNatClampNeg (.int (0 : Int32)) = .int y) :
    MetFree l (⟨"java/lang/StringUTF16", "charAt", "([BI)C"⟩ : MethodName) (head1 (Jvm.Cond.code (⟨"java/lang/StringUTF16", "charAt", "([BI)C"⟩ : MethodName) jdk_52_method_83_code 2 (some .char) :: ws) ({ frames := 3, cells := 0, slots := 0, locals := 40 } : Room)) (fun a U => a = #[(.ref a0), (.int p1)] ∧ Z.Warmed39 U.vm ∧ U.heap = h0) (fun _ _ _ _ _ => True) (fun _ U o U' => ∃ v L, o = .returned v ∧ Qua Z a0 p1 wc sx kb z vs x y h0 n0 v U'.heap L ∧ FrameEnd U o U' L ({ frames := 3, cells := 0, slots := 0, locals := 40 } : Room).cells ({ frames := 3, cells := 0, slots := 0, locals := 40 } : Room).slots) := by
  refine MetFree.of_bodySF (plainFor_of_name pnua) hisR ?_
  intro p e s m args below meth c s₁ Bd hml0 hP hK
  obtain ⟨rfl, hZ, hh⟩ := hP
  have hx := Bd.exec
  have hby := Bd.bytes
  have hml : c.maxLocals = 2 := hml0
  have hown : s.vm.findClass "java/lang/StringUTF16" = some m.cls := findClass_of_methodNamed Bd.named
  have hnm := (name_of_methodNamed Bd.named Bd.method).1
  have X0 : Stand p l e ({ frames := 3, cells := 0, slots := 0, locals := 40 } : Room) s m #[(.ref a0), (.int p1)] below meth c s₁ [] 0 0 := Stand.of_body Bd
  have e0 : s₁.heap = h0 := by rw [← hh, Bd.state]; rfl
  have N0 := Fr.nil n0
  show OwnEnd p e below s (fun v h L => Qua Z a0 p1 wc sx kb z vs x y h0 n0 v h L) ({ frames := 3, cells := 0, slots := 0, locals := 40 } : Room).cells ({ frames := 3, cells := 0, slots := 0, locals := 40 } : Room).slots (s₁.setTop (entryFrame m #[(.ref a0), (.int p1)] 2))
  rw [efua m a0 p1]
  generalize hW : OwnEnd p e below s (fun v h L => Qua Z a0 p1 wc sx kb z vs x y h0 n0 v h L) ({ frames := 3, cells := 0, slots := 0, locals := 40 } : Room).cells ({ frames := 3, cells := 0, slots := 0, locals := 40 } : Room).slots = W
  have stp : ∀ {A B : State}, (∀ t, Steps p.tables e below B t → Steps p.tables e below A t) → W B → W A := by subst hW; exact own_step
  obtain ⟨S_cs, hcs, S_si, hr_sx, S_ad, S_hi, S_lo⟩ := id BW
  show W (s₁.setTop (mkF m 0 #[.val (.ref a0), .val (.int p1)] []))
  refine stp (fun t k => XS.iloadN X0.here hx rfl (hb hby dua_0) rfl k) ?_
  show W (s₁.setTop (mkF m 1 #[.val (.ref a0), .val (.int p1)] [(.int p1)]))
  refine stp (fun t k => XS.aloadN X0.here hx rfl (hb hby dua_1) rfl rfl k) ?_
  show W (s₁.setTop (mkF m 2 #[.val (.ref a0), .val (.int p1)] [(.ref a0), (.int p1)]))
  obtain ⟨_, _, ⟨Tuac1, Luac1, kuac1, nuac1⟩, -, Xuac1, ⟨Lcuac1, hQuac1, luac1, yuac1, zuac1⟩, stuac1⟩ := Jvm.LawKit.callS X0 hx (y := (⟨"java/lang/StringUTF16", "checkIndex", "(I[B)V"⟩ : MethodName)) hown (mvT hZ (hw _ (List.mem_of_getElem? (i := 126) rfl))) (mvT hZ (hw _ (List.mem_of_getElem? (i := 127) rfl))) (mvT hZ (hw _ (List.mem_of_getElem? (i := 68) rfl))) (mvT hZ (hw _ (List.mem_of_getElem? (i := 128) rfl))) (by decide) (backOf (W := 0) (rmuc l Z aa hw [] p1 a0 wc sx kb z vs h0 n0 Z0 BW O0 V_a0 hlo hhi) hZ (hw _ (List.mem_of_getElem? (i := 128) rfl)) (hw _ (List.mem_of_getElem? (i := 68) rfl)) (by decide) (by decide)) (g := (mkF m 2 #[.val (.ref a0), .val (.int p1)] [(.ref a0), (.int p1)])) rfl (by rw [hml]; rfl) (argsL := [(.int p1), (.ref a0)]) (rest := []) (lenOf pdua_0 rfl) rfl (by show 2 * 0 + _ ≤ _; exact Nat.le_of_eq rfl) (hb hby dua_2) (fun _ _ => ⟨rfl, e0, (by decide : 0 + 0 ≤ _), (by decide : 0 + 0 ≤ _)⟩)
  dsimp only [Pt.U, Pt.locs, Pt.cells, Pt.slots] at Xuac1 luac1 yuac1 zuac1 stuac1 hQuac1
  subst luac1 yuac1 zuac1
  obtain ⟨rfl, Nuac1q, euac1⟩ := hQuac1
  have Nuac1 := Fr.app N0 Nuac1q
  obtain ⟨lcuat2, Xuac1, Nuac1⟩ : ∃ lc, Stand p l e ({ frames := 3, cells := 0, slots := 0, locals := 40 } : Room) s m #[(.ref a0), (.int p1)] below meth c Tuac1 lc 0 0 ∧ Fr n0 lc := ⟨_, Xuac1, Nuac1⟩
  refine stp (fun t k => stuac1 t k) ?_
  show W (Tuac1.setTop (mkF m 5 #[.val (.ref a0), .val (.int p1)] []))
  refine stp (fun t k => XS.aloadN Xuac1.here hx rfl (hb hby dua_5) rfl rfl k) ?_
  show W (Tuac1.setTop (mkF m 6 #[.val (.ref a0), .val (.int p1)] [(.ref a0)]))
  refine stp (fun t k => XS.iloadN Xuac1.here hx rfl (hb hby dua_6) rfl k) ?_
  show W (Tuac1.setTop (mkF m 7 #[.val (.ref a0), .val (.int p1)] [(.int p1), (.ref a0)]))
  obtain ⟨_, _, ⟨Tuac3, Luac3, kuac3, nuac3⟩, -, Xuac3, ⟨Lcuac3, hQuac3, luac3, yuac3, zuac3⟩, stuac3⟩ := Jvm.LawKit.callS Xuac1 hx (y := (⟨"java/lang/StringUTF16", "getChar", "([BI)C"⟩ : MethodName)) hown (mvT hZ (hw _ (List.mem_of_getElem? (i := 118) rfl))) (mvT hZ (hw _ (List.mem_of_getElem? (i := 119) rfl))) (mvT hZ (hw _ (List.mem_of_getElem? (i := 68) rfl))) (mvT hZ (hw _ (List.mem_of_getElem? (i := 120) rfl))) (by decide) (backOf (W := 0) (rmgc l Z aa hw [] a0 p1 wc sx kb z vs x y h0 n0 Z0 BW O0 V_a0 hi0 hi1 hg0 hg1) hZ (hw _ (List.mem_of_getElem? (i := 120) rfl)) (hw _ (List.mem_of_getElem? (i := 68) rfl)) (by decide) (by decide)) (g := (mkF m 7 #[.val (.ref a0), .val (.int p1)] [(.int p1), (.ref a0)])) rfl (by rw [hml]; rfl) (argsL := [(.ref a0), (.int p1)]) (rest := []) (lenOf pdua_1 rfl) rfl (by show 2 * 0 + _ ≤ _; exact Nat.le_of_eq rfl) (hb hby dua_7) (fun _ _ => ⟨rfl, euac1, (by decide : 0 + 0 ≤ _), (by decide : 0 + 0 ≤ _)⟩)
  dsimp only [Pt.U, Pt.locs, Pt.cells, Pt.slots] at Xuac3 luac3 yuac3 zuac3 stuac3 hQuac3
  subst luac3 yuac3 zuac3
  obtain ⟨rfl, Nuac3q, euac3⟩ := hQuac3
  have Nuac3 := Fr.app Nuac1 Nuac3q
  obtain ⟨lcuat4, Xuac3, Nuac3⟩ : ∃ lc, Stand p l e ({ frames := 3, cells := 0, slots := 0, locals := 40 } : Room) s m #[(.ref a0), (.int p1)] below meth c Tuac3 lc 0 0 ∧ Fr n0 lc := ⟨_, Xuac3, Nuac3⟩
  refine stp (fun t k => stuac3 t k) ?_
  show W (Tuac3.setTop (mkF m 10 #[.val (.ref a0), .val (.int p1)] [(.int (fgc x y))]))
  show W (Tuac3.setTop (mkF m 10 #[.val (.ref a0), .val (.int p1)] [(.int (fgc x y))]))
  rw [← hW]
  exact own_retN Xuac3 hx Bd.notSynchronized Bd.returns (w := (nar .char (fgc x y))) (by simp) (hb hby dua_10) rfl (by show Qua Z a0 p1 wc sx kb z vs x y h0 n0 _ Tuac3.heap _; rw [euac3]; exact ⟨rfl, Nuac3, rfl⟩) (by decide) (by decide)
theorem dcL_0 : decode jdk_42_method_56_code 0 = .ok (.aload_n 0, 1) := by decide +kernel
theorem dcL_1 : decode jdk_42_method_56_code 1 = .ok (.invokevirtual 492, 3) := by decide +kernel
theorem dcL_4 : decode jdk_42_method_56_code 4 = .ok (.ifCond .eq 12, 3) := by decide +kernel
theorem dcL_7 : decode jdk_42_method_56_code 7 = .ok (.aload_n 0, 1) := by decide +kernel
theorem dcL_8 : decode jdk_42_method_56_code 8 = .ok (.getfield 9, 3) := by decide +kernel
theorem dcL_11 : decode jdk_42_method_56_code 11 = .ok (.iload_n 1, 1) := by decide +kernel
theorem dcL_12 : decode jdk_42_method_56_code 12 = .ok (.invokestatic 495, 3) := by decide +kernel
theorem dcL_15 : decode jdk_42_method_56_code 15 = .ok (.ireturn, 1) := by decide +kernel
theorem pncL : plainName "java/lang/String" = true := by first | (simp [plainName, overriddenIn]; done) | decide +kernel
theorem pdcL_0 : parseMethodDescriptor "()Z" = some ⟨[], some .boolean⟩ := by decide +kernel
theorem pdcL_1 : parseMethodDescriptor "([BI)C" = some ⟨[(.array .byte), .int], some .char⟩ := by decide +kernel
theorem efcL (m : MethodId) (a0 : Addr) (p1 : Int32) : entryFrame m #[(.ref a0), (.int p1)] 2 = mkF m 0 #[.val (.ref a0), .val (.int p1)] [] := by first | (simp [entryFrame, mkF, argsToLocals, Value.category]; done) | rfl
def fcL (x : Int32) : Int32 := (nar .char (flc x))
def QcL (Z : State) (a0 : Addr) (p1 : Int32) (wc : Int32) (sx : Value) (b : Addr) (kb : ClassId) (z : Int32) (vs : List Value) (x : Int32) (h0 : Heap) (n0 : Nat) (v : Option Value) (h : Heap) (L : List Loc) : Prop := v = some (.int (fcL x)) ∧ Fr n0 L ∧ h = h0
set_option maxRecDepth 65536 in
set_option maxHeartbeats 40000000 in
theorem rmcL (l : Launch) (Z : State) (aa : Array Value) (hw : ∀ d ∈ tables_1, d.before aa Z = true) (ws : List Jvm.Cond) (a0 : Addr) (p1 : Int32) (wc : Int32) (sx : Value) (b : Addr) (kb : ClassId) (z : Int32) (vs : List Value) (x : Int32) (h0 : Heap) (n0 : Nat) (Z0 : n0 ≤ h0.size) (BW : OwnW Z wc sx) (O0 : Old Z n0 h0) (E_a0 : Exa Z h0 a0 "java/lang/String") (F_value_a0 : Fld Z h0 a0 "java/lang/String" "value" "[B" (.ref b)) (F_coder_a0 : Fld Z h0 a0 "java/lang/String" "coder" "B" (.int (0 : Int32))) (V_b : Arv Z h0 b kb .byte z vs (.int (0 : Int32))) (hlo : ¬ p1 < (0 : Int32)) (hhi : p1 < z) (hgx : vs.getD p1.toNatClampNeg (.int (0 : Int32)) = .int x) :
    MetFree l (⟨"java/lang/String", "charAt", "(I)C"⟩ : MethodName) (head1 (Jvm.Cond.code (⟨"java/lang/String", "charAt", "(I)C"⟩ : MethodName) jdk_42_method_56_code 2 (some .char) :: ws) ({ frames := 4, cells := 0, slots := 0, locals := 53 } : Room)) (fun a U => a = #[(.ref a0), (.int p1)] ∧ Z.Warmed39 U.vm ∧ U.heap = h0) (fun _ _ _ _ _ => True) (fun _ U o U' => ∃ v L, o = .returned v ∧ QcL Z a0 p1 wc sx b kb z vs x h0 n0 v U'.heap L ∧ FrameEnd U o U' L ({ frames := 4, cells := 0, slots := 0, locals := 53 } : Room).cells ({ frames := 4, cells := 0, slots := 0, locals := 53 } : Room).slots) := by
  refine MetFree.of_bodySF (plainFor_of_name pncL) hisR ?_
  intro p e s m args below meth c s₁ Bd hml0 hP hK
  obtain ⟨rfl, hZ, hh⟩ := hP
  have hx := Bd.exec
  have hby := Bd.bytes
  have hml : c.maxLocals = 2 := hml0
  have hown : s.vm.findClass "java/lang/String" = some m.cls := findClass_of_methodNamed Bd.named
  have hnm := (name_of_methodNamed Bd.named Bd.method).1
  have X0 : Stand p l e ({ frames := 4, cells := 0, slots := 0, locals := 53 } : Room) s m #[(.ref a0), (.int p1)] below meth c s₁ [] 0 0 := Stand.of_body Bd
  have e0 : s₁.heap = h0 := by rw [← hh, Bd.state]; rfl
  have N0 := Fr.nil n0
  show OwnEnd p e below s (fun v h L => QcL Z a0 p1 wc sx b kb z vs x h0 n0 v h L) ({ frames := 4, cells := 0, slots := 0, locals := 53 } : Room).cells ({ frames := 4, cells := 0, slots := 0, locals := 53 } : Room).slots (s₁.setTop (entryFrame m #[(.ref a0), (.int p1)] 2))
  rw [efcL m a0 p1]
  generalize hW : OwnEnd p e below s (fun v h L => QcL Z a0 p1 wc sx b kb z vs x h0 n0 v h L) ({ frames := 4, cells := 0, slots := 0, locals := 53 } : Room).cells ({ frames := 4, cells := 0, slots := 0, locals := 53 } : Room).slots = W
  have stp : ∀ {A B : State}, (∀ t, Steps p.tables e below B t → Steps p.tables e below A t) → W B → W A := by subst hW; exact own_step
  obtain ⟨S_cs, hcs, S_si, hr_sx, S_ad, S_hi, S_lo⟩ := id BW
  show W (s₁.setTop (mkF m 0 #[.val (.ref a0), .val (.int p1)] []))
  refine stp (fun t k => XS.aloadN X0.here hx rfl (hb hby dcL_0) rfl rfl k) ?_
  show W (s₁.setTop (mkF m 1 #[.val (.ref a0), .val (.int p1)] [(.ref a0)]))
  obtain ⟨cqcLc1, kqcLc1, qcLc1a, qcLc1b, qcLc1c⟩ := isOf hZ e0 E_a0
  obtain ⟨_, _, ⟨TcLc1, LcLc1, kcLc1, ncLc1⟩, -, XcLc1, ⟨LccLc1, hQcLc1, lcLc1, ycLc1, zcLc1⟩, stcLc1⟩ := X0.virtualBack hx (y := (⟨"java/lang/String", "isLatin1", "()Z"⟩ : MethodName)) (z := (⟨"java/lang/String", "isLatin1", "()Z"⟩ : MethodName)) hown (mvT hZ (hw _ (List.mem_of_getElem? (i := 81) rfl))) (mvT hZ (hw _ (List.mem_of_getElem? (i := 82) rfl))) (notFace_of_selects (args := #[]) (mvT hZ (hw _ (List.mem_of_getElem? (i := 84) rfl)))) (mvT hZ (hw _ (List.mem_of_getElem? (i := 84) rfl))) (mvT hZ (hw _ (List.mem_of_getElem? (i := 83) rfl))) (by decide) (backOf (W := 0) (rmil l Z aa hw [] a0 wc sx (0 : Int32) h0 n0 Z0 BW O0 F_coder_a0) hZ (hw _ (List.mem_of_getElem? (i := 85) rfl)) (hw _ (List.mem_of_getElem? (i := 10) rfl)) (by decide) (by decide)) qcLc1a qcLc1c (g := (mkF m 1 #[.val (.ref a0), .val (.int p1)] [(.ref a0)])) rfl (by rw [hml]; rfl) (Steps.refl _) (argsL := []) (rest := []) (lenOf pdcL_0 rfl) rfl (by show 2 * 0 + _ ≤ _; exact Nat.le_of_eq rfl) (hb hby dcL_1) (fun _ _ => ⟨rfl, e0, (by decide : 0 + 0 ≤ _), (by decide : 0 + 0 ≤ _)⟩)
  dsimp only [Pt.U, Pt.locs, Pt.cells, Pt.slots] at XcLc1 lcLc1 ycLc1 zcLc1 stcLc1 hQcLc1
  subst lcLc1 ycLc1 zcLc1
  obtain ⟨rfl, NcLc1q, ecLc1⟩ := hQcLc1
  have NcLc1 := Fr.app N0 NcLc1q
  obtain ⟨lccLt2, XcLc1, NcLc1⟩ : ∃ lc, Stand p l e ({ frames := 4, cells := 0, slots := 0, locals := 53 } : Room) s m #[(.ref a0), (.int p1)] below meth c TcLc1 lc 0 0 ∧ Fr n0 lc := ⟨_, XcLc1, NcLc1⟩
  refine stp (fun t k => stcLc1.trans k) ?_
  show W (TcLc1.setTop (mkF m 4 #[.val (.ref a0), .val (.int p1)] [(.int (fil (0 : Int32)))]))
  refine stp (fun t k => XS.ifNo XcLc1.here hx rfl (hb hby dcL_4) rfl ((if0 _ _).trans (feq (by decide)).1) k) ?_
  show W (TcLc1.setTop (mkF m 7 #[.val (.ref a0), .val (.int p1)] []))
  refine stp (fun t k => XS.aloadN XcLc1.here hx rfl (hb hby dcL_7) rfl rfl k) ?_
  show W (TcLc1.setTop (mkF m 8 #[.val (.ref a0), .val (.int p1)] [(.ref a0)]))
  obtain ⟨TcL3, XcL3, ecL3, stcL3⟩ := getF XcLc1 hx hZ hown (host := "") (Or.inl (hw _ (List.mem_of_getElem? (i := 30) rfl))) Via.refl ecLc1 F_value_a0 (g := (mkF m 8 #[.val (.ref a0), .val (.int p1)] [(.ref a0)])) rfl rfl (hb hby dcL_8)
  refine stp (fun t k => stcL3 t k) ?_
  show W (TcL3.setTop (mkF m 11 #[.val (.ref a0), .val (.int p1)] [(.ref b)]))
  refine stp (fun t k => XS.iloadN XcL3.here hx rfl (hb hby dcL_11) rfl k) ?_
  show W (TcL3.setTop (mkF m 12 #[.val (.ref a0), .val (.int p1)] [(.int p1), (.ref b)]))
  obtain ⟨_, _, ⟨TcLc4, LcLc4, kcLc4, ncLc4⟩, -, XcLc4, ⟨LccLc4, hQcLc4, lcLc4, ycLc4, zcLc4⟩, stcLc4⟩ := Jvm.LawKit.callS XcL3 hx (y := (⟨"java/lang/StringLatin1", "charAt", "([BI)C"⟩ : MethodName)) hown (mvT hZ (hw _ (List.mem_of_getElem? (i := 86) rfl))) (mvT hZ (hw _ (List.mem_of_getElem? (i := 87) rfl))) (mvT hZ (hw _ (List.mem_of_getElem? (i := 15) rfl))) (mvT hZ (hw _ (List.mem_of_getElem? (i := 88) rfl))) (by decide) (backOf (W := 0) (rmlc l Z aa hw [] b p1 wc sx kb z vs x h0 n0 Z0 BW O0 V_b hlo hhi hgx) hZ (hw _ (List.mem_of_getElem? (i := 88) rfl)) (hw _ (List.mem_of_getElem? (i := 15) rfl)) (by decide) (by decide)) (g := (mkF m 12 #[.val (.ref a0), .val (.int p1)] [(.int p1), (.ref b)])) rfl (by rw [hml]; rfl) (argsL := [(.ref b), (.int p1)]) (rest := []) (lenOf pdcL_1 rfl) rfl (by show 2 * 0 + _ ≤ _; exact Nat.le_of_eq rfl) (hb hby dcL_12) (fun _ _ => ⟨rfl, ecL3, (by decide : 0 + 0 ≤ _), (by decide : 0 + 0 ≤ _)⟩)
  dsimp only [Pt.U, Pt.locs, Pt.cells, Pt.slots] at XcLc4 lcLc4 ycLc4 zcLc4 stcLc4 hQcLc4
  subst lcLc4 ycLc4 zcLc4
  obtain ⟨rfl, NcLc4q, ecLc4⟩ := hQcLc4
  have NcLc4 := Fr.app NcLc1 NcLc4q
  obtain ⟨lccLt5, XcLc4, NcLc4⟩ : ∃ lc, Stand p l e ({ frames := 4, cells := 0, slots := 0, locals := 53 } : Room) s m #[(.ref a0), (.int p1)] below meth c TcLc4 lc 0 0 ∧ Fr n0 lc := ⟨_, XcLc4, NcLc4⟩
  refine stp (fun t k => stcLc4 t k) ?_
  show W (TcLc4.setTop (mkF m 15 #[.val (.ref a0), .val (.int p1)] [(.int (flc x))]))
  show W (TcLc4.setTop (mkF m 15 #[.val (.ref a0), .val (.int p1)] [(.int (flc x))]))
  rw [← hW]
  exact own_retN XcLc4 hx Bd.notSynchronized Bd.returns (w := (nar .char (flc x))) (by simp) (hb hby dcL_15) rfl (by show QcL Z a0 p1 wc sx b kb z vs x h0 n0 _ TcLc4.heap _; rw [ecLc4]; exact ⟨rfl, NcLc4, rfl⟩) (by decide) (by decide)
theorem dcU_0 : decode jdk_42_method_56_code 0 = .ok (.aload_n 0, 1) := by decide +kernel
theorem dcU_1 : decode jdk_42_method_56_code 1 = .ok (.invokevirtual 492, 3) := by decide +kernel
theorem dcU_4 : decode jdk_42_method_56_code 4 = .ok (.ifCond .eq 12, 3) := by decide +kernel
theorem dcU_16 : decode jdk_42_method_56_code 16 = .ok (.aload_n 0, 1) := by decide +kernel
theorem dcU_17 : decode jdk_42_method_56_code 17 = .ok (.getfield 9, 3) := by decide +kernel
theorem dcU_20 : decode jdk_42_method_56_code 20 = .ok (.iload_n 1, 1) := by decide +kernel
theorem dcU_21 : decode jdk_42_method_56_code 21 = .ok (.invokestatic 498, 3) := by decide +kernel
theorem dcU_24 : decode jdk_42_method_56_code 24 = .ok (.ireturn, 1) := by decide +kernel
theorem pncU : plainName "java/lang/String" = true := by first | (simp [plainName, overriddenIn]; done) | decide +kernel
theorem pdcU_0 : parseMethodDescriptor "()Z" = some ⟨[], some .boolean⟩ := by decide +kernel
theorem pdcU_1 : parseMethodDescriptor "([BI)C" = some ⟨[(.array .byte), .int], some .char⟩ := by decide +kernel
theorem efcU (m : MethodId) (a0 : Addr) (p1 : Int32) : entryFrame m #[(.ref a0), (.int p1)] 2 = mkF m 0 #[.val (.ref a0), .val (.int p1)] [] := by first | (simp [entryFrame, mkF, argsToLocals, Value.category]; done) | rfl
def fcU (x : Int32) (y : Int32) : Int32 := (nar .char (fua x y))
def QcU (Z : State) (a0 : Addr) (p1 : Int32) (wc : Int32) (sx : Value) (b : Addr) (kb : ClassId) (z : Int32) (vs : List Value) (x : Int32) (y : Int32) (h0 : Heap) (n0 : Nat) (v : Option Value) (h : Heap) (L : List Loc) : Prop := v = some (.int (fcU x y)) ∧ Fr n0 L ∧ h = h0
set_option maxRecDepth 65536 in
set_option maxHeartbeats 40000000 in
theorem rmcU (l : Launch) (Z : State) (aa : Array Value) (hw : ∀ d ∈ tables_1, d.before aa Z = true) (ws : List Jvm.Cond) (a0 : Addr) (p1 : Int32) (wc : Int32) (sx : Value) (b : Addr) (kb : ClassId) (z : Int32) (vs : List Value) (x : Int32) (y : Int32) (h0 : Heap) (n0 : Nat) (Z0 : n0 ≤ h0.size) (BW : OwnW Z wc sx) (O0 : Old Z n0 h0) (E_a0 : Exa Z h0 a0 "java/lang/String") (F_value_a0 : Fld Z h0 a0 "java/lang/String" "value" "[B" (.ref b)) (F_coder_a0 : Fld Z h0 a0 "java/lang/String" "coder" "B" (.int (1 : Int32))) (V_b : Arv Z h0 b kb .byte z vs (.int (0 : Int32))) (hlo : ¬ p1 < (0 : Int32)) (hhi : p1 < (ful z)) (hi0 : ¬ (p1 <<< ((1 : Int32) &&& 31)) < 0 ∧ (p1 <<< ((1 : Int32) &&& 31)) < z) (hi1 : ¬ ((p1 <<< ((1 : Int32) &&& 31)) + (1 : Int32)) < 0 ∧ ((p1 <<< ((1 : Int32) &&& 31)) + (1 : Int32)) < z) (hg0 : vs.getD (p1 <<< ((1 : Int32) &&& 31)).toNatClampNeg (.int (0 : Int32)) = .int x) (hg1 : vs.getD ((p1 <<< ((1 : Int32) &&& 31)) + (1 : Int32)).toNatClampNeg (.int (0 : Int32)) = .int y) :
    MetFree l (⟨"java/lang/String", "charAt", "(I)C"⟩ : MethodName) (head1 (Jvm.Cond.code (⟨"java/lang/String", "charAt", "(I)C"⟩ : MethodName) jdk_42_method_56_code 2 (some .char) :: ws) ({ frames := 4, cells := 0, slots := 0, locals := 53 } : Room)) (fun a U => a = #[(.ref a0), (.int p1)] ∧ Z.Warmed39 U.vm ∧ U.heap = h0) (fun _ _ _ _ _ => True) (fun _ U o U' => ∃ v L, o = .returned v ∧ QcU Z a0 p1 wc sx b kb z vs x y h0 n0 v U'.heap L ∧ FrameEnd U o U' L ({ frames := 4, cells := 0, slots := 0, locals := 53 } : Room).cells ({ frames := 4, cells := 0, slots := 0, locals := 53 } : Room).slots) := by
  refine MetFree.of_bodySF (plainFor_of_name pncU) hisR ?_
  intro p e s m args below meth c s₁ Bd hml0 hP hK
  obtain ⟨rfl, hZ, hh⟩ := hP
  have hx := Bd.exec
  have hby := Bd.bytes
  have hml : c.maxLocals = 2 := hml0
  have hown : s.vm.findClass "java/lang/String" = some m.cls := findClass_of_methodNamed Bd.named
  have hnm := (name_of_methodNamed Bd.named Bd.method).1
  have X0 : Stand p l e ({ frames := 4, cells := 0, slots := 0, locals := 53 } : Room) s m #[(.ref a0), (.int p1)] below meth c s₁ [] 0 0 := Stand.of_body Bd
  have e0 : s₁.heap = h0 := by rw [← hh, Bd.state]; rfl
  have N0 := Fr.nil n0
  show OwnEnd p e below s (fun v h L => QcU Z a0 p1 wc sx b kb z vs x y h0 n0 v h L) ({ frames := 4, cells := 0, slots := 0, locals := 53 } : Room).cells ({ frames := 4, cells := 0, slots := 0, locals := 53 } : Room).slots (s₁.setTop (entryFrame m #[(.ref a0), (.int p1)] 2))
  rw [efcU m a0 p1]
  generalize hW : OwnEnd p e below s (fun v h L => QcU Z a0 p1 wc sx b kb z vs x y h0 n0 v h L) ({ frames := 4, cells := 0, slots := 0, locals := 53 } : Room).cells ({ frames := 4, cells := 0, slots := 0, locals := 53 } : Room).slots = W
  have stp : ∀ {A B : State}, (∀ t, Steps p.tables e below B t → Steps p.tables e below A t) → W B → W A := by subst hW; exact own_step
  obtain ⟨S_cs, hcs, S_si, hr_sx, S_ad, S_hi, S_lo⟩ := id BW
  show W (s₁.setTop (mkF m 0 #[.val (.ref a0), .val (.int p1)] []))
  refine stp (fun t k => XS.aloadN X0.here hx rfl (hb hby dcU_0) rfl rfl k) ?_
  show W (s₁.setTop (mkF m 1 #[.val (.ref a0), .val (.int p1)] [(.ref a0)]))
  obtain ⟨cqcUc1, kqcUc1, qcUc1a, qcUc1b, qcUc1c⟩ := isOf hZ e0 E_a0
  obtain ⟨_, _, ⟨TcUc1, LcUc1, kcUc1, ncUc1⟩, -, XcUc1, ⟨LccUc1, hQcUc1, lcUc1, ycUc1, zcUc1⟩, stcUc1⟩ := X0.virtualBack hx (y := (⟨"java/lang/String", "isLatin1", "()Z"⟩ : MethodName)) (z := (⟨"java/lang/String", "isLatin1", "()Z"⟩ : MethodName)) hown (mvT hZ (hw _ (List.mem_of_getElem? (i := 81) rfl))) (mvT hZ (hw _ (List.mem_of_getElem? (i := 82) rfl))) (notFace_of_selects (args := #[]) (mvT hZ (hw _ (List.mem_of_getElem? (i := 84) rfl)))) (mvT hZ (hw _ (List.mem_of_getElem? (i := 84) rfl))) (mvT hZ (hw _ (List.mem_of_getElem? (i := 83) rfl))) (by decide) (backOf (W := 0) (rmil l Z aa hw [] a0 wc sx (1 : Int32) h0 n0 Z0 BW O0 F_coder_a0) hZ (hw _ (List.mem_of_getElem? (i := 85) rfl)) (hw _ (List.mem_of_getElem? (i := 10) rfl)) (by decide) (by decide)) qcUc1a qcUc1c (g := (mkF m 1 #[.val (.ref a0), .val (.int p1)] [(.ref a0)])) rfl (by rw [hml]; rfl) (Steps.refl _) (argsL := []) (rest := []) (lenOf pdcU_0 rfl) rfl (by show 2 * 0 + _ ≤ _; exact Nat.le_of_eq rfl) (hb hby dcU_1) (fun _ _ => ⟨rfl, e0, (by decide : 0 + 0 ≤ _), (by decide : 0 + 0 ≤ _)⟩)
  dsimp only [Pt.U, Pt.locs, Pt.cells, Pt.slots] at XcUc1 lcUc1 ycUc1 zcUc1 stcUc1 hQcUc1
  subst lcUc1 ycUc1 zcUc1
  obtain ⟨rfl, NcUc1q, ecUc1⟩ := hQcUc1
  have NcUc1 := Fr.app N0 NcUc1q
  obtain ⟨lccUt2, XcUc1, NcUc1⟩ : ∃ lc, Stand p l e ({ frames := 4, cells := 0, slots := 0, locals := 53 } : Room) s m #[(.ref a0), (.int p1)] below meth c TcUc1 lc 0 0 ∧ Fr n0 lc := ⟨_, XcUc1, NcUc1⟩
  refine stp (fun t k => stcUc1.trans k) ?_
  show W (TcUc1.setTop (mkF m 4 #[.val (.ref a0), .val (.int p1)] [(.int (fil (1 : Int32)))]))
  refine stp (fun t k => XS.ifYes XcUc1.here hx rfl (pc0 := 4) (pc' := 16) rfl (hb hby dcU_4) rfl ((if0 _ _).trans (teq (by decide)).1) (by decide) (by decide) k) ?_
  show W (TcUc1.setTop (mkF m 16 #[.val (.ref a0), .val (.int p1)] []))
  refine stp (fun t k => XS.aloadN XcUc1.here hx rfl (hb hby dcU_16) rfl rfl k) ?_
  show W (TcUc1.setTop (mkF m 17 #[.val (.ref a0), .val (.int p1)] [(.ref a0)]))
  obtain ⟨TcU3, XcU3, ecU3, stcU3⟩ := getF XcUc1 hx hZ hown (host := "") (Or.inl (hw _ (List.mem_of_getElem? (i := 30) rfl))) Via.refl ecUc1 F_value_a0 (g := (mkF m 17 #[.val (.ref a0), .val (.int p1)] [(.ref a0)])) rfl rfl (hb hby dcU_17)
  refine stp (fun t k => stcU3 t k) ?_
  show W (TcU3.setTop (mkF m 20 #[.val (.ref a0), .val (.int p1)] [(.ref b)]))
  refine stp (fun t k => XS.iloadN XcU3.here hx rfl (hb hby dcU_20) rfl k) ?_
  show W (TcU3.setTop (mkF m 21 #[.val (.ref a0), .val (.int p1)] [(.int p1), (.ref b)]))
  obtain ⟨_, _, ⟨TcUc4, LcUc4, kcUc4, ncUc4⟩, -, XcUc4, ⟨LccUc4, hQcUc4, lcUc4, ycUc4, zcUc4⟩, stcUc4⟩ := Jvm.LawKit.callS XcU3 hx (y := (⟨"java/lang/StringUTF16", "charAt", "([BI)C"⟩ : MethodName)) hown (mvT hZ (hw _ (List.mem_of_getElem? (i := 123) rfl))) (mvT hZ (hw _ (List.mem_of_getElem? (i := 124) rfl))) (mvT hZ (hw _ (List.mem_of_getElem? (i := 68) rfl))) (mvT hZ (hw _ (List.mem_of_getElem? (i := 125) rfl))) (by decide) (backOf (W := 0) (rmua l Z aa hw [] b p1 wc sx kb z vs x y h0 n0 Z0 BW O0 V_b hlo hhi hi0 hi1 hg0 hg1) hZ (hw _ (List.mem_of_getElem? (i := 125) rfl)) (hw _ (List.mem_of_getElem? (i := 68) rfl)) (by decide) (by decide)) (g := (mkF m 21 #[.val (.ref a0), .val (.int p1)] [(.int p1), (.ref b)])) rfl (by rw [hml]; rfl) (argsL := [(.ref b), (.int p1)]) (rest := []) (lenOf pdcU_1 rfl) rfl (by show 2 * 0 + _ ≤ _; exact Nat.le_of_eq rfl) (hb hby dcU_21) (fun _ _ => ⟨rfl, ecU3, (by decide : 0 + 0 ≤ _), (by decide : 0 + 0 ≤ _)⟩)
  dsimp only [Pt.U, Pt.locs, Pt.cells, Pt.slots] at XcUc4 lcUc4 ycUc4 zcUc4 stcUc4 hQcUc4
  subst lcUc4 ycUc4 zcUc4
  obtain ⟨rfl, NcUc4q, ecUc4⟩ := hQcUc4
  have NcUc4 := Fr.app NcUc1 NcUc4q
  obtain ⟨lccUt5, XcUc4, NcUc4⟩ : ∃ lc, Stand p l e ({ frames := 4, cells := 0, slots := 0, locals := 53 } : Room) s m #[(.ref a0), (.int p1)] below meth c TcUc4 lc 0 0 ∧ Fr n0 lc := ⟨_, XcUc4, NcUc4⟩
  refine stp (fun t k => stcUc4 t k) ?_
  show W (TcUc4.setTop (mkF m 24 #[.val (.ref a0), .val (.int p1)] [(.int (fua x y))]))
  show W (TcUc4.setTop (mkF m 24 #[.val (.ref a0), .val (.int p1)] [(.int (fua x y))]))
  rw [← hW]
  exact own_retN XcUc4 hx Bd.notSynchronized Bd.returns (w := (nar .char (fua x y))) (by simp) (hb hby dcU_24) rfl (by show QcU Z a0 p1 wc sx b kb z vs x y h0 n0 _ TcUc4.heap _; rw [ecUc4]; exact ⟨rfl, NcUc4, rfl⟩) (by decide) (by decide)
theorem own_narC {c : Int32} (h0 : 0 ≤ c.toInt) (h1 : c.toInt < 65536) : nar .char c = c := own_i2c h0 h1
theorem own_fcL {c : Int32} (h0 : 0 ≤ c.toInt) (h1 : c.toInt < 256) : fcL (own_b c) = c := by
  have e : flc (own_b c) = c := by
    show nar .char (own_cL (own_b c)) = c
    rw [own_decL h0 h1, own_narC h0 (by omega)]
  show nar .char (flc (own_b c)) = c
  rw [e, own_narC h0 (by omega)]
theorem own_fgc {c : Int32} (h0 : 0 ≤ c.toInt) (h1 : c.toInt < 65536) : fgc (own_lo c) (own_hi c) = c := by
  show nar .char (own_cU (own_lo c) (own_hi c)) = c
  rw [own_decU h0 h1, own_narC h0 h1]
theorem own_fcU {c : Int32} (h0 : 0 ≤ c.toInt) (h1 : c.toInt < 65536) : fcU (own_lo c) (own_hi c) = c := by
  have e : fua (own_lo c) (own_hi c) = c := by
    show nar .char (fgc (own_lo c) (own_hi c)) = c
    rw [own_fgc h0 h1, own_narC h0 h1]
  show nar .char (fua (own_lo c) (own_hi c)) = c
  rw [e, own_narC h0 h1]
theorem own_u0 (g : Nat → Int32) (i : Nat) : own_u g (2 * i) = own_lo (g i) := by
  unfold own_u
  rw [if_pos (by omega), show 2 * i / 2 = i from by omega]
theorem own_u1 (g : Nat → Int32) (i : Nat) : own_u g (2 * i + 1) = own_hi (g i) := by
  unfold own_u
  rw [if_neg (by omega), show (2 * i + 1) / 2 = i from by omega]
/-- charAt on a String whose chars are known -/
def QcA (Z : State) (a0_ : Addr) (p1 : Int32) (g : Nat → Int32) (i : Nat) (h0 : Heap) (n0 : Nat) (v : Option Value) (h : Heap) (L : List Loc) : Prop := v = some (.int (g i)) ∧ Fr n0 L ∧ h = h0
theorem rmcA (l : Launch) (Z : State) (aa : Array Value) (hw : ∀ d ∈ tables_1, d.before aa Z = true) (ws : List Jvm.Cond) (a0_ : Addr) (p1 : Int32) (wc : Int32) (sx : Value) (b : Addr) (n : Nat) (g : Nat → Int32) (i : Nat) (h0 : Heap) (n0 : Nat) (Z0 : n0 ≤ h0.size) (BW : OwnW Z wc sx) (O0 : Old Z n0 h0) (S : OwnStr Z h0 a0_ b n g) (hn : n ≤ 4000) (hch : ∀ j, j < n → 0 ≤ (g j).toInt ∧ (g j).toInt < 65536) (hi : p1.toInt = i) (hlt : i < n) :
    MetFree l (⟨"java/lang/String", "charAt", "(I)C"⟩ : MethodName) (head1 (Jvm.Cond.code (⟨"java/lang/String", "charAt", "(I)C"⟩ : MethodName) jdk_42_method_56_code 2 (some .char) :: ws) ({ frames := 4, cells := 0, slots := 0, locals := 53 } : Room)) (fun a U => a = #[(.ref a0_), (.int p1)] ∧ Z.Warmed39 U.vm ∧ U.heap = h0) (fun _ _ _ _ _ => True) (fun _ U o U' => ∃ v L, o = .returned v ∧ QcA Z a0_ p1 g i h0 n0 v U'.heap L ∧ FrameEnd U o U' L ({ frames := 4, cells := 0, slots := 0, locals := 53 } : Room).cells ({ frames := 4, cells := 0, slots := 0, locals := 53 } : Room).slots) := by
  obtain ⟨E, F, ⟨C, q, k, V⟩ | ⟨C, k, V⟩⟩ := S
  · have hz := own_ofNat (n := n) (by omega)
    refine own_mono (rmcL l Z aa hw ws a0_ p1 wc sx b k (Int32.ofNat n) (own_vs n fun j => own_b (g j)) (own_b (g i)) h0 n0 Z0 BW O0 E F C V (own_nn hi) ((own_lt32 hi hz).mpr hlt) (by rw [own_clamp hi, own_vsGet hlt])) ?_
    rintro a s o t ⟨v, L, ho, ⟨hv, N, hh⟩, hF⟩
    exact ⟨v, L, ho, ⟨by rw [hv, own_fcL (hch i hlt).1 (q i hlt)], N, hh⟩, hF⟩
  · have e0 := own_shl1 hi (by omega)
    have e1 := own_inc e0 (by omega)
    have hz := own_ofNat (n := 2 * n) (by omega)
    refine own_mono (rmcU l Z aa hw ws a0_ p1 wc sx b k (Int32.ofNat (2 * n)) (own_vs (2 * n) (own_u g)) (own_lo (g i)) (own_hi (g i)) h0 n0 Z0 BW O0 E F C V (own_nn hi) (by show p1 < Int32.ofNat (2 * n) >>> ((1 : Int32) &&& 31); rw [own_shr1 (by omega)]; exact (own_lt32 hi (own_ofNat (by omega))).mpr hlt) ⟨own_nn e0, (own_lt32 e0 hz).mpr (by omega)⟩ ⟨own_nn e1, (own_lt32 e1 hz).mpr (by omega)⟩ (by rw [own_clamp e0, own_vsGet (by omega), own_u0]) (by rw [own_clamp e1, own_vsGet (by omega), own_u1])) ?_
    rintro a s o t ⟨v, L, ho, ⟨hv, N, hh⟩, hF⟩
    exact ⟨v, L, ho, ⟨by rw [hv, own_fcU (hch i hlt).1 (hch i hlt).2], N, hh⟩, hF⟩
theorem own_c256 {c : Int32} (h : ¬ ((255 : Int32) < c)) : c.toInt < 256 := by
  rw [Int32.lt_iff_toInt_lt, show (255 : Int32).toInt = 255 from by decide] at h; omega
theorem own_c255 {c : Int32} (h : (255 : Int32) < c) : 256 ≤ c.toInt := by
  rw [Int32.lt_iff_toInt_lt, show (255 : Int32).toInt = 255 from by decide] at h; omega
theorem own_step1 (n i : Nat) (g : Nat → Int32) : (own_vs n fun j => if j < i then own_b (g j) else (0 : Int32)).set i (.int (own_b (g i))) = own_vs n fun j => if j < i + 1 then own_b (g j) else (0 : Int32) := by
  rw [own_vsSet]
  apply own_vsCongr
  intro j _
  by_cases h : j = i
  · subst h; simp
  · by_cases h2 : j < i
    · simp [h, h2, Nat.lt_succ_of_lt h2]
    · have h3 : ¬ j < i + 1 := by omega
      simp [h, h2, h3]
theorem dk1_0 : decode jdk_52_method_21_code 0 = .ok (.iconst 0, 1) := by decide +kernel
theorem dk1_1 : decode jdk_52_method_21_code 1 = .ok (.istore 5, 2) := by decide +kernel
theorem dk1_3 : decode jdk_52_method_21_code 3 = .ok (.iload 5, 2) := by decide +kernel
theorem dk1_5 : decode jdk_52_method_21_code 5 = .ok (.iload 4, 2) := by decide +kernel
theorem dk1_7 : decode jdk_52_method_21_code 7 = .ok (.if_icmp .ge 37, 3) := by decide +kernel
theorem dk1_10 : decode jdk_52_method_21_code 10 = .ok (.aload_n 0, 1) := by decide +kernel
theorem dk1_11 : decode jdk_52_method_21_code 11 = .ok (.iload_n 1, 1) := by decide +kernel
theorem dk1_12 : decode jdk_52_method_21_code 12 = .ok (.caload, 1) := by decide +kernel
theorem dk1_13 : decode jdk_52_method_21_code 13 = .ok (.istore 6, 2) := by decide +kernel
theorem dk1_15 : decode jdk_52_method_21_code 15 = .ok (.iload 6, 2) := by decide +kernel
theorem dk1_17 : decode jdk_52_method_21_code 17 = .ok (.sipush 255, 3) := by decide +kernel
theorem dk1_20 : decode jdk_52_method_21_code 20 = .ok (.if_icmp .le 6, 3) := by decide +kernel
theorem dk1_23 : decode jdk_52_method_21_code 23 = .ok (.iload 5, 2) := by decide +kernel
theorem dk1_25 : decode jdk_52_method_21_code 25 = .ok (.ireturn, 1) := by decide +kernel
theorem dk1_26 : decode jdk_52_method_21_code 26 = .ok (.aload_n 2, 1) := by decide +kernel
theorem dk1_27 : decode jdk_52_method_21_code 27 = .ok (.iload_n 3, 1) := by decide +kernel
theorem dk1_28 : decode jdk_52_method_21_code 28 = .ok (.iload 6, 2) := by decide +kernel
theorem dk1_30 : decode jdk_52_method_21_code 30 = .ok (.i2b, 1) := by decide +kernel
theorem dk1_31 : decode jdk_52_method_21_code 31 = .ok (.bastore, 1) := by decide +kernel
theorem dk1_32 : decode jdk_52_method_21_code 32 = .ok (.iinc 1 1, 3) := by decide +kernel
theorem dk1_35 : decode jdk_52_method_21_code 35 = .ok (.iinc 3 1, 3) := by decide +kernel
theorem dk1_38 : decode jdk_52_method_21_code 38 = .ok (.iinc 5 1, 3) := by decide +kernel
theorem dk1_41 : decode jdk_52_method_21_code 41 = .ok (.goto (-38), 3) := by decide +kernel
theorem dk1_44 : decode jdk_52_method_21_code 44 = .ok (.iload 4, 2) := by decide +kernel
theorem dk1_46 : decode jdk_52_method_21_code 46 = .ok (.ireturn, 1) := by decide +kernel
theorem pnk1 : plainName "java/lang/StringUTF16" = true := by first | (simp [plainName, overriddenIn]; done) | decide +kernel
theorem efk1 (m : MethodId) (a0 : Addr) (p1 : Int32) (a2 : Addr) (p3 : Int32) (p4 : Int32) : entryFrame m #[(.ref a0), (.int p1), (.ref a2), (.int p3), (.int p4)] 7 = mkF m 0 #[.val (.ref a0), .val (.int p1), .val (.ref a2), .val (.int p3), .val (.int p4), .unset, .unset] [] := by first | (simp [entryFrame, mkF, argsToLocals, Value.category]; done) | rfl
def Qk1 (Z : State) (a0 : Addr) (p1 : Int32) (a2 : Addr) (p3 : Int32) (p4 : Int32) (wc : Int32) (sx : Value) (n : Nat) (g : Nat → Int32) (ka : ClassId) (kb : ClassId) (h0 : Heap) (n0 : Nat) (v : Option Value) (h : Heap) (L : List Loc) : Prop := ∃ r : Int32, v = some (.int r) ∧ Fr n0 L ∧ Keep h0 h [a2] ∧ ((r = (Int32.ofNat n) ∧ (∀ j, j < n → (g j).toInt < 256) ∧ Arv Z h a2 kb .byte (Int32.ofNat n) (own_vs n fun j => own_b (g j)) (.int (0 : Int32))) ∨ ∃ i, i < n ∧ r.toInt = (i : Int) ∧ 256 ≤ (g i).toInt)
set_option maxRecDepth 65536 in
set_option maxHeartbeats 40000000 in
theorem rmk1 (l : Launch) (Z : State) (aa : Array Value) (hw : ∀ d ∈ tables_1, d.before aa Z = true) (ws : List Jvm.Cond) (a0 : Addr) (p1 : Int32) (a2 : Addr) (p3 : Int32) (p4 : Int32) (wc : Int32) (sx : Value) (n : Nat) (g : Nat → Int32) (ka : ClassId) (kb : ClassId) (h0 : Heap) (n0 : Nat) (Z0 : n0 ≤ h0.size) (BW : OwnW Z wc sx) (O0 : Old Z n0 h0) (hn : n ≤ 2) (hch : ∀ j, j < n → 0 ≤ (g j).toInt ∧ (g j).toInt < 65536) (V_a0 : Arv Z h0 a0 ka .char (Int32.ofNat n) (own_vs n g) (.int (0 : Int32))) (V_a2 : Arv Z h0 a2 kb .byte (Int32.ofNat n) (own_vs n fun _ => (0 : Int32)) (.int (0 : Int32))) (ne_a0_a2 : a0 ≠ a2) (g_a2 : n0 ≤ a2) (hp1 : p1 = (0 : Int32)) (hp3 : p3 = (0 : Int32)) (hp4 : p4 = (Int32.ofNat n)) :
    MetFree l (⟨"java/lang/StringUTF16", "compress", "([CI[BII)I"⟩ : MethodName) (head1 (Jvm.Cond.code (⟨"java/lang/StringUTF16", "compress", "([CI[BII)I"⟩ : MethodName) jdk_52_method_21_code 7 (some .int) :: ws) ({ frames := 0, cells := 0, slots := 0, locals := 0 } : Room)) (fun a U => a = #[(.ref a0), (.int p1), (.ref a2), (.int p3), (.int p4)] ∧ Z.Warmed39 U.vm ∧ U.heap = h0) (fun _ _ _ _ _ => True) (fun _ U o U' => ∃ v L, o = .returned v ∧ Qk1 Z a0 p1 a2 p3 p4 wc sx n g ka kb h0 n0 v U'.heap L ∧ FrameEnd U o U' L ({ frames := 0, cells := 0, slots := 0, locals := 0 } : Room).cells ({ frames := 0, cells := 0, slots := 0, locals := 0 } : Room).slots) := by
  refine MetFree.of_bodySF (plainFor_of_name pnk1) hisR ?_
  intro p e s m args below meth c s₁ Bd hml0 hP hK
  obtain ⟨rfl, hZ, hh⟩ := hP
  have hx := Bd.exec
  have hby := Bd.bytes
  have hml : c.maxLocals = 7 := hml0
  have hown : s.vm.findClass "java/lang/StringUTF16" = some m.cls := findClass_of_methodNamed Bd.named
  have hnm := (name_of_methodNamed Bd.named Bd.method).1
  have X0 : Stand p l e ({ frames := 0, cells := 0, slots := 0, locals := 0 } : Room) s m #[(.ref a0), (.int p1), (.ref a2), (.int p3), (.int p4)] below meth c s₁ [] 0 0 := Stand.of_body Bd
  have e0 : s₁.heap = h0 := by rw [← hh, Bd.state]; rfl
  have N0 := Fr.nil n0
  show OwnEnd p e below s (fun v h L => Qk1 Z a0 p1 a2 p3 p4 wc sx n g ka kb h0 n0 v h L) ({ frames := 0, cells := 0, slots := 0, locals := 0 } : Room).cells ({ frames := 0, cells := 0, slots := 0, locals := 0 } : Room).slots (s₁.setTop (entryFrame m #[(.ref a0), (.int p1), (.ref a2), (.int p3), (.int p4)] 7))
  rw [efk1 m a0 p1 a2 p3 p4]
  generalize hW : OwnEnd p e below s (fun v h L => Qk1 Z a0 p1 a2 p3 p4 wc sx n g ka kb h0 n0 v h L) ({ frames := 0, cells := 0, slots := 0, locals := 0 } : Room).cells ({ frames := 0, cells := 0, slots := 0, locals := 0 } : Room).slots = W
  have stp : ∀ {A B : State}, (∀ t, Steps p.tables e below B t → Steps p.tables e below A t) → W B → W A := by subst hW; exact own_step
  obtain ⟨S_cs, hcs, S_si, hr_sx, S_ad, S_hi, S_lo⟩ := id BW
  have hz := own_ofNat (n := n) (by omega)
  subst hp1 hp3 hp4
  show W (s₁.setTop (mkF m 0 #[.val (.ref a0), .val (.int (0 : Int32)), .val (.ref a2), .val (.int (0 : Int32)), .val (.int (Int32.ofNat n)), .unset, .unset] []))
  refine stp (fun t k => XS.iconst X0.here hx rfl (hb hby dk1_0) k) ?_
  show W (s₁.setTop (mkF m 1 #[.val (.ref a0), .val (.int (0 : Int32)), .val (.ref a2), .val (.int (0 : Int32)), .val (.int (Int32.ofNat n)), .unset, .unset] [(.int (0 : Int32))]))
  refine stp (fun t k => XS.istore X0.here hx rfl (hb hby dk1_1) rfl (l' := #[.val (.ref a0), .val (.int (0 : Int32)), .val (.ref a2), .val (.int (0 : Int32)), .val (.int (Int32.ofNat n)), .val (.int (0 : Int32)), .unset]) rfl k) ?_
  have LP : ∀ (r i : Nat) (x1 : Int32) (x3 : Int32) (x5 : Int32) (s6 : Slot) (T' : State) (lc : List Loc) (h' : Heap) (hir : i + r = n) (hx1 : x1.toInt = (i : Int)) (hx3 : x3.toInt = (i : Int)) (hx5 : x5.toInt = (i : Int)) (hs6 : One s6) (hlat : ∀ j, j < i → (g j).toInt < 256) (XL : Stand p l e ({ frames := 0, cells := 0, slots := 0, locals := 0 } : Room) s m #[(.ref a0), (.int (0 : Int32)), (.ref a2), (.int (0 : Int32)), (.int (Int32.ofNat n))] below meth c T' lc 0 0) (eL : T'.heap = h') (NL : Fr n0 lc) (KL : Keep h0 h' [a2]) (OL : Old Z n0 h') (V_a0 : Arv Z h' a0 ka .char (Int32.ofNat n) (own_vs n g) (.int (0 : Int32))) (V_a2 : Arv Z h' a2 kb .byte (Int32.ofNat n) (own_vs n fun j => if j < i then own_b (g j) else (0 : Int32)) (.int (0 : Int32))), W (T'.setTop (mkF m 3 #[.val (.ref a0), .val (.int x1), .val (.ref a2), .val (.int x3), .val (.int (Int32.ofNat n)), .val (.int x5), s6] [])) := by
    intro r
    induction r with
    | zero =>
      intro i x1 x3 x5 s6 T' lc h' hir hx1 hx3 hx5 hs6 hlat XL eL NL KL OL V_a0 V_a2
      have ZL : n0 ≤ h'.size := Nat.le_trans Z0 KL.1
      show W (T'.setTop (mkF m 3 #[.val (.ref a0), .val (.int x1), .val (.ref a2), .val (.int x3), .val (.int (Int32.ofNat n)), .val (.int x5), s6] []))
      refine stp (fun t k => XS.iload XL.here hx rfl (hb hby dk1_3) rfl k) ?_
      show W (T'.setTop (mkF m 5 #[.val (.ref a0), .val (.int x1), .val (.ref a2), .val (.int x3), .val (.int (Int32.ofNat n)), .val (.int x5), s6] [(.int x5)]))
      refine stp (fun t k => XS.iload XL.here hx rfl (hb hby dk1_5) rfl k) ?_
      show W (T'.setTop (mkF m 7 #[.val (.ref a0), .val (.int x1), .val (.ref a2), .val (.int x3), .val (.int (Int32.ofNat n)), .val (.int x5), s6] [(.int (Int32.ofNat n)), (.int x5)]))
      refine stp (fun t k => XS.icmpYes XL.here hx rfl (pc0 := 7) (pc' := 44) rfl (hb hby dk1_7) rfl ((flt (fun q => by have := (own_lt32 hx5 hz).mp q; omega)).2.1) (by decide) (by decide) k) ?_
      show W (T'.setTop (mkF m 44 #[.val (.ref a0), .val (.int x1), .val (.ref a2), .val (.int x3), .val (.int (Int32.ofNat n)), .val (.int x5), s6] []))
      refine stp (fun t k => XS.iload XL.here hx rfl (hb hby dk1_44) rfl k) ?_
      show W (T'.setTop (mkF m 46 #[.val (.ref a0), .val (.int x1), .val (.ref a2), .val (.int x3), .val (.int (Int32.ofNat n)), .val (.int x5), s6] [(.int (Int32.ofNat n))]))
      show W (T'.setTop (mkF m 46 #[.val (.ref a0), .val (.int x1), .val (.ref a2), .val (.int x3), .val (.int (Int32.ofNat n)), .val (.int x5), s6] [(.int (Int32.ofNat n))]))
      rw [← hW]
      exact own_retI XL hx Bd.notSynchronized Bd.returns (hb hby dk1_46) (by show Qk1 Z a0 (0 : Int32) a2 (0 : Int32) (Int32.ofNat n) wc sx n g ka kb h0 n0 _ T'.heap _; rw [eL]; exact ⟨(Int32.ofNat n), rfl, NL, KL, Or.inl ⟨rfl, (by obtain rfl : i = n := (by omega); exact hlat), (by obtain rfl : i = n := (by omega); exact own_arvEq (own_vsCongr (fun j hj => if_pos hj)) V_a2)⟩⟩) (by decide) (by decide)
    | succ r ih =>
      intro i x1 x3 x5 s6 T' lc h' hir hx1 hx3 hx5 hs6 hlat XL eL NL KL OL V_a0 V_a2
      have ZL : n0 ≤ h'.size := Nat.le_trans Z0 KL.1
      show W (T'.setTop (mkF m 3 #[.val (.ref a0), .val (.int x1), .val (.ref a2), .val (.int x3), .val (.int (Int32.ofNat n)), .val (.int x5), s6] []))
      refine stp (fun t k => XS.iload XL.here hx rfl (hb hby dk1_3) rfl k) ?_
      show W (T'.setTop (mkF m 5 #[.val (.ref a0), .val (.int x1), .val (.ref a2), .val (.int x3), .val (.int (Int32.ofNat n)), .val (.int x5), s6] [(.int x5)]))
      refine stp (fun t k => XS.iload XL.here hx rfl (hb hby dk1_5) rfl k) ?_
      show W (T'.setTop (mkF m 7 #[.val (.ref a0), .val (.int x1), .val (.ref a2), .val (.int x3), .val (.int (Int32.ofNat n)), .val (.int x5), s6] [(.int (Int32.ofNat n)), (.int x5)]))
      refine stp (fun t k => XS.icmpNo XL.here hx rfl (hb hby dk1_7) rfl ((tlt ((own_lt32 hx5 hz).mpr (by omega))).2.1) k) ?_
      show W (T'.setTop (mkF m 10 #[.val (.ref a0), .val (.int x1), .val (.ref a2), .val (.int x3), .val (.int (Int32.ofNat n)), .val (.int x5), s6] []))
      refine stp (fun t k => XS.aloadN XL.here hx rfl (hb hby dk1_10) rfl rfl k) ?_
      show W (T'.setTop (mkF m 11 #[.val (.ref a0), .val (.int x1), .val (.ref a2), .val (.int x3), .val (.int (Int32.ofNat n)), .val (.int x5), s6] [(.ref a0)]))
      refine stp (fun t k => XS.iloadN XL.here hx rfl (hb hby dk1_11) rfl k) ?_
      show W (T'.setTop (mkF m 12 #[.val (.ref a0), .val (.int x1), .val (.ref a2), .val (.int x3), .val (.int (Int32.ofNat n)), .val (.int x5), s6] [(.int x1), (.ref a0)]))
      obtain ⟨clk11, Ark11, qkk11, qsk11, qnk11, qhk11, qgk11⟩ := id V_a0
      have hink11 : ¬ (x1 < 0 ∨ clk11.slots.size ≤ (x1).toNatClampNeg) := inb_of qsk11 ⟨own_nn hx1, (own_lt32 hx1 hz).mpr (by omega)⟩
      have hatk11 : clk11.slots[(x1).toNatClampNeg]? = some (.int (g i)) := qhk11.at hink11 (by rw [own_clamp hx1, own_vsGet (by omega)])
      refine stp (fun t k => XL.caload hx (j := x1) (v := (.int (g i))) (by rw [eL]; exact Ark11.1) (State.isArrayOf_alike hZ.alike Ark11.2.1) Ark11.2.2 hink11 hatk11 (g := (mkF m 12 #[.val (.ref a0), .val (.int x1), .val (.ref a2), .val (.int x3), .val (.int (Int32.ofNat n)), .val (.int x5), s6] [(.int x1), (.ref a0)])) rfl rfl (hb hby dk1_12) _ k) ?_
      show W (T'.setTop (mkF m 13 #[.val (.ref a0), .val (.int x1), .val (.ref a2), .val (.int x3), .val (.int (Int32.ofNat n)), .val (.int x5), s6] [(.int (g i))]))
      refine stp (fun t k => XS.istoreS XL.here hx rfl (hb hby dk1_13) rfl rfl hs6 k) ?_
      show W (T'.setTop (mkF m 15 #[.val (.ref a0), .val (.int x1), .val (.ref a2), .val (.int x3), .val (.int (Int32.ofNat n)), .val (.int x5), .val (.int (g i))] []))
      show W (T'.setTop (mkF m 15 #[.val (.ref a0), .val (.int x1), .val (.ref a2), .val (.int x3), .val (.int (Int32.ofNat n)), .val (.int x5), .val (.int (g i))] []))
      refine stp (fun t k => XS.iload XL.here hx rfl (hb hby dk1_15) rfl k) ?_
      show W (T'.setTop (mkF m 17 #[.val (.ref a0), .val (.int x1), .val (.ref a2), .val (.int x3), .val (.int (Int32.ofNat n)), .val (.int x5), .val (.int (g i))] [(.int (g i))]))
      refine stp (fun t k => XS.sipush XL.here hx rfl (hb hby dk1_17) k) ?_
      show W (T'.setTop (mkF m 20 #[.val (.ref a0), .val (.int x1), .val (.ref a2), .val (.int x3), .val (.int (Int32.ofNat n)), .val (.int x5), .val (.int (g i))] [(.int (255 : Int32)), (.int (g i))]))
      by_cases hck1_2 : (255 : Int32) < (g i)
      · refine stp (fun t k => XS.icmpNo XL.here hx rfl (hb hby dk1_20) rfl ((tlt hck1_2).2.2.2) k) ?_
        show W (T'.setTop (mkF m 23 #[.val (.ref a0), .val (.int x1), .val (.ref a2), .val (.int x3), .val (.int (Int32.ofNat n)), .val (.int x5), .val (.int (g i))] []))
        refine stp (fun t k => XS.iload XL.here hx rfl (hb hby dk1_23) rfl k) ?_
        show W (T'.setTop (mkF m 25 #[.val (.ref a0), .val (.int x1), .val (.ref a2), .val (.int x3), .val (.int (Int32.ofNat n)), .val (.int x5), .val (.int (g i))] [(.int x5)]))
        show W (T'.setTop (mkF m 25 #[.val (.ref a0), .val (.int x1), .val (.ref a2), .val (.int x3), .val (.int (Int32.ofNat n)), .val (.int x5), .val (.int (g i))] [(.int x5)]))
        rw [← hW]
        exact own_retI XL hx Bd.notSynchronized Bd.returns (hb hby dk1_25) (by show Qk1 Z a0 (0 : Int32) a2 (0 : Int32) (Int32.ofNat n) wc sx n g ka kb h0 n0 _ T'.heap _; rw [eL]; exact ⟨x5, rfl, NL, KL, Or.inr ⟨i, by omega, hx5, own_c255 hck1_2⟩⟩) (by decide) (by decide)
      · refine stp (fun t k => XS.icmpYes XL.here hx rfl (pc0 := 20) (pc' := 26) rfl (hb hby dk1_20) rfl ((flt hck1_2).2.2.2) (by decide) (by decide) k) ?_
        show W (T'.setTop (mkF m 26 #[.val (.ref a0), .val (.int x1), .val (.ref a2), .val (.int x3), .val (.int (Int32.ofNat n)), .val (.int x5), .val (.int (g i))] []))
        refine stp (fun t k => XS.aloadN XL.here hx rfl (hb hby dk1_26) rfl rfl k) ?_
        show W (T'.setTop (mkF m 27 #[.val (.ref a0), .val (.int x1), .val (.ref a2), .val (.int x3), .val (.int (Int32.ofNat n)), .val (.int x5), .val (.int (g i))] [(.ref a2)]))
        refine stp (fun t k => XS.iloadN XL.here hx rfl (hb hby dk1_27) rfl k) ?_
        show W (T'.setTop (mkF m 28 #[.val (.ref a0), .val (.int x1), .val (.ref a2), .val (.int x3), .val (.int (Int32.ofNat n)), .val (.int x5), .val (.int (g i))] [(.int x3), (.ref a2)]))
        refine stp (fun t k => XS.iload XL.here hx rfl (hb hby dk1_28) rfl k) ?_
        show W (T'.setTop (mkF m 30 #[.val (.ref a0), .val (.int x1), .val (.ref a2), .val (.int x3), .val (.int (Int32.ofNat n)), .val (.int x5), .val (.int (g i))] [(.int (g i)), (.int x3), (.ref a2)]))
        refine stp (fun t k => XS.i2b XL.here hx rfl (hb hby dk1_30) rfl k) ?_
        show W (T'.setTop (mkF m 31 #[.val (.ref a0), .val (.int x1), .val (.ref a2), .val (.int x3), .val (.int (Int32.ofNat n)), .val (.int x5), .val (.int (g i))] [(.int ((g i).toInt8.toInt32)), (.int x3), (.ref a2)]))
        obtain ⟨clk13, Ark13, qkk13, qsk13, qnk13, qhk13, qgk13⟩ := id V_a2
        have hink13 : ¬ (x3 < 0 ∨ clk13.slots.size ≤ (x3).toNatClampNeg) := inb_of qsk13 ⟨own_nn hx3, (own_lt32 hx3 hz).mpr (by omega)⟩
        obtain ⟨Tk13, hk13, Xk13, ek13, Wk13, stk13⟩ := stB XL hx hZ eL Ark13 (j := x3) hink13 (g := (mkF m 31 #[.val (.ref a0), .val (.int x1), .val (.ref a2), .val (.int x3), .val (.int (Int32.ofNat n)), .val (.int x5), .val (.int (g i))] [(.int ((g i).toInt8.toInt32)), (.int x3), (.ref a2)])) rfl rfl (hb hby dk1_31)
        have V_a2x := Arv.set Ark13 qkk13 qsk13 qnk13 qhk13 qgk13 (fits_nar_byte _) Wk13 i (own_clamp hx3) (by rw [own_vsLen]; omega)
        have Nk13 := Fr.snoc Xk13 NL g_a2
        obtain ⟨lck1t4, Xk13, Nk13⟩ : ∃ lc, Stand p l e ({ frames := 0, cells := 0, slots := 0, locals := 0 } : Room) s m #[(.ref a0), (.int (0 : Int32)), (.ref a2), (.int (0 : Int32)), (.int (Int32.ofNat n))] below meth c Tk13 lc 0 0 ∧ Fr n0 lc := ⟨_, Xk13, Nk13⟩
        replace V_a0 := V_a0.other Wk13 ne_a0_a2
        have Kk13 := KL.wr Wk13 (Or.inl (List.mem_of_getElem? (i := 0) rfl))
        have Zk13 := Nat.le_trans ZL (Keep.of_wr Wk13).1
        have Ok13 := OL.wr Wk13 g_a2
        replace V_a2 : Arv Z hk13 a2 kb .byte (Int32.ofNat n) (own_vs n fun j => if j < i + 1 then own_b (g j) else (0 : Int32)) (.int (0 : Int32)) := own_arvEq (own_step1 n i g) V_a2x
        refine stp (fun t k => stk13 t k) ?_
        show W (Tk13.setTop (mkF m 32 #[.val (.ref a0), .val (.int x1), .val (.ref a2), .val (.int x3), .val (.int (Int32.ofNat n)), .val (.int x5), .val (.int (g i))] []))
        refine stp (fun t k => XS.iinc Xk13.here hx rfl (hb hby dk1_32) rfl (l' := #[.val (.ref a0), .val (.int (x1 + (1 : Int32))), .val (.ref a2), .val (.int x3), .val (.int (Int32.ofNat n)), .val (.int x5), .val (.int (g i))]) rfl k) ?_
        show W (Tk13.setTop (mkF m 35 #[.val (.ref a0), .val (.int (x1 + (1 : Int32))), .val (.ref a2), .val (.int x3), .val (.int (Int32.ofNat n)), .val (.int x5), .val (.int (g i))] []))
        refine stp (fun t k => XS.iinc Xk13.here hx rfl (hb hby dk1_35) rfl (l' := #[.val (.ref a0), .val (.int (x1 + (1 : Int32))), .val (.ref a2), .val (.int (x3 + (1 : Int32))), .val (.int (Int32.ofNat n)), .val (.int x5), .val (.int (g i))]) rfl k) ?_
        show W (Tk13.setTop (mkF m 38 #[.val (.ref a0), .val (.int (x1 + (1 : Int32))), .val (.ref a2), .val (.int (x3 + (1 : Int32))), .val (.int (Int32.ofNat n)), .val (.int x5), .val (.int (g i))] []))
        refine stp (fun t k => XS.iinc Xk13.here hx rfl (hb hby dk1_38) rfl (l' := #[.val (.ref a0), .val (.int (x1 + (1 : Int32))), .val (.ref a2), .val (.int (x3 + (1 : Int32))), .val (.int (Int32.ofNat n)), .val (.int (x5 + (1 : Int32))), .val (.int (g i))]) rfl k) ?_
        show W (Tk13.setTop (mkF m 41 #[.val (.ref a0), .val (.int (x1 + (1 : Int32))), .val (.ref a2), .val (.int (x3 + (1 : Int32))), .val (.int (Int32.ofNat n)), .val (.int (x5 + (1 : Int32))), .val (.int (g i))] []))
        refine stp (fun t k => XS.goto Xk13.here hx rfl (pc0 := 41) (pc' := 3) rfl (hb hby dk1_41) (by decide) (by decide) k) ?_
        exact ih (i + 1) _ _ _ _ _ _ _ (by omega) (own_inc hx1 (by omega)) (own_inc hx3 (by omega)) (own_inc hx5 (by omega)) (One.val rfl) (fun j hj => (Nat.lt_succ_iff_lt_or_eq.mp hj).elim (hlat j) (fun q => by subst q; exact own_c256 hck1_2)) Xk13 ek13 Nk13 Kk13 Ok13 V_a0 V_a2
  exact LP n 0 (0 : Int32) (0 : Int32) (0 : Int32) .unset _ _ _ (by omega) rfl rfl rfl One.u (fun j hj => absurd hj (Nat.not_lt_zero j)) X0 e0 N0 (Keep.refl h0 [a2]) O0 V_a0 (by simpa using V_a2)
theorem dnl_0 : decode jdk_52_method_3_code 0 = .ok (.iload_n 0, 1) := by decide +kernel
theorem dnl_1 : decode jdk_52_method_3_code 1 = .ok (.ifCond .ge 11, 3) := by decide +kernel
theorem dnl_12 : decode jdk_52_method_3_code 12 = .ok (.iload_n 0, 1) := by decide +kernel
theorem dnl_13 : decode jdk_52_method_3_code 13 = .ok (.ldc 20, 2) := by decide +kernel
theorem dnl_15 : decode jdk_52_method_3_code 15 = .ok (.if_icmp .lt 40, 3) := by decide +kernel
theorem dnl_55 : decode jdk_52_method_3_code 55 = .ok (.iload_n 0, 1) := by decide +kernel
theorem dnl_56 : decode jdk_52_method_3_code 56 = .ok (.iconst 1, 1) := by decide +kernel
theorem dnl_57 : decode jdk_52_method_3_code 57 = .ok (.ishl, 1) := by decide +kernel
theorem dnl_58 : decode jdk_52_method_3_code 58 = .ok (.ireturn, 1) := by decide +kernel
theorem pnnl : plainName "java/lang/StringUTF16" = true := by first | (simp [plainName, overriddenIn]; done) | decide +kernel
theorem efnl (m : MethodId) (p0 : Int32) : entryFrame m #[(.int p0)] 1 = mkF m 0 #[.val (.int p0)] [] := by first | (simp [entryFrame, mkF, argsToLocals, Value.category]; done) | rfl
def fnl (p0 : Int32) : Int32 := (p0 <<< ((1 : Int32) &&& 31))
def Qnl (Z : State) (p0 : Int32) (h0 : Heap) (n0 : Nat) (v : Option Value) (h : Heap) (L : List Loc) : Prop := v = some (.int (fnl p0)) ∧ Fr n0 L ∧ h = h0
set_option maxRecDepth 65536 in
set_option maxHeartbeats 40000000 in
theorem rmnl (l : Launch) (Z : State) (aa : Array Value) (hw : ∀ d ∈ tables_1, d.before aa Z = true) (ws : List Jvm.Cond) (p0 : Int32) (h0 : Heap) (n0 : Nat) (Z0 : n0 ≤ h0.size) (hlo : ¬ p0 < (0 : Int32)) (hhi : p0 < (1073741823 : Int32)) :
    MetFree l (⟨"java/lang/StringUTF16", "newBytesLength", "(I)I"⟩ : MethodName) (head1 (Jvm.Cond.code (⟨"java/lang/StringUTF16", "newBytesLength", "(I)I"⟩ : MethodName) jdk_52_method_3_code 1 (some .int) :: ws) ({ frames := 0, cells := 0, slots := 0, locals := 0 } : Room)) (fun a U => a = #[(.int p0)] ∧ Z.Warmed39 U.vm ∧ U.heap = h0) (fun _ _ _ _ _ => True) (fun _ U o U' => ∃ v L, o = .returned v ∧ Qnl Z p0 h0 n0 v U'.heap L ∧ FrameEnd U o U' L ({ frames := 0, cells := 0, slots := 0, locals := 0 } : Room).cells ({ frames := 0, cells := 0, slots := 0, locals := 0 } : Room).slots) := by
  refine MetFree.of_bodySF (plainFor_of_name pnnl) hisR ?_
  intro p e s m args below meth c s₁ Bd hml0 hP hK
  obtain ⟨rfl, hZ, hh⟩ := hP
  have hx := Bd.exec
  have hby := Bd.bytes
  have hml : c.maxLocals = 1 := hml0
  have hown : s.vm.findClass "java/lang/StringUTF16" = some m.cls := findClass_of_methodNamed Bd.named
  have hnm := (name_of_methodNamed Bd.named Bd.method).1
  have X0 : Stand p l e ({ frames := 0, cells := 0, slots := 0, locals := 0 } : Room) s m #[(.int p0)] below meth c s₁ [] 0 0 := Stand.of_body Bd
  have e0 : s₁.heap = h0 := by rw [← hh, Bd.state]; rfl
  have N0 := Fr.nil n0
  show OwnEnd p e below s (fun v h L => Qnl Z p0 h0 n0 v h L) ({ frames := 0, cells := 0, slots := 0, locals := 0 } : Room).cells ({ frames := 0, cells := 0, slots := 0, locals := 0 } : Room).slots (s₁.setTop (entryFrame m #[(.int p0)] 1))
  rw [efnl m p0]
  generalize hW : OwnEnd p e below s (fun v h L => Qnl Z p0 h0 n0 v h L) ({ frames := 0, cells := 0, slots := 0, locals := 0 } : Room).cells ({ frames := 0, cells := 0, slots := 0, locals := 0 } : Room).slots = W
  have stp : ∀ {A B : State}, (∀ t, Steps p.tables e below B t → Steps p.tables e below A t) → W B → W A := by subst hW; exact own_step
  show W (s₁.setTop (mkF m 0 #[.val (.int p0)] []))
  refine stp (fun t k => XS.iloadN X0.here hx rfl (hb hby dnl_0) rfl k) ?_
  show W (s₁.setTop (mkF m 1 #[.val (.int p0)] [(.int p0)]))
  refine stp (fun t k => XS.ifYes X0.here hx rfl (pc0 := 1) (pc' := 12) rfl (hb hby dnl_1) rfl ((if0 _ _).trans (flt (hlo)).2.1) (by decide) (by decide) k) ?_
  show W (s₁.setTop (mkF m 12 #[.val (.int p0)] []))
  refine stp (fun t k => XS.iloadN X0.here hx rfl (hb hby dnl_12) rfl k) ?_
  show W (s₁.setTop (mkF m 13 #[.val (.int p0)] [(.int p0)]))
  refine stp (fun t k => X0.ldcInt hx hown (mvT hZ (hw _ (List.mem_of_getElem? (i := 117) rfl))) (g := (mkF m 13 #[.val (.int p0)] [(.int p0)])) rfl (hb hby dnl_13) _ k) ?_
  show W (s₁.setTop (mkF m 15 #[.val (.int p0)] [(.int (1073741823 : Int32)), (.int p0)]))
  refine stp (fun t k => XS.icmpYes X0.here hx rfl (pc0 := 15) (pc' := 55) rfl (hb hby dnl_15) rfl ((tlt (hhi)).1) (by decide) (by decide) k) ?_
  show W (s₁.setTop (mkF m 55 #[.val (.int p0)] []))
  refine stp (fun t k => XS.iloadN X0.here hx rfl (hb hby dnl_55) rfl k) ?_
  show W (s₁.setTop (mkF m 56 #[.val (.int p0)] [(.int p0)]))
  refine stp (fun t k => XS.iconst X0.here hx rfl (hb hby dnl_56) k) ?_
  show W (s₁.setTop (mkF m 57 #[.val (.int p0)] [(.int (1 : Int32)), (.int p0)]))
  refine stp (fun t k => XS.ishl X0.here hx rfl (hb hby dnl_57) rfl k) ?_
  show W (s₁.setTop (mkF m 58 #[.val (.int p0)] [(.int (p0 <<< ((1 : Int32) &&& 31)))]))
  show W (s₁.setTop (mkF m 58 #[.val (.int p0)] [(.int (p0 <<< ((1 : Int32) &&& 31)))]))
  rw [← hW]
  exact own_retI X0 hx Bd.notSynchronized Bd.returns (hb hby dnl_58) (by show Qnl Z p0 h0 n0 _ s₁.heap _; rw [e0]; exact ⟨rfl, N0, rfl⟩) (by decide) (by decide)
theorem dnf_0 : decode jdk_52_method_2_code 0 = .ok (.iload_n 0, 1) := by decide +kernel
theorem dnf_1 : decode jdk_52_method_2_code 1 = .ok (.invokestatic 11, 3) := by decide +kernel
theorem dnf_4 : decode jdk_52_method_2_code 4 = .ok (.newarray .byte, 2) := by decide +kernel
theorem dnf_6 : decode jdk_52_method_2_code 6 = .ok (.areturn, 1) := by decide +kernel
theorem pnnf : plainName "java/lang/StringUTF16" = true := by first | (simp [plainName, overriddenIn]; done) | decide +kernel
theorem pdnf_0 : parseMethodDescriptor "(I)I" = some ⟨[.int], some .int⟩ := by decide +kernel
theorem efnf (m : MethodId) (p0 : Int32) : entryFrame m #[(.int p0)] 1 = mkF m 0 #[.val (.int p0)] [] := by first | (simp [entryFrame, mkF, argsToLocals, Value.category]; done) | rfl
def Qnf (Z : State) (p0 : Int32) (wc : Int32) (sx : Value) (n : Nat) (h0 : Heap) (n0 : Nat) (v : Option Value) (h : Heap) (L : List Loc) : Prop := ∃ (b : Addr) (kb : ClassId), v = some (.ref b) ∧ Fr n0 L ∧ Keep h0 h [] ∧ h0.size ≤ b ∧ Arv Z h b kb .byte (Int32.ofNat (2 * n)) (own_vs (2 * n) fun _ => (0 : Int32)) (.int (0 : Int32))
set_option maxRecDepth 65536 in
set_option maxHeartbeats 40000000 in
theorem rmnf (l : Launch) (Z : State) (aa : Array Value) (hw : ∀ d ∈ tables_1, d.before aa Z = true) (ws : List Jvm.Cond) (p0 : Int32) (wc : Int32) (sx : Value) (n : Nat) (h0 : Heap) (n0 : Nat) (Z0 : n0 ≤ h0.size) (BW : OwnW Z wc sx) (O0 : Old Z n0 h0) (hn : n ≤ 2) (hp : p0.toInt = (n : Int)) :
    MetFree l (⟨"java/lang/StringUTF16", "newBytesFor", "(I)[B"⟩ : MethodName) (head1 (Jvm.Cond.code (⟨"java/lang/StringUTF16", "newBytesFor", "(I)[B"⟩ : MethodName) jdk_52_method_2_code 1 (some (.array .byte)) :: ws) ({ frames := 1, cells := 1, slots := 4, locals := 12 } : Room)) (fun a U => a = #[(.int p0)] ∧ Z.Warmed39 U.vm ∧ U.heap = h0) (fun _ _ _ _ _ => True) (fun _ U o U' => ∃ v L, o = .returned v ∧ Qnf Z p0 wc sx n h0 n0 v U'.heap L ∧ FrameEnd U o U' L ({ frames := 1, cells := 1, slots := 4, locals := 12 } : Room).cells ({ frames := 1, cells := 1, slots := 4, locals := 12 } : Room).slots) := by
  refine MetFree.of_bodySF (plainFor_of_name pnnf) hisR ?_
  intro p e s m args below meth c s₁ Bd hml0 hP hK
  obtain ⟨rfl, hZ, hh⟩ := hP
  have hx := Bd.exec
  have hby := Bd.bytes
  have hml : c.maxLocals = 1 := hml0
  have hown : s.vm.findClass "java/lang/StringUTF16" = some m.cls := findClass_of_methodNamed Bd.named
  have hnm := (name_of_methodNamed Bd.named Bd.method).1
  have X0 : Stand p l e ({ frames := 1, cells := 1, slots := 4, locals := 12 } : Room) s m #[(.int p0)] below meth c s₁ [] 0 0 := Stand.of_body Bd
  have e0 : s₁.heap = h0 := by rw [← hh, Bd.state]; rfl
  have N0 := Fr.nil n0
  show OwnEnd p e below s (fun v h L => Qnf Z p0 wc sx n h0 n0 v h L) ({ frames := 1, cells := 1, slots := 4, locals := 12 } : Room).cells ({ frames := 1, cells := 1, slots := 4, locals := 12 } : Room).slots (s₁.setTop (entryFrame m #[(.int p0)] 1))
  rw [efnf m p0]
  generalize hW : OwnEnd p e below s (fun v h L => Qnf Z p0 wc sx n h0 n0 v h L) ({ frames := 1, cells := 1, slots := 4, locals := 12 } : Room).cells ({ frames := 1, cells := 1, slots := 4, locals := 12 } : Room).slots = W
  have stp : ∀ {A B : State}, (∀ t, Steps p.tables e below B t → Steps p.tables e below A t) → W B → W A := by subst hW; exact own_step
  obtain ⟨S_cs, hcs, S_si, hr_sx, S_ad, S_hi, S_lo⟩ := id BW
  show W (s₁.setTop (mkF m 0 #[.val (.int p0)] []))
  refine stp (fun t k => XS.iloadN X0.here hx rfl (hb hby dnf_0) rfl k) ?_
  show W (s₁.setTop (mkF m 1 #[.val (.int p0)] [(.int p0)]))
  obtain ⟨_, _, ⟨Tnfc1, Lnfc1, knfc1, nnfc1⟩, -, Xnfc1, ⟨Lcnfc1, hQnfc1, lnfc1, ynfc1, znfc1⟩, stnfc1⟩ := Jvm.LawKit.callS X0 hx (y := (⟨"java/lang/StringUTF16", "newBytesLength", "(I)I"⟩ : MethodName)) hown (mvT hZ (hw _ (List.mem_of_getElem? (i := 114) rfl))) (mvT hZ (hw _ (List.mem_of_getElem? (i := 115) rfl))) (mvT hZ (hw _ (List.mem_of_getElem? (i := 68) rfl))) (mvT hZ (hw _ (List.mem_of_getElem? (i := 116) rfl))) (by decide) (backOf (W := 0) (rmnl l Z aa hw [] p0  h0 n0 Z0 (own_nn hp) ((own_lt32 hp (j := 1073741823) rfl).mpr (by omega))) hZ (hw _ (List.mem_of_getElem? (i := 116) rfl)) (hw _ (List.mem_of_getElem? (i := 68) rfl)) (by decide) (by decide)) (g := (mkF m 1 #[.val (.int p0)] [(.int p0)])) rfl (by rw [hml]; rfl) (argsL := [(.int p0)]) (rest := []) (lenOf pdnf_0 rfl) rfl (by show 2 * 0 + _ ≤ _; exact Nat.le_of_eq rfl) (hb hby dnf_1) (fun _ _ => ⟨rfl, e0, (by decide : 0 + 0 ≤ _), (by decide : 0 + 0 ≤ _)⟩)
  dsimp only [Pt.U, Pt.locs, Pt.cells, Pt.slots] at Xnfc1 lnfc1 ynfc1 znfc1 stnfc1 hQnfc1
  subst lnfc1 ynfc1 znfc1
  obtain ⟨rfl, Nnfc1q, enfc1⟩ := hQnfc1
  have Nnfc1 := Fr.app N0 Nnfc1q
  obtain ⟨lcnft2, Xnfc1, Nnfc1⟩ : ∃ lc, Stand p l e ({ frames := 1, cells := 1, slots := 4, locals := 12 } : Room) s m #[(.int p0)] below meth c Tnfc1 lc 0 0 ∧ Fr n0 lc := ⟨_, Xnfc1, Nnfc1⟩
  refine stp (fun t k => stnfc1 t k) ?_
  show W (Tnfc1.setTop (mkF m 4 #[.val (.int p0)] [(.int (fnl p0))]))
  rw [show (fnl p0) = (Int32.ofNat (2 * n)) from own_len2 hp (by omega)]
  show W (Tnfc1.setTop (mkF m 4 #[.val (.int p0)] [(.int (Int32.ofNat (2 * n)))]))
  obtain ⟨Tnf3, hnf3, knf3, Xnf3, enf3, Enf3, Anf3, stnf3⟩ := newP Xnfc1 hx hZ (hw _ (List.mem_of_getElem? (i := 22) rfl)) enfc1 (g := (mkF m 4 #[.val (.int p0)] [(.int (Int32.ofNat (2 * n)))])) rfl (hb hby dnf_4) rfl (own_nn (own_ofNat (n := 2 * n) (by omega))) (cap := 4) (by rw [own_clamp (own_ofNat (n := 2 * n) (by omega))]; omega) (by decide) (by decide) (by decide)
  obtain ⟨bnf3, gqnf3⟩ : ∃ z, z = h0.size := ⟨_, rfl⟩
  rw [← gqnf3] at Anf3 stnf3
  have g_bnf3 : n0 ≤ bnf3 := Nat.le_trans Z0 (Nat.le_of_eq gqnf3.symm)
  have sz_bnf3 : h0.size ≤ bnf3 := Nat.le_trans (Keep.refl h0 []).1 (Nat.le_of_eq gqnf3.symm)
  have Knf3 := (Keep.refl h0 []).ext Enf3
  have Znf3 := Nat.le_trans Z0 Enf3.1
  have Onf3 := O0.ext Enf3
  have V_bnf3 : Arv Z hnf3 bnf3 knf3 .byte (Int32.ofNat (2 * n)) (own_vs (2 * n) fun _ => (0 : Int32)) (.int (0 : Int32)) := (Arv.new Anf3 (own_nn (own_ofNat (n := 2 * n) (by omega)))).pad (own_vsPad _)
  refine stp (fun t k => stnf3 t k) ?_
  show W (Tnf3.setTop (mkF m 6 #[.val (.int p0)] [(.ref bnf3)]))
  show W (Tnf3.setTop (mkF m 6 #[.val (.int p0)] [(.ref bnf3)]))
  rw [← hW]
  exact own_retR Xnf3 hx Bd.notSynchronized Bd.returns rfl (hb hby dnf_6) (by show Qnf Z p0 wc sx n h0 n0 _ Tnf3.heap _; rw [enf3]; exact ⟨bnf3, knf3, rfl, Nnfc1, Knf3, sz_bnf3, V_bnf3⟩) (by decide) (by decide)
theorem dpc_0 : decode jdk_52_method_4_code 0 = .ok (.getstatic 44, 3) := by decide +kernel
theorem dpc_3 : decode jdk_52_method_4_code 3 = .ok (.ifCond .ne 25, 3) := by decide +kernel
theorem dpc_28 : decode jdk_52_method_4_code 28 = .ok (.iload_n 1, 1) := by decide +kernel
theorem dpc_29 : decode jdk_52_method_4_code 29 = .ok (.iconst 1, 1) := by decide +kernel
theorem dpc_30 : decode jdk_52_method_4_code 30 = .ok (.ishl, 1) := by decide +kernel
theorem dpc_31 : decode jdk_52_method_4_code 31 = .ok (.istore_n 1, 1) := by decide +kernel
theorem dpc_32 : decode jdk_52_method_4_code 32 = .ok (.aload_n 0, 1) := by decide +kernel
theorem dpc_33 : decode jdk_52_method_4_code 33 = .ok (.iload_n 1, 1) := by decide +kernel
theorem dpc_34 : decode jdk_52_method_4_code 34 = .ok (.iinc 1 1, 3) := by decide +kernel
theorem dpc_37 : decode jdk_52_method_4_code 37 = .ok (.iload_n 2, 1) := by decide +kernel
theorem dpc_38 : decode jdk_52_method_4_code 38 = .ok (.getstatic 59, 3) := by decide +kernel
theorem dpc_41 : decode jdk_52_method_4_code 41 = .ok (.ishr, 1) := by decide +kernel
theorem dpc_42 : decode jdk_52_method_4_code 42 = .ok (.i2b, 1) := by decide +kernel
theorem dpc_43 : decode jdk_52_method_4_code 43 = .ok (.bastore, 1) := by decide +kernel
theorem dpc_44 : decode jdk_52_method_4_code 44 = .ok (.aload_n 0, 1) := by decide +kernel
theorem dpc_45 : decode jdk_52_method_4_code 45 = .ok (.iload_n 1, 1) := by decide +kernel
theorem dpc_46 : decode jdk_52_method_4_code 46 = .ok (.iload_n 2, 1) := by decide +kernel
theorem dpc_47 : decode jdk_52_method_4_code 47 = .ok (.getstatic 63, 3) := by decide +kernel
theorem dpc_50 : decode jdk_52_method_4_code 50 = .ok (.ishr, 1) := by decide +kernel
theorem dpc_51 : decode jdk_52_method_4_code 51 = .ok (.i2b, 1) := by decide +kernel
theorem dpc_52 : decode jdk_52_method_4_code 52 = .ok (.bastore, 1) := by decide +kernel
theorem dpc_53 : decode jdk_52_method_4_code 53 = .ok (.return_, 1) := by decide +kernel
theorem pnpc : plainName "java/lang/StringUTF16" = true := by first | (simp [plainName, overriddenIn]; done) | decide +kernel
theorem efpc (m : MethodId) (a0 : Addr) (p1 : Int32) (p2 : Int32) : entryFrame m #[(.ref a0), (.int p1), (.int p2)] 3 = mkF m 0 #[.val (.ref a0), .val (.int p1), .val (.int p2)] [] := by first | (simp [entryFrame, mkF, argsToLocals, Value.category]; done) | rfl
def Qpc (Z : State) (a0 : Addr) (p1 : Int32) (p2 : Int32) (wc : Int32) (sx : Value) (kb : ClassId) (z : Int32) (vs : List Value) (i : Nat) (h0 : Heap) (n0 : Nat) (v : Option Value) (h : Heap) (L : List Loc) : Prop := v = none ∧ Fr n0 L ∧ Keep h0 h [a0] ∧ Arv Z h a0 kb .byte z ((vs.set (2 * i) (.int (own_lo p2))).set (2 * i + 1) (.int (own_hi p2))) (.int (0 : Int32))
set_option maxRecDepth 65536 in
set_option maxHeartbeats 40000000 in
theorem rmpc (l : Launch) (Z : State) (aa : Array Value) (hw : ∀ d ∈ tables_1, d.before aa Z = true) (ws : List Jvm.Cond) (a0 : Addr) (p1 : Int32) (p2 : Int32) (wc : Int32) (sx : Value) (kb : ClassId) (z : Int32) (vs : List Value) (i : Nat) (h0 : Heap) (n0 : Nat) (Z0 : n0 ≤ h0.size) (BW : OwnW Z wc sx) (O0 : Old Z n0 h0) (V_a0 : Arv Z h0 a0 kb .byte z vs (.int (0 : Int32))) (g_a0 : n0 ≤ a0) (hi : p1.toInt = (i : Int)) (hib : i ≤ 4000) (hz : z.toInt = (vs.length : Int)) (hil : 2 * i + 1 < vs.length) :
    MetFree l (⟨"java/lang/StringUTF16", "putChar", "([BII)V"⟩ : MethodName) (head1 (Jvm.Cond.code (⟨"java/lang/StringUTF16", "putChar", "([BII)V"⟩ : MethodName) jdk_52_method_4_code 3 none :: ws) ({ frames := 0, cells := 0, slots := 0, locals := 0 } : Room)) (fun a U => a = #[(.ref a0), (.int p1), (.int p2)] ∧ Z.Warmed39 U.vm ∧ U.heap = h0) (fun _ _ _ _ _ => True) (fun _ U o U' => ∃ v L, o = .returned v ∧ Qpc Z a0 p1 p2 wc sx kb z vs i h0 n0 v U'.heap L ∧ FrameEnd U o U' L ({ frames := 0, cells := 0, slots := 0, locals := 0 } : Room).cells ({ frames := 0, cells := 0, slots := 0, locals := 0 } : Room).slots) := by
  refine MetFree.of_bodySF (plainFor_of_name pnpc) hisR ?_
  intro p e s m args below meth c s₁ Bd hml0 hP hK
  obtain ⟨rfl, hZ, hh⟩ := hP
  have hx := Bd.exec
  have hby := Bd.bytes
  have hml : c.maxLocals = 3 := hml0
  have hown : s.vm.findClass "java/lang/StringUTF16" = some m.cls := findClass_of_methodNamed Bd.named
  have hnm := (name_of_methodNamed Bd.named Bd.method).1
  have X0 : Stand p l e ({ frames := 0, cells := 0, slots := 0, locals := 0 } : Room) s m #[(.ref a0), (.int p1), (.int p2)] below meth c s₁ [] 0 0 := Stand.of_body Bd
  have e0 : s₁.heap = h0 := by rw [← hh, Bd.state]; rfl
  have N0 := Fr.nil n0
  show OwnEnd p e below s (fun v h L => Qpc Z a0 p1 p2 wc sx kb z vs i h0 n0 v h L) ({ frames := 0, cells := 0, slots := 0, locals := 0 } : Room).cells ({ frames := 0, cells := 0, slots := 0, locals := 0 } : Room).slots (s₁.setTop (entryFrame m #[(.ref a0), (.int p1), (.int p2)] 3))
  rw [efpc m a0 p1 p2]
  generalize hW : OwnEnd p e below s (fun v h L => Qpc Z a0 p1 p2 wc sx kb z vs i h0 n0 v h L) ({ frames := 0, cells := 0, slots := 0, locals := 0 } : Room).cells ({ frames := 0, cells := 0, slots := 0, locals := 0 } : Room).slots = W
  have stp : ∀ {A B : State}, (∀ t, Steps p.tables e below B t → Steps p.tables e below A t) → W B → W A := by subst hW; exact own_step
  obtain ⟨S_cs, hcs, S_si, hr_sx, S_ad, S_hi, S_lo⟩ := id BW
  have d0 := own_shl1 hi (by omega)
  have d1 := own_inc d0 (by omega)
  show W (s₁.setTop (mkF m 0 #[.val (.ref a0), .val (.int p1), .val (.int p2)] []))
  obtain ⟨Tpc1, Xpc1, epc1, stpc1⟩ := getS2 X0 hx hZ hown (host := "") (Or.inl (hw _ (List.mem_of_getElem? (i := 105) rfl))) Via.refl e0 (S_ad.ext O0.2) (g := (mkF m 0 #[.val (.ref a0), .val (.int p1), .val (.int p2)] [])) rfl (hb hby dpc_0)
  refine stp (fun t k => stpc1 t k) ?_
  show W (Tpc1.setTop (mkF m 3 #[.val (.ref a0), .val (.int p1), .val (.int p2)] [(.int (1 : Int32))]))
  refine stp (fun t k => XS.ifYes Xpc1.here hx rfl (pc0 := 3) (pc' := 28) rfl (hb hby dpc_3) rfl ((if0 _ _).trans (feq (by decide)).2) (by decide) (by decide) k) ?_
  show W (Tpc1.setTop (mkF m 28 #[.val (.ref a0), .val (.int p1), .val (.int p2)] []))
  refine stp (fun t k => XS.iloadN Xpc1.here hx rfl (hb hby dpc_28) rfl k) ?_
  show W (Tpc1.setTop (mkF m 29 #[.val (.ref a0), .val (.int p1), .val (.int p2)] [(.int p1)]))
  refine stp (fun t k => XS.iconst Xpc1.here hx rfl (hb hby dpc_29) k) ?_
  show W (Tpc1.setTop (mkF m 30 #[.val (.ref a0), .val (.int p1), .val (.int p2)] [(.int (1 : Int32)), (.int p1)]))
  refine stp (fun t k => XS.ishl Xpc1.here hx rfl (hb hby dpc_30) rfl k) ?_
  show W (Tpc1.setTop (mkF m 31 #[.val (.ref a0), .val (.int p1), .val (.int p2)] [(.int (p1 <<< ((1 : Int32) &&& 31)))]))
  refine stp (fun t k => XS.istoreN Xpc1.here hx rfl (hb hby dpc_31) rfl (l' := #[.val (.ref a0), .val (.int (p1 <<< ((1 : Int32) &&& 31))), .val (.int p2)]) rfl k) ?_
  show W (Tpc1.setTop (mkF m 32 #[.val (.ref a0), .val (.int (p1 <<< ((1 : Int32) &&& 31))), .val (.int p2)] []))
  refine stp (fun t k => XS.aloadN Xpc1.here hx rfl (hb hby dpc_32) rfl rfl k) ?_
  show W (Tpc1.setTop (mkF m 33 #[.val (.ref a0), .val (.int (p1 <<< ((1 : Int32) &&& 31))), .val (.int p2)] [(.ref a0)]))
  refine stp (fun t k => XS.iloadN Xpc1.here hx rfl (hb hby dpc_33) rfl k) ?_
  show W (Tpc1.setTop (mkF m 34 #[.val (.ref a0), .val (.int (p1 <<< ((1 : Int32) &&& 31))), .val (.int p2)] [(.int (p1 <<< ((1 : Int32) &&& 31))), (.ref a0)]))
  refine stp (fun t k => XS.iinc Xpc1.here hx rfl (hb hby dpc_34) rfl (l' := #[.val (.ref a0), .val (.int ((p1 <<< ((1 : Int32) &&& 31)) + (1 : Int32))), .val (.int p2)]) rfl k) ?_
  show W (Tpc1.setTop (mkF m 37 #[.val (.ref a0), .val (.int ((p1 <<< ((1 : Int32) &&& 31)) + (1 : Int32))), .val (.int p2)] [(.int (p1 <<< ((1 : Int32) &&& 31))), (.ref a0)]))
  refine stp (fun t k => XS.iloadN Xpc1.here hx rfl (hb hby dpc_37) rfl k) ?_
  show W (Tpc1.setTop (mkF m 38 #[.val (.ref a0), .val (.int ((p1 <<< ((1 : Int32) &&& 31)) + (1 : Int32))), .val (.int p2)] [(.int p2), (.int (p1 <<< ((1 : Int32) &&& 31))), (.ref a0)]))
  obtain ⟨Tpc2, Xpc2, epc2, stpc2⟩ := getS2 Xpc1 hx hZ hown (host := "") (Or.inl (hw _ (List.mem_of_getElem? (i := 106) rfl))) Via.refl epc1 (S_hi.ext O0.2) (g := (mkF m 38 #[.val (.ref a0), .val (.int ((p1 <<< ((1 : Int32) &&& 31)) + (1 : Int32))), .val (.int p2)] [(.int p2), (.int (p1 <<< ((1 : Int32) &&& 31))), (.ref a0)])) rfl (hb hby dpc_38)
  refine stp (fun t k => stpc2 t k) ?_
  show W (Tpc2.setTop (mkF m 41 #[.val (.ref a0), .val (.int ((p1 <<< ((1 : Int32) &&& 31)) + (1 : Int32))), .val (.int p2)] [(.int (0 : Int32)), (.int p2), (.int (p1 <<< ((1 : Int32) &&& 31))), (.ref a0)]))
  refine stp (fun t k => XS.ishr Xpc2.here hx rfl (hb hby dpc_41) rfl k) ?_
  show W (Tpc2.setTop (mkF m 42 #[.val (.ref a0), .val (.int ((p1 <<< ((1 : Int32) &&& 31)) + (1 : Int32))), .val (.int p2)] [(.int (p2 >>> ((0 : Int32) &&& 31))), (.int (p1 <<< ((1 : Int32) &&& 31))), (.ref a0)]))
  refine stp (fun t k => XS.i2b Xpc2.here hx rfl (hb hby dpc_42) rfl k) ?_
  show W (Tpc2.setTop (mkF m 43 #[.val (.ref a0), .val (.int ((p1 <<< ((1 : Int32) &&& 31)) + (1 : Int32))), .val (.int p2)] [(.int ((p2 >>> ((0 : Int32) &&& 31)).toInt8.toInt32)), (.int (p1 <<< ((1 : Int32) &&& 31))), (.ref a0)]))
  obtain ⟨clpc3, Arpc3, qkpc3, qspc3, qnpc3, qhpc3, qgpc3⟩ := id V_a0
  have hinpc3 : ¬ ((p1 <<< ((1 : Int32) &&& 31)) < 0 ∨ clpc3.slots.size ≤ ((p1 <<< ((1 : Int32) &&& 31))).toNatClampNeg) := inb_of qspc3 ⟨own_nn d0, (own_lt32 d0 hz).mpr (by omega)⟩
  obtain ⟨Tpc3, hpc3, Xpc3, epc3, Wpc3, stpc3⟩ := stB Xpc2 hx hZ epc2 Arpc3 (j := (p1 <<< ((1 : Int32) &&& 31))) hinpc3 (g := (mkF m 43 #[.val (.ref a0), .val (.int ((p1 <<< ((1 : Int32) &&& 31)) + (1 : Int32))), .val (.int p2)] [(.int ((p2 >>> ((0 : Int32) &&& 31)).toInt8.toInt32)), (.int (p1 <<< ((1 : Int32) &&& 31))), (.ref a0)])) rfl rfl (hb hby dpc_43)
  have V_a0x := Arv.set Arpc3 qkpc3 qspc3 qnpc3 qhpc3 qgpc3 (fits_nar_byte _) Wpc3 (2 * i) (own_clamp d0) (by omega)
  have Npc3 := Fr.snoc Xpc3 N0 g_a0
  obtain ⟨lcpct4, Xpc3, Npc3⟩ : ∃ lc, Stand p l e ({ frames := 0, cells := 0, slots := 0, locals := 0 } : Room) s m #[(.ref a0), (.int p1), (.int p2)] below meth c Tpc3 lc 0 0 ∧ Fr n0 lc := ⟨_, Xpc3, Npc3⟩
  have Kpc3 := (Keep.refl h0 [a0]).wr Wpc3 (Or.inl (List.mem_of_getElem? (i := 0) rfl))
  have Zpc3 := Nat.le_trans Z0 (Keep.of_wr Wpc3).1
  have Opc3 := O0.wr Wpc3 g_a0
  replace V_a0 : Arv Z hpc3 a0 kb .byte z (vs.set (2 * i) (.int (own_lo p2))) (.int (0 : Int32)) := own_arvEq (rfl) V_a0x
  refine stp (fun t k => stpc3 t k) ?_
  show W (Tpc3.setTop (mkF m 44 #[.val (.ref a0), .val (.int ((p1 <<< ((1 : Int32) &&& 31)) + (1 : Int32))), .val (.int p2)] []))
  refine stp (fun t k => XS.aloadN Xpc3.here hx rfl (hb hby dpc_44) rfl rfl k) ?_
  show W (Tpc3.setTop (mkF m 45 #[.val (.ref a0), .val (.int ((p1 <<< ((1 : Int32) &&& 31)) + (1 : Int32))), .val (.int p2)] [(.ref a0)]))
  refine stp (fun t k => XS.iloadN Xpc3.here hx rfl (hb hby dpc_45) rfl k) ?_
  show W (Tpc3.setTop (mkF m 46 #[.val (.ref a0), .val (.int ((p1 <<< ((1 : Int32) &&& 31)) + (1 : Int32))), .val (.int p2)] [(.int ((p1 <<< ((1 : Int32) &&& 31)) + (1 : Int32))), (.ref a0)]))
  refine stp (fun t k => XS.iloadN Xpc3.here hx rfl (hb hby dpc_46) rfl k) ?_
  show W (Tpc3.setTop (mkF m 47 #[.val (.ref a0), .val (.int ((p1 <<< ((1 : Int32) &&& 31)) + (1 : Int32))), .val (.int p2)] [(.int p2), (.int ((p1 <<< ((1 : Int32) &&& 31)) + (1 : Int32))), (.ref a0)]))
  obtain ⟨Tpc5, Xpc5, epc5, stpc5⟩ := getS2 Xpc3 hx hZ hown (host := "") (Or.inl (hw _ (List.mem_of_getElem? (i := 107) rfl))) Via.refl epc3 (S_lo.ext Opc3.2) (g := (mkF m 47 #[.val (.ref a0), .val (.int ((p1 <<< ((1 : Int32) &&& 31)) + (1 : Int32))), .val (.int p2)] [(.int p2), (.int ((p1 <<< ((1 : Int32) &&& 31)) + (1 : Int32))), (.ref a0)])) rfl (hb hby dpc_47)
  refine stp (fun t k => stpc5 t k) ?_
  show W (Tpc5.setTop (mkF m 50 #[.val (.ref a0), .val (.int ((p1 <<< ((1 : Int32) &&& 31)) + (1 : Int32))), .val (.int p2)] [(.int (8 : Int32)), (.int p2), (.int ((p1 <<< ((1 : Int32) &&& 31)) + (1 : Int32))), (.ref a0)]))
  refine stp (fun t k => XS.ishr Xpc5.here hx rfl (hb hby dpc_50) rfl k) ?_
  show W (Tpc5.setTop (mkF m 51 #[.val (.ref a0), .val (.int ((p1 <<< ((1 : Int32) &&& 31)) + (1 : Int32))), .val (.int p2)] [(.int (p2 >>> ((8 : Int32) &&& 31))), (.int ((p1 <<< ((1 : Int32) &&& 31)) + (1 : Int32))), (.ref a0)]))
  refine stp (fun t k => XS.i2b Xpc5.here hx rfl (hb hby dpc_51) rfl k) ?_
  show W (Tpc5.setTop (mkF m 52 #[.val (.ref a0), .val (.int ((p1 <<< ((1 : Int32) &&& 31)) + (1 : Int32))), .val (.int p2)] [(.int ((p2 >>> ((8 : Int32) &&& 31)).toInt8.toInt32)), (.int ((p1 <<< ((1 : Int32) &&& 31)) + (1 : Int32))), (.ref a0)]))
  obtain ⟨clpc6, Arpc6, qkpc6, qspc6, qnpc6, qhpc6, qgpc6⟩ := id V_a0
  have hinpc6 : ¬ (((p1 <<< ((1 : Int32) &&& 31)) + (1 : Int32)) < 0 ∨ clpc6.slots.size ≤ (((p1 <<< ((1 : Int32) &&& 31)) + (1 : Int32))).toNatClampNeg) := inb_of qspc6 ⟨own_nn d1, (own_lt32 d1 hz).mpr (by omega)⟩
  obtain ⟨Tpc6, hpc6, Xpc6, epc6, Wpc6, stpc6⟩ := stB Xpc5 hx hZ epc5 Arpc6 (j := ((p1 <<< ((1 : Int32) &&& 31)) + (1 : Int32))) hinpc6 (g := (mkF m 52 #[.val (.ref a0), .val (.int ((p1 <<< ((1 : Int32) &&& 31)) + (1 : Int32))), .val (.int p2)] [(.int ((p2 >>> ((8 : Int32) &&& 31)).toInt8.toInt32)), (.int ((p1 <<< ((1 : Int32) &&& 31)) + (1 : Int32))), (.ref a0)])) rfl rfl (hb hby dpc_52)
  have V_a0x := Arv.set Arpc6 qkpc6 qspc6 qnpc6 qhpc6 qgpc6 (fits_nar_byte _) Wpc6 (2 * i + 1) (own_clamp d1) (by simp only [List.length_set]; omega)
  have Npc6 := Fr.snoc Xpc6 Npc3 g_a0
  obtain ⟨lcpct7, Xpc6, Npc6⟩ : ∃ lc, Stand p l e ({ frames := 0, cells := 0, slots := 0, locals := 0 } : Room) s m #[(.ref a0), (.int p1), (.int p2)] below meth c Tpc6 lc 0 0 ∧ Fr n0 lc := ⟨_, Xpc6, Npc6⟩
  have Kpc6 := Kpc3.wr Wpc6 (Or.inl (List.mem_of_getElem? (i := 0) rfl))
  have Zpc6 := Nat.le_trans Zpc3 (Keep.of_wr Wpc6).1
  have Opc6 := Opc3.wr Wpc6 g_a0
  replace V_a0 : Arv Z hpc6 a0 kb .byte z ((vs.set (2 * i) (.int (own_lo p2))).set (2 * i + 1) (.int (own_hi p2))) (.int (0 : Int32)) := own_arvEq (rfl) V_a0x
  refine stp (fun t k => stpc6 t k) ?_
  show W (Tpc6.setTop (mkF m 53 #[.val (.ref a0), .val (.int ((p1 <<< ((1 : Int32) &&& 31)) + (1 : Int32))), .val (.int p2)] []))
  show W (Tpc6.setTop (mkF m 53 #[.val (.ref a0), .val (.int ((p1 <<< ((1 : Int32) &&& 31)) + (1 : Int32))), .val (.int p2)] []))
  rw [← hW]
  exact own_ret0 Xpc6 hx Bd.notSynchronized Bd.returns (hb hby dpc_53) (by show Qpc Z a0 p1 p2 wc sx kb z vs i h0 n0 _ Tpc6.heap _; rw [epc6]; exact ⟨rfl, Npc6, Kpc6, V_a0⟩) (by decide) (by decide)
theorem own_step2 (n i : Nat) (g : Nat → Int32) : ((own_vs (2 * n) fun j => if j < 2 * i then own_u g j else (0 : Int32)).set (2 * i) (.int (own_lo (g i)))).set (2 * i + 1) (.int (own_hi (g i))) = own_vs (2 * n) fun j => if j < 2 * (i + 1) then own_u g j else (0 : Int32) := by
  rw [own_vsSet, own_vsSet]
  apply own_vsCongr
  intro j _
  by_cases h : j = 2 * i + 1
  · subst h; simp [own_u1, show 2 * i + 1 < 2 * (i + 1) from by omega]
  · by_cases h2 : j = 2 * i
    · subst h2; simp [h, own_u0, show 2 * i < 2 * (i + 1) from by omega]
    · by_cases h3 : j < 2 * i
      · simp [h, h2, h3, show j < 2 * (i + 1) from by omega]
      · simp [h, h2, h3, show ¬ j < 2 * (i + 1) from by omega]
theorem dtb_0 : decode jdk_52_method_14_code 0 = .ok (.iload_n 2, 1) := by decide +kernel
theorem dtb_1 : decode jdk_52_method_14_code 1 = .ok (.invokestatic 107, 3) := by decide +kernel
theorem dtb_4 : decode jdk_52_method_14_code 4 = .ok (.astore_n 3, 1) := by decide +kernel
theorem dtb_5 : decode jdk_52_method_14_code 5 = .ok (.iconst 0, 1) := by decide +kernel
theorem dtb_6 : decode jdk_52_method_14_code 6 = .ok (.istore 4, 2) := by decide +kernel
theorem dtb_8 : decode jdk_52_method_14_code 8 = .ok (.iload 4, 2) := by decide +kernel
theorem dtb_10 : decode jdk_52_method_14_code 10 = .ok (.iload_n 2, 1) := by decide +kernel
theorem dtb_11 : decode jdk_52_method_14_code 11 = .ok (.if_icmp .ge 21, 3) := by decide +kernel
theorem dtb_14 : decode jdk_52_method_14_code 14 = .ok (.aload_n 3, 1) := by decide +kernel
theorem dtb_15 : decode jdk_52_method_14_code 15 = .ok (.iload 4, 2) := by decide +kernel
theorem dtb_17 : decode jdk_52_method_14_code 17 = .ok (.aload_n 0, 1) := by decide +kernel
theorem dtb_18 : decode jdk_52_method_14_code 18 = .ok (.iload_n 1, 1) := by decide +kernel
theorem dtb_19 : decode jdk_52_method_14_code 19 = .ok (.caload, 1) := by decide +kernel
theorem dtb_20 : decode jdk_52_method_14_code 20 = .ok (.invokestatic 111, 3) := by decide +kernel
theorem dtb_23 : decode jdk_52_method_14_code 23 = .ok (.iinc 1 1, 3) := by decide +kernel
theorem dtb_26 : decode jdk_52_method_14_code 26 = .ok (.iinc 4 1, 3) := by decide +kernel
theorem dtb_29 : decode jdk_52_method_14_code 29 = .ok (.goto (-21), 3) := by decide +kernel
theorem dtb_32 : decode jdk_52_method_14_code 32 = .ok (.aload_n 3, 1) := by decide +kernel
theorem dtb_33 : decode jdk_52_method_14_code 33 = .ok (.areturn, 1) := by decide +kernel
theorem pntb : plainName "java/lang/StringUTF16" = true := by first | (simp [plainName, overriddenIn]; done) | decide +kernel
theorem pdtb_0 : parseMethodDescriptor "(I)[B" = some ⟨[.int], some (.array .byte)⟩ := by decide +kernel
theorem pdtb_1 : parseMethodDescriptor "([BII)V" = some ⟨[(.array .byte), .int, .int], none⟩ := by decide +kernel
theorem eftb (m : MethodId) (a0 : Addr) (p1 : Int32) (p2 : Int32) : entryFrame m #[(.ref a0), (.int p1), (.int p2)] 5 = mkF m 0 #[.val (.ref a0), .val (.int p1), .val (.int p2), .unset, .unset] [] := by first | (simp [entryFrame, mkF, argsToLocals, Value.category]; done) | rfl
def Qtb (Z : State) (a0 : Addr) (p1 : Int32) (p2 : Int32) (wc : Int32) (sx : Value) (n : Nat) (g : Nat → Int32) (ka : ClassId) (h0 : Heap) (n0 : Nat) (v : Option Value) (h : Heap) (L : List Loc) : Prop := ∃ (b : Addr) (kb : ClassId), v = some (.ref b) ∧ Fr n0 L ∧ Keep h0 h [] ∧ h0.size ≤ b ∧ Arv Z h b kb .byte (Int32.ofNat (2 * n)) (own_vs (2 * n) (own_u g)) (.int (0 : Int32))
set_option maxRecDepth 65536 in
set_option maxHeartbeats 40000000 in
theorem rmtb (l : Launch) (Z : State) (aa : Array Value) (hw : ∀ d ∈ tables_1, d.before aa Z = true) (ws : List Jvm.Cond) (a0 : Addr) (p1 : Int32) (p2 : Int32) (wc : Int32) (sx : Value) (n : Nat) (g : Nat → Int32) (ka : ClassId) (h0 : Heap) (n0 : Nat) (Z0 : n0 ≤ h0.size) (BW : OwnW Z wc sx) (O0 : Old Z n0 h0) (hn : n ≤ 2) (hch : ∀ j, j < n → 0 ≤ (g j).toInt ∧ (g j).toInt < 65536) (V_a0 : Arv Z h0 a0 ka .char (Int32.ofNat n) (own_vs n g) (.int (0 : Int32))) (hp1 : p1 = (0 : Int32)) (hp2 : p2 = (Int32.ofNat n)) :
    MetFree l (⟨"java/lang/StringUTF16", "toBytes", "([CII)[B"⟩ : MethodName) (head1 (Jvm.Cond.code (⟨"java/lang/StringUTF16", "toBytes", "([CII)[B"⟩ : MethodName) jdk_52_method_14_code 5 (some (.array .byte)) :: ws) ({ frames := 2, cells := 1, slots := 4, locals := 24 } : Room)) (fun a U => a = #[(.ref a0), (.int p1), (.int p2)] ∧ Z.Warmed39 U.vm ∧ U.heap = h0) (fun _ _ _ _ _ => True) (fun _ U o U' => ∃ v L, o = .returned v ∧ Qtb Z a0 p1 p2 wc sx n g ka h0 n0 v U'.heap L ∧ FrameEnd U o U' L ({ frames := 2, cells := 1, slots := 4, locals := 24 } : Room).cells ({ frames := 2, cells := 1, slots := 4, locals := 24 } : Room).slots) := by
  refine MetFree.of_bodySF (plainFor_of_name pntb) hisR ?_
  intro p e s m args below meth c s₁ Bd hml0 hP hK
  obtain ⟨rfl, hZ, hh⟩ := hP
  have hx := Bd.exec
  have hby := Bd.bytes
  have hml : c.maxLocals = 5 := hml0
  have hown : s.vm.findClass "java/lang/StringUTF16" = some m.cls := findClass_of_methodNamed Bd.named
  have hnm := (name_of_methodNamed Bd.named Bd.method).1
  have X0 : Stand p l e ({ frames := 2, cells := 1, slots := 4, locals := 24 } : Room) s m #[(.ref a0), (.int p1), (.int p2)] below meth c s₁ [] 0 0 := Stand.of_body Bd
  have e0 : s₁.heap = h0 := by rw [← hh, Bd.state]; rfl
  have N0 := Fr.nil n0
  show OwnEnd p e below s (fun v h L => Qtb Z a0 p1 p2 wc sx n g ka h0 n0 v h L) ({ frames := 2, cells := 1, slots := 4, locals := 24 } : Room).cells ({ frames := 2, cells := 1, slots := 4, locals := 24 } : Room).slots (s₁.setTop (entryFrame m #[(.ref a0), (.int p1), (.int p2)] 5))
  rw [eftb m a0 p1 p2]
  generalize hW : OwnEnd p e below s (fun v h L => Qtb Z a0 p1 p2 wc sx n g ka h0 n0 v h L) ({ frames := 2, cells := 1, slots := 4, locals := 24 } : Room).cells ({ frames := 2, cells := 1, slots := 4, locals := 24 } : Room).slots = W
  have stp : ∀ {A B : State}, (∀ t, Steps p.tables e below B t → Steps p.tables e below A t) → W B → W A := by subst hW; exact own_step
  obtain ⟨S_cs, hcs, S_si, hr_sx, S_ad, S_hi, S_lo⟩ := id BW
  have hz := own_ofNat (n := n) (by omega)
  have hz2 := own_ofNat (n := 2 * n) (by omega)
  subst hp1 hp2
  show W (s₁.setTop (mkF m 0 #[.val (.ref a0), .val (.int (0 : Int32)), .val (.int (Int32.ofNat n)), .unset, .unset] []))
  refine stp (fun t k => XS.iloadN X0.here hx rfl (hb hby dtb_0) rfl k) ?_
  show W (s₁.setTop (mkF m 1 #[.val (.ref a0), .val (.int (0 : Int32)), .val (.int (Int32.ofNat n)), .unset, .unset] [(.int (Int32.ofNat n))]))
  obtain ⟨_, _, ⟨Ttbc1, Ltbc1, ktbc1, ntbc1⟩, -, Xtbc1, ⟨Lctbc1, hQtbc1, ltbc1, ytbc1, ztbc1⟩, sttbc1⟩ := Jvm.LawKit.callS X0 hx (y := (⟨"java/lang/StringUTF16", "newBytesFor", "(I)[B"⟩ : MethodName)) hown (mvT hZ (hw _ (List.mem_of_getElem? (i := 111) rfl))) (mvT hZ (hw _ (List.mem_of_getElem? (i := 112) rfl))) (mvT hZ (hw _ (List.mem_of_getElem? (i := 68) rfl))) (mvT hZ (hw _ (List.mem_of_getElem? (i := 113) rfl))) (by decide) (backOf (W := 0) (rmnf l Z aa hw [] (Int32.ofNat n) wc sx n h0 n0 Z0 BW O0 hn hz) hZ (hw _ (List.mem_of_getElem? (i := 113) rfl)) (hw _ (List.mem_of_getElem? (i := 68) rfl)) (by decide) (by decide)) (g := (mkF m 1 #[.val (.ref a0), .val (.int (0 : Int32)), .val (.int (Int32.ofNat n)), .unset, .unset] [(.int (Int32.ofNat n))])) rfl (by rw [hml]; rfl) (argsL := [(.int (Int32.ofNat n))]) (rest := []) (lenOf pdtb_0 rfl) rfl (by show 2 * 0 + _ ≤ _; exact Nat.le_of_eq rfl) (hb hby dtb_1) (fun _ _ => ⟨rfl, e0, (by decide : 0 + 1 ≤ _), (by decide : 0 + 4 ≤ _)⟩)
  dsimp only [Pt.U, Pt.locs, Pt.cells, Pt.slots] at Xtbc1 ltbc1 ytbc1 ztbc1 sttbc1 hQtbc1
  subst ltbc1 ytbc1 ztbc1
  obtain ⟨btbc1, kbtbc1, rfl, Ntbc1q, Kqtbc1, sz_btbc1, V_btbc1⟩ := hQtbc1
  have Ntbc1 := Fr.app N0 Ntbc1q
  obtain ⟨lctbt2, Xtbc1, Ntbc1⟩ : ∃ lc, Stand p l e ({ frames := 2, cells := 1, slots := 4, locals := 24 } : Room) s m #[(.ref a0), (.int (0 : Int32)), (.int (Int32.ofNat n))] below meth c Ttbc1 lc 1 4 ∧ Fr n0 lc := ⟨_, Xtbc1, Ntbc1⟩
  obtain ⟨htbc1, etbc1⟩ : ∃ h, Ttbc1.heap = h := ⟨_, rfl⟩
  rw [etbc1] at Kqtbc1 V_btbc1
  have ne_a0_btbc1 : a0 ≠ btbc1 := Nat.ne_of_lt (Nat.lt_of_lt_of_le V_a0.lt sz_btbc1)
  have g_btbc1 : n0 ≤ btbc1 := Nat.le_trans Z0 sz_btbc1
  have sz_btbc1 : h0.size ≤ btbc1 := Nat.le_trans (Keep.refl h0 []).1 sz_btbc1
  replace V_a0 := V_a0.keep Kqtbc1 nin0
  have KKtbc1 := Keep.trans (Keep.refl h0 []) Kqtbc1 all0
  have Ztbc1 := Nat.le_trans Z0 Kqtbc1.1
  have Otbc1 := O0.keep Kqtbc1 all0
  refine stp (fun t k => sttbc1 t k) ?_
  show W (Ttbc1.setTop (mkF m 4 #[.val (.ref a0), .val (.int (0 : Int32)), .val (.int (Int32.ofNat n)), .unset, .unset] [(.ref btbc1)]))
  refine stp (fun t k => XS.astoreN Xtbc1.here hx rfl (hb hby dtb_4) rfl rfl (l' := #[.val (.ref a0), .val (.int (0 : Int32)), .val (.int (Int32.ofNat n)), .val (.ref btbc1), .unset]) rfl k) ?_
  show W (Ttbc1.setTop (mkF m 5 #[.val (.ref a0), .val (.int (0 : Int32)), .val (.int (Int32.ofNat n)), .val (.ref btbc1), .unset] []))
  refine stp (fun t k => XS.iconst Xtbc1.here hx rfl (hb hby dtb_5) k) ?_
  show W (Ttbc1.setTop (mkF m 6 #[.val (.ref a0), .val (.int (0 : Int32)), .val (.int (Int32.ofNat n)), .val (.ref btbc1), .unset] [(.int (0 : Int32))]))
  refine stp (fun t k => XS.istore Xtbc1.here hx rfl (hb hby dtb_6) rfl (l' := #[.val (.ref a0), .val (.int (0 : Int32)), .val (.int (Int32.ofNat n)), .val (.ref btbc1), .val (.int (0 : Int32))]) rfl k) ?_
  have LP : ∀ (r i : Nat) (x1 : Int32) (x4 : Int32) (T' : State) (lc : List Loc) (h' : Heap) (hir : i + r = n) (hx1 : x1.toInt = (i : Int)) (hx4 : x4.toInt = (i : Int)) (XL : Stand p l e ({ frames := 2, cells := 1, slots := 4, locals := 24 } : Room) s m #[(.ref a0), (.int (0 : Int32)), (.int (Int32.ofNat n))] below meth c T' lc 1 4) (eL : T'.heap = h') (NL : Fr n0 lc) (KL : Keep h0 h' []) (OL : Old Z n0 h') (V_a0 : Arv Z h' a0 ka .char (Int32.ofNat n) (own_vs n g) (.int (0 : Int32))) (V_btbc1 : Arv Z h' btbc1 kbtbc1 .byte (Int32.ofNat (2 * n)) (own_vs (2 * n) fun j => if j < 2 * i then own_u g j else (0 : Int32)) (.int (0 : Int32))), W (T'.setTop (mkF m 8 #[.val (.ref a0), .val (.int x1), .val (.int (Int32.ofNat n)), .val (.ref btbc1), .val (.int x4)] [])) := by
    intro r
    induction r with
    | zero =>
      intro i x1 x4 T' lc h' hir hx1 hx4 XL eL NL KL OL V_a0 V_btbc1
      have ZL : n0 ≤ h'.size := Nat.le_trans Z0 KL.1
      show W (T'.setTop (mkF m 8 #[.val (.ref a0), .val (.int x1), .val (.int (Int32.ofNat n)), .val (.ref btbc1), .val (.int x4)] []))
      refine stp (fun t k => XS.iload XL.here hx rfl (hb hby dtb_8) rfl k) ?_
      show W (T'.setTop (mkF m 10 #[.val (.ref a0), .val (.int x1), .val (.int (Int32.ofNat n)), .val (.ref btbc1), .val (.int x4)] [(.int x4)]))
      refine stp (fun t k => XS.iloadN XL.here hx rfl (hb hby dtb_10) rfl k) ?_
      show W (T'.setTop (mkF m 11 #[.val (.ref a0), .val (.int x1), .val (.int (Int32.ofNat n)), .val (.ref btbc1), .val (.int x4)] [(.int (Int32.ofNat n)), (.int x4)]))
      refine stp (fun t k => XS.icmpYes XL.here hx rfl (pc0 := 11) (pc' := 32) rfl (hb hby dtb_11) rfl ((flt (fun q => by have := (own_lt32 hx4 hz).mp q; omega)).2.1) (by decide) (by decide) k) ?_
      show W (T'.setTop (mkF m 32 #[.val (.ref a0), .val (.int x1), .val (.int (Int32.ofNat n)), .val (.ref btbc1), .val (.int x4)] []))
      refine stp (fun t k => XS.aloadN XL.here hx rfl (hb hby dtb_32) rfl rfl k) ?_
      show W (T'.setTop (mkF m 33 #[.val (.ref a0), .val (.int x1), .val (.int (Int32.ofNat n)), .val (.ref btbc1), .val (.int x4)] [(.ref btbc1)]))
      show W (T'.setTop (mkF m 33 #[.val (.ref a0), .val (.int x1), .val (.int (Int32.ofNat n)), .val (.ref btbc1), .val (.int x4)] [(.ref btbc1)]))
      rw [← hW]
      exact own_retR XL hx Bd.notSynchronized Bd.returns rfl (hb hby dtb_33) (by show Qtb Z a0 (0 : Int32) (Int32.ofNat n) wc sx n g ka h0 n0 _ T'.heap _; rw [eL]; exact ⟨btbc1, kbtbc1, rfl, NL, KL, sz_btbc1, (by obtain rfl : i = n := (by omega); exact own_arvEq (own_vsCongr (fun j hj => if_pos hj)) V_btbc1)⟩) (by decide) (by decide)
    | succ r ih =>
      intro i x1 x4 T' lc h' hir hx1 hx4 XL eL NL KL OL V_a0 V_btbc1
      have ZL : n0 ≤ h'.size := Nat.le_trans Z0 KL.1
      show W (T'.setTop (mkF m 8 #[.val (.ref a0), .val (.int x1), .val (.int (Int32.ofNat n)), .val (.ref btbc1), .val (.int x4)] []))
      refine stp (fun t k => XS.iload XL.here hx rfl (hb hby dtb_8) rfl k) ?_
      show W (T'.setTop (mkF m 10 #[.val (.ref a0), .val (.int x1), .val (.int (Int32.ofNat n)), .val (.ref btbc1), .val (.int x4)] [(.int x4)]))
      refine stp (fun t k => XS.iloadN XL.here hx rfl (hb hby dtb_10) rfl k) ?_
      show W (T'.setTop (mkF m 11 #[.val (.ref a0), .val (.int x1), .val (.int (Int32.ofNat n)), .val (.ref btbc1), .val (.int x4)] [(.int (Int32.ofNat n)), (.int x4)]))
      refine stp (fun t k => XS.icmpNo XL.here hx rfl (hb hby dtb_11) rfl ((tlt ((own_lt32 hx4 hz).mpr (by omega))).2.1) k) ?_
      show W (T'.setTop (mkF m 14 #[.val (.ref a0), .val (.int x1), .val (.int (Int32.ofNat n)), .val (.ref btbc1), .val (.int x4)] []))
      refine stp (fun t k => XS.aloadN XL.here hx rfl (hb hby dtb_14) rfl rfl k) ?_
      show W (T'.setTop (mkF m 15 #[.val (.ref a0), .val (.int x1), .val (.int (Int32.ofNat n)), .val (.ref btbc1), .val (.int x4)] [(.ref btbc1)]))
      refine stp (fun t k => XS.iload XL.here hx rfl (hb hby dtb_15) rfl k) ?_
      show W (T'.setTop (mkF m 17 #[.val (.ref a0), .val (.int x1), .val (.int (Int32.ofNat n)), .val (.ref btbc1), .val (.int x4)] [(.int x4), (.ref btbc1)]))
      refine stp (fun t k => XS.aloadN XL.here hx rfl (hb hby dtb_17) rfl rfl k) ?_
      show W (T'.setTop (mkF m 18 #[.val (.ref a0), .val (.int x1), .val (.int (Int32.ofNat n)), .val (.ref btbc1), .val (.int x4)] [(.ref a0), (.int x4), (.ref btbc1)]))
      refine stp (fun t k => XS.iloadN XL.here hx rfl (hb hby dtb_18) rfl k) ?_
      show W (T'.setTop (mkF m 19 #[.val (.ref a0), .val (.int x1), .val (.int (Int32.ofNat n)), .val (.ref btbc1), .val (.int x4)] [(.int x1), (.ref a0), (.int x4), (.ref btbc1)]))
      obtain ⟨cltb3, Artb3, qktb3, qstb3, qntb3, qhtb3, qgtb3⟩ := id V_a0
      have hintb3 : ¬ (x1 < 0 ∨ cltb3.slots.size ≤ (x1).toNatClampNeg) := inb_of qstb3 ⟨own_nn hx1, (own_lt32 hx1 hz).mpr (by omega)⟩
      have hattb3 : cltb3.slots[(x1).toNatClampNeg]? = some (.int (g i)) := qhtb3.at hintb3 (by rw [own_clamp hx1, own_vsGet (by omega)])
      refine stp (fun t k => XL.caload hx (j := x1) (v := (.int (g i))) (by rw [eL]; exact Artb3.1) (State.isArrayOf_alike hZ.alike Artb3.2.1) Artb3.2.2 hintb3 hattb3 (g := (mkF m 19 #[.val (.ref a0), .val (.int x1), .val (.int (Int32.ofNat n)), .val (.ref btbc1), .val (.int x4)] [(.int x1), (.ref a0), (.int x4), (.ref btbc1)])) rfl rfl (hb hby dtb_19) _ k) ?_
      show W (T'.setTop (mkF m 20 #[.val (.ref a0), .val (.int x1), .val (.int (Int32.ofNat n)), .val (.ref btbc1), .val (.int x4)] [(.int (g i)), (.int x4), (.ref btbc1)]))
      obtain ⟨_, _, ⟨Ttbc4, Ltbc4, ktbc4, ntbc4⟩, -, Xtbc4, ⟨Lctbc4, hQtbc4, ltbc4, ytbc4, ztbc4⟩, sttbc4⟩ := Jvm.LawKit.callS XL hx (y := (⟨"java/lang/StringUTF16", "putChar", "([BII)V"⟩ : MethodName)) hown (mvT hZ (hw _ (List.mem_of_getElem? (i := 102) rfl))) (mvT hZ (hw _ (List.mem_of_getElem? (i := 103) rfl))) (mvT hZ (hw _ (List.mem_of_getElem? (i := 68) rfl))) (mvT hZ (hw _ (List.mem_of_getElem? (i := 104) rfl))) (by decide) (backOf (W := 0) (rmpc l Z aa hw [] btbc1 x4 (g i) wc sx kbtbc1 (Int32.ofNat (2 * n)) (own_vs (2 * n) fun j => if j < 2 * i then own_u g j else (0 : Int32)) i h' n0 ZL BW OL V_btbc1 g_btbc1 hx4 (by omega) (by rw [own_vsLen]; exact hz2) (by rw [own_vsLen]; omega)) hZ (hw _ (List.mem_of_getElem? (i := 104) rfl)) (hw _ (List.mem_of_getElem? (i := 68) rfl)) (by decide) (by decide)) (g := (mkF m 20 #[.val (.ref a0), .val (.int x1), .val (.int (Int32.ofNat n)), .val (.ref btbc1), .val (.int x4)] [(.int (g i)), (.int x4), (.ref btbc1)])) rfl (by rw [hml]; rfl) (argsL := [(.ref btbc1), (.int x4), (.int (g i))]) (rest := []) (lenOf pdtb_1 rfl) rfl (by show 2 * 0 + _ ≤ _; exact Nat.le_of_eq rfl) (hb hby dtb_20) (fun _ _ => ⟨rfl, eL, (by decide : 1 + 0 ≤ _), (by decide : 4 + 0 ≤ _)⟩)
      dsimp only [Pt.U, Pt.locs, Pt.cells, Pt.slots] at Xtbc4 ltbc4 ytbc4 ztbc4 sttbc4 hQtbc4
      subst ltbc4 ytbc4 ztbc4
      obtain ⟨rfl, Ntbc4q, Kqtbc4, Vtbc4⟩ := hQtbc4
      have Ntbc4 := Fr.app NL Ntbc4q
      obtain ⟨lctbt5, Xtbc4, Ntbc4⟩ : ∃ lc, Stand p l e ({ frames := 2, cells := 1, slots := 4, locals := 24 } : Room) s m #[(.ref a0), (.int (0 : Int32)), (.int (Int32.ofNat n))] below meth c Ttbc4 lc 1 4 ∧ Fr n0 lc := ⟨_, Xtbc4, Ntbc4⟩
      obtain ⟨htbc4, etbc4⟩ : ∃ h, Ttbc4.heap = h := ⟨_, rfl⟩
      rw [etbc4] at Kqtbc4 Vtbc4
      replace V_a0 := V_a0.keep Kqtbc4 (ninS ne_a0_btbc1 nin0)
      have KKtbc4 := Keep.trans KL Kqtbc4 (allS (Or.inr sz_btbc1) all0)
      have Ztbc4 := Nat.le_trans ZL Kqtbc4.1
      have Otbc4 := OL.keep Kqtbc4 (allS g_btbc1 all0)
      have V_btbc1 : Arv Z htbc4 btbc1 kbtbc1 .byte (Int32.ofNat (2 * n)) (own_vs (2 * n) fun j => if j < 2 * (i + 1) then own_u g j else (0 : Int32)) (.int (0 : Int32)) := own_arvEq (own_step2 n i g) Vtbc4
      refine stp (fun t k => sttbc4 t k) ?_
      show W (Ttbc4.setTop (mkF m 23 #[.val (.ref a0), .val (.int x1), .val (.int (Int32.ofNat n)), .val (.ref btbc1), .val (.int x4)] []))
      refine stp (fun t k => XS.iinc Xtbc4.here hx rfl (hb hby dtb_23) rfl (l' := #[.val (.ref a0), .val (.int (x1 + (1 : Int32))), .val (.int (Int32.ofNat n)), .val (.ref btbc1), .val (.int x4)]) rfl k) ?_
      show W (Ttbc4.setTop (mkF m 26 #[.val (.ref a0), .val (.int (x1 + (1 : Int32))), .val (.int (Int32.ofNat n)), .val (.ref btbc1), .val (.int x4)] []))
      refine stp (fun t k => XS.iinc Xtbc4.here hx rfl (hb hby dtb_26) rfl (l' := #[.val (.ref a0), .val (.int (x1 + (1 : Int32))), .val (.int (Int32.ofNat n)), .val (.ref btbc1), .val (.int (x4 + (1 : Int32)))]) rfl k) ?_
      show W (Ttbc4.setTop (mkF m 29 #[.val (.ref a0), .val (.int (x1 + (1 : Int32))), .val (.int (Int32.ofNat n)), .val (.ref btbc1), .val (.int (x4 + (1 : Int32)))] []))
      refine stp (fun t k => XS.goto Xtbc4.here hx rfl (pc0 := 29) (pc' := 8) rfl (hb hby dtb_29) (by decide) (by decide) k) ?_
      exact ih (i + 1) _ _ _ _ _ (by omega) (own_inc hx1 (by omega)) (own_inc hx4 (by omega)) Xtbc4 etbc4 Ntbc4 KKtbc4 Otbc4 V_a0 V_btbc1
  exact LP n 0 (0 : Int32) (0 : Int32) _ _ _ (by omega) rfl rfl Xtbc1 etbc1 Ntbc1 KKtbc1 Otbc1 V_a0 (by simpa using V_btbc1)
theorem own_gt255 {c : Int32} (h : 256 ≤ c.toInt) : (255 : Int32) < c := by
  rw [Int32.lt_iff_toInt_lt, show (255 : Int32).toInt = 255 from by decide]; omega
theorem dk2_0 : decode jdk_52_method_16_code 0 = .ok (.iload_n 2, 1) := by decide +kernel
theorem dk2_1 : decode jdk_52_method_16_code 1 = .ok (.newarray .byte, 2) := by decide +kernel
theorem dk2_3 : decode jdk_52_method_16_code 3 = .ok (.astore_n 3, 1) := by decide +kernel
theorem dk2_4 : decode jdk_52_method_16_code 4 = .ok (.aload_n 0, 1) := by decide +kernel
theorem dk2_5 : decode jdk_52_method_16_code 5 = .ok (.iload_n 1, 1) := by decide +kernel
theorem dk2_6 : decode jdk_52_method_16_code 6 = .ok (.aload_n 3, 1) := by decide +kernel
theorem dk2_7 : decode jdk_52_method_16_code 7 = .ok (.iconst 0, 1) := by decide +kernel
theorem dk2_8 : decode jdk_52_method_16_code 8 = .ok (.iload_n 2, 1) := by decide +kernel
theorem dk2_9 : decode jdk_52_method_16_code 9 = .ok (.invokestatic 115, 3) := by decide +kernel
theorem dk2_12 : decode jdk_52_method_16_code 12 = .ok (.istore 4, 2) := by decide +kernel
theorem dk2_14 : decode jdk_52_method_16_code 14 = .ok (.iload 4, 2) := by decide +kernel
theorem dk2_16 : decode jdk_52_method_16_code 16 = .ok (.iload_n 2, 1) := by decide +kernel
theorem dk2_17 : decode jdk_52_method_16_code 17 = .ok (.if_icmp .eq 40, 3) := by decide +kernel
theorem dk2_20 : decode jdk_52_method_16_code 20 = .ok (.aload_n 0, 1) := by decide +kernel
theorem dk2_21 : decode jdk_52_method_16_code 21 = .ok (.iload_n 1, 1) := by decide +kernel
theorem dk2_22 : decode jdk_52_method_16_code 22 = .ok (.iload_n 2, 1) := by decide +kernel
theorem dk2_23 : decode jdk_52_method_16_code 23 = .ok (.invokestatic 119, 3) := by decide +kernel
theorem dk2_26 : decode jdk_52_method_16_code 26 = .ok (.astore 5, 2) := by decide +kernel
theorem dk2_28 : decode jdk_52_method_16_code 28 = .ok (.aload 5, 2) := by decide +kernel
theorem dk2_30 : decode jdk_52_method_16_code 30 = .ok (.iload 4, 2) := by decide +kernel
theorem dk2_32 : decode jdk_52_method_16_code 32 = .ok (.invokestatic 71, 3) := by decide +kernel
theorem dk2_35 : decode jdk_52_method_16_code 35 = .ok (.sipush 255, 3) := by decide +kernel
theorem dk2_38 : decode jdk_52_method_16_code 38 = .ok (.if_icmp .gt 16, 3) := by decide +kernel
theorem dk2_54 : decode jdk_52_method_16_code 54 = .ok (.aload 5, 2) := by decide +kernel
theorem dk2_56 : decode jdk_52_method_16_code 56 = .ok (.areturn, 1) := by decide +kernel
theorem dk2_57 : decode jdk_52_method_16_code 57 = .ok (.aload_n 3, 1) := by decide +kernel
theorem dk2_58 : decode jdk_52_method_16_code 58 = .ok (.areturn, 1) := by decide +kernel
theorem pnk2 : plainName "java/lang/StringUTF16" = true := by first | (simp [plainName, overriddenIn]; done) | decide +kernel
theorem pdk2_0 : parseMethodDescriptor "([CI[BII)I" = some ⟨[(.array .char), .int, (.array .byte), .int, .int], some .int⟩ := by decide +kernel
theorem pdk2_1 : parseMethodDescriptor "([CII)[B" = some ⟨[(.array .char), .int, .int], some (.array .byte)⟩ := by decide +kernel
theorem pdk2_2 : parseMethodDescriptor "([BI)C" = some ⟨[(.array .byte), .int], some .char⟩ := by decide +kernel
theorem efk2 (m : MethodId) (a0 : Addr) (p1 : Int32) (p2 : Int32) : entryFrame m #[(.ref a0), (.int p1), (.int p2)] 6 = mkF m 0 #[.val (.ref a0), .val (.int p1), .val (.int p2), .unset, .unset, .unset] [] := by first | (simp [entryFrame, mkF, argsToLocals, Value.category]; done) | rfl
def Qk2 (Z : State) (a0 : Addr) (p1 : Int32) (p2 : Int32) (wc : Int32) (sx : Value) (n : Nat) (g : Nat → Int32) (ka : ClassId) (h0 : Heap) (n0 : Nat) (v : Option Value) (h : Heap) (L : List Loc) : Prop := ∃ (b : Addr) (kb : ClassId), v = some (.ref b) ∧ Fr n0 L ∧ Keep h0 h [] ∧ h0.size ≤ b ∧ (((∀ j, j < n → (g j).toInt < 256) ∧ Arv Z h b kb .byte (Int32.ofNat n) (own_vs n fun j => own_b (g j)) (.int (0 : Int32))) ∨ ((∃ j, j < n ∧ 256 ≤ (g j).toInt) ∧ Arv Z h b kb .byte (Int32.ofNat (2 * n)) (own_vs (2 * n) (own_u g)) (.int (0 : Int32))))
set_option maxRecDepth 65536 in
set_option maxHeartbeats 40000000 in
theorem rmk2 (l : Launch) (Z : State) (aa : Array Value) (hw : ∀ d ∈ tables_1, d.before aa Z = true) (ws : List Jvm.Cond) (a0 : Addr) (p1 : Int32) (p2 : Int32) (wc : Int32) (sx : Value) (n : Nat) (g : Nat → Int32) (ka : ClassId) (h0 : Heap) (n0 : Nat) (Z0 : n0 ≤ h0.size) (BW : OwnW Z wc sx) (O0 : Old Z n0 h0) (hn : n ≤ 2) (hch : ∀ j, j < n → 0 ≤ (g j).toInt ∧ (g j).toInt < 65536) (V_a0 : Arv Z h0 a0 ka .char (Int32.ofNat n) (own_vs n g) (.int (0 : Int32))) (hp1 : p1 = (0 : Int32)) (hp2 : p2 = (Int32.ofNat n)) :
    MetFree l (⟨"java/lang/StringUTF16", "compress", "([CII)[B"⟩ : MethodName) (head1 (Jvm.Cond.code (⟨"java/lang/StringUTF16", "compress", "([CII)[B"⟩ : MethodName) jdk_52_method_16_code 6 (some (.array .byte)) :: ws) ({ frames := 3, cells := 2, slots := 6, locals := 40 } : Room)) (fun a U => a = #[(.ref a0), (.int p1), (.int p2)] ∧ Z.Warmed39 U.vm ∧ U.heap = h0) (fun _ _ _ _ _ => True) (fun _ U o U' => ∃ v L, o = .returned v ∧ Qk2 Z a0 p1 p2 wc sx n g ka h0 n0 v U'.heap L ∧ FrameEnd U o U' L ({ frames := 3, cells := 2, slots := 6, locals := 40 } : Room).cells ({ frames := 3, cells := 2, slots := 6, locals := 40 } : Room).slots) := by
  refine MetFree.of_bodySF (plainFor_of_name pnk2) hisR ?_
  intro p e s m args below meth c s₁ Bd hml0 hP hK
  obtain ⟨rfl, hZ, hh⟩ := hP
  have hx := Bd.exec
  have hby := Bd.bytes
  have hml : c.maxLocals = 6 := hml0
  have hown : s.vm.findClass "java/lang/StringUTF16" = some m.cls := findClass_of_methodNamed Bd.named
  have hnm := (name_of_methodNamed Bd.named Bd.method).1
  have X0 : Stand p l e ({ frames := 3, cells := 2, slots := 6, locals := 40 } : Room) s m #[(.ref a0), (.int p1), (.int p2)] below meth c s₁ [] 0 0 := Stand.of_body Bd
  have e0 : s₁.heap = h0 := by rw [← hh, Bd.state]; rfl
  have N0 := Fr.nil n0
  show OwnEnd p e below s (fun v h L => Qk2 Z a0 p1 p2 wc sx n g ka h0 n0 v h L) ({ frames := 3, cells := 2, slots := 6, locals := 40 } : Room).cells ({ frames := 3, cells := 2, slots := 6, locals := 40 } : Room).slots (s₁.setTop (entryFrame m #[(.ref a0), (.int p1), (.int p2)] 6))
  rw [efk2 m a0 p1 p2]
  generalize hW : OwnEnd p e below s (fun v h L => Qk2 Z a0 p1 p2 wc sx n g ka h0 n0 v h L) ({ frames := 3, cells := 2, slots := 6, locals := 40 } : Room).cells ({ frames := 3, cells := 2, slots := 6, locals := 40 } : Room).slots = W
  have stp : ∀ {A B : State}, (∀ t, Steps p.tables e below B t → Steps p.tables e below A t) → W B → W A := by subst hW; exact own_step
  obtain ⟨S_cs, hcs, S_si, hr_sx, S_ad, S_hi, S_lo⟩ := id BW
  have hz := own_ofNat (n := n) (by omega)
  have hz2 := own_ofNat (n := 2 * n) (by omega)
  subst hp1 hp2
  show W (s₁.setTop (mkF m 0 #[.val (.ref a0), .val (.int (0 : Int32)), .val (.int (Int32.ofNat n)), .unset, .unset, .unset] []))
  refine stp (fun t k => XS.iloadN X0.here hx rfl (hb hby dk2_0) rfl k) ?_
  show W (s₁.setTop (mkF m 1 #[.val (.ref a0), .val (.int (0 : Int32)), .val (.int (Int32.ofNat n)), .unset, .unset, .unset] [(.int (Int32.ofNat n))]))
  obtain ⟨Tk21, hk21, kk21, Xk21, ek21, Ek21, Ak21, stk21⟩ := newP X0 hx hZ (hw _ (List.mem_of_getElem? (i := 22) rfl)) e0 (g := (mkF m 1 #[.val (.ref a0), .val (.int (0 : Int32)), .val (.int (Int32.ofNat n)), .unset, .unset, .unset] [(.int (Int32.ofNat n))])) rfl (hb hby dk2_1) rfl (own_nn hz) (cap := 2) (by rw [own_clamp hz]; exact hn) (by decide) (by decide) (by decide)
  obtain ⟨bk21, gqk21⟩ : ∃ z, z = h0.size := ⟨_, rfl⟩
  rw [← gqk21] at Ak21 stk21
  have ne_a0_bk21 : a0 ≠ bk21 := Nat.ne_of_lt (Nat.lt_of_lt_of_le V_a0.lt (Nat.le_of_eq gqk21.symm))
  have g_bk21 : n0 ≤ bk21 := Nat.le_trans Z0 (Nat.le_of_eq gqk21.symm)
  have sz_bk21 : h0.size ≤ bk21 := Nat.le_trans (Keep.refl h0 []).1 (Nat.le_of_eq gqk21.symm)
  replace V_a0 := V_a0.ext Ek21
  have Kk21 := (Keep.refl h0 []).ext Ek21
  have Zk21 := Nat.le_trans Z0 Ek21.1
  have Ok21 := O0.ext Ek21
  have V_bk21 : Arv Z hk21 bk21 kk21 .byte (Int32.ofNat n) (own_vs n fun _ => (0 : Int32)) (.int (0 : Int32)) := (Arv.new Ak21 (own_nn hz)).pad (own_vsPad _)
  refine stp (fun t k => stk21 t k) ?_
  show W (Tk21.setTop (mkF m 3 #[.val (.ref a0), .val (.int (0 : Int32)), .val (.int (Int32.ofNat n)), .unset, .unset, .unset] [(.ref bk21)]))
  refine stp (fun t k => XS.astoreN Xk21.here hx rfl (hb hby dk2_3) rfl rfl (l' := #[.val (.ref a0), .val (.int (0 : Int32)), .val (.int (Int32.ofNat n)), .val (.ref bk21), .unset, .unset]) rfl k) ?_
  show W (Tk21.setTop (mkF m 4 #[.val (.ref a0), .val (.int (0 : Int32)), .val (.int (Int32.ofNat n)), .val (.ref bk21), .unset, .unset] []))
  refine stp (fun t k => XS.aloadN Xk21.here hx rfl (hb hby dk2_4) rfl rfl k) ?_
  show W (Tk21.setTop (mkF m 5 #[.val (.ref a0), .val (.int (0 : Int32)), .val (.int (Int32.ofNat n)), .val (.ref bk21), .unset, .unset] [(.ref a0)]))
  refine stp (fun t k => XS.iloadN Xk21.here hx rfl (hb hby dk2_5) rfl k) ?_
  show W (Tk21.setTop (mkF m 6 #[.val (.ref a0), .val (.int (0 : Int32)), .val (.int (Int32.ofNat n)), .val (.ref bk21), .unset, .unset] [(.int (0 : Int32)), (.ref a0)]))
  refine stp (fun t k => XS.aloadN Xk21.here hx rfl (hb hby dk2_6) rfl rfl k) ?_
  show W (Tk21.setTop (mkF m 7 #[.val (.ref a0), .val (.int (0 : Int32)), .val (.int (Int32.ofNat n)), .val (.ref bk21), .unset, .unset] [(.ref bk21), (.int (0 : Int32)), (.ref a0)]))
  refine stp (fun t k => XS.iconst Xk21.here hx rfl (hb hby dk2_7) k) ?_
  show W (Tk21.setTop (mkF m 8 #[.val (.ref a0), .val (.int (0 : Int32)), .val (.int (Int32.ofNat n)), .val (.ref bk21), .unset, .unset] [(.int (0 : Int32)), (.ref bk21), (.int (0 : Int32)), (.ref a0)]))
  refine stp (fun t k => XS.iloadN Xk21.here hx rfl (hb hby dk2_8) rfl k) ?_
  show W (Tk21.setTop (mkF m 9 #[.val (.ref a0), .val (.int (0 : Int32)), .val (.int (Int32.ofNat n)), .val (.ref bk21), .unset, .unset] [(.int (Int32.ofNat n)), (.int (0 : Int32)), (.ref bk21), (.int (0 : Int32)), (.ref a0)]))
  obtain ⟨_, _, ⟨Tk2c2, Lk2c2, kk2c2, nk2c2⟩, -, Xk2c2, ⟨Lck2c2, hQk2c2, lk2c2, yk2c2, zk2c2⟩, stk2c2⟩ := Jvm.LawKit.callS Xk21 hx (y := (⟨"java/lang/StringUTF16", "compress", "([CI[BII)I"⟩ : MethodName)) hown (mvT hZ (hw _ (List.mem_of_getElem? (i := 70) rfl))) (mvT hZ (hw _ (List.mem_of_getElem? (i := 71) rfl))) (mvT hZ (hw _ (List.mem_of_getElem? (i := 68) rfl))) (mvT hZ (hw _ (List.mem_of_getElem? (i := 72) rfl))) (by decide) (backOf (W := 0) (rmk1 l Z aa hw [] a0 (0 : Int32) bk21 (0 : Int32) (Int32.ofNat n) wc sx n g ka kk21 hk21 n0 Zk21 BW Ok21 hn hch V_a0 V_bk21 ne_a0_bk21 g_bk21 rfl rfl rfl) hZ (hw _ (List.mem_of_getElem? (i := 72) rfl)) (hw _ (List.mem_of_getElem? (i := 68) rfl)) (by decide) (by decide)) (g := (mkF m 9 #[.val (.ref a0), .val (.int (0 : Int32)), .val (.int (Int32.ofNat n)), .val (.ref bk21), .unset, .unset] [(.int (Int32.ofNat n)), (.int (0 : Int32)), (.ref bk21), (.int (0 : Int32)), (.ref a0)])) rfl (by rw [hml]; rfl) (argsL := [(.ref a0), (.int (0 : Int32)), (.ref bk21), (.int (0 : Int32)), (.int (Int32.ofNat n))]) (rest := []) (lenOf pdk2_0 rfl) rfl (by show 2 * 0 + _ ≤ _; exact Nat.le_of_eq rfl) (hb hby dk2_9) (fun _ _ => ⟨rfl, ek21, (by decide : 1 + 0 ≤ _), (by decide : 2 + 0 ≤ _)⟩)
  dsimp only [Pt.U, Pt.locs, Pt.cells, Pt.slots] at Xk2c2 lk2c2 yk2c2 zk2c2 stk2c2 hQk2c2
  subst lk2c2 yk2c2 zk2c2
  obtain ⟨rk2c2, rfl, Nk2c2q, Kqk2c2, Ck2c2⟩ := hQk2c2
  have Nk2c2 := Fr.app N0 Nk2c2q
  obtain ⟨lck2t3, Xk2c2, Nk2c2⟩ : ∃ lc, Stand p l e ({ frames := 3, cells := 2, slots := 6, locals := 40 } : Room) s m #[(.ref a0), (.int (0 : Int32)), (.int (Int32.ofNat n))] below meth c Tk2c2 lc 1 2 ∧ Fr n0 lc := ⟨_, Xk2c2, Nk2c2⟩
  obtain ⟨hk2c2, ek2c2⟩ : ∃ h, Tk2c2.heap = h := ⟨_, rfl⟩
  rw [ek2c2] at Kqk2c2 Ck2c2
  replace V_a0 := V_a0.keep Kqk2c2 (ninS ne_a0_bk21 nin0)
  have KKk2c2 := Keep.trans Kk21 Kqk2c2 (allS (Or.inr sz_bk21) all0)
  have Zk2c2 := Nat.le_trans Zk21 Kqk2c2.1
  have Ok2c2 := Ok21.keep Kqk2c2 (allS g_bk21 all0)
  refine stp (fun t k => stk2c2 t k) ?_
  show W (Tk2c2.setTop (mkF m 12 #[.val (.ref a0), .val (.int (0 : Int32)), .val (.int (Int32.ofNat n)), .val (.ref bk21), .unset, .unset] [(.int rk2c2)]))
  refine stp (fun t k => XS.istore Xk2c2.here hx rfl (hb hby dk2_12) rfl (l' := #[.val (.ref a0), .val (.int (0 : Int32)), .val (.int (Int32.ofNat n)), .val (.ref bk21), .val (.int rk2c2), .unset]) rfl k) ?_
  show W (Tk2c2.setTop (mkF m 14 #[.val (.ref a0), .val (.int (0 : Int32)), .val (.int (Int32.ofNat n)), .val (.ref bk21), .val (.int rk2c2), .unset] []))
  refine stp (fun t k => XS.iload Xk2c2.here hx rfl (hb hby dk2_14) rfl k) ?_
  show W (Tk2c2.setTop (mkF m 16 #[.val (.ref a0), .val (.int (0 : Int32)), .val (.int (Int32.ofNat n)), .val (.ref bk21), .val (.int rk2c2), .unset] [(.int rk2c2)]))
  refine stp (fun t k => XS.iloadN Xk2c2.here hx rfl (hb hby dk2_16) rfl k) ?_
  show W (Tk2c2.setTop (mkF m 17 #[.val (.ref a0), .val (.int (0 : Int32)), .val (.int (Int32.ofNat n)), .val (.ref bk21), .val (.int rk2c2), .unset] [(.int (Int32.ofNat n)), (.int rk2c2)]))
  rcases Ck2c2 with Ck2c2 | Ck2c2
  · obtain ⟨rfl, hlat, V_bk21⟩ := Ck2c2
    show W (Tk2c2.setTop (mkF m 17 #[.val (.ref a0), .val (.int (0 : Int32)), .val (.int (Int32.ofNat n)), .val (.ref bk21), .val (.int (Int32.ofNat n)), .unset] [(.int (Int32.ofNat n)), (.int (Int32.ofNat n))]))
    refine stp (fun t k => XS.icmpYes Xk2c2.here hx rfl (pc0 := 17) (pc' := 57) rfl (hb hby dk2_17) rfl ((teq (rfl)).1) (by decide) (by decide) k) ?_
    show W (Tk2c2.setTop (mkF m 57 #[.val (.ref a0), .val (.int (0 : Int32)), .val (.int (Int32.ofNat n)), .val (.ref bk21), .val (.int (Int32.ofNat n)), .unset] []))
    refine stp (fun t k => XS.aloadN Xk2c2.here hx rfl (hb hby dk2_57) rfl rfl k) ?_
    show W (Tk2c2.setTop (mkF m 58 #[.val (.ref a0), .val (.int (0 : Int32)), .val (.int (Int32.ofNat n)), .val (.ref bk21), .val (.int (Int32.ofNat n)), .unset] [(.ref bk21)]))
    show W (Tk2c2.setTop (mkF m 58 #[.val (.ref a0), .val (.int (0 : Int32)), .val (.int (Int32.ofNat n)), .val (.ref bk21), .val (.int (Int32.ofNat n)), .unset] [(.ref bk21)]))
    rw [← hW]
    exact own_retR Xk2c2 hx Bd.notSynchronized Bd.returns rfl (hb hby dk2_58) (by show Qk2 Z a0 (0 : Int32) (Int32.ofNat n) wc sx n g ka h0 n0 _ Tk2c2.heap _; rw [ek2c2]; exact ⟨bk21, kk21, rfl, Nk2c2, KKk2c2, sz_bk21, Or.inl ⟨hlat, V_bk21⟩⟩) (by decide) (by decide)
  · obtain ⟨i, hi, hr, hbig⟩ := Ck2c2
    show W (Tk2c2.setTop (mkF m 17 #[.val (.ref a0), .val (.int (0 : Int32)), .val (.int (Int32.ofNat n)), .val (.ref bk21), .val (.int rk2c2), .unset] [(.int (Int32.ofNat n)), (.int rk2c2)]))
    refine stp (fun t k => XS.icmpNo Xk2c2.here hx rfl (hb hby dk2_17) rfl ((feq (fun q => by rw [q, hz] at hr; omega)).1) k) ?_
    show W (Tk2c2.setTop (mkF m 20 #[.val (.ref a0), .val (.int (0 : Int32)), .val (.int (Int32.ofNat n)), .val (.ref bk21), .val (.int rk2c2), .unset] []))
    refine stp (fun t k => XS.aloadN Xk2c2.here hx rfl (hb hby dk2_20) rfl rfl k) ?_
    show W (Tk2c2.setTop (mkF m 21 #[.val (.ref a0), .val (.int (0 : Int32)), .val (.int (Int32.ofNat n)), .val (.ref bk21), .val (.int rk2c2), .unset] [(.ref a0)]))
    refine stp (fun t k => XS.iloadN Xk2c2.here hx rfl (hb hby dk2_21) rfl k) ?_
    show W (Tk2c2.setTop (mkF m 22 #[.val (.ref a0), .val (.int (0 : Int32)), .val (.int (Int32.ofNat n)), .val (.ref bk21), .val (.int rk2c2), .unset] [(.int (0 : Int32)), (.ref a0)]))
    refine stp (fun t k => XS.iloadN Xk2c2.here hx rfl (hb hby dk2_22) rfl k) ?_
    show W (Tk2c2.setTop (mkF m 23 #[.val (.ref a0), .val (.int (0 : Int32)), .val (.int (Int32.ofNat n)), .val (.ref bk21), .val (.int rk2c2), .unset] [(.int (Int32.ofNat n)), (.int (0 : Int32)), (.ref a0)]))
    obtain ⟨_, _, ⟨Tk2c4, Lk2c4, kk2c4, nk2c4⟩, -, Xk2c4, ⟨Lck2c4, hQk2c4, lk2c4, yk2c4, zk2c4⟩, stk2c4⟩ := Jvm.LawKit.callS Xk2c2 hx (y := (⟨"java/lang/StringUTF16", "toBytes", "([CII)[B"⟩ : MethodName)) hown (mvT hZ (hw _ (List.mem_of_getElem? (i := 108) rfl))) (mvT hZ (hw _ (List.mem_of_getElem? (i := 109) rfl))) (mvT hZ (hw _ (List.mem_of_getElem? (i := 68) rfl))) (mvT hZ (hw _ (List.mem_of_getElem? (i := 110) rfl))) (by decide) (backOf (W := 0) (rmtb l Z aa hw [] a0 (0 : Int32) (Int32.ofNat n) wc sx n g ka hk2c2 n0 Zk2c2 BW Ok2c2 hn hch V_a0 rfl rfl) hZ (hw _ (List.mem_of_getElem? (i := 110) rfl)) (hw _ (List.mem_of_getElem? (i := 68) rfl)) (by decide) (by decide)) (g := (mkF m 23 #[.val (.ref a0), .val (.int (0 : Int32)), .val (.int (Int32.ofNat n)), .val (.ref bk21), .val (.int rk2c2), .unset] [(.int (Int32.ofNat n)), (.int (0 : Int32)), (.ref a0)])) rfl (by rw [hml]; rfl) (argsL := [(.ref a0), (.int (0 : Int32)), (.int (Int32.ofNat n))]) (rest := []) (lenOf pdk2_1 rfl) rfl (by show 2 * 0 + _ ≤ _; exact Nat.le_of_eq rfl) (hb hby dk2_23) (fun _ _ => ⟨rfl, ek2c2, (by decide : 1 + 1 ≤ _), (by decide : 2 + 4 ≤ _)⟩)
    dsimp only [Pt.U, Pt.locs, Pt.cells, Pt.slots] at Xk2c4 lk2c4 yk2c4 zk2c4 stk2c4 hQk2c4
    subst lk2c4 yk2c4 zk2c4
    obtain ⟨bk2c4, kbk2c4, rfl, Nk2c4q, Kqk2c4, sz_bk2c4, V_bk2c4⟩ := hQk2c4
    have Nk2c4 := Fr.app Nk2c2 Nk2c4q
    obtain ⟨lck2t5, Xk2c4, Nk2c4⟩ : ∃ lc, Stand p l e ({ frames := 3, cells := 2, slots := 6, locals := 40 } : Room) s m #[(.ref a0), (.int (0 : Int32)), (.int (Int32.ofNat n))] below meth c Tk2c4 lc 2 6 ∧ Fr n0 lc := ⟨_, Xk2c4, Nk2c4⟩
    obtain ⟨hk2c4, ek2c4⟩ : ∃ h, Tk2c4.heap = h := ⟨_, rfl⟩
    rw [ek2c4] at Kqk2c4 V_bk2c4
    have ne_a0_bk2c4 : a0 ≠ bk2c4 := Nat.ne_of_lt (Nat.lt_of_lt_of_le V_a0.lt sz_bk2c4)
    have g_bk2c4 : n0 ≤ bk2c4 := Nat.le_trans Zk2c2 sz_bk2c4
    have sz_bk2c4 : h0.size ≤ bk2c4 := Nat.le_trans KKk2c2.1 sz_bk2c4
    replace V_a0 := V_a0.keep Kqk2c4 nin0
    have KKk2c4 := Keep.trans KKk2c2 Kqk2c4 all0
    have Zk2c4 := Nat.le_trans Zk2c2 Kqk2c4.1
    have Ok2c4 := Ok2c2.keep Kqk2c4 all0
    refine stp (fun t k => stk2c4 t k) ?_
    show W (Tk2c4.setTop (mkF m 26 #[.val (.ref a0), .val (.int (0 : Int32)), .val (.int (Int32.ofNat n)), .val (.ref bk21), .val (.int rk2c2), .unset] [(.ref bk2c4)]))
    refine stp (fun t k => XS.astore Xk2c4.here hx rfl (hb hby dk2_26) rfl rfl (l' := #[.val (.ref a0), .val (.int (0 : Int32)), .val (.int (Int32.ofNat n)), .val (.ref bk21), .val (.int rk2c2), .val (.ref bk2c4)]) rfl k) ?_
    show W (Tk2c4.setTop (mkF m 28 #[.val (.ref a0), .val (.int (0 : Int32)), .val (.int (Int32.ofNat n)), .val (.ref bk21), .val (.int rk2c2), .val (.ref bk2c4)] []))
    refine stp (fun t k => XS.aload Xk2c4.here hx rfl (hb hby dk2_28) rfl rfl k) ?_
    show W (Tk2c4.setTop (mkF m 30 #[.val (.ref a0), .val (.int (0 : Int32)), .val (.int (Int32.ofNat n)), .val (.ref bk21), .val (.int rk2c2), .val (.ref bk2c4)] [(.ref bk2c4)]))
    refine stp (fun t k => XS.iload Xk2c4.here hx rfl (hb hby dk2_30) rfl k) ?_
    show W (Tk2c4.setTop (mkF m 32 #[.val (.ref a0), .val (.int (0 : Int32)), .val (.int (Int32.ofNat n)), .val (.ref bk21), .val (.int rk2c2), .val (.ref bk2c4)] [(.int rk2c2), (.ref bk2c4)]))
    have d0_ := own_shl1 hr (by omega)
    have d1_ := own_inc d0_ (by omega)
    obtain ⟨_, _, ⟨Tk2c6, Lk2c6, kk2c6, nk2c6⟩, -, Xk2c6, ⟨Lck2c6, hQk2c6, lk2c6, yk2c6, zk2c6⟩, stk2c6⟩ := Jvm.LawKit.callS Xk2c4 hx (y := (⟨"java/lang/StringUTF16", "getChar", "([BI)C"⟩ : MethodName)) hown (mvT hZ (hw _ (List.mem_of_getElem? (i := 118) rfl))) (mvT hZ (hw _ (List.mem_of_getElem? (i := 119) rfl))) (mvT hZ (hw _ (List.mem_of_getElem? (i := 68) rfl))) (mvT hZ (hw _ (List.mem_of_getElem? (i := 120) rfl))) (by decide) (backOf (W := 0) (rmgc l Z aa hw [] bk2c4 rk2c2 wc sx kbk2c4 (Int32.ofNat (2 * n)) (own_vs (2 * n) (own_u g)) (own_lo (g i)) (own_hi (g i)) hk2c4 n0 Zk2c4 BW Ok2c4 V_bk2c4 ⟨own_nn d0_, (own_lt32 d0_ hz2).mpr (by omega)⟩ ⟨own_nn d1_, (own_lt32 d1_ hz2).mpr (by omega)⟩ (by rw [own_clamp d0_, own_vsGet (by omega), own_u0]) (by rw [own_clamp d1_, own_vsGet (by omega), own_u1])) hZ (hw _ (List.mem_of_getElem? (i := 120) rfl)) (hw _ (List.mem_of_getElem? (i := 68) rfl)) (by decide) (by decide)) (g := (mkF m 32 #[.val (.ref a0), .val (.int (0 : Int32)), .val (.int (Int32.ofNat n)), .val (.ref bk21), .val (.int rk2c2), .val (.ref bk2c4)] [(.int rk2c2), (.ref bk2c4)])) rfl (by rw [hml]; rfl) (argsL := [(.ref bk2c4), (.int rk2c2)]) (rest := []) (lenOf pdk2_2 rfl) rfl (by show 2 * 0 + _ ≤ _; exact Nat.le_of_eq rfl) (hb hby dk2_32) (fun _ _ => ⟨rfl, ek2c4, (by decide : 2 + 0 ≤ _), (by decide : 6 + 0 ≤ _)⟩)
    dsimp only [Pt.U, Pt.locs, Pt.cells, Pt.slots] at Xk2c6 lk2c6 yk2c6 zk2c6 stk2c6 hQk2c6
    subst lk2c6 yk2c6 zk2c6
    obtain ⟨rfl, Nk2c6q, ek2c6⟩ := hQk2c6
    have Nk2c6 := Fr.app Nk2c4 Nk2c6q
    obtain ⟨lck2t7, Xk2c6, Nk2c6⟩ : ∃ lc, Stand p l e ({ frames := 3, cells := 2, slots := 6, locals := 40 } : Room) s m #[(.ref a0), (.int (0 : Int32)), (.int (Int32.ofNat n))] below meth c Tk2c6 lc 2 6 ∧ Fr n0 lc := ⟨_, Xk2c6, Nk2c6⟩
    refine stp (fun t k => stk2c6 t k) ?_
    show W (Tk2c6.setTop (mkF m 35 #[.val (.ref a0), .val (.int (0 : Int32)), .val (.int (Int32.ofNat n)), .val (.ref bk21), .val (.int rk2c2), .val (.ref bk2c4)] [(.int (fgc (own_lo (g i)) (own_hi (g i))))]))
    refine stp (fun t k => XS.sipush Xk2c6.here hx rfl (hb hby dk2_35) k) ?_
    show W (Tk2c6.setTop (mkF m 38 #[.val (.ref a0), .val (.int (0 : Int32)), .val (.int (Int32.ofNat n)), .val (.ref bk21), .val (.int rk2c2), .val (.ref bk2c4)] [(.int (255 : Int32)), (.int (fgc (own_lo (g i)) (own_hi (g i))))]))
    refine stp (fun t k => XS.icmpYes Xk2c6.here hx rfl (pc0 := 38) (pc' := 54) rfl (hb hby dk2_38) rfl ((tlt (own_gt255 (by rw [own_fgc (hch i hi).1 (hch i hi).2]; exact hbig))).2.2.1) (by decide) (by decide) k) ?_
    show W (Tk2c6.setTop (mkF m 54 #[.val (.ref a0), .val (.int (0 : Int32)), .val (.int (Int32.ofNat n)), .val (.ref bk21), .val (.int rk2c2), .val (.ref bk2c4)] []))
    refine stp (fun t k => XS.aload Xk2c6.here hx rfl (hb hby dk2_54) rfl rfl k) ?_
    show W (Tk2c6.setTop (mkF m 56 #[.val (.ref a0), .val (.int (0 : Int32)), .val (.int (Int32.ofNat n)), .val (.ref bk21), .val (.int rk2c2), .val (.ref bk2c4)] [(.ref bk2c4)]))
    show W (Tk2c6.setTop (mkF m 56 #[.val (.ref a0), .val (.int (0 : Int32)), .val (.int (Int32.ofNat n)), .val (.ref bk21), .val (.int rk2c2), .val (.ref bk2c4)] [(.ref bk2c4)]))
    rw [← hW]
    exact own_retR Xk2c6 hx Bd.notSynchronized Bd.returns rfl (hb hby dk2_56) (by show Qk2 Z a0 (0 : Int32) (Int32.ofNat n) wc sx n g ka h0 n0 _ Tk2c6.heap _; rw [ek2c6]; exact ⟨bk2c4, kbk2c4, rfl, Nk2c6, KKk2c4, sz_bk2c4, Or.inr ⟨⟨i, hi, hbig⟩, V_bk2c4⟩⟩) (by decide) (by decide)
theorem dca_0 : decode jdk_52_method_15_code 0 = .ok (.iload_n 1, 1) := by decide +kernel
theorem dca_1 : decode jdk_52_method_15_code 1 = .ok (.aload_n 0, 1) := by decide +kernel
theorem dca_2 : decode jdk_52_method_15_code 2 = .ok (.arraylength, 1) := by decide +kernel
theorem dca_3 : decode jdk_52_method_15_code 3 = .ok (.isub, 1) := by decide +kernel
theorem dca_4 : decode jdk_52_method_15_code 4 = .ok (.bipush 31, 2) := by decide +kernel
theorem dca_6 : decode jdk_52_method_15_code 6 = .ok (.iushr, 1) := by decide +kernel
theorem dca_7 : decode jdk_52_method_15_code 7 = .ok (.i2b, 1) := by decide +kernel
theorem dca_8 : decode jdk_52_method_15_code 8 = .ok (.ireturn, 1) := by decide +kernel
theorem pnca : plainName "java/lang/StringUTF16" = true := by first | (simp [plainName, overriddenIn]; done) | decide +kernel
theorem efca (m : MethodId) (a0 : Addr) (p1 : Int32) : entryFrame m #[(.ref a0), (.int p1)] 2 = mkF m 0 #[.val (.ref a0), .val (.int p1)] [] := by first | (simp [entryFrame, mkF, argsToLocals, Value.category]; done) | rfl
def fca (p1 : Int32) (z : Int32) : Int32 := (nar .byte ((((p1 - z).toUInt32 >>> ((31 : Int32) &&& 31).toUInt32).toInt32).toInt8.toInt32))
def Qca (Z : State) (a0 : Addr) (p1 : Int32) (wc : Int32) (sx : Value) (kb : ClassId) (z : Int32) (vs : List Value) (h0 : Heap) (n0 : Nat) (v : Option Value) (h : Heap) (L : List Loc) : Prop := v = some (.int (fca p1 z)) ∧ Fr n0 L ∧ h = h0
set_option maxRecDepth 65536 in
set_option maxHeartbeats 40000000 in
theorem rmca (l : Launch) (Z : State) (aa : Array Value) (hw : ∀ d ∈ tables_1, d.before aa Z = true) (ws : List Jvm.Cond) (a0 : Addr) (p1 : Int32) (wc : Int32) (sx : Value) (kb : ClassId) (z : Int32) (vs : List Value) (h0 : Heap) (n0 : Nat) (Z0 : n0 ≤ h0.size) (BW : OwnW Z wc sx) (O0 : Old Z n0 h0) (V_a0 : Arv Z h0 a0 kb .byte z vs (.int (0 : Int32))) :
    MetFree l (⟨"java/lang/StringUTF16", "coderFromArrayLen", "([BI)B"⟩ : MethodName) (head1 (Jvm.Cond.code (⟨"java/lang/StringUTF16", "coderFromArrayLen", "([BI)B"⟩ : MethodName) jdk_52_method_15_code 2 (some .byte) :: ws) ({ frames := 0, cells := 0, slots := 0, locals := 0 } : Room)) (fun a U => a = #[(.ref a0), (.int p1)] ∧ Z.Warmed39 U.vm ∧ U.heap = h0) (fun _ _ _ _ _ => True) (fun _ U o U' => ∃ v L, o = .returned v ∧ Qca Z a0 p1 wc sx kb z vs h0 n0 v U'.heap L ∧ FrameEnd U o U' L ({ frames := 0, cells := 0, slots := 0, locals := 0 } : Room).cells ({ frames := 0, cells := 0, slots := 0, locals := 0 } : Room).slots) := by
  refine MetFree.of_bodySF (plainFor_of_name pnca) hisR ?_
  intro p e s m args below meth c s₁ Bd hml0 hP hK
  obtain ⟨rfl, hZ, hh⟩ := hP
  have hx := Bd.exec
  have hby := Bd.bytes
  have hml : c.maxLocals = 2 := hml0
  have hown : s.vm.findClass "java/lang/StringUTF16" = some m.cls := findClass_of_methodNamed Bd.named
  have hnm := (name_of_methodNamed Bd.named Bd.method).1
  have X0 : Stand p l e ({ frames := 0, cells := 0, slots := 0, locals := 0 } : Room) s m #[(.ref a0), (.int p1)] below meth c s₁ [] 0 0 := Stand.of_body Bd
  have e0 : s₁.heap = h0 := by rw [← hh, Bd.state]; rfl
  have N0 := Fr.nil n0
  show OwnEnd p e below s (fun v h L => Qca Z a0 p1 wc sx kb z vs h0 n0 v h L) ({ frames := 0, cells := 0, slots := 0, locals := 0 } : Room).cells ({ frames := 0, cells := 0, slots := 0, locals := 0 } : Room).slots (s₁.setTop (entryFrame m #[(.ref a0), (.int p1)] 2))
  rw [efca m a0 p1]
  generalize hW : OwnEnd p e below s (fun v h L => Qca Z a0 p1 wc sx kb z vs h0 n0 v h L) ({ frames := 0, cells := 0, slots := 0, locals := 0 } : Room).cells ({ frames := 0, cells := 0, slots := 0, locals := 0 } : Room).slots = W
  have stp : ∀ {A B : State}, (∀ t, Steps p.tables e below B t → Steps p.tables e below A t) → W B → W A := by subst hW; exact own_step
  obtain ⟨S_cs, hcs, S_si, hr_sx, S_ad, S_hi, S_lo⟩ := id BW
  show W (s₁.setTop (mkF m 0 #[.val (.ref a0), .val (.int p1)] []))
  refine stp (fun t k => XS.iloadN X0.here hx rfl (hb hby dca_0) rfl k) ?_
  show W (s₁.setTop (mkF m 1 #[.val (.ref a0), .val (.int p1)] [(.int p1)]))
  refine stp (fun t k => XS.aloadN X0.here hx rfl (hb hby dca_1) rfl rfl k) ?_
  show W (s₁.setTop (mkF m 2 #[.val (.ref a0), .val (.int p1)] [(.ref a0), (.int p1)]))
  obtain ⟨clca1, Arca1, qkca1, qsca1, qnca1, qhca1, qgca1⟩ := id V_a0
  refine stp (fun t k => X0.arraylength hx (by rw [e0]; exact Arca1.1) (State.isArrayOf_alike hZ.alike Arca1.2.1) (g := (mkF m 2 #[.val (.ref a0), .val (.int p1)] [(.ref a0), (.int p1)])) rfl rfl (hb hby dca_2) _ k) ?_
  rw [len_of qsca1 qnca1]
  show W (s₁.setTop (mkF m 3 #[.val (.ref a0), .val (.int p1)] [(.int z), (.int p1)]))
  refine stp (fun t k => XS.isub X0.here hx rfl (hb hby dca_3) rfl k) ?_
  show W (s₁.setTop (mkF m 4 #[.val (.ref a0), .val (.int p1)] [(.int (p1 - z))]))
  refine stp (fun t k => XS.bipush X0.here hx rfl (hb hby dca_4) k) ?_
  show W (s₁.setTop (mkF m 6 #[.val (.ref a0), .val (.int p1)] [(.int (31 : Int32)), (.int (p1 - z))]))
  refine stp (fun t k => XS.iushr X0.here hx rfl (hb hby dca_6) rfl k) ?_
  show W (s₁.setTop (mkF m 7 #[.val (.ref a0), .val (.int p1)] [(.int (((p1 - z).toUInt32 >>> ((31 : Int32) &&& 31).toUInt32).toInt32))]))
  refine stp (fun t k => XS.i2b X0.here hx rfl (hb hby dca_7) rfl k) ?_
  show W (s₁.setTop (mkF m 8 #[.val (.ref a0), .val (.int p1)] [(.int ((((p1 - z).toUInt32 >>> ((31 : Int32) &&& 31).toUInt32).toInt32).toInt8.toInt32))]))
  show W (s₁.setTop (mkF m 8 #[.val (.ref a0), .val (.int p1)] [(.int ((((p1 - z).toUInt32 >>> ((31 : Int32) &&& 31).toUInt32).toInt32).toInt8.toInt32))]))
  rw [← hW]
  exact own_retN X0 hx Bd.notSynchronized Bd.returns (w := (nar .byte ((((p1 - z).toUInt32 >>> ((31 : Int32) &&& 31).toUInt32).toInt32).toInt8.toInt32))) (by simp) (hb hby dca_8) rfl (by show Qca Z a0 p1 wc sx kb z vs h0 n0 _ s₁.heap _; rw [e0]; exact ⟨rfl, N0, rfl⟩) (by decide) (by decide)
theorem own_fca0 (z : Int32) : nar .byte (fca z z) = (0 : Int32) := by
  have e : z - z = 0 := by
    apply Int32.toInt_inj.mp
    have h1 := c_isub z z
    have h2 := rng32 (z - z)
    have h3 : (0 : Int32).toInt = 0 := by decide
    omega
  unfold fca
  rw [e]
  decide
theorem own_fca1 {n : Nat} (h1 : 1 ≤ n) (hn : n ≤ 1000000) : nar .byte (fca (Int32.ofNat n) (Int32.ofNat (2 * n))) = (1 : Int32) := by
  have a1 := own_ofNat (n := n) (by omega)
  have a2 := own_ofNat (n := 2 * n) (by omega)
  have b1 := c_isub (Int32.ofNat n) (Int32.ofNat (2 * n))
  have b2 := rng32 (Int32.ofNat n - Int32.ofNat (2 * n))
  have b3 := c_iushr (Int32.ofNat n - Int32.ofNat (2 * n)) 31 31 (by decide) (by decide)
  have e : ((Int32.ofNat n - Int32.ofNat (2 * n)).toUInt32 >>> ((31 : Int32) &&& 31).toUInt32).toInt32 = 1 := by
    apply Int32.toInt_inj.mp
    rw [b3, show (1 : Int32).toInt = 1 from by decide]
    omega
  unfold fca
  rw [e]
  decide
theorem di2_0 : decode jdk_42_method_149_code 0 = .ok (.aload_n 0, 1) := by decide +kernel
theorem di2_1 : decode jdk_42_method_149_code 1 = .ok (.invokespecial 1, 3) := by decide +kernel
theorem di2_4 : decode jdk_42_method_149_code 4 = .ok (.iload_n 3, 1) := by decide +kernel
theorem di2_5 : decode jdk_42_method_149_code 5 = .ok (.ifCond .ne 22, 3) := by decide +kernel
theorem di2_27 : decode jdk_42_method_149_code 27 = .ok (.getstatic 38, 3) := by decide +kernel
theorem di2_30 : decode jdk_42_method_149_code 30 = .ok (.ifCond .eq 28, 3) := by decide +kernel
theorem di2_33 : decode jdk_42_method_149_code 33 = .ok (.aload_n 1, 1) := by decide +kernel
theorem di2_34 : decode jdk_42_method_149_code 34 = .ok (.iload_n 2, 1) := by decide +kernel
theorem di2_35 : decode jdk_42_method_149_code 35 = .ok (.iload_n 3, 1) := by decide +kernel
theorem di2_36 : decode jdk_42_method_149_code 36 = .ok (.invokestatic 177, 3) := by decide +kernel
theorem di2_39 : decode jdk_42_method_149_code 39 = .ok (.astore 5, 2) := by decide +kernel
theorem di2_41 : decode jdk_42_method_149_code 41 = .ok (.aload_n 0, 1) := by decide +kernel
theorem di2_42 : decode jdk_42_method_149_code 42 = .ok (.aload 5, 2) := by decide +kernel
theorem di2_44 : decode jdk_42_method_149_code 44 = .ok (.iload_n 3, 1) := by decide +kernel
theorem di2_45 : decode jdk_42_method_149_code 45 = .ok (.invokestatic 47, 3) := by decide +kernel
theorem di2_48 : decode jdk_42_method_149_code 48 = .ok (.putfield 15, 3) := by decide +kernel
theorem di2_51 : decode jdk_42_method_149_code 51 = .ok (.aload_n 0, 1) := by decide +kernel
theorem di2_52 : decode jdk_42_method_149_code 52 = .ok (.aload 5, 2) := by decide +kernel
theorem di2_54 : decode jdk_42_method_149_code 54 = .ok (.putfield 9, 3) := by decide +kernel
theorem di2_57 : decode jdk_42_method_149_code 57 = .ok (.return_, 1) := by decide +kernel
theorem pni2 : plainName "java/lang/String" = true := by first | (simp [plainName, overriddenIn]; done) | decide +kernel
theorem pdi2_0 : parseMethodDescriptor "([CII)[B" = some ⟨[(.array .char), .int, .int], some (.array .byte)⟩ := by decide +kernel
theorem pdi2_1 : parseMethodDescriptor "([BI)B" = some ⟨[(.array .byte), .int], some .byte⟩ := by decide +kernel
theorem efi2 (m : MethodId) (a0 : Addr) (a1 : Addr) (p2 : Int32) (p3 : Int32) : entryFrame m #[(.ref a0), (.ref a1), (.int p2), (.int p3), .null] 6 = mkF m 0 #[.val (.ref a0), .val (.ref a1), .val (.int p2), .val (.int p3), .val .null, .unset] [] := by first | (simp [entryFrame, mkF, argsToLocals, Value.category]; done) | rfl
def Qi2 (Z : State) (a0 : Addr) (a1 : Addr) (p2 : Int32) (p3 : Int32) (wc : Int32) (sx : Value) (n : Nat) (g : Nat → Int32) (ka : ClassId) (h0 : Heap) (n0 : Nat) (v : Option Value) (h : Heap) (L : List Loc) : Prop := v = none ∧ Fr n0 L ∧ Keep h0 h [a0] ∧ ∃ b : Addr, h0.size ≤ b ∧ OwnStr Z h a0 b n g
set_option maxRecDepth 65536 in
set_option maxHeartbeats 40000000 in
theorem rmi2 (l : Launch) (Z : State) (aa : Array Value) (hw : ∀ d ∈ tables_1, d.before aa Z = true) (ws : List Jvm.Cond) (a0 : Addr) (a1 : Addr) (p2 : Int32) (p3 : Int32) (wc : Int32) (sx : Value) (n : Nat) (g : Nat → Int32) (ka : ClassId) (h0 : Heap) (n0 : Nat) (Z0 : n0 ≤ h0.size) (BW : OwnW Z wc sx) (O0 : Old Z n0 h0) (hn : n ≤ 2) (hch : ∀ j, j < n → 0 ≤ (g j).toInt ∧ (g j).toInt < 65536) (E_a0 : Exa Z h0 a0 "java/lang/String") (F_value_a0 : Fld Z h0 a0 "java/lang/String" "value" "[B" .null) (F_coder_a0 : Fld Z h0 a0 "java/lang/String" "coder" "B" (.int (0 : Int32))) (g_a0 : n0 ≤ a0) (V_a1 : Arv Z h0 a1 ka .char (Int32.ofNat n) (own_vs n g) (.int (0 : Int32))) (ne_a0_a1 : a0 ≠ a1) (h1 : 1 ≤ n) (hp2 : p2 = (0 : Int32)) (hp3 : p3 = (Int32.ofNat n)) :
    MetFree l (⟨"java/lang/String", "<init>", "([CIILjava/lang/Void;)V"⟩ : MethodName) (head1 (Jvm.Cond.code (⟨"java/lang/String", "<init>", "([CIILjava/lang/Void;)V"⟩ : MethodName) jdk_42_method_149_code 6 none :: ws) ({ frames := 4, cells := 2, slots := 6, locals := 57 } : Room)) (fun a U => a = #[(.ref a0), (.ref a1), (.int p2), (.int p3), .null] ∧ Z.Warmed39 U.vm ∧ U.heap = h0) (fun _ _ _ _ _ => True) (fun _ U o U' => ∃ v L, o = .returned v ∧ Qi2 Z a0 a1 p2 p3 wc sx n g ka h0 n0 v U'.heap L ∧ FrameEnd U o U' L ({ frames := 4, cells := 2, slots := 6, locals := 57 } : Room).cells ({ frames := 4, cells := 2, slots := 6, locals := 57 } : Room).slots) := by
  refine MetFree.of_bodySF (plainFor_of_name pni2) hisR ?_
  intro p e s m args below meth c s₁ Bd hml0 hP hK
  obtain ⟨rfl, hZ, hh⟩ := hP
  have hx := Bd.exec
  have hby := Bd.bytes
  have hml : c.maxLocals = 6 := hml0
  have hown : s.vm.findClass "java/lang/String" = some m.cls := findClass_of_methodNamed Bd.named
  have hnm := (name_of_methodNamed Bd.named Bd.method).1
  have X0 : Stand p l e ({ frames := 4, cells := 2, slots := 6, locals := 57 } : Room) s m #[(.ref a0), (.ref a1), (.int p2), (.int p3), .null] below meth c s₁ [] 0 0 := Stand.of_body Bd
  have e0 : s₁.heap = h0 := by rw [← hh, Bd.state]; rfl
  have N0 := Fr.nil n0
  show OwnEnd p e below s (fun v h L => Qi2 Z a0 a1 p2 p3 wc sx n g ka h0 n0 v h L) ({ frames := 4, cells := 2, slots := 6, locals := 57 } : Room).cells ({ frames := 4, cells := 2, slots := 6, locals := 57 } : Room).slots (s₁.setTop (entryFrame m #[(.ref a0), (.ref a1), (.int p2), (.int p3), .null] 6))
  rw [efi2 m a0 a1 p2 p3]
  generalize hW : OwnEnd p e below s (fun v h L => Qi2 Z a0 a1 p2 p3 wc sx n g ka h0 n0 v h L) ({ frames := 4, cells := 2, slots := 6, locals := 57 } : Room).cells ({ frames := 4, cells := 2, slots := 6, locals := 57 } : Room).slots = W
  have stp : ∀ {A B : State}, (∀ t, Steps p.tables e below B t → Steps p.tables e below A t) → W B → W A := by subst hW; exact own_step
  obtain ⟨S_cs, hcs, S_si, hr_sx, S_ad, S_hi, S_lo⟩ := id BW
  have hz := own_ofNat (n := n) (by omega)
  subst hp2 hp3
  have E0lt := E_a0.lt
  have V1lt := V_a1.lt
  show W (s₁.setTop (mkF m 0 #[.val (.ref a0), .val (.ref a1), .val (.int (0 : Int32)), .val (.int (Int32.ofNat n)), .val .null, .unset] []))
  refine stp (fun t k => XS.aloadN X0.here hx rfl (hb hby di2_0) rfl rfl k) ?_
  show W (s₁.setTop (mkF m 1 #[.val (.ref a0), .val (.ref a1), .val (.int (0 : Int32)), .val (.int (Int32.ofNat n)), .val .null, .unset] [(.ref a0)]))
  obtain ⟨T1, X1, e1, st1⟩ := initO X0 hx hZ hown (hw _ (List.mem_of_getElem? (i := 27) rfl)) (hw _ (List.mem_of_getElem? (i := 28) rfl)) (hw _ (List.mem_of_getElem? (i := 29) rfl)) e0 (g := (mkF m 1 #[.val (.ref a0), .val (.ref a1), .val (.int (0 : Int32)), .val (.int (Int32.ofNat n)), .val .null, .unset] [(.ref a0)])) rfl (by rw [hml]; rfl) rfl (hb hby di2_1) (by decide) (W := 0) (by show 2 * 0 + _ ≤ _; exact Nat.le_of_eq rfl) (by decide)
  refine stp (fun t k => st1 t k) ?_
  show W (T1.setTop (mkF m 4 #[.val (.ref a0), .val (.ref a1), .val (.int (0 : Int32)), .val (.int (Int32.ofNat n)), .val .null, .unset] []))
  refine stp (fun t k => XS.iloadN X1.here hx rfl (hb hby di2_4) rfl k) ?_
  show W (T1.setTop (mkF m 5 #[.val (.ref a0), .val (.ref a1), .val (.int (0 : Int32)), .val (.int (Int32.ofNat n)), .val .null, .unset] [(.int (Int32.ofNat n))]))
  refine stp (fun t k => XS.ifYes X1.here hx rfl (pc0 := 5) (pc' := 27) rfl (hb hby di2_5) rfl ((if0 _ _).trans (feq (fun q => by rw [q, show (0 : Int32).toInt = 0 from by decide] at hz; omega)).2) (by decide) (by decide) k) ?_
  show W (T1.setTop (mkF m 27 #[.val (.ref a0), .val (.ref a1), .val (.int (0 : Int32)), .val (.int (Int32.ofNat n)), .val .null, .unset] []))
  obtain ⟨Ti22, Xi22, ei22, sti22⟩ := getS2 X1 hx hZ hown (host := "") (Or.inl (hw _ (List.mem_of_getElem? (i := 12) rfl))) Via.refl e1 (S_cs.ext O0.2) (g := (mkF m 27 #[.val (.ref a0), .val (.ref a1), .val (.int (0 : Int32)), .val (.int (Int32.ofNat n)), .val .null, .unset] [])) rfl (hb hby di2_27)
  refine stp (fun t k => sti22 t k) ?_
  show W (Ti22.setTop (mkF m 30 #[.val (.ref a0), .val (.ref a1), .val (.int (0 : Int32)), .val (.int (Int32.ofNat n)), .val .null, .unset] [(.int wc)]))
  refine stp (fun t k => XS.ifNo Xi22.here hx rfl (hb hby di2_30) rfl ((if0 _ _).trans (feq (hcs)).1) k) ?_
  show W (Ti22.setTop (mkF m 33 #[.val (.ref a0), .val (.ref a1), .val (.int (0 : Int32)), .val (.int (Int32.ofNat n)), .val .null, .unset] []))
  refine stp (fun t k => XS.aloadN Xi22.here hx rfl (hb hby di2_33) rfl rfl k) ?_
  show W (Ti22.setTop (mkF m 34 #[.val (.ref a0), .val (.ref a1), .val (.int (0 : Int32)), .val (.int (Int32.ofNat n)), .val .null, .unset] [(.ref a1)]))
  refine stp (fun t k => XS.iloadN Xi22.here hx rfl (hb hby di2_34) rfl k) ?_
  show W (Ti22.setTop (mkF m 35 #[.val (.ref a0), .val (.ref a1), .val (.int (0 : Int32)), .val (.int (Int32.ofNat n)), .val .null, .unset] [(.int (0 : Int32)), (.ref a1)]))
  refine stp (fun t k => XS.iloadN Xi22.here hx rfl (hb hby di2_35) rfl k) ?_
  show W (Ti22.setTop (mkF m 36 #[.val (.ref a0), .val (.ref a1), .val (.int (0 : Int32)), .val (.int (Int32.ofNat n)), .val .null, .unset] [(.int (Int32.ofNat n)), (.int (0 : Int32)), (.ref a1)]))
  obtain ⟨_, _, ⟨Ti2c3, Li2c3, ki2c3, ni2c3⟩, -, Xi2c3, ⟨Lci2c3, hQi2c3, li2c3, yi2c3, zi2c3⟩, sti2c3⟩ := Jvm.LawKit.callS Xi22 hx (y := (⟨"java/lang/StringUTF16", "compress", "([CII)[B"⟩ : MethodName)) hown (mvT hZ (hw _ (List.mem_of_getElem? (i := 66) rfl))) (mvT hZ (hw _ (List.mem_of_getElem? (i := 67) rfl))) (mvT hZ (hw _ (List.mem_of_getElem? (i := 68) rfl))) (mvT hZ (hw _ (List.mem_of_getElem? (i := 69) rfl))) (by decide) (backOf (W := 0) (rmk2 l Z aa hw [] a1 (0 : Int32) (Int32.ofNat n) wc sx n g ka h0 n0 Z0 BW O0 hn hch V_a1 rfl rfl) hZ (hw _ (List.mem_of_getElem? (i := 69) rfl)) (hw _ (List.mem_of_getElem? (i := 68) rfl)) (by decide) (by decide)) (g := (mkF m 36 #[.val (.ref a0), .val (.ref a1), .val (.int (0 : Int32)), .val (.int (Int32.ofNat n)), .val .null, .unset] [(.int (Int32.ofNat n)), (.int (0 : Int32)), (.ref a1)])) rfl (by rw [hml]; rfl) (argsL := [(.ref a1), (.int (0 : Int32)), (.int (Int32.ofNat n))]) (rest := []) (lenOf pdi2_0 rfl) rfl (by show 2 * 0 + _ ≤ _; exact Nat.le_of_eq rfl) (hb hby di2_36) (fun _ _ => ⟨rfl, ei22, (by decide : 0 + 2 ≤ _), (by decide : 0 + 6 ≤ _)⟩)
  dsimp only [Pt.U, Pt.locs, Pt.cells, Pt.slots] at Xi2c3 li2c3 yi2c3 zi2c3 sti2c3 hQi2c3
  subst li2c3 yi2c3 zi2c3
  obtain ⟨bi2c3, kbi2c3, rfl, Ni2c3q, Kqi2c3, sz_bi2c3, Ci2c3⟩ := hQi2c3
  have Ni2c3 := Fr.app N0 Ni2c3q
  obtain ⟨lci2t4, Xi2c3, Ni2c3⟩ : ∃ lc, Stand p l e ({ frames := 4, cells := 2, slots := 6, locals := 57 } : Room) s m #[(.ref a0), (.ref a1), (.int (0 : Int32)), (.int (Int32.ofNat n)), .null] below meth c Ti2c3 lc 2 6 ∧ Fr n0 lc := ⟨_, Xi2c3, Ni2c3⟩
  obtain ⟨hi2c3, ei2c3⟩ : ∃ h, Ti2c3.heap = h := ⟨_, rfl⟩
  rw [ei2c3] at Kqi2c3 Ci2c3
  have ne_a0_bi2c3 : a0 ≠ bi2c3 := Nat.ne_of_lt (Nat.lt_of_lt_of_le E_a0.lt sz_bi2c3)
  have ne_a1_bi2c3 : a1 ≠ bi2c3 := Nat.ne_of_lt (Nat.lt_of_lt_of_le V_a1.lt sz_bi2c3)
  have g_bi2c3 : n0 ≤ bi2c3 := Nat.le_trans Z0 sz_bi2c3
  have sz_bi2c3 : h0.size ≤ bi2c3 := Nat.le_trans (Keep.refl h0 [a0]).1 sz_bi2c3
  replace E_a0 := E_a0.keep Kqi2c3
  replace F_value_a0 := F_value_a0.keep Kqi2c3 nin0
  replace F_coder_a0 := F_coder_a0.keep Kqi2c3 nin0
  replace V_a1 := V_a1.keep Kqi2c3 nin0
  have KKi2c3 := Keep.trans (Keep.refl h0 [a0]) Kqi2c3 all0
  have Zi2c3 := Nat.le_trans Z0 Kqi2c3.1
  have Oi2c3 := O0.keep Kqi2c3 all0
  refine stp (fun t k => sti2c3 t k) ?_
  show W (Ti2c3.setTop (mkF m 39 #[.val (.ref a0), .val (.ref a1), .val (.int (0 : Int32)), .val (.int (Int32.ofNat n)), .val .null, .unset] [(.ref bi2c3)]))
  refine stp (fun t k => XS.astore Xi2c3.here hx rfl (hb hby di2_39) rfl rfl (l' := #[.val (.ref a0), .val (.ref a1), .val (.int (0 : Int32)), .val (.int (Int32.ofNat n)), .val .null, .val (.ref bi2c3)]) rfl k) ?_
  rcases Ci2c3 with Ci2c3 | Ci2c3
  · obtain ⟨hki2c3, V_bi2c3⟩ := Ci2c3
    have ne_a0_bi2c3 : a0 ≠ bi2c3 := Nat.ne_of_lt (Nat.lt_of_lt_of_le E0lt sz_bi2c3)
    have ne_a1_bi2c3 : a1 ≠ bi2c3 := Nat.ne_of_lt (Nat.lt_of_lt_of_le V1lt sz_bi2c3)
    show W (Ti2c3.setTop (mkF m 41 #[.val (.ref a0), .val (.ref a1), .val (.int (0 : Int32)), .val (.int (Int32.ofNat n)), .val .null, .val (.ref bi2c3)] []))
    refine stp (fun t k => XS.aloadN Xi2c3.here hx rfl (hb hby di2_41) rfl rfl k) ?_
    show W (Ti2c3.setTop (mkF m 42 #[.val (.ref a0), .val (.ref a1), .val (.int (0 : Int32)), .val (.int (Int32.ofNat n)), .val .null, .val (.ref bi2c3)] [(.ref a0)]))
    refine stp (fun t k => XS.aload Xi2c3.here hx rfl (hb hby di2_42) rfl rfl k) ?_
    show W (Ti2c3.setTop (mkF m 44 #[.val (.ref a0), .val (.ref a1), .val (.int (0 : Int32)), .val (.int (Int32.ofNat n)), .val .null, .val (.ref bi2c3)] [(.ref bi2c3), (.ref a0)]))
    refine stp (fun t k => XS.iloadN Xi2c3.here hx rfl (hb hby di2_44) rfl k) ?_
    show W (Ti2c3.setTop (mkF m 45 #[.val (.ref a0), .val (.ref a1), .val (.int (0 : Int32)), .val (.int (Int32.ofNat n)), .val .null, .val (.ref bi2c3)] [(.int (Int32.ofNat n)), (.ref bi2c3), (.ref a0)]))
    obtain ⟨_, _, ⟨Ti2c5, Li2c5, ki2c5, ni2c5⟩, -, Xi2c5, ⟨Lci2c5, hQi2c5, li2c5, yi2c5, zi2c5⟩, sti2c5⟩ := Jvm.LawKit.callS Xi2c3 hx (y := (⟨"java/lang/StringUTF16", "coderFromArrayLen", "([BI)B"⟩ : MethodName)) hown (mvT hZ (hw _ (List.mem_of_getElem? (i := 73) rfl))) (mvT hZ (hw _ (List.mem_of_getElem? (i := 74) rfl))) (mvT hZ (hw _ (List.mem_of_getElem? (i := 68) rfl))) (mvT hZ (hw _ (List.mem_of_getElem? (i := 75) rfl))) (by decide) (backOf (W := 1) (rmca l Z aa hw [] bi2c3 (Int32.ofNat n) wc sx kbi2c3 (Int32.ofNat n) (own_vs n fun j => own_b (g j)) hi2c3 n0 Zi2c3 BW Oi2c3 V_bi2c3) hZ (hw _ (List.mem_of_getElem? (i := 75) rfl)) (hw _ (List.mem_of_getElem? (i := 68) rfl)) (by decide) (by decide)) (g := (mkF m 45 #[.val (.ref a0), .val (.ref a1), .val (.int (0 : Int32)), .val (.int (Int32.ofNat n)), .val .null, .val (.ref bi2c3)] [(.int (Int32.ofNat n)), (.ref bi2c3), (.ref a0)])) rfl (by rw [hml]; rfl) (argsL := [(.ref bi2c3), (.int (Int32.ofNat n))]) (rest := [(.ref a0)]) (lenOf pdi2_1 rfl) rfl (by show 2 * 0 + _ ≤ _; exact Nat.le_of_eq rfl) (hb hby di2_45) (fun _ _ => ⟨rfl, ei2c3, (by decide : 2 + 0 ≤ _), (by decide : 6 + 0 ≤ _)⟩)
    dsimp only [Pt.U, Pt.locs, Pt.cells, Pt.slots] at Xi2c5 li2c5 yi2c5 zi2c5 sti2c5 hQi2c5
    subst li2c5 yi2c5 zi2c5
    obtain ⟨rfl, Ni2c5q, ei2c5⟩ := hQi2c5
    have Ni2c5 := Fr.app Ni2c3 Ni2c5q
    obtain ⟨lci2t6, Xi2c5, Ni2c5⟩ : ∃ lc, Stand p l e ({ frames := 4, cells := 2, slots := 6, locals := 57 } : Room) s m #[(.ref a0), (.ref a1), (.int (0 : Int32)), (.int (Int32.ofNat n)), .null] below meth c Ti2c5 lc 2 6 ∧ Fr n0 lc := ⟨_, Xi2c5, Ni2c5⟩
    refine stp (fun t k => sti2c5 t k) ?_
    show W (Ti2c5.setTop (mkF m 48 #[.val (.ref a0), .val (.ref a1), .val (.int (0 : Int32)), .val (.int (Int32.ofNat n)), .val .null, .val (.ref bi2c3)] [(.int (fca (Int32.ofNat n) (Int32.ofNat n))), (.ref a0)]))
    obtain ⟨Ti27, hi27, Xi27, ei27, Wi27, sti27⟩ := putFN Xi2c5 hx hZ hown (hw _ (List.mem_of_getElem? (i := 32) rfl)) Via.refl ei2c5 F_coder_a0 E_a0 (Or.inr ⟨(hw _ (List.mem_of_getElem? (i := 33) rfl)), rfl, hnm⟩) (hw _ (List.mem_of_getElem? (i := 18) rfl)) (ty := .byte) (v' := (.int (nar .byte (fca (Int32.ofNat n) (Int32.ofNat n))))) (by decide) rfl (fits_nar_byte _) (g := (mkF m 48 #[.val (.ref a0), .val (.ref a1), .val (.int (0 : Int32)), .val (.int (Int32.ofNat n)), .val .null, .val (.ref bi2c3)] [(.int (fca (Int32.ofNat n) (Int32.ofNat n))), (.ref a0)])) rfl rfl (hb hby di2_48)
    have Ni27 := Fr.snoc Xi27 Ni2c5 g_a0
    have F_coder_a0x := F_coder_a0.same Wi27
    obtain ⟨lci2t8, Xi27, Ni27⟩ : ∃ lc, Stand p l e ({ frames := 4, cells := 2, slots := 6, locals := 57 } : Room) s m #[(.ref a0), (.ref a1), (.int (0 : Int32)), (.int (Int32.ofNat n)), .null] below meth c Ti27 lc 2 6 ∧ Fr n0 lc := ⟨_, Xi27, Ni27⟩
    replace E_a0 := E_a0.wr Wi27
    replace F_value_a0 := F_value_a0.other Wi27 (Or.inr (slot_ne (Or.inr (hw _ (List.mem_of_getElem? (i := 31) rfl))) (Or.inr (hw _ (List.mem_of_getElem? (i := 33) rfl))) (by decide) (t := (.array .byte)) (t' := .byte) (by decide) (by decide)))
    replace V_a1 := V_a1.other Wi27 (Ne.symm ne_a0_a1)
    replace V_bi2c3 := V_bi2c3.other Wi27 (Ne.symm ne_a0_bi2c3)
    have Ki27 := KKi2c3.wr Wi27 (Or.inl (List.mem_of_getElem? (i := 0) rfl))
    have Zi27 := Nat.le_trans Zi2c3 (Keep.of_wr Wi27).1
    have Oi27 := Oi2c3.wr Wi27 g_a0
    replace F_coder_a0 := F_coder_a0x
    clear F_coder_a0x
    refine stp (fun t k => sti27 t k) ?_
    show W (Ti27.setTop (mkF m 51 #[.val (.ref a0), .val (.ref a1), .val (.int (0 : Int32)), .val (.int (Int32.ofNat n)), .val .null, .val (.ref bi2c3)] []))
    refine stp (fun t k => XS.aloadN Xi27.here hx rfl (hb hby di2_51) rfl rfl k) ?_
    show W (Ti27.setTop (mkF m 52 #[.val (.ref a0), .val (.ref a1), .val (.int (0 : Int32)), .val (.int (Int32.ofNat n)), .val .null, .val (.ref bi2c3)] [(.ref a0)]))
    refine stp (fun t k => XS.aload Xi27.here hx rfl (hb hby di2_52) rfl rfl k) ?_
    show W (Ti27.setTop (mkF m 54 #[.val (.ref a0), .val (.ref a1), .val (.int (0 : Int32)), .val (.int (Int32.ofNat n)), .val .null, .val (.ref bi2c3)] [(.ref bi2c3), (.ref a0)]))
    obtain ⟨Ti29, hi29, Xi29, ei29, Wi29, sti29⟩ := putF Xi27 hx hZ hown (host := "") (Or.inl (hw _ (List.mem_of_getElem? (i := 30) rfl))) Via.refl ei27 F_value_a0 E_a0 (Or.inr ⟨(hw _ (List.mem_of_getElem? (i := 31) rfl)), rfl, hnm⟩) (hw _ (List.mem_of_getElem? (i := 18) rfl)) (ty := (.array .byte)) (by decide) rfl rfl (g := (mkF m 54 #[.val (.ref a0), .val (.ref a1), .val (.int (0 : Int32)), .val (.int (Int32.ofNat n)), .val .null, .val (.ref bi2c3)] [(.ref bi2c3), (.ref a0)])) rfl rfl (hb hby di2_54)
    have Ni29 := Fr.snoc Xi29 Ni27 g_a0
    have F_value_a0x := F_value_a0.same Wi29
    obtain ⟨lci2t10, Xi29, Ni29⟩ : ∃ lc, Stand p l e ({ frames := 4, cells := 2, slots := 6, locals := 57 } : Room) s m #[(.ref a0), (.ref a1), (.int (0 : Int32)), (.int (Int32.ofNat n)), .null] below meth c Ti29 lc 2 6 ∧ Fr n0 lc := ⟨_, Xi29, Ni29⟩
    replace E_a0 := E_a0.wr Wi29
    replace F_coder_a0 := F_coder_a0.other Wi29 (Or.inr (slot_ne (Or.inr (hw _ (List.mem_of_getElem? (i := 33) rfl))) (Or.inr (hw _ (List.mem_of_getElem? (i := 31) rfl))) (by decide) (t := .byte) (t' := (.array .byte)) (by decide) (by decide)))
    replace V_a1 := V_a1.other Wi29 (Ne.symm ne_a0_a1)
    replace V_bi2c3 := V_bi2c3.other Wi29 (Ne.symm ne_a0_bi2c3)
    have Ki29 := Ki27.wr Wi29 (Or.inl (List.mem_of_getElem? (i := 0) rfl))
    have Zi29 := Nat.le_trans Zi27 (Keep.of_wr Wi29).1
    have Oi29 := Oi27.wr Wi29 g_a0
    replace F_value_a0 := F_value_a0x
    clear F_value_a0x
    refine stp (fun t k => sti29 t k) ?_
    show W (Ti29.setTop (mkF m 57 #[.val (.ref a0), .val (.ref a1), .val (.int (0 : Int32)), .val (.int (Int32.ofNat n)), .val .null, .val (.ref bi2c3)] []))
    show W (Ti29.setTop (mkF m 57 #[.val (.ref a0), .val (.ref a1), .val (.int (0 : Int32)), .val (.int (Int32.ofNat n)), .val .null, .val (.ref bi2c3)] []))
    rw [← hW]
    exact own_ret0 Xi29 hx Bd.notSynchronized Bd.returns (hb hby di2_57) (by show Qi2 Z a0 a1 (0 : Int32) (Int32.ofNat n) wc sx n g ka h0 n0 _ Ti29.heap _; rw [ei29]; exact ⟨rfl, Ni29, Ki29, bi2c3, sz_bi2c3, E_a0, F_value_a0, Or.inl ⟨own_fldEq (own_fca0 (Int32.ofNat n)) F_coder_a0, hki2c3, _, V_bi2c3⟩⟩) (by decide) (by decide)
  · obtain ⟨hki2c3, V_bi2c3⟩ := Ci2c3
    have ne_a0_bi2c3 : a0 ≠ bi2c3 := Nat.ne_of_lt (Nat.lt_of_lt_of_le E0lt sz_bi2c3)
    have ne_a1_bi2c3 : a1 ≠ bi2c3 := Nat.ne_of_lt (Nat.lt_of_lt_of_le V1lt sz_bi2c3)
    show W (Ti2c3.setTop (mkF m 41 #[.val (.ref a0), .val (.ref a1), .val (.int (0 : Int32)), .val (.int (Int32.ofNat n)), .val .null, .val (.ref bi2c3)] []))
    refine stp (fun t k => XS.aloadN Xi2c3.here hx rfl (hb hby di2_41) rfl rfl k) ?_
    show W (Ti2c3.setTop (mkF m 42 #[.val (.ref a0), .val (.ref a1), .val (.int (0 : Int32)), .val (.int (Int32.ofNat n)), .val .null, .val (.ref bi2c3)] [(.ref a0)]))
    refine stp (fun t k => XS.aload Xi2c3.here hx rfl (hb hby di2_42) rfl rfl k) ?_
    show W (Ti2c3.setTop (mkF m 44 #[.val (.ref a0), .val (.ref a1), .val (.int (0 : Int32)), .val (.int (Int32.ofNat n)), .val .null, .val (.ref bi2c3)] [(.ref bi2c3), (.ref a0)]))
    refine stp (fun t k => XS.iloadN Xi2c3.here hx rfl (hb hby di2_44) rfl k) ?_
    show W (Ti2c3.setTop (mkF m 45 #[.val (.ref a0), .val (.ref a1), .val (.int (0 : Int32)), .val (.int (Int32.ofNat n)), .val .null, .val (.ref bi2c3)] [(.int (Int32.ofNat n)), (.ref bi2c3), (.ref a0)]))
    obtain ⟨_, _, ⟨Ti2c11, Li2c11, ki2c11, ni2c11⟩, -, Xi2c11, ⟨Lci2c11, hQi2c11, li2c11, yi2c11, zi2c11⟩, sti2c11⟩ := Jvm.LawKit.callS Xi2c3 hx (y := (⟨"java/lang/StringUTF16", "coderFromArrayLen", "([BI)B"⟩ : MethodName)) hown (mvT hZ (hw _ (List.mem_of_getElem? (i := 73) rfl))) (mvT hZ (hw _ (List.mem_of_getElem? (i := 74) rfl))) (mvT hZ (hw _ (List.mem_of_getElem? (i := 68) rfl))) (mvT hZ (hw _ (List.mem_of_getElem? (i := 75) rfl))) (by decide) (backOf (W := 1) (rmca l Z aa hw [] bi2c3 (Int32.ofNat n) wc sx kbi2c3 (Int32.ofNat (2 * n)) (own_vs (2 * n) (own_u g)) hi2c3 n0 Zi2c3 BW Oi2c3 V_bi2c3) hZ (hw _ (List.mem_of_getElem? (i := 75) rfl)) (hw _ (List.mem_of_getElem? (i := 68) rfl)) (by decide) (by decide)) (g := (mkF m 45 #[.val (.ref a0), .val (.ref a1), .val (.int (0 : Int32)), .val (.int (Int32.ofNat n)), .val .null, .val (.ref bi2c3)] [(.int (Int32.ofNat n)), (.ref bi2c3), (.ref a0)])) rfl (by rw [hml]; rfl) (argsL := [(.ref bi2c3), (.int (Int32.ofNat n))]) (rest := [(.ref a0)]) (lenOf pdi2_1 rfl) rfl (by show 2 * 0 + _ ≤ _; exact Nat.le_of_eq rfl) (hb hby di2_45) (fun _ _ => ⟨rfl, ei2c3, (by decide : 2 + 0 ≤ _), (by decide : 6 + 0 ≤ _)⟩)
    dsimp only [Pt.U, Pt.locs, Pt.cells, Pt.slots] at Xi2c11 li2c11 yi2c11 zi2c11 sti2c11 hQi2c11
    subst li2c11 yi2c11 zi2c11
    obtain ⟨rfl, Ni2c11q, ei2c11⟩ := hQi2c11
    have Ni2c11 := Fr.app Ni2c3 Ni2c11q
    obtain ⟨lci2t12, Xi2c11, Ni2c11⟩ : ∃ lc, Stand p l e ({ frames := 4, cells := 2, slots := 6, locals := 57 } : Room) s m #[(.ref a0), (.ref a1), (.int (0 : Int32)), (.int (Int32.ofNat n)), .null] below meth c Ti2c11 lc 2 6 ∧ Fr n0 lc := ⟨_, Xi2c11, Ni2c11⟩
    refine stp (fun t k => sti2c11 t k) ?_
    show W (Ti2c11.setTop (mkF m 48 #[.val (.ref a0), .val (.ref a1), .val (.int (0 : Int32)), .val (.int (Int32.ofNat n)), .val .null, .val (.ref bi2c3)] [(.int (fca (Int32.ofNat n) (Int32.ofNat (2 * n)))), (.ref a0)]))
    obtain ⟨Ti213, hi213, Xi213, ei213, Wi213, sti213⟩ := putFN Xi2c11 hx hZ hown (hw _ (List.mem_of_getElem? (i := 32) rfl)) Via.refl ei2c11 F_coder_a0 E_a0 (Or.inr ⟨(hw _ (List.mem_of_getElem? (i := 33) rfl)), rfl, hnm⟩) (hw _ (List.mem_of_getElem? (i := 18) rfl)) (ty := .byte) (v' := (.int (nar .byte (fca (Int32.ofNat n) (Int32.ofNat (2 * n)))))) (by decide) rfl (fits_nar_byte _) (g := (mkF m 48 #[.val (.ref a0), .val (.ref a1), .val (.int (0 : Int32)), .val (.int (Int32.ofNat n)), .val .null, .val (.ref bi2c3)] [(.int (fca (Int32.ofNat n) (Int32.ofNat (2 * n)))), (.ref a0)])) rfl rfl (hb hby di2_48)
    have Ni213 := Fr.snoc Xi213 Ni2c11 g_a0
    have F_coder_a0x := F_coder_a0.same Wi213
    obtain ⟨lci2t14, Xi213, Ni213⟩ : ∃ lc, Stand p l e ({ frames := 4, cells := 2, slots := 6, locals := 57 } : Room) s m #[(.ref a0), (.ref a1), (.int (0 : Int32)), (.int (Int32.ofNat n)), .null] below meth c Ti213 lc 2 6 ∧ Fr n0 lc := ⟨_, Xi213, Ni213⟩
    replace E_a0 := E_a0.wr Wi213
    replace F_value_a0 := F_value_a0.other Wi213 (Or.inr (slot_ne (Or.inr (hw _ (List.mem_of_getElem? (i := 31) rfl))) (Or.inr (hw _ (List.mem_of_getElem? (i := 33) rfl))) (by decide) (t := (.array .byte)) (t' := .byte) (by decide) (by decide)))
    replace V_a1 := V_a1.other Wi213 (Ne.symm ne_a0_a1)
    replace V_bi2c3 := V_bi2c3.other Wi213 (Ne.symm ne_a0_bi2c3)
    have Ki213 := KKi2c3.wr Wi213 (Or.inl (List.mem_of_getElem? (i := 0) rfl))
    have Zi213 := Nat.le_trans Zi2c3 (Keep.of_wr Wi213).1
    have Oi213 := Oi2c3.wr Wi213 g_a0
    replace F_coder_a0 := F_coder_a0x
    clear F_coder_a0x
    refine stp (fun t k => sti213 t k) ?_
    show W (Ti213.setTop (mkF m 51 #[.val (.ref a0), .val (.ref a1), .val (.int (0 : Int32)), .val (.int (Int32.ofNat n)), .val .null, .val (.ref bi2c3)] []))
    refine stp (fun t k => XS.aloadN Xi213.here hx rfl (hb hby di2_51) rfl rfl k) ?_
    show W (Ti213.setTop (mkF m 52 #[.val (.ref a0), .val (.ref a1), .val (.int (0 : Int32)), .val (.int (Int32.ofNat n)), .val .null, .val (.ref bi2c3)] [(.ref a0)]))
    refine stp (fun t k => XS.aload Xi213.here hx rfl (hb hby di2_52) rfl rfl k) ?_
    show W (Ti213.setTop (mkF m 54 #[.val (.ref a0), .val (.ref a1), .val (.int (0 : Int32)), .val (.int (Int32.ofNat n)), .val .null, .val (.ref bi2c3)] [(.ref bi2c3), (.ref a0)]))
    obtain ⟨Ti215, hi215, Xi215, ei215, Wi215, sti215⟩ := putF Xi213 hx hZ hown (host := "") (Or.inl (hw _ (List.mem_of_getElem? (i := 30) rfl))) Via.refl ei213 F_value_a0 E_a0 (Or.inr ⟨(hw _ (List.mem_of_getElem? (i := 31) rfl)), rfl, hnm⟩) (hw _ (List.mem_of_getElem? (i := 18) rfl)) (ty := (.array .byte)) (by decide) rfl rfl (g := (mkF m 54 #[.val (.ref a0), .val (.ref a1), .val (.int (0 : Int32)), .val (.int (Int32.ofNat n)), .val .null, .val (.ref bi2c3)] [(.ref bi2c3), (.ref a0)])) rfl rfl (hb hby di2_54)
    have Ni215 := Fr.snoc Xi215 Ni213 g_a0
    have F_value_a0x := F_value_a0.same Wi215
    obtain ⟨lci2t16, Xi215, Ni215⟩ : ∃ lc, Stand p l e ({ frames := 4, cells := 2, slots := 6, locals := 57 } : Room) s m #[(.ref a0), (.ref a1), (.int (0 : Int32)), (.int (Int32.ofNat n)), .null] below meth c Ti215 lc 2 6 ∧ Fr n0 lc := ⟨_, Xi215, Ni215⟩
    replace E_a0 := E_a0.wr Wi215
    replace F_coder_a0 := F_coder_a0.other Wi215 (Or.inr (slot_ne (Or.inr (hw _ (List.mem_of_getElem? (i := 33) rfl))) (Or.inr (hw _ (List.mem_of_getElem? (i := 31) rfl))) (by decide) (t := .byte) (t' := (.array .byte)) (by decide) (by decide)))
    replace V_a1 := V_a1.other Wi215 (Ne.symm ne_a0_a1)
    replace V_bi2c3 := V_bi2c3.other Wi215 (Ne.symm ne_a0_bi2c3)
    have Ki215 := Ki213.wr Wi215 (Or.inl (List.mem_of_getElem? (i := 0) rfl))
    have Zi215 := Nat.le_trans Zi213 (Keep.of_wr Wi215).1
    have Oi215 := Oi213.wr Wi215 g_a0
    replace F_value_a0 := F_value_a0x
    clear F_value_a0x
    refine stp (fun t k => sti215 t k) ?_
    show W (Ti215.setTop (mkF m 57 #[.val (.ref a0), .val (.ref a1), .val (.int (0 : Int32)), .val (.int (Int32.ofNat n)), .val .null, .val (.ref bi2c3)] []))
    show W (Ti215.setTop (mkF m 57 #[.val (.ref a0), .val (.ref a1), .val (.int (0 : Int32)), .val (.int (Int32.ofNat n)), .val .null, .val (.ref bi2c3)] []))
    rw [← hW]
    exact own_ret0 Xi215 hx Bd.notSynchronized Bd.returns (hb hby di2_57) (by show Qi2 Z a0 a1 (0 : Int32) (Int32.ofNat n) wc sx n g ka h0 n0 _ Ti215.heap _; rw [ei215]; exact ⟨rfl, Ni215, Ki215, bi2c3, sz_bi2c3, E_a0, F_value_a0, Or.inr ⟨own_fldEq (own_fca1 h1 (by omega)) F_coder_a0, _, V_bi2c3⟩⟩) (by decide) (by decide)
theorem di1_0 : decode jdk_42_method_3_code 0 = .ok (.aload_n 0, 1) := by decide +kernel
theorem di1_1 : decode jdk_42_method_3_code 1 = .ok (.aload_n 1, 1) := by decide +kernel
theorem di1_2 : decode jdk_42_method_3_code 2 = .ok (.iconst 0, 1) := by decide +kernel
theorem di1_3 : decode jdk_42_method_3_code 3 = .ok (.aload_n 1, 1) := by decide +kernel
theorem di1_4 : decode jdk_42_method_3_code 4 = .ok (.arraylength, 1) := by decide +kernel
theorem di1_5 : decode jdk_42_method_3_code 5 = .ok (.aconst_null, 1) := by decide +kernel
theorem di1_6 : decode jdk_42_method_3_code 6 = .ok (.invokespecial 27, 3) := by decide +kernel
theorem di1_9 : decode jdk_42_method_3_code 9 = .ok (.return_, 1) := by decide +kernel
theorem pni1 : plainName "java/lang/String" = true := by first | (simp [plainName, overriddenIn]; done) | decide +kernel
theorem pdi1_0 : parseMethodDescriptor "([CIILjava/lang/Void;)V" = some ⟨[(.array .char), .int, .int, (.object "java/lang/Void")], none⟩ := by decide +kernel
theorem efi1 (m : MethodId) (a0 : Addr) (a1 : Addr) : entryFrame m #[(.ref a0), (.ref a1)] 2 = mkF m 0 #[.val (.ref a0), .val (.ref a1)] [] := by first | (simp [entryFrame, mkF, argsToLocals, Value.category]; done) | rfl
def Qi1 (Z : State) (a0 : Addr) (a1 : Addr) (wc : Int32) (sx : Value) (n : Nat) (g : Nat → Int32) (ka : ClassId) (h0 : Heap) (n0 : Nat) (v : Option Value) (h : Heap) (L : List Loc) : Prop := v = none ∧ Fr n0 L ∧ Keep h0 h [a0] ∧ ∃ b : Addr, h0.size ≤ b ∧ OwnStr Z h a0 b n g
set_option maxRecDepth 65536 in
set_option maxHeartbeats 40000000 in
theorem rmi1 (l : Launch) (Z : State) (aa : Array Value) (hw : ∀ d ∈ tables_1, d.before aa Z = true) (ws : List Jvm.Cond) (a0 : Addr) (a1 : Addr) (wc : Int32) (sx : Value) (n : Nat) (g : Nat → Int32) (ka : ClassId) (h0 : Heap) (n0 : Nat) (Z0 : n0 ≤ h0.size) (BW : OwnW Z wc sx) (O0 : Old Z n0 h0) (hn : n ≤ 2) (hch : ∀ j, j < n → 0 ≤ (g j).toInt ∧ (g j).toInt < 65536) (E_a0 : Exa Z h0 a0 "java/lang/String") (F_value_a0 : Fld Z h0 a0 "java/lang/String" "value" "[B" .null) (F_coder_a0 : Fld Z h0 a0 "java/lang/String" "coder" "B" (.int (0 : Int32))) (g_a0 : n0 ≤ a0) (V_a1 : Arv Z h0 a1 ka .char (Int32.ofNat n) (own_vs n g) (.int (0 : Int32))) (ne_a0_a1 : a0 ≠ a1) (h1 : 1 ≤ n) :
    MetFree l (⟨"java/lang/String", "<init>", "([C)V"⟩ : MethodName) (head1 (Jvm.Cond.code (⟨"java/lang/String", "<init>", "([C)V"⟩ : MethodName) jdk_42_method_3_code 2 none :: ws) ({ frames := 5, cells := 2, slots := 6, locals := 74 } : Room)) (fun a U => a = #[(.ref a0), (.ref a1)] ∧ Z.Warmed39 U.vm ∧ U.heap = h0) (fun _ _ _ _ _ => True) (fun _ U o U' => ∃ v L, o = .returned v ∧ Qi1 Z a0 a1 wc sx n g ka h0 n0 v U'.heap L ∧ FrameEnd U o U' L ({ frames := 5, cells := 2, slots := 6, locals := 74 } : Room).cells ({ frames := 5, cells := 2, slots := 6, locals := 74 } : Room).slots) := by
  refine MetFree.of_bodySF (plainFor_of_name pni1) hisR ?_
  intro p e s m args below meth c s₁ Bd hml0 hP hK
  obtain ⟨rfl, hZ, hh⟩ := hP
  have hx := Bd.exec
  have hby := Bd.bytes
  have hml : c.maxLocals = 2 := hml0
  have hown : s.vm.findClass "java/lang/String" = some m.cls := findClass_of_methodNamed Bd.named
  have hnm := (name_of_methodNamed Bd.named Bd.method).1
  have X0 : Stand p l e ({ frames := 5, cells := 2, slots := 6, locals := 74 } : Room) s m #[(.ref a0), (.ref a1)] below meth c s₁ [] 0 0 := Stand.of_body Bd
  have e0 : s₁.heap = h0 := by rw [← hh, Bd.state]; rfl
  have N0 := Fr.nil n0
  show OwnEnd p e below s (fun v h L => Qi1 Z a0 a1 wc sx n g ka h0 n0 v h L) ({ frames := 5, cells := 2, slots := 6, locals := 74 } : Room).cells ({ frames := 5, cells := 2, slots := 6, locals := 74 } : Room).slots (s₁.setTop (entryFrame m #[(.ref a0), (.ref a1)] 2))
  rw [efi1 m a0 a1]
  generalize hW : OwnEnd p e below s (fun v h L => Qi1 Z a0 a1 wc sx n g ka h0 n0 v h L) ({ frames := 5, cells := 2, slots := 6, locals := 74 } : Room).cells ({ frames := 5, cells := 2, slots := 6, locals := 74 } : Room).slots = W
  have stp : ∀ {A B : State}, (∀ t, Steps p.tables e below B t → Steps p.tables e below A t) → W B → W A := by subst hW; exact own_step
  obtain ⟨S_cs, hcs, S_si, hr_sx, S_ad, S_hi, S_lo⟩ := id BW
  show W (s₁.setTop (mkF m 0 #[.val (.ref a0), .val (.ref a1)] []))
  refine stp (fun t k => XS.aloadN X0.here hx rfl (hb hby di1_0) rfl rfl k) ?_
  show W (s₁.setTop (mkF m 1 #[.val (.ref a0), .val (.ref a1)] [(.ref a0)]))
  refine stp (fun t k => XS.aloadN X0.here hx rfl (hb hby di1_1) rfl rfl k) ?_
  show W (s₁.setTop (mkF m 2 #[.val (.ref a0), .val (.ref a1)] [(.ref a1), (.ref a0)]))
  refine stp (fun t k => XS.iconst X0.here hx rfl (hb hby di1_2) k) ?_
  show W (s₁.setTop (mkF m 3 #[.val (.ref a0), .val (.ref a1)] [(.int (0 : Int32)), (.ref a1), (.ref a0)]))
  refine stp (fun t k => XS.aloadN X0.here hx rfl (hb hby di1_3) rfl rfl k) ?_
  show W (s₁.setTop (mkF m 4 #[.val (.ref a0), .val (.ref a1)] [(.ref a1), (.int (0 : Int32)), (.ref a1), (.ref a0)]))
  obtain ⟨cli11, Ari11, qki11, qsi11, qni11, qhi11, qgi11⟩ := id V_a1
  refine stp (fun t k => X0.arraylength hx (by rw [e0]; exact Ari11.1) (State.isArrayOf_alike hZ.alike Ari11.2.1) (g := (mkF m 4 #[.val (.ref a0), .val (.ref a1)] [(.ref a1), (.int (0 : Int32)), (.ref a1), (.ref a0)])) rfl rfl (hb hby di1_4) _ k) ?_
  rw [len_of qsi11 qni11]
  show W (s₁.setTop (mkF m 5 #[.val (.ref a0), .val (.ref a1)] [(.int (Int32.ofNat n)), (.int (0 : Int32)), (.ref a1), (.ref a0)]))
  refine stp (fun t k => XS.aconstNull X0.here hx rfl (hb hby di1_5) k) ?_
  show W (s₁.setTop (mkF m 6 #[.val (.ref a0), .val (.ref a1)] [.null, (.int (Int32.ofNat n)), (.int (0 : Int32)), (.ref a1), (.ref a0)]))
  obtain ⟨_, _, ⟨Ti1c2, Li1c2, ki1c2, ni1c2⟩, -, Xi1c2, ⟨Lci1c2, hQi1c2, li1c2, yi1c2, zi1c2⟩, sti1c2⟩ := X0.specialBack hx (y := (⟨"java/lang/String", "<init>", "([CIILjava/lang/Void;)V"⟩ : MethodName)) rfl hown (mvT hZ (hw _ (List.mem_of_getElem? (i := 63) rfl))) (mvT hZ (hw _ (List.mem_of_getElem? (i := 64) rfl))) (mvT hZ (hw _ (List.mem_of_getElem? (i := 65) rfl))) (by decide) (backOf (W := 0) (rmi2 l Z aa hw [] a0 a1 (0 : Int32) (Int32.ofNat n) wc sx n g ka h0 n0 Z0 BW O0 hn hch E_a0 F_value_a0 F_coder_a0 g_a0 V_a1 ne_a0_a1 h1 rfl rfl) hZ (hw _ (List.mem_of_getElem? (i := 65) rfl)) (hw _ (List.mem_of_getElem? (i := 10) rfl)) (by decide) (by decide)) (g := (mkF m 6 #[.val (.ref a0), .val (.ref a1)] [.null, (.int (Int32.ofNat n)), (.int (0 : Int32)), (.ref a1), (.ref a0)])) rfl (by rw [hml]; rfl) (Steps.refl _) (a := a0) (argsL := [(.ref a1), (.int (0 : Int32)), (.int (Int32.ofNat n)), .null]) (rest := []) (lenOf pdi1_0 rfl) rfl (by show 2 * 0 + _ ≤ _; exact Nat.le_of_eq rfl) (hb hby di1_6) (fun _ _ => ⟨rfl, e0, (by decide : 0 + 2 ≤ _), (by decide : 0 + 6 ≤ _)⟩)
  dsimp only [Pt.U, Pt.locs, Pt.cells, Pt.slots] at Xi1c2 li1c2 yi1c2 zi1c2 sti1c2 hQi1c2
  subst li1c2 yi1c2 zi1c2
  obtain ⟨rfl, Ni1c2q, Kqi1c2, Gi1c2⟩ := hQi1c2
  have Ni1c2 := Fr.app N0 Ni1c2q
  obtain ⟨lci1t3, Xi1c2, Ni1c2⟩ : ∃ lc, Stand p l e ({ frames := 5, cells := 2, slots := 6, locals := 74 } : Room) s m #[(.ref a0), (.ref a1)] below meth c Ti1c2 lc 2 6 ∧ Fr n0 lc := ⟨_, Xi1c2, Ni1c2⟩
  refine stp (fun t k => sti1c2.trans k) ?_
  obtain ⟨hi1c2, ei1c2⟩ : ∃ h, Ti1c2.heap = h := ⟨_, rfl⟩
  rw [ei1c2] at Kqi1c2 Gi1c2
  show W (Ti1c2.setTop (mkF m 9 #[.val (.ref a0), .val (.ref a1)] []))
  show W (Ti1c2.setTop (mkF m 9 #[.val (.ref a0), .val (.ref a1)] []))
  rw [← hW]
  exact own_ret0 Xi1c2 hx Bd.notSynchronized Bd.returns (hb hby di1_9) (by show Qi1 Z a0 a1 wc sx n g ka h0 n0 _ Ti1c2.heap _; rw [ei1c2]; exact ⟨rfl, Ni1c2, Kqi1c2, Gi1c2⟩) (by decide) (by decide)
theorem own_strCongr {Z : State} {h : Heap} {a b : Addr} {n : Nat} {g g' : Nat → Int32} (e : ∀ j, j < n → g j = g' j) (S : OwnStr Z h a b n g) : OwnStr Z h a b n g' := by
  obtain ⟨A, F, C⟩ := S
  refine ⟨A, F, ?_⟩
  rcases C with ⟨C, q, k, V⟩ | ⟨C, k, V⟩
  · exact Or.inl ⟨C, fun j hj => (e j hj) ▸ q j hj, k, own_arvEq (own_vsCongr fun j hj => by rw [e j hj]) V⟩
  · exact Or.inr ⟨C, k, own_arvEq (own_vsCongr fun j hj => by unfold own_u; rw [e (j / 2) (by omega)]) V⟩
theorem own_t1 (c : Int32) : ([.int (own_b c)] : List Value) = own_vs 1 fun _ => own_b c := rfl
theorem own_t2 (c : Int32) : ((([.int (0 : Int32), .int (0 : Int32)] : List Value).set (2 * 0) (.int (own_lo c))).set (2 * 0 + 1) (.int (own_hi c))) = own_vs (2 * 1) (own_u fun _ => c) := rfl
theorem dce_0 : decode jdk_43_method_3_code 0 = .ok (.iload_n 0, 1) := by decide +kernel
theorem dce_1 : decode jdk_43_method_3_code 1 = .ok (.sipush 255, 3) := by decide +kernel
theorem dce_4 : decode jdk_43_method_3_code 4 = .ok (.if_icmp .gt 7, 3) := by decide +kernel
theorem dce_7 : decode jdk_43_method_3_code 7 = .ok (.iconst 1, 1) := by decide +kernel
theorem dce_8 : decode jdk_43_method_3_code 8 = .ok (.goto 4, 3) := by decide +kernel
theorem dce_11 : decode jdk_43_method_3_code 11 = .ok (.iconst 0, 1) := by decide +kernel
theorem dce_12 : decode jdk_43_method_3_code 12 = .ok (.ireturn, 1) := by decide +kernel
theorem pnce : plainName "java/lang/StringLatin1" = true := by first | (simp [plainName, overriddenIn]; done) | decide +kernel
theorem efce (m : MethodId) (p0 : Int32) : entryFrame m #[(.int p0)] 1 = mkF m 0 #[.val (.int p0)] [] := by first | (simp [entryFrame, mkF, argsToLocals, Value.category]; done) | rfl
def fce (p0 : Int32) : Int32 := (if (255 : Int32) < p0 then (0 : Int32) else (1 : Int32))
def Qce (Z : State) (p0 : Int32) (h0 : Heap) (n0 : Nat) (v : Option Value) (h : Heap) (L : List Loc) : Prop := v = some (.int (fce p0)) ∧ Fr n0 L ∧ h = h0
set_option maxRecDepth 65536 in
set_option maxHeartbeats 40000000 in
theorem rmce (l : Launch) (Z : State) (aa : Array Value) (hw : ∀ d ∈ tables_1, d.before aa Z = true) (ws : List Jvm.Cond) (p0 : Int32) (h0 : Heap) (n0 : Nat) (Z0 : n0 ≤ h0.size) :
    MetFree l (⟨"java/lang/StringLatin1", "canEncode", "(C)Z"⟩ : MethodName) (head1 (Jvm.Cond.code (⟨"java/lang/StringLatin1", "canEncode", "(C)Z"⟩ : MethodName) jdk_43_method_3_code 1 (some .boolean) :: ws) ({ frames := 0, cells := 0, slots := 0, locals := 0 } : Room)) (fun a U => a = #[(.int p0)] ∧ Z.Warmed39 U.vm ∧ U.heap = h0) (fun _ _ _ _ _ => True) (fun _ U o U' => ∃ v L, o = .returned v ∧ Qce Z p0 h0 n0 v U'.heap L ∧ FrameEnd U o U' L ({ frames := 0, cells := 0, slots := 0, locals := 0 } : Room).cells ({ frames := 0, cells := 0, slots := 0, locals := 0 } : Room).slots) := by
  refine MetFree.of_bodySF (plainFor_of_name pnce) hisR ?_
  intro p e s m args below meth c s₁ Bd hml0 hP hK
  obtain ⟨rfl, hZ, hh⟩ := hP
  have hx := Bd.exec
  have hby := Bd.bytes
  have hml : c.maxLocals = 1 := hml0
  have hown : s.vm.findClass "java/lang/StringLatin1" = some m.cls := findClass_of_methodNamed Bd.named
  have hnm := (name_of_methodNamed Bd.named Bd.method).1
  have X0 : Stand p l e ({ frames := 0, cells := 0, slots := 0, locals := 0 } : Room) s m #[(.int p0)] below meth c s₁ [] 0 0 := Stand.of_body Bd
  have e0 : s₁.heap = h0 := by rw [← hh, Bd.state]; rfl
  have N0 := Fr.nil n0
  show OwnEnd p e below s (fun v h L => Qce Z p0 h0 n0 v h L) ({ frames := 0, cells := 0, slots := 0, locals := 0 } : Room).cells ({ frames := 0, cells := 0, slots := 0, locals := 0 } : Room).slots (s₁.setTop (entryFrame m #[(.int p0)] 1))
  rw [efce m p0]
  generalize hW : OwnEnd p e below s (fun v h L => Qce Z p0 h0 n0 v h L) ({ frames := 0, cells := 0, slots := 0, locals := 0 } : Room).cells ({ frames := 0, cells := 0, slots := 0, locals := 0 } : Room).slots = W
  have stp : ∀ {A B : State}, (∀ t, Steps p.tables e below B t → Steps p.tables e below A t) → W B → W A := by subst hW; exact own_step
  show W (s₁.setTop (mkF m 0 #[.val (.int p0)] []))
  refine stp (fun t k => XS.iloadN X0.here hx rfl (hb hby dce_0) rfl k) ?_
  show W (s₁.setTop (mkF m 1 #[.val (.int p0)] [(.int p0)]))
  refine stp (fun t k => XS.sipush X0.here hx rfl (hb hby dce_1) k) ?_
  show W (s₁.setTop (mkF m 4 #[.val (.int p0)] [(.int (255 : Int32)), (.int p0)]))
  by_cases hcce_1 : (255 : Int32) < p0
  · refine stp (fun t k => XS.icmpYes X0.here hx rfl (pc0 := 4) (pc' := 11) rfl (hb hby dce_4) rfl ((tlt hcce_1).2.2.1) (by decide) (by decide) k) ?_
    show W (s₁.setTop (mkF m 11 #[.val (.int p0)] []))
    refine stp (fun t k => XS.iconst X0.here hx rfl (hb hby dce_11) k) ?_
    show W (s₁.setTop (mkF m 12 #[.val (.int p0)] [(.int (0 : Int32))]))
    show W (s₁.setTop (mkF m 12 #[.val (.int p0)] [(.int (0 : Int32))]))
    rw [← hW]
    exact own_retN X0 hx Bd.notSynchronized Bd.returns (w := (0 : Int32)) (by simp) (hb hby dce_12) rfl (by show Qce Z p0 h0 n0 _ s₁.heap _; rw [e0]; exact ⟨(by rw [fce, if_pos hcce_1]), N0, rfl⟩) (by decide) (by decide)
  · refine stp (fun t k => XS.icmpNo X0.here hx rfl (hb hby dce_4) rfl ((flt hcce_1).2.2.1) k) ?_
    show W (s₁.setTop (mkF m 7 #[.val (.int p0)] []))
    refine stp (fun t k => XS.iconst X0.here hx rfl (hb hby dce_7) k) ?_
    show W (s₁.setTop (mkF m 8 #[.val (.int p0)] [(.int (1 : Int32))]))
    refine stp (fun t k => XS.goto X0.here hx rfl (pc0 := 8) (pc' := 12) rfl (hb hby dce_8) (by decide) (by decide) k) ?_
    show W (s₁.setTop (mkF m 12 #[.val (.int p0)] [(.int (1 : Int32))]))
    show W (s₁.setTop (mkF m 12 #[.val (.int p0)] [(.int (1 : Int32))]))
    rw [← hW]
    exact own_retN X0 hx Bd.notSynchronized Bd.returns (w := (1 : Int32)) (by simp) (hb hby dce_12) rfl (by show Qce Z p0 h0 n0 _ s₁.heap _; rw [e0]; exact ⟨(by rw [fce, if_neg hcce_1]), N0, rfl⟩) (by decide) (by decide)
theorem own_ce {c : Int32} (h : ¬ (fce c = (0 : Int32))) : c.toInt < 256 := by
  by_cases q : (255 : Int32) < c
  · exact absurd (by rw [fce, if_pos q]) h
  · exact own_c256 q
theorem dt1_0 : decode jdk_43_method_46_code 0 = .ok (.iconst 1, 1) := by decide +kernel
theorem dt1_1 : decode jdk_43_method_46_code 1 = .ok (.newarray .byte, 2) := by decide +kernel
theorem dt1_3 : decode jdk_43_method_46_code 3 = .ok (.dup, 1) := by decide +kernel
theorem dt1_4 : decode jdk_43_method_46_code 4 = .ok (.iconst 0, 1) := by decide +kernel
theorem dt1_5 : decode jdk_43_method_46_code 5 = .ok (.iload_n 0, 1) := by decide +kernel
theorem dt1_6 : decode jdk_43_method_46_code 6 = .ok (.i2b, 1) := by decide +kernel
theorem dt1_7 : decode jdk_43_method_46_code 7 = .ok (.bastore, 1) := by decide +kernel
theorem dt1_8 : decode jdk_43_method_46_code 8 = .ok (.areturn, 1) := by decide +kernel
theorem pnt1 : plainName "java/lang/StringLatin1" = true := by first | (simp [plainName, overriddenIn]; done) | decide +kernel
theorem eft1 (m : MethodId) (p0 : Int32) : entryFrame m #[(.int p0)] 1 = mkF m 0 #[.val (.int p0)] [] := by first | (simp [entryFrame, mkF, argsToLocals, Value.category]; done) | rfl
def Qt1 (Z : State) (p0 : Int32) (wc : Int32) (sx : Value) (h0 : Heap) (n0 : Nat) (v : Option Value) (h : Heap) (L : List Loc) : Prop := ∃ (b : Addr) (kb : ClassId), v = some (.ref b) ∧ Fr n0 L ∧ Keep h0 h [] ∧ h0.size ≤ b ∧ Arv Z h b kb .byte (Int32.ofNat 1) (own_vs (1) fun _ => own_b p0) (.int (0 : Int32))
set_option maxRecDepth 65536 in
set_option maxHeartbeats 40000000 in
theorem rmt1 (l : Launch) (Z : State) (aa : Array Value) (hw : ∀ d ∈ tables_1, d.before aa Z = true) (ws : List Jvm.Cond) (p0 : Int32) (wc : Int32) (sx : Value) (h0 : Heap) (n0 : Nat) (Z0 : n0 ≤ h0.size) (BW : OwnW Z wc sx) (O0 : Old Z n0 h0) :
    MetFree l (⟨"java/lang/StringLatin1", "toBytes", "(C)[B"⟩ : MethodName) (head1 (Jvm.Cond.code (⟨"java/lang/StringLatin1", "toBytes", "(C)[B"⟩ : MethodName) jdk_43_method_46_code 1 (some (.array .byte)) :: ws) ({ frames := 0, cells := 1, slots := 1, locals := 0 } : Room)) (fun a U => a = #[(.int p0)] ∧ Z.Warmed39 U.vm ∧ U.heap = h0) (fun _ _ _ _ _ => True) (fun _ U o U' => ∃ v L, o = .returned v ∧ Qt1 Z p0 wc sx h0 n0 v U'.heap L ∧ FrameEnd U o U' L ({ frames := 0, cells := 1, slots := 1, locals := 0 } : Room).cells ({ frames := 0, cells := 1, slots := 1, locals := 0 } : Room).slots) := by
  refine MetFree.of_bodySF (plainFor_of_name pnt1) hisR ?_
  intro p e s m args below meth c s₁ Bd hml0 hP hK
  obtain ⟨rfl, hZ, hh⟩ := hP
  have hx := Bd.exec
  have hby := Bd.bytes
  have hml : c.maxLocals = 1 := hml0
  have hown : s.vm.findClass "java/lang/StringLatin1" = some m.cls := findClass_of_methodNamed Bd.named
  have hnm := (name_of_methodNamed Bd.named Bd.method).1
  have X0 : Stand p l e ({ frames := 0, cells := 1, slots := 1, locals := 0 } : Room) s m #[(.int p0)] below meth c s₁ [] 0 0 := Stand.of_body Bd
  have e0 : s₁.heap = h0 := by rw [← hh, Bd.state]; rfl
  have N0 := Fr.nil n0
  show OwnEnd p e below s (fun v h L => Qt1 Z p0 wc sx h0 n0 v h L) ({ frames := 0, cells := 1, slots := 1, locals := 0 } : Room).cells ({ frames := 0, cells := 1, slots := 1, locals := 0 } : Room).slots (s₁.setTop (entryFrame m #[(.int p0)] 1))
  rw [eft1 m p0]
  generalize hW : OwnEnd p e below s (fun v h L => Qt1 Z p0 wc sx h0 n0 v h L) ({ frames := 0, cells := 1, slots := 1, locals := 0 } : Room).cells ({ frames := 0, cells := 1, slots := 1, locals := 0 } : Room).slots = W
  have stp : ∀ {A B : State}, (∀ t, Steps p.tables e below B t → Steps p.tables e below A t) → W B → W A := by subst hW; exact own_step
  obtain ⟨S_cs, hcs, S_si, hr_sx, S_ad, S_hi, S_lo⟩ := id BW
  show W (s₁.setTop (mkF m 0 #[.val (.int p0)] []))
  refine stp (fun t k => XS.iconst X0.here hx rfl (hb hby dt1_0) k) ?_
  show W (s₁.setTop (mkF m 1 #[.val (.int p0)] [(.int (1 : Int32))]))
  obtain ⟨Tt11, ht11, kt11, Xt11, et11, Et11, At11, stt11⟩ := newP X0 hx hZ (hw _ (List.mem_of_getElem? (i := 22) rfl)) e0 (g := (mkF m 1 #[.val (.int p0)] [(.int (1 : Int32))])) rfl (hb hby dt1_1) rfl (by decide) (cap := 1) (by decide) (by decide) (by decide) (by decide)
  obtain ⟨bt11, gqt11⟩ : ∃ z, z = h0.size := ⟨_, rfl⟩
  rw [← gqt11] at At11 stt11
  have g_bt11 : n0 ≤ bt11 := Nat.le_trans Z0 (Nat.le_of_eq gqt11.symm)
  have sz_bt11 : h0.size ≤ bt11 := Nat.le_trans (Keep.refl h0 []).1 (Nat.le_of_eq gqt11.symm)
  have Kt11 := (Keep.refl h0 []).ext Et11
  have Zt11 := Nat.le_trans Z0 Et11.1
  have Ot11 := O0.ext Et11
  have V_bt11 : Arv Z ht11 bt11 kt11 .byte (1 : Int32) [(.int (0 : Int32))] (.int (0 : Int32)) := (Arv.new At11 (by decide)).pad (pad_rep [] (.int (0 : Int32)) 1)
  refine stp (fun t k => stt11 t k) ?_
  show W (Tt11.setTop (mkF m 3 #[.val (.int p0)] [(.ref bt11)]))
  refine stp (fun t k => XS.dup Xt11.here hx rfl (hb hby dt1_3) rfl rfl k) ?_
  show W (Tt11.setTop (mkF m 4 #[.val (.int p0)] [(.ref bt11), (.ref bt11)]))
  refine stp (fun t k => XS.iconst Xt11.here hx rfl (hb hby dt1_4) k) ?_
  show W (Tt11.setTop (mkF m 5 #[.val (.int p0)] [(.int (0 : Int32)), (.ref bt11), (.ref bt11)]))
  refine stp (fun t k => XS.iloadN Xt11.here hx rfl (hb hby dt1_5) rfl k) ?_
  show W (Tt11.setTop (mkF m 6 #[.val (.int p0)] [(.int p0), (.int (0 : Int32)), (.ref bt11), (.ref bt11)]))
  refine stp (fun t k => XS.i2b Xt11.here hx rfl (hb hby dt1_6) rfl k) ?_
  show W (Tt11.setTop (mkF m 7 #[.val (.int p0)] [(.int (p0.toInt8.toInt32)), (.int (0 : Int32)), (.ref bt11), (.ref bt11)]))
  obtain ⟨clt12, Art12, qkt12, qst12, qnt12, qht12, qgt12⟩ := id V_bt11
  have hint12 : ¬ ((0 : Int32) < 0 ∨ clt12.slots.size ≤ ((0 : Int32)).toNatClampNeg) := inb_of qst12 ⟨by decide, by decide⟩
  obtain ⟨Tt12, ht12, Xt12, et12, Wt12, stt12⟩ := stB Xt11 hx hZ et11 Art12 (j := (0 : Int32)) hint12 (g := (mkF m 7 #[.val (.int p0)] [(.int (p0.toInt8.toInt32)), (.int (0 : Int32)), (.ref bt11), (.ref bt11)])) rfl rfl (hb hby dt1_7)
  have V_bt11x := Arv.set Art12 qkt12 qst12 qnt12 qht12 qgt12 (fits_nar_byte _) Wt12 0 rfl (Nat.le_of_ble_eq_true rfl)
  have Nt12 := Fr.snoc Xt12 N0 g_bt11
  obtain ⟨lct1t3, Xt12, Nt12⟩ : ∃ lc, Stand p l e ({ frames := 0, cells := 1, slots := 1, locals := 0 } : Room) s m #[(.int p0)] below meth c Tt12 lc 1 1 ∧ Fr n0 lc := ⟨_, Xt12, Nt12⟩
  have Kt12 := Kt11.wr Wt12 (Or.inr sz_bt11)
  have Zt12 := Nat.le_trans Zt11 (Keep.of_wr Wt12).1
  have Ot12 := Ot11.wr Wt12 g_bt11
  replace V_bt11 : Arv Z ht12 bt11 kt11 .byte (1 : Int32) [(.int (nar .byte (p0.toInt8.toInt32)))] (.int (0 : Int32)) := V_bt11x
  refine stp (fun t k => stt12 t k) ?_
  show W (Tt12.setTop (mkF m 8 #[.val (.int p0)] [(.ref bt11)]))
  show W (Tt12.setTop (mkF m 8 #[.val (.int p0)] [(.ref bt11)]))
  rw [← hW]
  exact own_retR Xt12 hx Bd.notSynchronized Bd.returns rfl (hb hby dt1_8) (by show Qt1 Z p0 wc sx h0 n0 _ Tt12.heap _; rw [et12]; exact ⟨bt11, kt11, rfl, Nt12, Kt12, sz_bt11, own_arvEq (own_t1 p0) V_bt11⟩) (by decide) (by decide)
theorem dt2_0 : decode jdk_52_method_24_code 0 = .ok (.iconst 2, 1) := by decide +kernel
theorem dt2_1 : decode jdk_52_method_24_code 1 = .ok (.newarray .byte, 2) := by decide +kernel
theorem dt2_3 : decode jdk_52_method_24_code 3 = .ok (.astore_n 1, 1) := by decide +kernel
theorem dt2_4 : decode jdk_52_method_24_code 4 = .ok (.aload_n 1, 1) := by decide +kernel
theorem dt2_5 : decode jdk_52_method_24_code 5 = .ok (.iconst 0, 1) := by decide +kernel
theorem dt2_6 : decode jdk_52_method_24_code 6 = .ok (.iload_n 0, 1) := by decide +kernel
theorem dt2_7 : decode jdk_52_method_24_code 7 = .ok (.invokestatic 111, 3) := by decide +kernel
theorem dt2_10 : decode jdk_52_method_24_code 10 = .ok (.aload_n 1, 1) := by decide +kernel
theorem dt2_11 : decode jdk_52_method_24_code 11 = .ok (.areturn, 1) := by decide +kernel
theorem pnt2 : plainName "java/lang/StringUTF16" = true := by first | (simp [plainName, overriddenIn]; done) | decide +kernel
theorem pdt2_0 : parseMethodDescriptor "([BII)V" = some ⟨[(.array .byte), .int, .int], none⟩ := by decide +kernel
theorem eft2 (m : MethodId) (p0 : Int32) : entryFrame m #[(.int p0)] 2 = mkF m 0 #[.val (.int p0), .unset] [] := by first | (simp [entryFrame, mkF, argsToLocals, Value.category]; done) | rfl
def Qt2 (Z : State) (p0 : Int32) (wc : Int32) (sx : Value) (h0 : Heap) (n0 : Nat) (v : Option Value) (h : Heap) (L : List Loc) : Prop := ∃ (b : Addr) (kb : ClassId), v = some (.ref b) ∧ Fr n0 L ∧ Keep h0 h [] ∧ h0.size ≤ b ∧ Arv Z h b kb .byte (Int32.ofNat (2 * 1)) (own_vs (2 * 1) (own_u fun _ => p0)) (.int (0 : Int32))
set_option maxRecDepth 65536 in
set_option maxHeartbeats 40000000 in
theorem rmt2 (l : Launch) (Z : State) (aa : Array Value) (hw : ∀ d ∈ tables_1, d.before aa Z = true) (ws : List Jvm.Cond) (p0 : Int32) (wc : Int32) (sx : Value) (h0 : Heap) (n0 : Nat) (Z0 : n0 ≤ h0.size) (BW : OwnW Z wc sx) (O0 : Old Z n0 h0) :
    MetFree l (⟨"java/lang/StringUTF16", "toBytes", "(C)[B"⟩ : MethodName) (head1 (Jvm.Cond.code (⟨"java/lang/StringUTF16", "toBytes", "(C)[B"⟩ : MethodName) jdk_52_method_24_code 2 (some (.array .byte)) :: ws) ({ frames := 1, cells := 1, slots := 2, locals := 14 } : Room)) (fun a U => a = #[(.int p0)] ∧ Z.Warmed39 U.vm ∧ U.heap = h0) (fun _ _ _ _ _ => True) (fun _ U o U' => ∃ v L, o = .returned v ∧ Qt2 Z p0 wc sx h0 n0 v U'.heap L ∧ FrameEnd U o U' L ({ frames := 1, cells := 1, slots := 2, locals := 14 } : Room).cells ({ frames := 1, cells := 1, slots := 2, locals := 14 } : Room).slots) := by
  refine MetFree.of_bodySF (plainFor_of_name pnt2) hisR ?_
  intro p e s m args below meth c s₁ Bd hml0 hP hK
  obtain ⟨rfl, hZ, hh⟩ := hP
  have hx := Bd.exec
  have hby := Bd.bytes
  have hml : c.maxLocals = 2 := hml0
  have hown : s.vm.findClass "java/lang/StringUTF16" = some m.cls := findClass_of_methodNamed Bd.named
  have hnm := (name_of_methodNamed Bd.named Bd.method).1
  have X0 : Stand p l e ({ frames := 1, cells := 1, slots := 2, locals := 14 } : Room) s m #[(.int p0)] below meth c s₁ [] 0 0 := Stand.of_body Bd
  have e0 : s₁.heap = h0 := by rw [← hh, Bd.state]; rfl
  have N0 := Fr.nil n0
  show OwnEnd p e below s (fun v h L => Qt2 Z p0 wc sx h0 n0 v h L) ({ frames := 1, cells := 1, slots := 2, locals := 14 } : Room).cells ({ frames := 1, cells := 1, slots := 2, locals := 14 } : Room).slots (s₁.setTop (entryFrame m #[(.int p0)] 2))
  rw [eft2 m p0]
  generalize hW : OwnEnd p e below s (fun v h L => Qt2 Z p0 wc sx h0 n0 v h L) ({ frames := 1, cells := 1, slots := 2, locals := 14 } : Room).cells ({ frames := 1, cells := 1, slots := 2, locals := 14 } : Room).slots = W
  have stp : ∀ {A B : State}, (∀ t, Steps p.tables e below B t → Steps p.tables e below A t) → W B → W A := by subst hW; exact own_step
  obtain ⟨S_cs, hcs, S_si, hr_sx, S_ad, S_hi, S_lo⟩ := id BW
  show W (s₁.setTop (mkF m 0 #[.val (.int p0), .unset] []))
  refine stp (fun t k => XS.iconst X0.here hx rfl (hb hby dt2_0) k) ?_
  show W (s₁.setTop (mkF m 1 #[.val (.int p0), .unset] [(.int (2 : Int32))]))
  obtain ⟨Tt21, ht21, kt21, Xt21, et21, Et21, At21, stt21⟩ := newP X0 hx hZ (hw _ (List.mem_of_getElem? (i := 22) rfl)) e0 (g := (mkF m 1 #[.val (.int p0), .unset] [(.int (2 : Int32))])) rfl (hb hby dt2_1) rfl (by decide) (cap := 2) (by decide) (by decide) (by decide) (by decide)
  obtain ⟨bt21, gqt21⟩ : ∃ z, z = h0.size := ⟨_, rfl⟩
  rw [← gqt21] at At21 stt21
  have g_bt21 : n0 ≤ bt21 := Nat.le_trans Z0 (Nat.le_of_eq gqt21.symm)
  have sz_bt21 : h0.size ≤ bt21 := Nat.le_trans (Keep.refl h0 []).1 (Nat.le_of_eq gqt21.symm)
  have Kt21 := (Keep.refl h0 []).ext Et21
  have Zt21 := Nat.le_trans Z0 Et21.1
  have Ot21 := O0.ext Et21
  have V_bt21 : Arv Z ht21 bt21 kt21 .byte (2 : Int32) [(.int (0 : Int32)), (.int (0 : Int32))] (.int (0 : Int32)) := (Arv.new At21 (by decide)).pad (pad_rep [] (.int (0 : Int32)) 2)
  refine stp (fun t k => stt21 t k) ?_
  show W (Tt21.setTop (mkF m 3 #[.val (.int p0), .unset] [(.ref bt21)]))
  refine stp (fun t k => XS.astoreN Xt21.here hx rfl (hb hby dt2_3) rfl rfl (l' := #[.val (.int p0), .val (.ref bt21)]) rfl k) ?_
  show W (Tt21.setTop (mkF m 4 #[.val (.int p0), .val (.ref bt21)] []))
  refine stp (fun t k => XS.aloadN Xt21.here hx rfl (hb hby dt2_4) rfl rfl k) ?_
  show W (Tt21.setTop (mkF m 5 #[.val (.int p0), .val (.ref bt21)] [(.ref bt21)]))
  refine stp (fun t k => XS.iconst Xt21.here hx rfl (hb hby dt2_5) k) ?_
  show W (Tt21.setTop (mkF m 6 #[.val (.int p0), .val (.ref bt21)] [(.int (0 : Int32)), (.ref bt21)]))
  refine stp (fun t k => XS.iloadN Xt21.here hx rfl (hb hby dt2_6) rfl k) ?_
  show W (Tt21.setTop (mkF m 7 #[.val (.int p0), .val (.ref bt21)] [(.int p0), (.int (0 : Int32)), (.ref bt21)]))
  obtain ⟨_, _, ⟨Tt2c2, Lt2c2, kt2c2, nt2c2⟩, -, Xt2c2, ⟨Lct2c2, hQt2c2, lt2c2, yt2c2, zt2c2⟩, stt2c2⟩ := Jvm.LawKit.callS Xt21 hx (y := (⟨"java/lang/StringUTF16", "putChar", "([BII)V"⟩ : MethodName)) hown (mvT hZ (hw _ (List.mem_of_getElem? (i := 102) rfl))) (mvT hZ (hw _ (List.mem_of_getElem? (i := 103) rfl))) (mvT hZ (hw _ (List.mem_of_getElem? (i := 68) rfl))) (mvT hZ (hw _ (List.mem_of_getElem? (i := 104) rfl))) (by decide) (backOf (W := 0) (rmpc l Z aa hw [] bt21 (0 : Int32) p0 wc sx kt21 (2 : Int32) [(.int (0 : Int32)), (.int (0 : Int32))] 0 ht21 n0 Zt21 BW Ot21 V_bt21 g_bt21 rfl (by decide) rfl (by decide)) hZ (hw _ (List.mem_of_getElem? (i := 104) rfl)) (hw _ (List.mem_of_getElem? (i := 68) rfl)) (by decide) (by decide)) (g := (mkF m 7 #[.val (.int p0), .val (.ref bt21)] [(.int p0), (.int (0 : Int32)), (.ref bt21)])) rfl (by rw [hml]; rfl) (argsL := [(.ref bt21), (.int (0 : Int32)), (.int p0)]) (rest := []) (lenOf pdt2_0 rfl) rfl (by show 2 * 0 + _ ≤ _; exact Nat.le_of_eq rfl) (hb hby dt2_7) (fun _ _ => ⟨rfl, et21, (by decide : 1 + 0 ≤ _), (by decide : 2 + 0 ≤ _)⟩)
  dsimp only [Pt.U, Pt.locs, Pt.cells, Pt.slots] at Xt2c2 lt2c2 yt2c2 zt2c2 stt2c2 hQt2c2
  subst lt2c2 yt2c2 zt2c2
  obtain ⟨rfl, Nt2c2q, Kqt2c2, Vt2c2⟩ := hQt2c2
  have Nt2c2 := Fr.app N0 Nt2c2q
  obtain ⟨lct2t3, Xt2c2, Nt2c2⟩ : ∃ lc, Stand p l e ({ frames := 1, cells := 1, slots := 2, locals := 14 } : Room) s m #[(.int p0)] below meth c Tt2c2 lc 1 2 ∧ Fr n0 lc := ⟨_, Xt2c2, Nt2c2⟩
  obtain ⟨ht2c2, et2c2⟩ : ∃ h, Tt2c2.heap = h := ⟨_, rfl⟩
  rw [et2c2] at Kqt2c2 Vt2c2
  have KKt2c2 := Keep.trans Kt21 Kqt2c2 (allS (Or.inr sz_bt21) all0)
  have Zt2c2 := Nat.le_trans Zt21 Kqt2c2.1
  have Ot2c2 := Ot21.keep Kqt2c2 (allS g_bt21 all0)
  refine stp (fun t k => stt2c2 t k) ?_
  show W (Tt2c2.setTop (mkF m 10 #[.val (.int p0), .val (.ref bt21)] []))
  refine stp (fun t k => XS.aloadN Xt2c2.here hx rfl (hb hby dt2_10) rfl rfl k) ?_
  show W (Tt2c2.setTop (mkF m 11 #[.val (.int p0), .val (.ref bt21)] [(.ref bt21)]))
  show W (Tt2c2.setTop (mkF m 11 #[.val (.int p0), .val (.ref bt21)] [(.ref bt21)]))
  rw [← hW]
  exact own_retR Xt2c2 hx Bd.notSynchronized Bd.returns rfl (hb hby dt2_11) (by show Qt2 Z p0 wc sx h0 n0 _ Tt2c2.heap _; rw [et2c2]; exact ⟨bt21, kt21, rfl, Nt2c2, KKt2c2, sz_bt21, own_arvEq (own_t2 p0) Vt2c2⟩) (by decide) (by decide)
theorem dib_0 : decode jdk_42_method_151_code 0 = .ok (.aload_n 0, 1) := by decide +kernel
theorem dib_1 : decode jdk_42_method_151_code 1 = .ok (.invokespecial 1, 3) := by decide +kernel
theorem dib_4 : decode jdk_42_method_151_code 4 = .ok (.aload_n 0, 1) := by decide +kernel
theorem dib_5 : decode jdk_42_method_151_code 5 = .ok (.aload_n 1, 1) := by decide +kernel
theorem dib_6 : decode jdk_42_method_151_code 6 = .ok (.putfield 9, 3) := by decide +kernel
theorem dib_9 : decode jdk_42_method_151_code 9 = .ok (.aload_n 0, 1) := by decide +kernel
theorem dib_10 : decode jdk_42_method_151_code 10 = .ok (.iload_n 2, 1) := by decide +kernel
theorem dib_11 : decode jdk_42_method_151_code 11 = .ok (.putfield 15, 3) := by decide +kernel
theorem dib_14 : decode jdk_42_method_151_code 14 = .ok (.return_, 1) := by decide +kernel
theorem pnib : plainName "java/lang/String" = true := by first | (simp [plainName, overriddenIn]; done) | decide +kernel
theorem efib (m : MethodId) (a0 : Addr) (a1 : Addr) (p2 : Int32) : entryFrame m #[(.ref a0), (.ref a1), (.int p2)] 3 = mkF m 0 #[.val (.ref a0), .val (.ref a1), .val (.int p2)] [] := by first | (simp [entryFrame, mkF, argsToLocals, Value.category]; done) | rfl
def Qib (Z : State) (a0 : Addr) (a1 : Addr) (p2 : Int32) (wc : Int32) (sx : Value) (h0 : Heap) (n0 : Nat) (v : Option Value) (h : Heap) (L : List Loc) : Prop := v = none ∧ Fr n0 L ∧ Keep h0 h [a0] ∧ Exa Z h a0 "java/lang/String" ∧ Fld Z h a0 "java/lang/String" "value" "[B" (.ref a1) ∧ Fld Z h a0 "java/lang/String" "coder" "B" (.int (nar .byte p2))
set_option maxRecDepth 65536 in
set_option maxHeartbeats 40000000 in
theorem rmib (l : Launch) (Z : State) (aa : Array Value) (hw : ∀ d ∈ tables_1, d.before aa Z = true) (ws : List Jvm.Cond) (a0 : Addr) (a1 : Addr) (p2 : Int32) (wc : Int32) (sx : Value) (h0 : Heap) (n0 : Nat) (Z0 : n0 ≤ h0.size) (BW : OwnW Z wc sx) (O0 : Old Z n0 h0) (E_a0 : Exa Z h0 a0 "java/lang/String") (F_value_a0 : Fld Z h0 a0 "java/lang/String" "value" "[B" .null) (F_coder_a0 : Fld Z h0 a0 "java/lang/String" "coder" "B" (.int (0 : Int32))) (g_a0 : n0 ≤ a0) :
    MetFree l (⟨"java/lang/String", "<init>", "([BB)V"⟩ : MethodName) (head1 (Jvm.Cond.code (⟨"java/lang/String", "<init>", "([BB)V"⟩ : MethodName) jdk_42_method_151_code 3 none :: ws) ({ frames := 1, cells := 0, slots := 0, locals := 12 } : Room)) (fun a U => a = #[(.ref a0), (.ref a1), (.int p2)] ∧ Z.Warmed39 U.vm ∧ U.heap = h0) (fun _ _ _ _ _ => True) (fun _ U o U' => ∃ v L, o = .returned v ∧ Qib Z a0 a1 p2 wc sx h0 n0 v U'.heap L ∧ FrameEnd U o U' L ({ frames := 1, cells := 0, slots := 0, locals := 12 } : Room).cells ({ frames := 1, cells := 0, slots := 0, locals := 12 } : Room).slots) := by
  refine MetFree.of_bodySF (plainFor_of_name pnib) hisR ?_
  intro p e s m args below meth c s₁ Bd hml0 hP hK
  obtain ⟨rfl, hZ, hh⟩ := hP
  have hx := Bd.exec
  have hby := Bd.bytes
  have hml : c.maxLocals = 3 := hml0
  have hown : s.vm.findClass "java/lang/String" = some m.cls := findClass_of_methodNamed Bd.named
  have hnm := (name_of_methodNamed Bd.named Bd.method).1
  have X0 : Stand p l e ({ frames := 1, cells := 0, slots := 0, locals := 12 } : Room) s m #[(.ref a0), (.ref a1), (.int p2)] below meth c s₁ [] 0 0 := Stand.of_body Bd
  have e0 : s₁.heap = h0 := by rw [← hh, Bd.state]; rfl
  have N0 := Fr.nil n0
  show OwnEnd p e below s (fun v h L => Qib Z a0 a1 p2 wc sx h0 n0 v h L) ({ frames := 1, cells := 0, slots := 0, locals := 12 } : Room).cells ({ frames := 1, cells := 0, slots := 0, locals := 12 } : Room).slots (s₁.setTop (entryFrame m #[(.ref a0), (.ref a1), (.int p2)] 3))
  rw [efib m a0 a1 p2]
  generalize hW : OwnEnd p e below s (fun v h L => Qib Z a0 a1 p2 wc sx h0 n0 v h L) ({ frames := 1, cells := 0, slots := 0, locals := 12 } : Room).cells ({ frames := 1, cells := 0, slots := 0, locals := 12 } : Room).slots = W
  have stp : ∀ {A B : State}, (∀ t, Steps p.tables e below B t → Steps p.tables e below A t) → W B → W A := by subst hW; exact own_step
  obtain ⟨S_cs, hcs, S_si, hr_sx, S_ad, S_hi, S_lo⟩ := id BW
  show W (s₁.setTop (mkF m 0 #[.val (.ref a0), .val (.ref a1), .val (.int p2)] []))
  refine stp (fun t k => XS.aloadN X0.here hx rfl (hb hby dib_0) rfl rfl k) ?_
  show W (s₁.setTop (mkF m 1 #[.val (.ref a0), .val (.ref a1), .val (.int p2)] [(.ref a0)]))
  obtain ⟨T1, X1, e1, st1⟩ := initO X0 hx hZ hown (hw _ (List.mem_of_getElem? (i := 27) rfl)) (hw _ (List.mem_of_getElem? (i := 28) rfl)) (hw _ (List.mem_of_getElem? (i := 29) rfl)) e0 (g := (mkF m 1 #[.val (.ref a0), .val (.ref a1), .val (.int p2)] [(.ref a0)])) rfl (by rw [hml]; rfl) rfl (hb hby dib_1) (by decide) (W := 0) (by show 2 * 0 + _ ≤ _; exact Nat.le_of_eq rfl) (by decide)
  refine stp (fun t k => st1 t k) ?_
  show W (T1.setTop (mkF m 4 #[.val (.ref a0), .val (.ref a1), .val (.int p2)] []))
  refine stp (fun t k => XS.aloadN X1.here hx rfl (hb hby dib_4) rfl rfl k) ?_
  show W (T1.setTop (mkF m 5 #[.val (.ref a0), .val (.ref a1), .val (.int p2)] [(.ref a0)]))
  refine stp (fun t k => XS.aloadN X1.here hx rfl (hb hby dib_5) rfl rfl k) ?_
  show W (T1.setTop (mkF m 6 #[.val (.ref a0), .val (.ref a1), .val (.int p2)] [(.ref a1), (.ref a0)]))
  obtain ⟨Tib2, hib2, Xib2, eib2, Wib2, stib2⟩ := putF X1 hx hZ hown (host := "") (Or.inl (hw _ (List.mem_of_getElem? (i := 30) rfl))) Via.refl e1 F_value_a0 E_a0 (Or.inr ⟨(hw _ (List.mem_of_getElem? (i := 31) rfl)), rfl, hnm⟩) (hw _ (List.mem_of_getElem? (i := 18) rfl)) (ty := (.array .byte)) (by decide) rfl rfl (g := (mkF m 6 #[.val (.ref a0), .val (.ref a1), .val (.int p2)] [(.ref a1), (.ref a0)])) rfl rfl (hb hby dib_6)
  have Nib2 := Fr.snoc Xib2 N0 g_a0
  have F_value_a0x := F_value_a0.same Wib2
  obtain ⟨lcibt3, Xib2, Nib2⟩ : ∃ lc, Stand p l e ({ frames := 1, cells := 0, slots := 0, locals := 12 } : Room) s m #[(.ref a0), (.ref a1), (.int p2)] below meth c Tib2 lc 0 0 ∧ Fr n0 lc := ⟨_, Xib2, Nib2⟩
  replace E_a0 := E_a0.wr Wib2
  replace F_coder_a0 := F_coder_a0.other Wib2 (Or.inr (slot_ne (Or.inr (hw _ (List.mem_of_getElem? (i := 33) rfl))) (Or.inr (hw _ (List.mem_of_getElem? (i := 31) rfl))) (by decide) (t := .byte) (t' := (.array .byte)) (by decide) (by decide)))
  have Kib2 := (Keep.refl h0 [a0]).wr Wib2 (Or.inl (List.mem_of_getElem? (i := 0) rfl))
  have Zib2 := Nat.le_trans Z0 (Keep.of_wr Wib2).1
  have Oib2 := O0.wr Wib2 g_a0
  replace F_value_a0 := F_value_a0x
  clear F_value_a0x
  refine stp (fun t k => stib2 t k) ?_
  show W (Tib2.setTop (mkF m 9 #[.val (.ref a0), .val (.ref a1), .val (.int p2)] []))
  refine stp (fun t k => XS.aloadN Xib2.here hx rfl (hb hby dib_9) rfl rfl k) ?_
  show W (Tib2.setTop (mkF m 10 #[.val (.ref a0), .val (.ref a1), .val (.int p2)] [(.ref a0)]))
  refine stp (fun t k => XS.iloadN Xib2.here hx rfl (hb hby dib_10) rfl k) ?_
  show W (Tib2.setTop (mkF m 11 #[.val (.ref a0), .val (.ref a1), .val (.int p2)] [(.int p2), (.ref a0)]))
  obtain ⟨Tib4, hib4, Xib4, eib4, Wib4, stib4⟩ := putFN Xib2 hx hZ hown (hw _ (List.mem_of_getElem? (i := 32) rfl)) Via.refl eib2 F_coder_a0 E_a0 (Or.inr ⟨(hw _ (List.mem_of_getElem? (i := 33) rfl)), rfl, hnm⟩) (hw _ (List.mem_of_getElem? (i := 18) rfl)) (ty := .byte) (v' := (.int (nar .byte p2))) (by decide) rfl (fits_nar_byte _) (g := (mkF m 11 #[.val (.ref a0), .val (.ref a1), .val (.int p2)] [(.int p2), (.ref a0)])) rfl rfl (hb hby dib_11)
  have Nib4 := Fr.snoc Xib4 Nib2 g_a0
  have F_coder_a0x := F_coder_a0.same Wib4
  obtain ⟨lcibt5, Xib4, Nib4⟩ : ∃ lc, Stand p l e ({ frames := 1, cells := 0, slots := 0, locals := 12 } : Room) s m #[(.ref a0), (.ref a1), (.int p2)] below meth c Tib4 lc 0 0 ∧ Fr n0 lc := ⟨_, Xib4, Nib4⟩
  replace E_a0 := E_a0.wr Wib4
  replace F_value_a0 := F_value_a0.other Wib4 (Or.inr (slot_ne (Or.inr (hw _ (List.mem_of_getElem? (i := 31) rfl))) (Or.inr (hw _ (List.mem_of_getElem? (i := 33) rfl))) (by decide) (t := (.array .byte)) (t' := .byte) (by decide) (by decide)))
  have Kib4 := Kib2.wr Wib4 (Or.inl (List.mem_of_getElem? (i := 0) rfl))
  have Zib4 := Nat.le_trans Zib2 (Keep.of_wr Wib4).1
  have Oib4 := Oib2.wr Wib4 g_a0
  replace F_coder_a0 := F_coder_a0x
  clear F_coder_a0x
  refine stp (fun t k => stib4 t k) ?_
  show W (Tib4.setTop (mkF m 14 #[.val (.ref a0), .val (.ref a1), .val (.int p2)] []))
  show W (Tib4.setTop (mkF m 14 #[.val (.ref a0), .val (.ref a1), .val (.int p2)] []))
  rw [← hW]
  exact own_ret0 Xib4 hx Bd.notSynchronized Bd.returns (hb hby dib_14) (by show Qib Z a0 a1 p2 wc sx h0 n0 _ Tib4.heap _; rw [eib4]; exact ⟨rfl, Nib4, Kib4, E_a0, F_value_a0, F_coder_a0⟩) (by decide) (by decide)
theorem dvo_0 : decode jdk_42_method_139_code 0 = .ok (.getstatic 38, 3) := by decide +kernel
theorem dvo_3 : decode jdk_42_method_139_code 3 = .ok (.ifCond .eq 23, 3) := by decide +kernel
theorem dvo_6 : decode jdk_42_method_139_code 6 = .ok (.iload_n 0, 1) := by decide +kernel
theorem dvo_7 : decode jdk_42_method_139_code 7 = .ok (.invokestatic 1015, 3) := by decide +kernel
theorem dvo_10 : decode jdk_42_method_139_code 10 = .ok (.ifCond .eq 16, 3) := by decide +kernel
theorem dvo_13 : decode jdk_42_method_139_code 13 = .ok (.new 10, 3) := by decide +kernel
theorem dvo_16 : decode jdk_42_method_139_code 16 = .ok (.dup, 1) := by decide +kernel
theorem dvo_17 : decode jdk_42_method_139_code 17 = .ok (.iload_n 0, 1) := by decide +kernel
theorem dvo_18 : decode jdk_42_method_139_code 18 = .ok (.invokestatic 1018, 3) := by decide +kernel
theorem dvo_21 : decode jdk_42_method_139_code 21 = .ok (.iconst 0, 1) := by decide +kernel
theorem dvo_22 : decode jdk_42_method_139_code 22 = .ok (.invokespecial 209, 3) := by decide +kernel
theorem dvo_25 : decode jdk_42_method_139_code 25 = .ok (.areturn, 1) := by decide +kernel
theorem dvo_26 : decode jdk_42_method_139_code 26 = .ok (.new 10, 3) := by decide +kernel
theorem dvo_29 : decode jdk_42_method_139_code 29 = .ok (.dup, 1) := by decide +kernel
theorem dvo_30 : decode jdk_42_method_139_code 30 = .ok (.iload_n 0, 1) := by decide +kernel
theorem dvo_31 : decode jdk_42_method_139_code 31 = .ok (.invokestatic 1021, 3) := by decide +kernel
theorem dvo_34 : decode jdk_42_method_139_code 34 = .ok (.iconst 1, 1) := by decide +kernel
theorem dvo_35 : decode jdk_42_method_139_code 35 = .ok (.invokespecial 209, 3) := by decide +kernel
theorem dvo_38 : decode jdk_42_method_139_code 38 = .ok (.areturn, 1) := by decide +kernel
theorem pnvo : plainName "java/lang/String" = true := by first | (simp [plainName, overriddenIn]; done) | decide +kernel
theorem pdvo_0 : parseMethodDescriptor "(C)Z" = some ⟨[.char], some .boolean⟩ := by decide +kernel
theorem pdvo_1 : parseMethodDescriptor "(C)[B" = some ⟨[.char], some (.array .byte)⟩ := by decide +kernel
theorem pdvo_2 : parseMethodDescriptor "([BB)V" = some ⟨[(.array .byte), .byte], none⟩ := by decide +kernel
theorem efvo (m : MethodId) (p0 : Int32) : entryFrame m #[(.int p0)] 1 = mkF m 0 #[.val (.int p0)] [] := by first | (simp [entryFrame, mkF, argsToLocals, Value.category]; done) | rfl
def Qvo (Z : State) (p0 : Int32) (wc : Int32) (sx : Value) (h0 : Heap) (n0 : Nat) (v : Option Value) (h : Heap) (L : List Loc) : Prop := ∃ (a b : Addr), v = some (.ref a) ∧ Fr n0 L ∧ Keep h0 h [] ∧ OwnStr Z h a b 1 (fun _ => p0)
set_option maxRecDepth 65536 in
set_option maxHeartbeats 40000000 in
theorem rmvo (l : Launch) (Z : State) (aa : Array Value) (hw : ∀ d ∈ tables_1, d.before aa Z = true) (ws : List Jvm.Cond) (p0 : Int32) (wc : Int32) (sx : Value) (h0 : Heap) (n0 : Nat) (Z0 : n0 ≤ h0.size) (BW : OwnW Z wc sx) (O0 : Old Z n0 h0) :
    MetFree l (⟨"java/lang/String", "valueOf", "(C)Ljava/lang/String;"⟩ : MethodName) (head1 (Jvm.Cond.code (⟨"java/lang/String", "valueOf", "(C)Ljava/lang/String;"⟩ : MethodName) jdk_42_method_139_code 1 (some (.object "java/lang/String")) :: ws) ({ frames := 2, cells := 2, slots := 6, locals := 29 } : Room)) (fun a U => a = #[(.int p0)] ∧ Z.Warmed39 U.vm ∧ U.heap = h0) (fun _ _ _ _ _ => True) (fun _ U o U' => ∃ v L, o = .returned v ∧ Qvo Z p0 wc sx h0 n0 v U'.heap L ∧ FrameEnd U o U' L ({ frames := 2, cells := 2, slots := 6, locals := 29 } : Room).cells ({ frames := 2, cells := 2, slots := 6, locals := 29 } : Room).slots) := by
  refine MetFree.of_bodySF (plainFor_of_name pnvo) hisR ?_
  intro p e s m args below meth c s₁ Bd hml0 hP hK
  obtain ⟨rfl, hZ, hh⟩ := hP
  have hx := Bd.exec
  have hby := Bd.bytes
  have hml : c.maxLocals = 1 := hml0
  have hown : s.vm.findClass "java/lang/String" = some m.cls := findClass_of_methodNamed Bd.named
  have hnm := (name_of_methodNamed Bd.named Bd.method).1
  have X0 : Stand p l e ({ frames := 2, cells := 2, slots := 6, locals := 29 } : Room) s m #[(.int p0)] below meth c s₁ [] 0 0 := Stand.of_body Bd
  have e0 : s₁.heap = h0 := by rw [← hh, Bd.state]; rfl
  have N0 := Fr.nil n0
  show OwnEnd p e below s (fun v h L => Qvo Z p0 wc sx h0 n0 v h L) ({ frames := 2, cells := 2, slots := 6, locals := 29 } : Room).cells ({ frames := 2, cells := 2, slots := 6, locals := 29 } : Room).slots (s₁.setTop (entryFrame m #[(.int p0)] 1))
  rw [efvo m p0]
  generalize hW : OwnEnd p e below s (fun v h L => Qvo Z p0 wc sx h0 n0 v h L) ({ frames := 2, cells := 2, slots := 6, locals := 29 } : Room).cells ({ frames := 2, cells := 2, slots := 6, locals := 29 } : Room).slots = W
  have stp : ∀ {A B : State}, (∀ t, Steps p.tables e below B t → Steps p.tables e below A t) → W B → W A := by subst hW; exact own_step
  obtain ⟨S_cs, hcs, S_si, hr_sx, S_ad, S_hi, S_lo⟩ := id BW
  show W (s₁.setTop (mkF m 0 #[.val (.int p0)] []))
  obtain ⟨Tvo1, Xvo1, evo1, stvo1⟩ := getS2 X0 hx hZ hown (host := "") (Or.inl (hw _ (List.mem_of_getElem? (i := 12) rfl))) Via.refl e0 (S_cs.ext O0.2) (g := (mkF m 0 #[.val (.int p0)] [])) rfl (hb hby dvo_0)
  refine stp (fun t k => stvo1 t k) ?_
  show W (Tvo1.setTop (mkF m 3 #[.val (.int p0)] [(.int wc)]))
  refine stp (fun t k => XS.ifNo Xvo1.here hx rfl (hb hby dvo_3) rfl ((if0 _ _).trans (feq (hcs)).1) k) ?_
  show W (Tvo1.setTop (mkF m 6 #[.val (.int p0)] []))
  refine stp (fun t k => XS.iloadN Xvo1.here hx rfl (hb hby dvo_6) rfl k) ?_
  show W (Tvo1.setTop (mkF m 7 #[.val (.int p0)] [(.int p0)]))
  obtain ⟨_, _, ⟨Tvoc2, Lvoc2, kvoc2, nvoc2⟩, -, Xvoc2, ⟨Lcvoc2, hQvoc2, lvoc2, yvoc2, zvoc2⟩, stvoc2⟩ := Jvm.LawKit.callS Xvo1 hx (y := (⟨"java/lang/StringLatin1", "canEncode", "(C)Z"⟩ : MethodName)) hown (mvT hZ (hw _ (List.mem_of_getElem? (i := 13) rfl))) (mvT hZ (hw _ (List.mem_of_getElem? (i := 14) rfl))) (mvT hZ (hw _ (List.mem_of_getElem? (i := 15) rfl))) (mvT hZ (hw _ (List.mem_of_getElem? (i := 16) rfl))) (by decide) (backOf (W := 0) (rmce l Z aa hw [] p0  h0 n0 Z0 ) hZ (hw _ (List.mem_of_getElem? (i := 16) rfl)) (hw _ (List.mem_of_getElem? (i := 15) rfl)) (by decide) (by decide)) (g := (mkF m 7 #[.val (.int p0)] [(.int p0)])) rfl (by rw [hml]; rfl) (argsL := [(.int p0)]) (rest := []) (lenOf pdvo_0 rfl) rfl (by show 2 * 0 + _ ≤ _; exact Nat.le_of_eq rfl) (hb hby dvo_7) (fun _ _ => ⟨rfl, evo1, (by decide : 0 + 0 ≤ _), (by decide : 0 + 0 ≤ _)⟩)
  dsimp only [Pt.U, Pt.locs, Pt.cells, Pt.slots] at Xvoc2 lvoc2 yvoc2 zvoc2 stvoc2 hQvoc2
  subst lvoc2 yvoc2 zvoc2
  obtain ⟨rfl, Nvoc2q, evoc2⟩ := hQvoc2
  have Nvoc2 := Fr.app N0 Nvoc2q
  obtain ⟨lcvot3, Xvoc2, Nvoc2⟩ : ∃ lc, Stand p l e ({ frames := 2, cells := 2, slots := 6, locals := 29 } : Room) s m #[(.int p0)] below meth c Tvoc2 lc 0 0 ∧ Fr n0 lc := ⟨_, Xvoc2, Nvoc2⟩
  refine stp (fun t k => stvoc2 t k) ?_
  show W (Tvoc2.setTop (mkF m 10 #[.val (.int p0)] [(.int (fce p0))]))
  by_cases hcvo_4 : (fce p0) = (0 : Int32)
  · refine stp (fun t k => XS.ifYes Xvoc2.here hx rfl (pc0 := 10) (pc' := 26) rfl (hb hby dvo_10) rfl ((if0 _ _).trans (teq hcvo_4).1) (by decide) (by decide) k) ?_
    show W (Tvoc2.setTop (mkF m 26 #[.val (.int p0)] []))
    obtain ⟨Tvo5, hvo5, Xvo5, evo5, Evo5, Avo5, Dvo5, -, stvo5⟩ := newO Xvoc2 hx hZ hown (hw _ (List.mem_of_getElem? (i := 17) rfl)) (hw _ (List.mem_of_getElem? (i := 18) rfl)) (hw _ (List.mem_of_getElem? (i := 10) rfl)) evoc2 (g := (mkF m 26 #[.val (.int p0)] [])) rfl (hb hby dvo_26) (by decide) (by decide)
    obtain ⟨bvo5, gqvo5⟩ : ∃ z, z = h0.size := ⟨_, rfl⟩
    rw [← gqvo5] at Avo5 Dvo5 stvo5
    have g_bvo5 : n0 ≤ bvo5 := Nat.le_trans Z0 (Nat.le_of_eq gqvo5.symm)
    have sz_bvo5 : h0.size ≤ bvo5 := Nat.le_trans (Keep.refl h0 []).1 (Nat.le_of_eq gqvo5.symm)
    have Kvo5 := (Keep.refl h0 []).ext Evo5
    have Zvo5 := Nat.le_trans Z0 Evo5.1
    have Ovo5 := O0.ext Evo5
    have E_bvo5 := Avo5
    have F_value_bvo5 : Fld Z hvo5 bvo5 "java/lang/String" "value" "[B" .null := Dvo5 (Or.inr (hw _ (List.mem_of_getElem? (i := 31) rfl))) (ty := (.array .byte)) (by decide)
    have F_coder_bvo5 : Fld Z hvo5 bvo5 "java/lang/String" "coder" "B" (.int (0 : Int32)) := Dvo5 (Or.inr (hw _ (List.mem_of_getElem? (i := 33) rfl))) (ty := .byte) (by decide)
    refine stp (fun t k => stvo5 t k) ?_
    show W (Tvo5.setTop (mkF m 29 #[.val (.int p0)] [(.ref bvo5)]))
    refine stp (fun t k => XS.dup Xvo5.here hx rfl (hb hby dvo_29) rfl rfl k) ?_
    show W (Tvo5.setTop (mkF m 30 #[.val (.int p0)] [(.ref bvo5), (.ref bvo5)]))
    refine stp (fun t k => XS.iloadN Xvo5.here hx rfl (hb hby dvo_30) rfl k) ?_
    show W (Tvo5.setTop (mkF m 31 #[.val (.int p0)] [(.int p0), (.ref bvo5), (.ref bvo5)]))
    obtain ⟨_, _, ⟨Tvoc6, Lvoc6, kvoc6, nvoc6⟩, -, Xvoc6, ⟨Lcvoc6, hQvoc6, lvoc6, yvoc6, zvoc6⟩, stvoc6⟩ := Jvm.LawKit.callS Xvo5 hx (y := (⟨"java/lang/StringUTF16", "toBytes", "(C)[B"⟩ : MethodName)) hown (mvT hZ (hw _ (List.mem_of_getElem? (i := 99) rfl))) (mvT hZ (hw _ (List.mem_of_getElem? (i := 100) rfl))) (mvT hZ (hw _ (List.mem_of_getElem? (i := 68) rfl))) (mvT hZ (hw _ (List.mem_of_getElem? (i := 101) rfl))) (by decide) (backOf (W := 2) (rmt2 l Z aa hw [] p0 wc sx hvo5 n0 Zvo5 BW Ovo5) hZ (hw _ (List.mem_of_getElem? (i := 101) rfl)) (hw _ (List.mem_of_getElem? (i := 68) rfl)) (by decide) (by decide)) (g := (mkF m 31 #[.val (.int p0)] [(.int p0), (.ref bvo5), (.ref bvo5)])) rfl (by rw [hml]; rfl) (argsL := [(.int p0)]) (rest := [(.ref bvo5), (.ref bvo5)]) (lenOf pdvo_1 rfl) rfl (by show 2 * 0 + _ ≤ _; exact Nat.le_of_eq rfl) (hb hby dvo_31) (fun _ _ => ⟨rfl, evo5, (by decide : 1 + 1 ≤ _), (by decide : 4 + 2 ≤ _)⟩)
    dsimp only [Pt.U, Pt.locs, Pt.cells, Pt.slots] at Xvoc6 lvoc6 yvoc6 zvoc6 stvoc6 hQvoc6
    subst lvoc6 yvoc6 zvoc6
    obtain ⟨bvoc6, kbvoc6, rfl, Nvoc6q, Kqvoc6, sz_bvoc6, V_bvoc6⟩ := hQvoc6
    have Nvoc6 := Fr.app Nvoc2 Nvoc6q
    obtain ⟨lcvot7, Xvoc6, Nvoc6⟩ : ∃ lc, Stand p l e ({ frames := 2, cells := 2, slots := 6, locals := 29 } : Room) s m #[(.int p0)] below meth c Tvoc6 lc 2 6 ∧ Fr n0 lc := ⟨_, Xvoc6, Nvoc6⟩
    obtain ⟨hvoc6, evoc6⟩ : ∃ h, Tvoc6.heap = h := ⟨_, rfl⟩
    rw [evoc6] at Kqvoc6 V_bvoc6
    have ne_bvo5_bvoc6 : bvo5 ≠ bvoc6 := Nat.ne_of_lt (Nat.lt_of_lt_of_le E_bvo5.lt sz_bvoc6)
    have g_bvoc6 : n0 ≤ bvoc6 := Nat.le_trans Zvo5 sz_bvoc6
    have sz_bvoc6 : h0.size ≤ bvoc6 := Nat.le_trans Kvo5.1 sz_bvoc6
    replace E_bvo5 := E_bvo5.keep Kqvoc6
    replace F_value_bvo5 := F_value_bvo5.keep Kqvoc6 nin0
    replace F_coder_bvo5 := F_coder_bvo5.keep Kqvoc6 nin0
    have KKvoc6 := Keep.trans Kvo5 Kqvoc6 all0
    have Zvoc6 := Nat.le_trans Zvo5 Kqvoc6.1
    have Ovoc6 := Ovo5.keep Kqvoc6 all0
    refine stp (fun t k => stvoc6 t k) ?_
    show W (Tvoc6.setTop (mkF m 34 #[.val (.int p0)] [(.ref bvoc6), (.ref bvo5), (.ref bvo5)]))
    refine stp (fun t k => XS.iconst Xvoc6.here hx rfl (hb hby dvo_34) k) ?_
    show W (Tvoc6.setTop (mkF m 35 #[.val (.int p0)] [(.int (1 : Int32)), (.ref bvoc6), (.ref bvo5), (.ref bvo5)]))
    obtain ⟨_, _, ⟨Tvoc8, Lvoc8, kvoc8, nvoc8⟩, -, Xvoc8, ⟨Lcvoc8, hQvoc8, lvoc8, yvoc8, zvoc8⟩, stvoc8⟩ := Xvoc6.specialBack hx (y := (⟨"java/lang/String", "<init>", "([BB)V"⟩ : MethodName)) rfl hown (mvT hZ (hw _ (List.mem_of_getElem? (i := 23) rfl))) (mvT hZ (hw _ (List.mem_of_getElem? (i := 24) rfl))) (mvT hZ (hw _ (List.mem_of_getElem? (i := 26) rfl))) (by decide) (backOf (W := 1) (rmib l Z aa hw [] bvo5 bvoc6 (1 : Int32) wc sx hvoc6 n0 Zvoc6 BW Ovoc6 E_bvo5 F_value_bvo5 F_coder_bvo5 g_bvo5) hZ (hw _ (List.mem_of_getElem? (i := 26) rfl)) (hw _ (List.mem_of_getElem? (i := 10) rfl)) (by decide) (by decide)) (g := (mkF m 35 #[.val (.int p0)] [(.int (1 : Int32)), (.ref bvoc6), (.ref bvo5), (.ref bvo5)])) rfl (by rw [hml]; rfl) (Steps.refl _) (a := bvo5) (argsL := [(.ref bvoc6), (.int (1 : Int32))]) (rest := [(.ref bvo5)]) (lenOf pdvo_2 rfl) rfl (by show 2 * 0 + _ ≤ _; exact Nat.le_of_eq rfl) (hb hby dvo_35) (fun _ _ => ⟨rfl, evoc6, (by decide : 2 + 0 ≤ _), (by decide : 6 + 0 ≤ _)⟩)
    dsimp only [Pt.U, Pt.locs, Pt.cells, Pt.slots] at Xvoc8 lvoc8 yvoc8 zvoc8 stvoc8 hQvoc8
    subst lvoc8 yvoc8 zvoc8
    obtain ⟨rfl, Nvoc8q, Kqvoc8, EEvoc8, FVvoc8, FCvoc8⟩ := hQvoc8
    have Nvoc8 := Fr.app Nvoc6 Nvoc8q
    obtain ⟨lcvot9, Xvoc8, Nvoc8⟩ : ∃ lc, Stand p l e ({ frames := 2, cells := 2, slots := 6, locals := 29 } : Room) s m #[(.int p0)] below meth c Tvoc8 lc 2 6 ∧ Fr n0 lc := ⟨_, Xvoc8, Nvoc8⟩
    obtain ⟨hvoc8, evoc8⟩ : ∃ h, Tvoc8.heap = h := ⟨_, rfl⟩
    rw [evoc8] at Kqvoc8 EEvoc8 FVvoc8 FCvoc8
    replace V_bvoc6 := V_bvoc6.keep Kqvoc8 (ninS (Ne.symm ne_bvo5_bvoc6) nin0)
    have KKvoc8 := Keep.trans KKvoc6 Kqvoc8 (allS (Or.inr sz_bvo5) all0)
    have Zvoc8 := Nat.le_trans Zvoc6 Kqvoc8.1
    have Ovoc8 := Ovoc6.keep Kqvoc8 (allS g_bvo5 all0)
    refine stp (fun t k => stvoc8.trans k) ?_
    show W (Tvoc8.setTop (mkF m 38 #[.val (.int p0)] [(.ref bvo5)]))
    show W (Tvoc8.setTop (mkF m 38 #[.val (.int p0)] [(.ref bvo5)]))
    rw [← hW]
    exact own_retR Xvoc8 hx Bd.notSynchronized Bd.returns rfl (hb hby dvo_38) (by show Qvo Z p0 wc sx h0 n0 _ Tvoc8.heap _; rw [evoc8]; exact ⟨bvo5, bvoc6, rfl, Nvoc8, KKvoc8, EEvoc8, FVvoc8, Or.inr ⟨own_fldEq (by decide) FCvoc8, _, V_bvoc6⟩⟩) (by decide) (by decide)
  · refine stp (fun t k => XS.ifNo Xvoc2.here hx rfl (hb hby dvo_10) rfl ((if0 _ _).trans (feq hcvo_4).1) k) ?_
    show W (Tvoc2.setTop (mkF m 13 #[.val (.int p0)] []))
    obtain ⟨Tvo10, hvo10, Xvo10, evo10, Evo10, Avo10, Dvo10, -, stvo10⟩ := newO Xvoc2 hx hZ hown (hw _ (List.mem_of_getElem? (i := 17) rfl)) (hw _ (List.mem_of_getElem? (i := 18) rfl)) (hw _ (List.mem_of_getElem? (i := 10) rfl)) evoc2 (g := (mkF m 13 #[.val (.int p0)] [])) rfl (hb hby dvo_13) (by decide) (by decide)
    obtain ⟨bvo10, gqvo10⟩ : ∃ z, z = h0.size := ⟨_, rfl⟩
    rw [← gqvo10] at Avo10 Dvo10 stvo10
    have g_bvo10 : n0 ≤ bvo10 := Nat.le_trans Z0 (Nat.le_of_eq gqvo10.symm)
    have sz_bvo10 : h0.size ≤ bvo10 := Nat.le_trans (Keep.refl h0 []).1 (Nat.le_of_eq gqvo10.symm)
    have Kvo10 := (Keep.refl h0 []).ext Evo10
    have Zvo10 := Nat.le_trans Z0 Evo10.1
    have Ovo10 := O0.ext Evo10
    have E_bvo10 := Avo10
    have F_value_bvo10 : Fld Z hvo10 bvo10 "java/lang/String" "value" "[B" .null := Dvo10 (Or.inr (hw _ (List.mem_of_getElem? (i := 31) rfl))) (ty := (.array .byte)) (by decide)
    have F_coder_bvo10 : Fld Z hvo10 bvo10 "java/lang/String" "coder" "B" (.int (0 : Int32)) := Dvo10 (Or.inr (hw _ (List.mem_of_getElem? (i := 33) rfl))) (ty := .byte) (by decide)
    refine stp (fun t k => stvo10 t k) ?_
    show W (Tvo10.setTop (mkF m 16 #[.val (.int p0)] [(.ref bvo10)]))
    refine stp (fun t k => XS.dup Xvo10.here hx rfl (hb hby dvo_16) rfl rfl k) ?_
    show W (Tvo10.setTop (mkF m 17 #[.val (.int p0)] [(.ref bvo10), (.ref bvo10)]))
    refine stp (fun t k => XS.iloadN Xvo10.here hx rfl (hb hby dvo_17) rfl k) ?_
    show W (Tvo10.setTop (mkF m 18 #[.val (.int p0)] [(.int p0), (.ref bvo10), (.ref bvo10)]))
    obtain ⟨_, _, ⟨Tvoc11, Lvoc11, kvoc11, nvoc11⟩, -, Xvoc11, ⟨Lcvoc11, hQvoc11, lvoc11, yvoc11, zvoc11⟩, stvoc11⟩ := Jvm.LawKit.callS Xvo10 hx (y := (⟨"java/lang/StringLatin1", "toBytes", "(C)[B"⟩ : MethodName)) hown (mvT hZ (hw _ (List.mem_of_getElem? (i := 19) rfl))) (mvT hZ (hw _ (List.mem_of_getElem? (i := 20) rfl))) (mvT hZ (hw _ (List.mem_of_getElem? (i := 15) rfl))) (mvT hZ (hw _ (List.mem_of_getElem? (i := 21) rfl))) (by decide) (backOf (W := 2) (rmt1 l Z aa hw [] p0 wc sx hvo10 n0 Zvo10 BW Ovo10) hZ (hw _ (List.mem_of_getElem? (i := 21) rfl)) (hw _ (List.mem_of_getElem? (i := 15) rfl)) (by decide) (by decide)) (g := (mkF m 18 #[.val (.int p0)] [(.int p0), (.ref bvo10), (.ref bvo10)])) rfl (by rw [hml]; rfl) (argsL := [(.int p0)]) (rest := [(.ref bvo10), (.ref bvo10)]) (lenOf pdvo_1 rfl) rfl (by show 2 * 0 + _ ≤ _; exact Nat.le_of_eq rfl) (hb hby dvo_18) (fun _ _ => ⟨rfl, evo10, (by decide : 1 + 1 ≤ _), (by decide : 4 + 1 ≤ _)⟩)
    dsimp only [Pt.U, Pt.locs, Pt.cells, Pt.slots] at Xvoc11 lvoc11 yvoc11 zvoc11 stvoc11 hQvoc11
    subst lvoc11 yvoc11 zvoc11
    obtain ⟨bvoc11, kbvoc11, rfl, Nvoc11q, Kqvoc11, sz_bvoc11, V_bvoc11⟩ := hQvoc11
    have Nvoc11 := Fr.app Nvoc2 Nvoc11q
    obtain ⟨lcvot12, Xvoc11, Nvoc11⟩ : ∃ lc, Stand p l e ({ frames := 2, cells := 2, slots := 6, locals := 29 } : Room) s m #[(.int p0)] below meth c Tvoc11 lc 2 5 ∧ Fr n0 lc := ⟨_, Xvoc11, Nvoc11⟩
    obtain ⟨hvoc11, evoc11⟩ : ∃ h, Tvoc11.heap = h := ⟨_, rfl⟩
    rw [evoc11] at Kqvoc11 V_bvoc11
    have ne_bvo10_bvoc11 : bvo10 ≠ bvoc11 := Nat.ne_of_lt (Nat.lt_of_lt_of_le E_bvo10.lt sz_bvoc11)
    have g_bvoc11 : n0 ≤ bvoc11 := Nat.le_trans Zvo10 sz_bvoc11
    have sz_bvoc11 : h0.size ≤ bvoc11 := Nat.le_trans Kvo10.1 sz_bvoc11
    replace E_bvo10 := E_bvo10.keep Kqvoc11
    replace F_value_bvo10 := F_value_bvo10.keep Kqvoc11 nin0
    replace F_coder_bvo10 := F_coder_bvo10.keep Kqvoc11 nin0
    have KKvoc11 := Keep.trans Kvo10 Kqvoc11 all0
    have Zvoc11 := Nat.le_trans Zvo10 Kqvoc11.1
    have Ovoc11 := Ovo10.keep Kqvoc11 all0
    refine stp (fun t k => stvoc11 t k) ?_
    show W (Tvoc11.setTop (mkF m 21 #[.val (.int p0)] [(.ref bvoc11), (.ref bvo10), (.ref bvo10)]))
    refine stp (fun t k => XS.iconst Xvoc11.here hx rfl (hb hby dvo_21) k) ?_
    show W (Tvoc11.setTop (mkF m 22 #[.val (.int p0)] [(.int (0 : Int32)), (.ref bvoc11), (.ref bvo10), (.ref bvo10)]))
    obtain ⟨_, _, ⟨Tvoc13, Lvoc13, kvoc13, nvoc13⟩, -, Xvoc13, ⟨Lcvoc13, hQvoc13, lvoc13, yvoc13, zvoc13⟩, stvoc13⟩ := Xvoc11.specialBack hx (y := (⟨"java/lang/String", "<init>", "([BB)V"⟩ : MethodName)) rfl hown (mvT hZ (hw _ (List.mem_of_getElem? (i := 23) rfl))) (mvT hZ (hw _ (List.mem_of_getElem? (i := 24) rfl))) (mvT hZ (hw _ (List.mem_of_getElem? (i := 26) rfl))) (by decide) (backOf (W := 1) (rmib l Z aa hw [] bvo10 bvoc11 (0 : Int32) wc sx hvoc11 n0 Zvoc11 BW Ovoc11 E_bvo10 F_value_bvo10 F_coder_bvo10 g_bvo10) hZ (hw _ (List.mem_of_getElem? (i := 26) rfl)) (hw _ (List.mem_of_getElem? (i := 10) rfl)) (by decide) (by decide)) (g := (mkF m 22 #[.val (.int p0)] [(.int (0 : Int32)), (.ref bvoc11), (.ref bvo10), (.ref bvo10)])) rfl (by rw [hml]; rfl) (Steps.refl _) (a := bvo10) (argsL := [(.ref bvoc11), (.int (0 : Int32))]) (rest := [(.ref bvo10)]) (lenOf pdvo_2 rfl) rfl (by show 2 * 0 + _ ≤ _; exact Nat.le_of_eq rfl) (hb hby dvo_22) (fun _ _ => ⟨rfl, evoc11, (by decide : 2 + 0 ≤ _), (by decide : 5 + 0 ≤ _)⟩)
    dsimp only [Pt.U, Pt.locs, Pt.cells, Pt.slots] at Xvoc13 lvoc13 yvoc13 zvoc13 stvoc13 hQvoc13
    subst lvoc13 yvoc13 zvoc13
    obtain ⟨rfl, Nvoc13q, Kqvoc13, EEvoc13, FVvoc13, FCvoc13⟩ := hQvoc13
    have Nvoc13 := Fr.app Nvoc11 Nvoc13q
    obtain ⟨lcvot14, Xvoc13, Nvoc13⟩ : ∃ lc, Stand p l e ({ frames := 2, cells := 2, slots := 6, locals := 29 } : Room) s m #[(.int p0)] below meth c Tvoc13 lc 2 5 ∧ Fr n0 lc := ⟨_, Xvoc13, Nvoc13⟩
    obtain ⟨hvoc13, evoc13⟩ : ∃ h, Tvoc13.heap = h := ⟨_, rfl⟩
    rw [evoc13] at Kqvoc13 EEvoc13 FVvoc13 FCvoc13
    replace V_bvoc11 := V_bvoc11.keep Kqvoc13 (ninS (Ne.symm ne_bvo10_bvoc11) nin0)
    have KKvoc13 := Keep.trans KKvoc11 Kqvoc13 (allS (Or.inr sz_bvo10) all0)
    have Zvoc13 := Nat.le_trans Zvoc11 Kqvoc13.1
    have Ovoc13 := Ovoc11.keep Kqvoc13 (allS g_bvo10 all0)
    refine stp (fun t k => stvoc13.trans k) ?_
    show W (Tvoc13.setTop (mkF m 25 #[.val (.int p0)] [(.ref bvo10)]))
    show W (Tvoc13.setTop (mkF m 25 #[.val (.int p0)] [(.ref bvo10)]))
    rw [← hW]
    exact own_retR Xvoc13 hx Bd.notSynchronized Bd.returns rfl (hb hby dvo_25) (by show Qvo Z p0 wc sx h0 n0 _ Tvoc13.heap _; rw [evoc13]; exact ⟨bvo10, bvoc11, rfl, Nvoc13, KKvoc13, EEvoc13, FVvoc13, Or.inl ⟨own_fldEq (by decide) FCvoc13, (fun j hj => own_ce hcvo_4), _, V_bvoc11⟩⟩) (by decide) (by decide)
def OwnK (Z : State) (kW kQ kS kY kE : Addr) : Prop := Sta Z Z.heap "com/example/grant3/grant3/Lexer$Kind" "WORD" "Lcom/example/grant3/grant3/Lexer$Kind;" (.ref kW) ∧ Sta Z Z.heap "com/example/grant3/grant3/Lexer$Kind" "QUOTED" "Lcom/example/grant3/grant3/Lexer$Kind;" (.ref kQ) ∧ Sta Z Z.heap "com/example/grant3/grant3/Lexer$Kind" "STRING" "Lcom/example/grant3/grant3/Lexer$Kind;" (.ref kS) ∧ Sta Z Z.heap "com/example/grant3/grant3/Lexer$Kind" "SYMBOL" "Lcom/example/grant3/grant3/Lexer$Kind;" (.ref kY) ∧ Sta Z Z.heap "com/example/grant3/grant3/Lexer$Kind" "END" "Lcom/example/grant3/grant3/Lexer$Kind;" (.ref kE) ∧ kW ≠ kY ∧ kQ ≠ kY ∧ kS ≠ kY ∧ kE ≠ kY
theorem dkd_0 : decode method_2_code 0 = .ok (.iload_n 0, 1) := by decide +kernel
theorem dkd_1 : decode method_2_code 1 = .ok (.ifCond .ne 7, 3) := by decide +kernel
theorem dkd_4 : decode method_2_code 4 = .ok (.getstatic 7, 3) := by decide +kernel
theorem dkd_7 : decode method_2_code 7 = .ok (.areturn, 1) := by decide +kernel
theorem dkd_8 : decode method_2_code 8 = .ok (.iload_n 0, 1) := by decide +kernel
theorem dkd_9 : decode method_2_code 9 = .ok (.iconst 1, 1) := by decide +kernel
theorem dkd_10 : decode method_2_code 10 = .ok (.if_icmp .ne 7, 3) := by decide +kernel
theorem dkd_13 : decode method_2_code 13 = .ok (.getstatic 13, 3) := by decide +kernel
theorem dkd_16 : decode method_2_code 16 = .ok (.areturn, 1) := by decide +kernel
theorem dkd_17 : decode method_2_code 17 = .ok (.iload_n 0, 1) := by decide +kernel
theorem dkd_18 : decode method_2_code 18 = .ok (.iconst 2, 1) := by decide +kernel
theorem dkd_19 : decode method_2_code 19 = .ok (.if_icmp .ne 7, 3) := by decide +kernel
theorem dkd_22 : decode method_2_code 22 = .ok (.getstatic 16, 3) := by decide +kernel
theorem dkd_25 : decode method_2_code 25 = .ok (.areturn, 1) := by decide +kernel
theorem dkd_26 : decode method_2_code 26 = .ok (.iload_n 0, 1) := by decide +kernel
theorem dkd_27 : decode method_2_code 27 = .ok (.iconst 3, 1) := by decide +kernel
theorem dkd_28 : decode method_2_code 28 = .ok (.if_icmp .ne 7, 3) := by decide +kernel
theorem dkd_31 : decode method_2_code 31 = .ok (.getstatic 19, 3) := by decide +kernel
theorem dkd_34 : decode method_2_code 34 = .ok (.areturn, 1) := by decide +kernel
theorem dkd_35 : decode method_2_code 35 = .ok (.getstatic 22, 3) := by decide +kernel
theorem dkd_38 : decode method_2_code 38 = .ok (.areturn, 1) := by decide +kernel
theorem pnkd : plainName "com/example/grant3/grant3/TokenIsSymbolPinLaw" = true := by first | (simp [plainName, overriddenIn]; done) | decide +kernel
theorem efkd (m : MethodId) (p0 : Int32) : entryFrame m #[(.int p0)] 1 = mkF m 0 #[.val (.int p0)] [] := by first | (simp [entryFrame, mkF, argsToLocals, Value.category]; done) | rfl
def Qkd (Z : State) (p0 : Int32) (wc : Int32) (sx : Value) (kW : Addr) (kQ : Addr) (kS : Addr) (kY : Addr) (kE : Addr) (h0 : Heap) (n0 : Nat) (v : Option Value) (h : Heap) (L : List Loc) : Prop := ∃ r : Addr, v = some (.ref r) ∧ Fr n0 L ∧ h = h0 ∧ ((p0 = (3 : Int32) ∧ r = kY) ∨ (¬ p0 = (3 : Int32) ∧ r ≠ kY))
set_option maxRecDepth 65536 in
set_option maxHeartbeats 40000000 in
theorem rmkd (l : Launch) (Z : State) (aa : Array Value) (hw : ∀ d ∈ tables_1, d.before aa Z = true) (ws : List Jvm.Cond) (p0 : Int32) (wc : Int32) (sx : Value) (kW : Addr) (kQ : Addr) (kS : Addr) (kY : Addr) (kE : Addr) (h0 : Heap) (n0 : Nat) (Z0 : n0 ≤ h0.size) (BW : OwnW Z wc sx) (O0 : Old Z n0 h0) (BK : OwnK Z kW kQ kS kY kE) :
    MetFree l (⟨"com/example/grant3/grant3/TokenIsSymbolPinLaw", "kindOf", "(I)Lcom/example/grant3/grant3/Lexer$Kind;"⟩ : MethodName) (head1 (Jvm.Cond.code (⟨"com/example/grant3/grant3/TokenIsSymbolPinLaw", "kindOf", "(I)Lcom/example/grant3/grant3/Lexer$Kind;"⟩ : MethodName) method_2_code 1 (some (.object "com/example/grant3/grant3/Lexer$Kind")) :: ws) ({ frames := 0, cells := 0, slots := 0, locals := 0 } : Room)) (fun a U => a = #[(.int p0)] ∧ Z.Warmed39 U.vm ∧ U.heap = h0) (fun _ _ _ _ _ => True) (fun _ U o U' => ∃ v L, o = .returned v ∧ Qkd Z p0 wc sx kW kQ kS kY kE h0 n0 v U'.heap L ∧ FrameEnd U o U' L ({ frames := 0, cells := 0, slots := 0, locals := 0 } : Room).cells ({ frames := 0, cells := 0, slots := 0, locals := 0 } : Room).slots) := by
  refine MetFree.of_bodySF (plainFor_of_name pnkd) hisR ?_
  intro p e s m args below meth c s₁ Bd hml0 hP hK
  obtain ⟨rfl, hZ, hh⟩ := hP
  have hx := Bd.exec
  have hby := Bd.bytes
  have hml : c.maxLocals = 1 := hml0
  have hown : s.vm.findClass "com/example/grant3/grant3/TokenIsSymbolPinLaw" = some m.cls := findClass_of_methodNamed Bd.named
  have hnm := (name_of_methodNamed Bd.named Bd.method).1
  have X0 : Stand p l e ({ frames := 0, cells := 0, slots := 0, locals := 0 } : Room) s m #[(.int p0)] below meth c s₁ [] 0 0 := Stand.of_body Bd
  have e0 : s₁.heap = h0 := by rw [← hh, Bd.state]; rfl
  have N0 := Fr.nil n0
  show OwnEnd p e below s (fun v h L => Qkd Z p0 wc sx kW kQ kS kY kE h0 n0 v h L) ({ frames := 0, cells := 0, slots := 0, locals := 0 } : Room).cells ({ frames := 0, cells := 0, slots := 0, locals := 0 } : Room).slots (s₁.setTop (entryFrame m #[(.int p0)] 1))
  rw [efkd m p0]
  generalize hW : OwnEnd p e below s (fun v h L => Qkd Z p0 wc sx kW kQ kS kY kE h0 n0 v h L) ({ frames := 0, cells := 0, slots := 0, locals := 0 } : Room).cells ({ frames := 0, cells := 0, slots := 0, locals := 0 } : Room).slots = W
  have stp : ∀ {A B : State}, (∀ t, Steps p.tables e below B t → Steps p.tables e below A t) → W B → W A := by subst hW; exact own_step
  obtain ⟨S_cs, hcs, S_si, hr_sx, S_ad, S_hi, S_lo⟩ := id BW
  obtain ⟨K_w, K_q, K_s, K_y, K_e, nW, nQ, nS, nE⟩ := id BK
  show W (s₁.setTop (mkF m 0 #[.val (.int p0)] []))
  refine stp (fun t k => XS.iloadN X0.here hx rfl (hb hby dkd_0) rfl k) ?_
  show W (s₁.setTop (mkF m 1 #[.val (.int p0)] [(.int p0)]))
  by_cases hckd_1 : p0 = (0 : Int32)
  · refine stp (fun t k => XS.ifNo X0.here hx rfl (hb hby dkd_1) rfl ((if0 _ _).trans (teq hckd_1).2) k) ?_
    show W (s₁.setTop (mkF m 4 #[.val (.int p0)] []))
    obtain ⟨Tkd2, Xkd2, ekd2, stkd2⟩ := getS2 X0 hx hZ hown (host := "") (Or.inl (hw _ (List.mem_of_getElem? (i := 5) rfl))) Via.refl e0 (K_w.ext O0.2) (g := (mkF m 4 #[.val (.int p0)] [])) rfl (hb hby dkd_4)
    refine stp (fun t k => stkd2 t k) ?_
    show W (Tkd2.setTop (mkF m 7 #[.val (.int p0)] [(.ref kW)]))
    show W (Tkd2.setTop (mkF m 7 #[.val (.int p0)] [(.ref kW)]))
    rw [← hW]
    exact own_retR Xkd2 hx Bd.notSynchronized Bd.returns rfl (hb hby dkd_7) (by show Qkd Z p0 wc sx kW kQ kS kY kE h0 n0 _ Tkd2.heap _; rw [ekd2]; exact ⟨kW, rfl, N0, rfl, Or.inr ⟨fun q => absurd (hckd_1.symm.trans q) (by decide), nW⟩⟩) (by decide) (by decide)
  · refine stp (fun t k => XS.ifYes X0.here hx rfl (pc0 := 1) (pc' := 8) rfl (hb hby dkd_1) rfl ((if0 _ _).trans (feq hckd_1).2) (by decide) (by decide) k) ?_
    show W (s₁.setTop (mkF m 8 #[.val (.int p0)] []))
    refine stp (fun t k => XS.iloadN X0.here hx rfl (hb hby dkd_8) rfl k) ?_
    show W (s₁.setTop (mkF m 9 #[.val (.int p0)] [(.int p0)]))
    refine stp (fun t k => XS.iconst X0.here hx rfl (hb hby dkd_9) k) ?_
    show W (s₁.setTop (mkF m 10 #[.val (.int p0)] [(.int (1 : Int32)), (.int p0)]))
    by_cases hckd_3 : p0 = (1 : Int32)
    · refine stp (fun t k => XS.icmpNo X0.here hx rfl (hb hby dkd_10) rfl ((teq hckd_3).2) k) ?_
      show W (s₁.setTop (mkF m 13 #[.val (.int p0)] []))
      obtain ⟨Tkd4, Xkd4, ekd4, stkd4⟩ := getS2 X0 hx hZ hown (host := "") (Or.inl (hw _ (List.mem_of_getElem? (i := 121) rfl))) Via.refl e0 (K_q.ext O0.2) (g := (mkF m 13 #[.val (.int p0)] [])) rfl (hb hby dkd_13)
      refine stp (fun t k => stkd4 t k) ?_
      show W (Tkd4.setTop (mkF m 16 #[.val (.int p0)] [(.ref kQ)]))
      show W (Tkd4.setTop (mkF m 16 #[.val (.int p0)] [(.ref kQ)]))
      rw [← hW]
      exact own_retR Xkd4 hx Bd.notSynchronized Bd.returns rfl (hb hby dkd_16) (by show Qkd Z p0 wc sx kW kQ kS kY kE h0 n0 _ Tkd4.heap _; rw [ekd4]; exact ⟨kQ, rfl, N0, rfl, Or.inr ⟨fun q => absurd (hckd_3.symm.trans q) (by decide), nQ⟩⟩) (by decide) (by decide)
    · refine stp (fun t k => XS.icmpYes X0.here hx rfl (pc0 := 10) (pc' := 17) rfl (hb hby dkd_10) rfl ((feq hckd_3).2) (by decide) (by decide) k) ?_
      show W (s₁.setTop (mkF m 17 #[.val (.int p0)] []))
      refine stp (fun t k => XS.iloadN X0.here hx rfl (hb hby dkd_17) rfl k) ?_
      show W (s₁.setTop (mkF m 18 #[.val (.int p0)] [(.int p0)]))
      refine stp (fun t k => XS.iconst X0.here hx rfl (hb hby dkd_18) k) ?_
      show W (s₁.setTop (mkF m 19 #[.val (.int p0)] [(.int (2 : Int32)), (.int p0)]))
      by_cases hckd_5 : p0 = (2 : Int32)
      · refine stp (fun t k => XS.icmpNo X0.here hx rfl (hb hby dkd_19) rfl ((teq hckd_5).2) k) ?_
        show W (s₁.setTop (mkF m 22 #[.val (.int p0)] []))
        obtain ⟨Tkd6, Xkd6, ekd6, stkd6⟩ := getS2 X0 hx hZ hown (host := "") (Or.inl (hw _ (List.mem_of_getElem? (i := 97) rfl))) Via.refl e0 (K_s.ext O0.2) (g := (mkF m 22 #[.val (.int p0)] [])) rfl (hb hby dkd_22)
        refine stp (fun t k => stkd6 t k) ?_
        show W (Tkd6.setTop (mkF m 25 #[.val (.int p0)] [(.ref kS)]))
        show W (Tkd6.setTop (mkF m 25 #[.val (.int p0)] [(.ref kS)]))
        rw [← hW]
        exact own_retR Xkd6 hx Bd.notSynchronized Bd.returns rfl (hb hby dkd_25) (by show Qkd Z p0 wc sx kW kQ kS kY kE h0 n0 _ Tkd6.heap _; rw [ekd6]; exact ⟨kS, rfl, N0, rfl, Or.inr ⟨fun q => absurd (hckd_5.symm.trans q) (by decide), nS⟩⟩) (by decide) (by decide)
      · refine stp (fun t k => XS.icmpYes X0.here hx rfl (pc0 := 19) (pc' := 26) rfl (hb hby dkd_19) rfl ((feq hckd_5).2) (by decide) (by decide) k) ?_
        show W (s₁.setTop (mkF m 26 #[.val (.int p0)] []))
        refine stp (fun t k => XS.iloadN X0.here hx rfl (hb hby dkd_26) rfl k) ?_
        show W (s₁.setTop (mkF m 27 #[.val (.int p0)] [(.int p0)]))
        refine stp (fun t k => XS.iconst X0.here hx rfl (hb hby dkd_27) k) ?_
        show W (s₁.setTop (mkF m 28 #[.val (.int p0)] [(.int (3 : Int32)), (.int p0)]))
        by_cases hckd_7 : p0 = (3 : Int32)
        · refine stp (fun t k => XS.icmpNo X0.here hx rfl (hb hby dkd_28) rfl ((teq hckd_7).2) k) ?_
          show W (s₁.setTop (mkF m 31 #[.val (.int p0)] []))
          obtain ⟨Tkd8, Xkd8, ekd8, stkd8⟩ := getS2 X0 hx hZ hown (host := "") (Or.inl (hw _ (List.mem_of_getElem? (i := 57) rfl))) Via.refl e0 (K_y.ext O0.2) (g := (mkF m 31 #[.val (.int p0)] [])) rfl (hb hby dkd_31)
          refine stp (fun t k => stkd8 t k) ?_
          show W (Tkd8.setTop (mkF m 34 #[.val (.int p0)] [(.ref kY)]))
          show W (Tkd8.setTop (mkF m 34 #[.val (.int p0)] [(.ref kY)]))
          rw [← hW]
          exact own_retR Xkd8 hx Bd.notSynchronized Bd.returns rfl (hb hby dkd_34) (by show Qkd Z p0 wc sx kW kQ kS kY kE h0 n0 _ Tkd8.heap _; rw [ekd8]; exact ⟨kY, rfl, N0, rfl, Or.inl ⟨hckd_7, rfl⟩⟩) (by decide) (by decide)
        · refine stp (fun t k => XS.icmpYes X0.here hx rfl (pc0 := 28) (pc' := 35) rfl (hb hby dkd_28) rfl ((feq hckd_7).2) (by decide) (by decide) k) ?_
          show W (s₁.setTop (mkF m 35 #[.val (.int p0)] []))
          obtain ⟨Tkd9, Xkd9, ekd9, stkd9⟩ := getS2 X0 hx hZ hown (host := "") (Or.inl (hw _ (List.mem_of_getElem? (i := 133) rfl))) Via.refl e0 (K_e.ext O0.2) (g := (mkF m 35 #[.val (.int p0)] [])) rfl (hb hby dkd_35)
          refine stp (fun t k => stkd9 t k) ?_
          show W (Tkd9.setTop (mkF m 38 #[.val (.int p0)] [(.ref kE)]))
          show W (Tkd9.setTop (mkF m 38 #[.val (.int p0)] [(.ref kE)]))
          rw [← hW]
          exact own_retR Xkd9 hx Bd.notSynchronized Bd.returns rfl (hb hby dkd_38) (by show Qkd Z p0 wc sx kW kQ kS kY kE h0 n0 _ Tkd9.heap _; rw [ekd9]; exact ⟨kE, rfl, N0, rfl, Or.inr ⟨hckd_7, nE⟩⟩) (by decide) (by decide)
theorem drc_0 : decode jdk_30_method_1_code 0 = .ok (.aload_n 0, 1) := by decide +kernel
theorem drc_1 : decode jdk_30_method_1_code 1 = .ok (.invokespecial 1, 3) := by decide +kernel
theorem drc_4 : decode jdk_30_method_1_code 4 = .ok (.return_, 1) := by decide +kernel
theorem pnrc : plainName "java/lang/Record" = true := by first | (simp [plainName, overriddenIn]; done) | decide +kernel
theorem efrc (m : MethodId) (a0 : Addr) : entryFrame m #[(.ref a0)] 1 = mkF m 0 #[.val (.ref a0)] [] := by first | (simp [entryFrame, mkF, argsToLocals, Value.category]; done) | rfl
def Qrc (Z : State) (a0 : Addr) (h0 : Heap) (n0 : Nat) (v : Option Value) (h : Heap) (L : List Loc) : Prop := v = none ∧ Fr n0 L ∧ h = h0
set_option maxRecDepth 65536 in
set_option maxHeartbeats 40000000 in
theorem rmrc (l : Launch) (Z : State) (aa : Array Value) (hw : ∀ d ∈ tables_1, d.before aa Z = true) (ws : List Jvm.Cond) (a0 : Addr) (h0 : Heap) (n0 : Nat) (Z0 : n0 ≤ h0.size) :
    MetFree l (⟨"java/lang/Record", "<init>", "()V"⟩ : MethodName) (head1 (Jvm.Cond.code (⟨"java/lang/Record", "<init>", "()V"⟩ : MethodName) jdk_30_method_1_code 1 none :: ws) ({ frames := 1, cells := 0, slots := 0, locals := 12 } : Room)) (fun a U => a = #[(.ref a0)] ∧ Z.Warmed39 U.vm ∧ U.heap = h0) (fun _ _ _ _ _ => True) (fun _ U o U' => ∃ v L, o = .returned v ∧ Qrc Z a0 h0 n0 v U'.heap L ∧ FrameEnd U o U' L ({ frames := 1, cells := 0, slots := 0, locals := 12 } : Room).cells ({ frames := 1, cells := 0, slots := 0, locals := 12 } : Room).slots) := by
  refine MetFree.of_bodySF (plainFor_of_name pnrc) hisR ?_
  intro p e s m args below meth c s₁ Bd hml0 hP hK
  obtain ⟨rfl, hZ, hh⟩ := hP
  have hx := Bd.exec
  have hby := Bd.bytes
  have hml : c.maxLocals = 1 := hml0
  have hown : s.vm.findClass "java/lang/Record" = some m.cls := findClass_of_methodNamed Bd.named
  have hnm := (name_of_methodNamed Bd.named Bd.method).1
  have X0 : Stand p l e ({ frames := 1, cells := 0, slots := 0, locals := 12 } : Room) s m #[(.ref a0)] below meth c s₁ [] 0 0 := Stand.of_body Bd
  have e0 : s₁.heap = h0 := by rw [← hh, Bd.state]; rfl
  have N0 := Fr.nil n0
  show OwnEnd p e below s (fun v h L => Qrc Z a0 h0 n0 v h L) ({ frames := 1, cells := 0, slots := 0, locals := 12 } : Room).cells ({ frames := 1, cells := 0, slots := 0, locals := 12 } : Room).slots (s₁.setTop (entryFrame m #[(.ref a0)] 1))
  rw [efrc m a0]
  generalize hW : OwnEnd p e below s (fun v h L => Qrc Z a0 h0 n0 v h L) ({ frames := 1, cells := 0, slots := 0, locals := 12 } : Room).cells ({ frames := 1, cells := 0, slots := 0, locals := 12 } : Room).slots = W
  have stp : ∀ {A B : State}, (∀ t, Steps p.tables e below B t → Steps p.tables e below A t) → W B → W A := by subst hW; exact own_step
  show W (s₁.setTop (mkF m 0 #[.val (.ref a0)] []))
  refine stp (fun t k => XS.aloadN X0.here hx rfl (hb hby drc_0) rfl rfl k) ?_
  show W (s₁.setTop (mkF m 1 #[.val (.ref a0)] [(.ref a0)]))
  obtain ⟨T1, X1, e1, st1⟩ := initO X0 hx hZ hown (hw _ (List.mem_of_getElem? (i := 45) rfl)) (hw _ (List.mem_of_getElem? (i := 28) rfl)) (hw _ (List.mem_of_getElem? (i := 29) rfl)) e0 (g := (mkF m 1 #[.val (.ref a0)] [(.ref a0)])) rfl (by rw [hml]; rfl) rfl (hb hby drc_1) (by decide) (W := 0) (by show 2 * 0 + _ ≤ _; exact Nat.le_of_eq rfl) (by decide)
  refine stp (fun t k => st1 t k) ?_
  show W (T1.setTop (mkF m 4 #[.val (.ref a0)] []))
  show W (T1.setTop (mkF m 4 #[.val (.ref a0)] []))
  rw [← hW]
  exact own_ret0 X1 hx Bd.notSynchronized Bd.returns (hb hby drc_4) (by show Qrc Z a0 h0 n0 _ T1.heap _; rw [e1]; exact ⟨rfl, N0, rfl⟩) (by decide) (by decide)
theorem dtk_0 : decode prog_34_method_1_code 0 = .ok (.aload_n 0, 1) := by decide +kernel
theorem dtk_1 : decode prog_34_method_1_code 1 = .ok (.invokespecial 1, 3) := by decide +kernel
theorem dtk_4 : decode prog_34_method_1_code 4 = .ok (.aload_n 0, 1) := by decide +kernel
theorem dtk_5 : decode prog_34_method_1_code 5 = .ok (.aload_n 1, 1) := by decide +kernel
theorem dtk_6 : decode prog_34_method_1_code 6 = .ok (.putfield 7, 3) := by decide +kernel
theorem dtk_9 : decode prog_34_method_1_code 9 = .ok (.aload_n 0, 1) := by decide +kernel
theorem dtk_10 : decode prog_34_method_1_code 10 = .ok (.aload_n 2, 1) := by decide +kernel
theorem dtk_11 : decode prog_34_method_1_code 11 = .ok (.putfield 13, 3) := by decide +kernel
theorem dtk_14 : decode prog_34_method_1_code 14 = .ok (.return_, 1) := by decide +kernel
theorem pntk : plainName "com/example/grant3/grant3/Lexer$Token" = true := by first | (simp [plainName, overriddenIn]; done) | decide +kernel
theorem pdtk_0 : parseMethodDescriptor "()V" = some ⟨[], none⟩ := by decide +kernel
theorem eftk (m : MethodId) (a0 : Addr) (a1 : Addr) (a2 : Addr) : entryFrame m #[(.ref a0), (.ref a1), (.ref a2)] 3 = mkF m 0 #[.val (.ref a0), .val (.ref a1), .val (.ref a2)] [] := by first | (simp [entryFrame, mkF, argsToLocals, Value.category]; done) | rfl
def Qtk (Z : State) (a0 : Addr) (a1 : Addr) (a2 : Addr) (wc : Int32) (sx : Value) (h0 : Heap) (n0 : Nat) (v : Option Value) (h : Heap) (L : List Loc) : Prop := v = none ∧ Fr n0 L ∧ Keep h0 h [a0] ∧ Exa Z h a0 "com/example/grant3/grant3/Lexer$Token" ∧ Fld Z h a0 "com/example/grant3/grant3/Lexer$Token" "kind" "Lcom/example/grant3/grant3/Lexer$Kind;" (.ref a1) ∧ Fld Z h a0 "com/example/grant3/grant3/Lexer$Token" "text" "Ljava/lang/String;" (.ref a2)
set_option maxRecDepth 65536 in
set_option maxHeartbeats 40000000 in
theorem rmtk (l : Launch) (Z : State) (aa : Array Value) (hw : ∀ d ∈ tables_1, d.before aa Z = true) (ws : List Jvm.Cond) (a0 : Addr) (a1 : Addr) (a2 : Addr) (wc : Int32) (sx : Value) (h0 : Heap) (n0 : Nat) (Z0 : n0 ≤ h0.size) (BW : OwnW Z wc sx) (O0 : Old Z n0 h0) (E_a0 : Exa Z h0 a0 "com/example/grant3/grant3/Lexer$Token") (F_kind_a0 : Fld Z h0 a0 "com/example/grant3/grant3/Lexer$Token" "kind" "Lcom/example/grant3/grant3/Lexer$Kind;" .null) (F_text_a0 : Fld Z h0 a0 "com/example/grant3/grant3/Lexer$Token" "text" "Ljava/lang/String;" .null) (g_a0 : n0 ≤ a0) :
    MetFree l (⟨"com/example/grant3/grant3/Lexer$Token", "<init>", "(Lcom/example/grant3/grant3/Lexer$Kind;Ljava/lang/String;)V"⟩ : MethodName) (head1 (Jvm.Cond.code (⟨"com/example/grant3/grant3/Lexer$Token", "<init>", "(Lcom/example/grant3/grant3/Lexer$Kind;Ljava/lang/String;)V"⟩ : MethodName) prog_34_method_1_code 3 none :: ws) ({ frames := 2, cells := 0, slots := 0, locals := 24 } : Room)) (fun a U => a = #[(.ref a0), (.ref a1), (.ref a2)] ∧ Z.Warmed39 U.vm ∧ U.heap = h0) (fun _ _ _ _ _ => True) (fun _ U o U' => ∃ v L, o = .returned v ∧ Qtk Z a0 a1 a2 wc sx h0 n0 v U'.heap L ∧ FrameEnd U o U' L ({ frames := 2, cells := 0, slots := 0, locals := 24 } : Room).cells ({ frames := 2, cells := 0, slots := 0, locals := 24 } : Room).slots) := by
  refine MetFree.of_bodySF (plainFor_of_name pntk) hisR ?_
  intro p e s m args below meth c s₁ Bd hml0 hP hK
  obtain ⟨rfl, hZ, hh⟩ := hP
  have hx := Bd.exec
  have hby := Bd.bytes
  have hml : c.maxLocals = 3 := hml0
  have hown : s.vm.findClass "com/example/grant3/grant3/Lexer$Token" = some m.cls := findClass_of_methodNamed Bd.named
  have hnm := (name_of_methodNamed Bd.named Bd.method).1
  have X0 : Stand p l e ({ frames := 2, cells := 0, slots := 0, locals := 24 } : Room) s m #[(.ref a0), (.ref a1), (.ref a2)] below meth c s₁ [] 0 0 := Stand.of_body Bd
  have e0 : s₁.heap = h0 := by rw [← hh, Bd.state]; rfl
  have N0 := Fr.nil n0
  show OwnEnd p e below s (fun v h L => Qtk Z a0 a1 a2 wc sx h0 n0 v h L) ({ frames := 2, cells := 0, slots := 0, locals := 24 } : Room).cells ({ frames := 2, cells := 0, slots := 0, locals := 24 } : Room).slots (s₁.setTop (entryFrame m #[(.ref a0), (.ref a1), (.ref a2)] 3))
  rw [eftk m a0 a1 a2]
  generalize hW : OwnEnd p e below s (fun v h L => Qtk Z a0 a1 a2 wc sx h0 n0 v h L) ({ frames := 2, cells := 0, slots := 0, locals := 24 } : Room).cells ({ frames := 2, cells := 0, slots := 0, locals := 24 } : Room).slots = W
  have stp : ∀ {A B : State}, (∀ t, Steps p.tables e below B t → Steps p.tables e below A t) → W B → W A := by subst hW; exact own_step
  obtain ⟨S_cs, hcs, S_si, hr_sx, S_ad, S_hi, S_lo⟩ := id BW
  show W (s₁.setTop (mkF m 0 #[.val (.ref a0), .val (.ref a1), .val (.ref a2)] []))
  refine stp (fun t k => XS.aloadN X0.here hx rfl (hb hby dtk_0) rfl rfl k) ?_
  show W (s₁.setTop (mkF m 1 #[.val (.ref a0), .val (.ref a1), .val (.ref a2)] [(.ref a0)]))
  obtain ⟨_, _, ⟨Ttkc1, Ltkc1, ktkc1, ntkc1⟩, -, Xtkc1, ⟨Lctkc1, hQtkc1, ltkc1, ytkc1, ztkc1⟩, sttkc1⟩ := X0.specialBack hx (y := (⟨"java/lang/Record", "<init>", "()V"⟩ : MethodName)) rfl hown (mvT hZ (hw _ (List.mem_of_getElem? (i := 40) rfl))) (mvT hZ (hw _ (List.mem_of_getElem? (i := 41) rfl))) (mvT hZ (hw _ (List.mem_of_getElem? (i := 44) rfl))) (by decide) (backOf (W := 0) (rmrc l Z aa hw [] a0  h0 n0 Z0 ) hZ (hw _ (List.mem_of_getElem? (i := 44) rfl)) (hw _ (List.mem_of_getElem? (i := 43) rfl)) (by decide) (by decide)) (g := (mkF m 1 #[.val (.ref a0), .val (.ref a1), .val (.ref a2)] [(.ref a0)])) rfl (by rw [hml]; rfl) (Steps.refl _) (a := a0) (argsL := []) (rest := []) (lenOf pdtk_0 rfl) rfl (by show 2 * 0 + _ ≤ _; exact Nat.le_of_eq rfl) (hb hby dtk_1) (fun _ _ => ⟨rfl, e0, (by decide : 0 + 0 ≤ _), (by decide : 0 + 0 ≤ _)⟩)
  dsimp only [Pt.U, Pt.locs, Pt.cells, Pt.slots] at Xtkc1 ltkc1 ytkc1 ztkc1 sttkc1 hQtkc1
  subst ltkc1 ytkc1 ztkc1
  obtain ⟨rfl, Ntkc1q, etkc1⟩ := hQtkc1
  have Ntkc1 := Fr.app N0 Ntkc1q
  obtain ⟨lctkt2, Xtkc1, Ntkc1⟩ : ∃ lc, Stand p l e ({ frames := 2, cells := 0, slots := 0, locals := 24 } : Room) s m #[(.ref a0), (.ref a1), (.ref a2)] below meth c Ttkc1 lc 0 0 ∧ Fr n0 lc := ⟨_, Xtkc1, Ntkc1⟩
  refine stp (fun t k => sttkc1.trans k) ?_
  show W (Ttkc1.setTop (mkF m 4 #[.val (.ref a0), .val (.ref a1), .val (.ref a2)] []))
  refine stp (fun t k => XS.aloadN Xtkc1.here hx rfl (hb hby dtk_4) rfl rfl k) ?_
  show W (Ttkc1.setTop (mkF m 5 #[.val (.ref a0), .val (.ref a1), .val (.ref a2)] [(.ref a0)]))
  refine stp (fun t k => XS.aloadN Xtkc1.here hx rfl (hb hby dtk_5) rfl rfl k) ?_
  show W (Ttkc1.setTop (mkF m 6 #[.val (.ref a0), .val (.ref a1), .val (.ref a2)] [(.ref a1), (.ref a0)]))
  obtain ⟨Ttk3, htk3, Xtk3, etk3, Wtk3, sttk3⟩ := putF Xtkc1 hx hZ hown (host := "") (Or.inl (hw _ (List.mem_of_getElem? (i := 46) rfl))) Via.refl etkc1 F_kind_a0 E_a0 (Or.inr ⟨(hw _ (List.mem_of_getElem? (i := 47) rfl)), rfl, hnm⟩) (hw _ (List.mem_of_getElem? (i := 35) rfl)) (ty := (.object "com/example/grant3/grant3/Lexer$Kind")) (by decide) rfl rfl (g := (mkF m 6 #[.val (.ref a0), .val (.ref a1), .val (.ref a2)] [(.ref a1), (.ref a0)])) rfl rfl (hb hby dtk_6)
  have Ntk3 := Fr.snoc Xtk3 Ntkc1 g_a0
  have F_kind_a0x := F_kind_a0.same Wtk3
  obtain ⟨lctkt4, Xtk3, Ntk3⟩ : ∃ lc, Stand p l e ({ frames := 2, cells := 0, slots := 0, locals := 24 } : Room) s m #[(.ref a0), (.ref a1), (.ref a2)] below meth c Ttk3 lc 0 0 ∧ Fr n0 lc := ⟨_, Xtk3, Ntk3⟩
  replace E_a0 := E_a0.wr Wtk3
  replace F_text_a0 := F_text_a0.other Wtk3 (Or.inr (slot_ne (Or.inr (hw _ (List.mem_of_getElem? (i := 49) rfl))) (Or.inr (hw _ (List.mem_of_getElem? (i := 47) rfl))) (by decide) (t := (.object "java/lang/String")) (t' := (.object "com/example/grant3/grant3/Lexer$Kind")) (by decide) (by decide)))
  have Ktk3 := (Keep.refl h0 [a0]).wr Wtk3 (Or.inl (List.mem_of_getElem? (i := 0) rfl))
  have Ztk3 := Nat.le_trans Z0 (Keep.of_wr Wtk3).1
  have Otk3 := O0.wr Wtk3 g_a0
  replace F_kind_a0 := F_kind_a0x
  clear F_kind_a0x
  refine stp (fun t k => sttk3 t k) ?_
  show W (Ttk3.setTop (mkF m 9 #[.val (.ref a0), .val (.ref a1), .val (.ref a2)] []))
  refine stp (fun t k => XS.aloadN Xtk3.here hx rfl (hb hby dtk_9) rfl rfl k) ?_
  show W (Ttk3.setTop (mkF m 10 #[.val (.ref a0), .val (.ref a1), .val (.ref a2)] [(.ref a0)]))
  refine stp (fun t k => XS.aloadN Xtk3.here hx rfl (hb hby dtk_10) rfl rfl k) ?_
  show W (Ttk3.setTop (mkF m 11 #[.val (.ref a0), .val (.ref a1), .val (.ref a2)] [(.ref a2), (.ref a0)]))
  obtain ⟨Ttk5, htk5, Xtk5, etk5, Wtk5, sttk5⟩ := putF Xtk3 hx hZ hown (host := "") (Or.inl (hw _ (List.mem_of_getElem? (i := 48) rfl))) Via.refl etk3 F_text_a0 E_a0 (Or.inr ⟨(hw _ (List.mem_of_getElem? (i := 49) rfl)), rfl, hnm⟩) (hw _ (List.mem_of_getElem? (i := 35) rfl)) (ty := (.object "java/lang/String")) (by decide) rfl rfl (g := (mkF m 11 #[.val (.ref a0), .val (.ref a1), .val (.ref a2)] [(.ref a2), (.ref a0)])) rfl rfl (hb hby dtk_11)
  have Ntk5 := Fr.snoc Xtk5 Ntk3 g_a0
  have F_text_a0x := F_text_a0.same Wtk5
  obtain ⟨lctkt6, Xtk5, Ntk5⟩ : ∃ lc, Stand p l e ({ frames := 2, cells := 0, slots := 0, locals := 24 } : Room) s m #[(.ref a0), (.ref a1), (.ref a2)] below meth c Ttk5 lc 0 0 ∧ Fr n0 lc := ⟨_, Xtk5, Ntk5⟩
  replace E_a0 := E_a0.wr Wtk5
  replace F_kind_a0 := F_kind_a0.other Wtk5 (Or.inr (slot_ne (Or.inr (hw _ (List.mem_of_getElem? (i := 47) rfl))) (Or.inr (hw _ (List.mem_of_getElem? (i := 49) rfl))) (by decide) (t := (.object "com/example/grant3/grant3/Lexer$Kind")) (t' := (.object "java/lang/String")) (by decide) (by decide)))
  have Ktk5 := Ktk3.wr Wtk5 (Or.inl (List.mem_of_getElem? (i := 0) rfl))
  have Ztk5 := Nat.le_trans Ztk3 (Keep.of_wr Wtk5).1
  have Otk5 := Otk3.wr Wtk5 g_a0
  replace F_text_a0 := F_text_a0x
  clear F_text_a0x
  refine stp (fun t k => sttk5 t k) ?_
  show W (Ttk5.setTop (mkF m 14 #[.val (.ref a0), .val (.ref a1), .val (.ref a2)] []))
  show W (Ttk5.setTop (mkF m 14 #[.val (.ref a0), .val (.ref a1), .val (.ref a2)] []))
  rw [← hW]
  exact own_ret0 Xtk5 hx Bd.notSynchronized Bd.returns (hb hby dtk_14) (by show Qtk Z a0 a1 a2 wc sx h0 n0 _ Ttk5.heap _; rw [etk5]; exact ⟨rfl, Ntk5, Ktk5, E_a0, F_kind_a0, F_text_a0⟩) (by decide) (by decide)
theorem dsy_0 : decode prog_34_method_3_code 0 = .ok (.aload_n 0, 1) := by decide +kernel
theorem dsy_1 : decode prog_34_method_3_code 1 = .ok (.getfield 7, 3) := by decide +kernel
theorem dsy_4 : decode prog_34_method_3_code 4 = .ok (.getstatic 28, 3) := by decide +kernel
theorem dsy_7 : decode prog_34_method_3_code 7 = .ok (.if_acmp .ne 19, 3) := by decide +kernel
theorem dsy_10 : decode prog_34_method_3_code 10 = .ok (.aload_n 0, 1) := by decide +kernel
theorem dsy_11 : decode prog_34_method_3_code 11 = .ok (.getfield 13, 3) := by decide +kernel
theorem dsy_14 : decode prog_34_method_3_code 14 = .ok (.iconst 0, 1) := by decide +kernel
theorem dsy_15 : decode prog_34_method_3_code 15 = .ok (.invokevirtual 31, 3) := by decide +kernel
theorem dsy_18 : decode prog_34_method_3_code 18 = .ok (.iload_n 1, 1) := by decide +kernel
theorem dsy_19 : decode prog_34_method_3_code 19 = .ok (.if_icmp .ne 7, 3) := by decide +kernel
theorem dsy_22 : decode prog_34_method_3_code 22 = .ok (.iconst 1, 1) := by decide +kernel
theorem dsy_23 : decode prog_34_method_3_code 23 = .ok (.goto 4, 3) := by decide +kernel
theorem dsy_26 : decode prog_34_method_3_code 26 = .ok (.iconst 0, 1) := by decide +kernel
theorem dsy_27 : decode prog_34_method_3_code 27 = .ok (.ireturn, 1) := by decide +kernel
theorem pnsy : plainName "com/example/grant3/grant3/Lexer$Token" = true := by first | (simp [plainName, overriddenIn]; done) | decide +kernel
theorem pdsy_0 : parseMethodDescriptor "(I)C" = some ⟨[.int], some .char⟩ := by decide +kernel
theorem efsy (m : MethodId) (a0 : Addr) (p1 : Int32) : entryFrame m #[(.ref a0), (.int p1)] 2 = mkF m 0 #[.val (.ref a0), .val (.int p1)] [] := by first | (simp [entryFrame, mkF, argsToLocals, Value.category]; done) | rfl
def Qsy (Z : State) (a0 : Addr) (p1 : Int32) (wc : Int32) (sx : Value) (kW : Addr) (kQ : Addr) (kS : Addr) (kY : Addr) (kE : Addr) (ta : Addr) (b : Addr) (n : Nat) (g : Nat → Int32) (h0 : Heap) (n0 : Nat) (v : Option Value) (h : Heap) (L : List Loc) : Prop := v = some (.int (if g 0 = p1 then (1 : Int32) else (0 : Int32))) ∧ Fr n0 L ∧ h = h0
set_option maxRecDepth 65536 in
set_option maxHeartbeats 40000000 in
theorem rmsy (l : Launch) (Z : State) (aa : Array Value) (hw : ∀ d ∈ tables_1, d.before aa Z = true) (ws : List Jvm.Cond) (a0 : Addr) (p1 : Int32) (wc : Int32) (sx : Value) (kW : Addr) (kQ : Addr) (kS : Addr) (kY : Addr) (kE : Addr) (ta : Addr) (b : Addr) (n : Nat) (g : Nat → Int32) (h0 : Heap) (n0 : Nat) (Z0 : n0 ≤ h0.size) (BW : OwnW Z wc sx) (O0 : Old Z n0 h0) (BK : OwnK Z kW kQ kS kY kE) (E_a0 : Exa Z h0 a0 "com/example/grant3/grant3/Lexer$Token") (F_kind_a0 : Fld Z h0 a0 "com/example/grant3/grant3/Lexer$Token" "kind" "Lcom/example/grant3/grant3/Lexer$Kind;" (.ref kY)) (F_text_a0 : Fld Z h0 a0 "com/example/grant3/grant3/Lexer$Token" "text" "Ljava/lang/String;" (.ref ta)) (S_ta : OwnStr Z h0 ta b n g) (hn : n ≤ 4000) (hch : ∀ j, j < n → 0 ≤ (g j).toInt ∧ (g j).toInt < 65536) (hpos : 0 < n) :
    MetFree l (⟨"com/example/grant3/grant3/Lexer$Token", "isSymbol", "(C)Z"⟩ : MethodName) (head1 (Jvm.Cond.code (⟨"com/example/grant3/grant3/Lexer$Token", "isSymbol", "(C)Z"⟩ : MethodName) prog_34_method_3_code 2 (some .boolean) :: ws) ({ frames := 5, cells := 0, slots := 0, locals := 66 } : Room)) (fun a U => a = #[(.ref a0), (.int p1)] ∧ Z.Warmed39 U.vm ∧ U.heap = h0) (fun _ _ _ _ _ => True) (fun _ U o U' => ∃ v L, o = .returned v ∧ Qsy Z a0 p1 wc sx kW kQ kS kY kE ta b n g h0 n0 v U'.heap L ∧ FrameEnd U o U' L ({ frames := 5, cells := 0, slots := 0, locals := 66 } : Room).cells ({ frames := 5, cells := 0, slots := 0, locals := 66 } : Room).slots) := by
  refine MetFree.of_bodySF (plainFor_of_name pnsy) hisR ?_
  intro p e s m args below meth c s₁ Bd hml0 hP hK
  obtain ⟨rfl, hZ, hh⟩ := hP
  have hx := Bd.exec
  have hby := Bd.bytes
  have hml : c.maxLocals = 2 := hml0
  have hown : s.vm.findClass "com/example/grant3/grant3/Lexer$Token" = some m.cls := findClass_of_methodNamed Bd.named
  have hnm := (name_of_methodNamed Bd.named Bd.method).1
  have X0 : Stand p l e ({ frames := 5, cells := 0, slots := 0, locals := 66 } : Room) s m #[(.ref a0), (.int p1)] below meth c s₁ [] 0 0 := Stand.of_body Bd
  have e0 : s₁.heap = h0 := by rw [← hh, Bd.state]; rfl
  have N0 := Fr.nil n0
  show OwnEnd p e below s (fun v h L => Qsy Z a0 p1 wc sx kW kQ kS kY kE ta b n g h0 n0 v h L) ({ frames := 5, cells := 0, slots := 0, locals := 66 } : Room).cells ({ frames := 5, cells := 0, slots := 0, locals := 66 } : Room).slots (s₁.setTop (entryFrame m #[(.ref a0), (.int p1)] 2))
  rw [efsy m a0 p1]
  generalize hW : OwnEnd p e below s (fun v h L => Qsy Z a0 p1 wc sx kW kQ kS kY kE ta b n g h0 n0 v h L) ({ frames := 5, cells := 0, slots := 0, locals := 66 } : Room).cells ({ frames := 5, cells := 0, slots := 0, locals := 66 } : Room).slots = W
  have stp : ∀ {A B : State}, (∀ t, Steps p.tables e below B t → Steps p.tables e below A t) → W B → W A := by subst hW; exact own_step
  obtain ⟨S_cs, hcs, S_si, hr_sx, S_ad, S_hi, S_lo⟩ := id BW
  obtain ⟨K_w, K_q, K_s, K_y, K_e, nW, nQ, nS, nE⟩ := id BK
  show W (s₁.setTop (mkF m 0 #[.val (.ref a0), .val (.int p1)] []))
  refine stp (fun t k => XS.aloadN X0.here hx rfl (hb hby dsy_0) rfl rfl k) ?_
  show W (s₁.setTop (mkF m 1 #[.val (.ref a0), .val (.int p1)] [(.ref a0)]))
  obtain ⟨Tsy1, Xsy1, esy1, stsy1⟩ := getF X0 hx hZ hown (host := "") (Or.inl (hw _ (List.mem_of_getElem? (i := 46) rfl))) Via.refl e0 F_kind_a0 (g := (mkF m 1 #[.val (.ref a0), .val (.int p1)] [(.ref a0)])) rfl rfl (hb hby dsy_1)
  refine stp (fun t k => stsy1 t k) ?_
  show W (Tsy1.setTop (mkF m 4 #[.val (.ref a0), .val (.int p1)] [(.ref kY)]))
  obtain ⟨Tsy2, Xsy2, esy2, stsy2⟩ := getS2 Xsy1 hx hZ hown (host := "") (Or.inl (hw _ (List.mem_of_getElem? (i := 55) rfl))) Via.refl esy1 (K_y.ext O0.2) (g := (mkF m 4 #[.val (.ref a0), .val (.int p1)] [(.ref kY)])) rfl (hb hby dsy_4)
  refine stp (fun t k => stsy2 t k) ?_
  show W (Tsy2.setTop (mkF m 7 #[.val (.ref a0), .val (.int p1)] [(.ref kY), (.ref kY)]))
  refine stp (fun t k => Jvm.RoadKit.acmp Xsy2 hx rfl rfl rfl (pc0 := 7) (pc' := 10) (same := true) rfl (hb hby dsy_7) rfl (decide_eq_true rfl) (by decide) (by decide) k) ?_
  show W (Tsy2.setTop (mkF m 10 #[.val (.ref a0), .val (.int p1)] []))
  refine stp (fun t k => XS.aloadN Xsy2.here hx rfl (hb hby dsy_10) rfl rfl k) ?_
  show W (Tsy2.setTop (mkF m 11 #[.val (.ref a0), .val (.int p1)] [(.ref a0)]))
  obtain ⟨Tsy3, Xsy3, esy3, stsy3⟩ := getF Xsy2 hx hZ hown (host := "") (Or.inl (hw _ (List.mem_of_getElem? (i := 48) rfl))) Via.refl esy2 F_text_a0 (g := (mkF m 11 #[.val (.ref a0), .val (.int p1)] [(.ref a0)])) rfl rfl (hb hby dsy_11)
  refine stp (fun t k => stsy3 t k) ?_
  show W (Tsy3.setTop (mkF m 14 #[.val (.ref a0), .val (.int p1)] [(.ref ta)]))
  refine stp (fun t k => XS.iconst Xsy3.here hx rfl (hb hby dsy_14) k) ?_
  show W (Tsy3.setTop (mkF m 15 #[.val (.ref a0), .val (.int p1)] [(.int (0 : Int32)), (.ref ta)]))
  obtain ⟨cqsyc4, kqsyc4, qsyc4a, qsyc4b, qsyc4c⟩ := isOf hZ esy3 S_ta.1
  obtain ⟨_, _, ⟨Tsyc4, Lsyc4, ksyc4, nsyc4⟩, -, Xsyc4, ⟨Lcsyc4, hQsyc4, lsyc4, ysyc4, zsyc4⟩, stsyc4⟩ := Xsy3.virtualBack hx (y := (⟨"java/lang/String", "charAt", "(I)C"⟩ : MethodName)) (z := (⟨"java/lang/String", "charAt", "(I)C"⟩ : MethodName)) hown (mvT hZ (hw _ (List.mem_of_getElem? (i := 76) rfl))) (mvT hZ (hw _ (List.mem_of_getElem? (i := 77) rfl))) (notFace_of_selects (args := #[]) (mvT hZ (hw _ (List.mem_of_getElem? (i := 79) rfl)))) (mvT hZ (hw _ (List.mem_of_getElem? (i := 79) rfl))) (mvT hZ (hw _ (List.mem_of_getElem? (i := 78) rfl))) (by decide) (backOf (W := 0) (rmcA l Z aa hw [] ta (0 : Int32) wc sx b n g 0 h0 n0 Z0 BW O0 S_ta hn hch rfl hpos) hZ (hw _ (List.mem_of_getElem? (i := 80) rfl)) (hw _ (List.mem_of_getElem? (i := 10) rfl)) (by decide) (by decide)) qsyc4a qsyc4c (g := (mkF m 15 #[.val (.ref a0), .val (.int p1)] [(.int (0 : Int32)), (.ref ta)])) rfl (by rw [hml]; rfl) (Steps.refl _) (argsL := [(.int (0 : Int32))]) (rest := []) (lenOf pdsy_0 rfl) rfl (by show 2 * 0 + _ ≤ _; exact Nat.le_of_eq rfl) (hb hby dsy_15) (fun _ _ => ⟨rfl, esy3, (by decide : 0 + 0 ≤ _), (by decide : 0 + 0 ≤ _)⟩)
  dsimp only [Pt.U, Pt.locs, Pt.cells, Pt.slots] at Xsyc4 lsyc4 ysyc4 zsyc4 stsyc4 hQsyc4
  subst lsyc4 ysyc4 zsyc4
  obtain ⟨rfl, Nsyc4q, esyc4⟩ := hQsyc4
  have Nsyc4 := Fr.app N0 Nsyc4q
  obtain ⟨lcsyt5, Xsyc4, Nsyc4⟩ : ∃ lc, Stand p l e ({ frames := 5, cells := 0, slots := 0, locals := 66 } : Room) s m #[(.ref a0), (.int p1)] below meth c Tsyc4 lc 0 0 ∧ Fr n0 lc := ⟨_, Xsyc4, Nsyc4⟩
  refine stp (fun t k => stsyc4.trans k) ?_
  show W (Tsyc4.setTop (mkF m 18 #[.val (.ref a0), .val (.int p1)] [(.int (g 0))]))
  refine stp (fun t k => XS.iloadN Xsyc4.here hx rfl (hb hby dsy_18) rfl k) ?_
  show W (Tsyc4.setTop (mkF m 19 #[.val (.ref a0), .val (.int p1)] [(.int p1), (.int (g 0))]))
  by_cases hcsy_6 : (g 0) = p1
  · refine stp (fun t k => XS.icmpNo Xsyc4.here hx rfl (hb hby dsy_19) rfl ((teq hcsy_6).2) k) ?_
    show W (Tsyc4.setTop (mkF m 22 #[.val (.ref a0), .val (.int p1)] []))
    refine stp (fun t k => XS.iconst Xsyc4.here hx rfl (hb hby dsy_22) k) ?_
    show W (Tsyc4.setTop (mkF m 23 #[.val (.ref a0), .val (.int p1)] [(.int (1 : Int32))]))
    refine stp (fun t k => XS.goto Xsyc4.here hx rfl (pc0 := 23) (pc' := 27) rfl (hb hby dsy_23) (by decide) (by decide) k) ?_
    show W (Tsyc4.setTop (mkF m 27 #[.val (.ref a0), .val (.int p1)] [(.int (1 : Int32))]))
    show W (Tsyc4.setTop (mkF m 27 #[.val (.ref a0), .val (.int p1)] [(.int (1 : Int32))]))
    rw [← hW]
    exact own_retN Xsyc4 hx Bd.notSynchronized Bd.returns (w := (1 : Int32)) (by simp) (hb hby dsy_27) rfl (by show Qsy Z a0 p1 wc sx kW kQ kS kY kE ta b n g h0 n0 _ Tsyc4.heap _; rw [esyc4]; exact ⟨(by rw [if_pos hcsy_6]), Nsyc4, rfl⟩) (by decide) (by decide)
  · refine stp (fun t k => XS.icmpYes Xsyc4.here hx rfl (pc0 := 19) (pc' := 26) rfl (hb hby dsy_19) rfl ((feq hcsy_6).2) (by decide) (by decide) k) ?_
    show W (Tsyc4.setTop (mkF m 26 #[.val (.ref a0), .val (.int p1)] []))
    refine stp (fun t k => XS.iconst Xsyc4.here hx rfl (hb hby dsy_26) k) ?_
    show W (Tsyc4.setTop (mkF m 27 #[.val (.ref a0), .val (.int p1)] [(.int (0 : Int32))]))
    show W (Tsyc4.setTop (mkF m 27 #[.val (.ref a0), .val (.int p1)] [(.int (0 : Int32))]))
    rw [← hW]
    exact own_retN Xsyc4 hx Bd.notSynchronized Bd.returns (w := (0 : Int32)) (by simp) (hb hby dsy_27) rfl (by show Qsy Z a0 p1 wc sx kW kQ kS kY kE ta b n g h0 n0 _ Tsyc4.heap _; rw [esyc4]; exact ⟨(by rw [if_neg hcsy_6]), Nsyc4, rfl⟩) (by decide) (by decide)
theorem dsn_0 : decode prog_34_method_3_code 0 = .ok (.aload_n 0, 1) := by decide +kernel
theorem dsn_1 : decode prog_34_method_3_code 1 = .ok (.getfield 7, 3) := by decide +kernel
theorem dsn_4 : decode prog_34_method_3_code 4 = .ok (.getstatic 28, 3) := by decide +kernel
theorem dsn_7 : decode prog_34_method_3_code 7 = .ok (.if_acmp .ne 19, 3) := by decide +kernel
theorem dsn_26 : decode prog_34_method_3_code 26 = .ok (.iconst 0, 1) := by decide +kernel
theorem dsn_27 : decode prog_34_method_3_code 27 = .ok (.ireturn, 1) := by decide +kernel
theorem pnsn : plainName "com/example/grant3/grant3/Lexer$Token" = true := by first | (simp [plainName, overriddenIn]; done) | decide +kernel
theorem efsn (m : MethodId) (a0 : Addr) (p1 : Int32) : entryFrame m #[(.ref a0), (.int p1)] 2 = mkF m 0 #[.val (.ref a0), .val (.int p1)] [] := by first | (simp [entryFrame, mkF, argsToLocals, Value.category]; done) | rfl
def Qsn (Z : State) (a0 : Addr) (p1 : Int32) (wc : Int32) (sx : Value) (kW : Addr) (kQ : Addr) (kS : Addr) (kY : Addr) (kE : Addr) (r : Addr) (h0 : Heap) (n0 : Nat) (v : Option Value) (h : Heap) (L : List Loc) : Prop := v = some (.int (0 : Int32)) ∧ Fr n0 L ∧ h = h0
set_option maxRecDepth 65536 in
set_option maxHeartbeats 40000000 in
theorem rmsn (l : Launch) (Z : State) (aa : Array Value) (hw : ∀ d ∈ tables_1, d.before aa Z = true) (ws : List Jvm.Cond) (a0 : Addr) (p1 : Int32) (wc : Int32) (sx : Value) (kW : Addr) (kQ : Addr) (kS : Addr) (kY : Addr) (kE : Addr) (r : Addr) (h0 : Heap) (n0 : Nat) (Z0 : n0 ≤ h0.size) (BW : OwnW Z wc sx) (O0 : Old Z n0 h0) (BK : OwnK Z kW kQ kS kY kE) (E_a0 : Exa Z h0 a0 "com/example/grant3/grant3/Lexer$Token") (F_kind_a0 : Fld Z h0 a0 "com/example/grant3/grant3/Lexer$Token" "kind" "Lcom/example/grant3/grant3/Lexer$Kind;" (.ref r)) (hne : r ≠ kY) :
    MetFree l (⟨"com/example/grant3/grant3/Lexer$Token", "isSymbol", "(C)Z"⟩ : MethodName) (head1 (Jvm.Cond.code (⟨"com/example/grant3/grant3/Lexer$Token", "isSymbol", "(C)Z"⟩ : MethodName) prog_34_method_3_code 2 (some .boolean) :: ws) ({ frames := 0, cells := 0, slots := 0, locals := 0 } : Room)) (fun a U => a = #[(.ref a0), (.int p1)] ∧ Z.Warmed39 U.vm ∧ U.heap = h0) (fun _ _ _ _ _ => True) (fun _ U o U' => ∃ v L, o = .returned v ∧ Qsn Z a0 p1 wc sx kW kQ kS kY kE r h0 n0 v U'.heap L ∧ FrameEnd U o U' L ({ frames := 0, cells := 0, slots := 0, locals := 0 } : Room).cells ({ frames := 0, cells := 0, slots := 0, locals := 0 } : Room).slots) := by
  refine MetFree.of_bodySF (plainFor_of_name pnsn) hisR ?_
  intro p e s m args below meth c s₁ Bd hml0 hP hK
  obtain ⟨rfl, hZ, hh⟩ := hP
  have hx := Bd.exec
  have hby := Bd.bytes
  have hml : c.maxLocals = 2 := hml0
  have hown : s.vm.findClass "com/example/grant3/grant3/Lexer$Token" = some m.cls := findClass_of_methodNamed Bd.named
  have hnm := (name_of_methodNamed Bd.named Bd.method).1
  have X0 : Stand p l e ({ frames := 0, cells := 0, slots := 0, locals := 0 } : Room) s m #[(.ref a0), (.int p1)] below meth c s₁ [] 0 0 := Stand.of_body Bd
  have e0 : s₁.heap = h0 := by rw [← hh, Bd.state]; rfl
  have N0 := Fr.nil n0
  show OwnEnd p e below s (fun v h L => Qsn Z a0 p1 wc sx kW kQ kS kY kE r h0 n0 v h L) ({ frames := 0, cells := 0, slots := 0, locals := 0 } : Room).cells ({ frames := 0, cells := 0, slots := 0, locals := 0 } : Room).slots (s₁.setTop (entryFrame m #[(.ref a0), (.int p1)] 2))
  rw [efsn m a0 p1]
  generalize hW : OwnEnd p e below s (fun v h L => Qsn Z a0 p1 wc sx kW kQ kS kY kE r h0 n0 v h L) ({ frames := 0, cells := 0, slots := 0, locals := 0 } : Room).cells ({ frames := 0, cells := 0, slots := 0, locals := 0 } : Room).slots = W
  have stp : ∀ {A B : State}, (∀ t, Steps p.tables e below B t → Steps p.tables e below A t) → W B → W A := by subst hW; exact own_step
  obtain ⟨S_cs, hcs, S_si, hr_sx, S_ad, S_hi, S_lo⟩ := id BW
  obtain ⟨K_w, K_q, K_s, K_y, K_e, nW, nQ, nS, nE⟩ := id BK
  show W (s₁.setTop (mkF m 0 #[.val (.ref a0), .val (.int p1)] []))
  refine stp (fun t k => XS.aloadN X0.here hx rfl (hb hby dsn_0) rfl rfl k) ?_
  show W (s₁.setTop (mkF m 1 #[.val (.ref a0), .val (.int p1)] [(.ref a0)]))
  obtain ⟨Tsn1, Xsn1, esn1, stsn1⟩ := getF X0 hx hZ hown (host := "") (Or.inl (hw _ (List.mem_of_getElem? (i := 46) rfl))) Via.refl e0 F_kind_a0 (g := (mkF m 1 #[.val (.ref a0), .val (.int p1)] [(.ref a0)])) rfl rfl (hb hby dsn_1)
  refine stp (fun t k => stsn1 t k) ?_
  show W (Tsn1.setTop (mkF m 4 #[.val (.ref a0), .val (.int p1)] [(.ref r)]))
  obtain ⟨Tsn2, Xsn2, esn2, stsn2⟩ := getS2 Xsn1 hx hZ hown (host := "") (Or.inl (hw _ (List.mem_of_getElem? (i := 55) rfl))) Via.refl esn1 (K_y.ext O0.2) (g := (mkF m 4 #[.val (.ref a0), .val (.int p1)] [(.ref r)])) rfl (hb hby dsn_4)
  refine stp (fun t k => stsn2 t k) ?_
  show W (Tsn2.setTop (mkF m 7 #[.val (.ref a0), .val (.int p1)] [(.ref kY), (.ref r)]))
  refine stp (fun t k => Jvm.RoadKit.acmp Xsn2 hx rfl rfl rfl (pc0 := 7) (pc' := 26) (same := false) rfl (hb hby dsn_7) rfl (decide_eq_false (fun q => hne (Value.ref.inj q))) (by decide) (by decide) k) ?_
  show W (Tsn2.setTop (mkF m 26 #[.val (.ref a0), .val (.int p1)] []))
  refine stp (fun t k => XS.iconst Xsn2.here hx rfl (hb hby dsn_26) k) ?_
  show W (Tsn2.setTop (mkF m 27 #[.val (.ref a0), .val (.int p1)] [(.int (0 : Int32))]))
  show W (Tsn2.setTop (mkF m 27 #[.val (.ref a0), .val (.int p1)] [(.int (0 : Int32))]))
  rw [← hW]
  exact own_retN Xsn2 hx Bd.notSynchronized Bd.returns (w := (0 : Int32)) (by simp) (hb hby dsn_27) rfl (by show Qsn Z a0 p1 wc sx kW kQ kS kY kE r h0 n0 _ Tsn2.heap _; rw [esn2]; exact ⟨rfl, N0, rfl⟩) (by decide) (by decide)
def own_g2 (p1 p2 : Int32) (j : Nat) : Int32 := ([nar .char p1, nar .char p2] : List Int32).getD j 0
theorem own_ch (c : Int32) : 0 ≤ (nar .char c).toInt ∧ (nar .char c).toInt < 65536 := by
  have h := c_i2c c
  exact h.2
theorem own_g2R (p1 p2 : Int32) (n : Nat) (hn : n ≤ 2) : ∀ j, j < n → 0 ≤ (own_g2 p1 p2 j).toInt ∧ (own_g2 p1 p2 j).toInt < 65536 := fun j hj => by
  have h4 : j < 2 := by omega
  match j, h4 with
  | 0, _ => exact own_ch p1
  | 1, _ => exact own_ch p2
theorem own_rC {c : Int32} (k : nar .char c = c) : 0 ≤ c.toInt ∧ c.toInt < 65536 := k ▸ own_ch c
theorem own_c16 (x : Int32) : nar .char (x.toUInt32.toUInt16.toUInt32.toInt32) = x.toUInt32.toUInt16.toUInt32.toInt32 := own_i2c (own_ch x).1 (own_ch x).2
theorem own_exr {args : Array Value} {Z : State} {t : Term} {C : String} (h : (Jvm.Cond.exactly t C).value args Z none Z [] = some true) : ∃ a, t.eval args Z none [] Z = some (.ref a) := by
  obtain ⟨a, _, _, _, e1, -⟩ := Cond.exactly_spec (Cond.before_iff.mpr h)
  exact ⟨a, e1⟩
theorem own_ords {args : Array Value} {Z : State} {t1 t2 : Term} {a b : Addr} {C n d : String} {x y : Int32} (e1 : t1.eval args Z none [] Z = some (.ref a)) (e2 : t2.eval args Z none [] Z = some (.ref b)) (f1 : (Term.field t1 C n d).eval args Z none [] Z = some (.int x)) (f2 : (Term.field t2 C n d).eval args Z none [] Z = some (.int y)) (h : x ≠ y) : a ≠ b := by
  intro q
  subst q
  apply h
  have e : (Term.field t1 C n d).eval args Z none [] Z = (Term.field t2 C n d).eval args Z none [] Z := by simp only [Term.eval, e1, e2]
  rw [f1, f2] at e
  cases e
  rfl
theorem own_eqI {args : Array Value} {first s : State} {o : Option Outcome} {idx : List Nat} {a b : Term} {k : Int32} (h : (Jvm.Cond.eq a b).value args first o s idx = some true) (hb : b.eval args first o idx s = some (.int k)) : a.eval args first o idx s = some (.int k) := by
  obtain ⟨x, y, e1, e2, k1, k2⟩ := cmp_v (Or.inl h)
  cases hb.symm.trans e2
  obtain ⟨z, rfl⟩ := k2
  simp only [Cond.value, e1, hb] at h
  simp at h
  rw [e1, h]
theorem own_last {a b c : Int32} (k : nar .char a = a) : (if own_g2 a b 0 = c then (1 : Int32) else (0 : Int32)) = (if a = c then (1 : Int32) else (0 : Int32)) := by
  rw [show own_g2 a b 0 = a from k]
theorem pn0 : plainName "com/example/grant3/grant3/TokenIsSymbolPinLaw" = true := by first | (simp [plainName, overriddenIn]; done) | decide +kernel
theorem pd0_0 : parseMethodDescriptor "(I)Lcom/example/grant3/grant3/Lexer$Kind;" = some ⟨[.int], some (.object "com/example/grant3/grant3/Lexer$Kind")⟩ := by decide +kernel
theorem pd0_1 : parseMethodDescriptor "(C)Ljava/lang/String;" = some ⟨[.char], some (.object "java/lang/String")⟩ := by decide +kernel
theorem pd0_2 : parseMethodDescriptor "(Lcom/example/grant3/grant3/Lexer$Kind;Ljava/lang/String;)V" = some ⟨[(.object "com/example/grant3/grant3/Lexer$Kind"), (.object "java/lang/String")], none⟩ := by decide +kernel
theorem pd0_3 : parseMethodDescriptor "(C)Z" = some ⟨[.char], some .boolean⟩ := by decide +kernel
theorem pd0_4 : parseMethodDescriptor "([C)V" = some ⟨[(.array .char)], none⟩ := by decide +kernel
theorem ef0 (m : MethodId) (p0 : Int32) (p1 : Int32) (p2 : Int32) (p3 : Int32) (p4 : Int32) : entryFrame m #[(.int p0), (.int p1), (.int p2), (.int p3), (.int p4)] maxLocals = mkF m 0 #[.val (.int p0), .val (.int p1), .val (.int p2), .val (.int p3), .val (.int p4), .unset, .unset, .unset, .unset, .unset, .unset, .unset, .unset] [] := by first | (simp [entryFrame, mkF, argsToLocals, Value.category, maxLocals]; done) | rfl
def Q0 (Z : State) (p0 : Int32) (p1 : Int32) (p2 : Int32) (p3 : Int32) (p4 : Int32) (wc : Int32) (sx : Value) (kW : Addr) (kQ : Addr) (kS : Addr) (kY : Addr) (kE : Addr) (h0 : Heap) (n0 : Nat) (v : Option Value) (h : Heap) (L : List Loc) : Prop := v = some (.int (1 : Int32)) ∧ Fr n0 L
set_option maxRecDepth 65536 in
set_option maxHeartbeats 40000000 in
theorem rm0 (l : Launch) (Z : State) (aa : Array Value) (hw : ∀ d ∈ tables_1, d.before aa Z = true) (ws : List Jvm.Cond) (p0 : Int32) (p1 : Int32) (p2 : Int32) (p3 : Int32) (p4 : Int32) (wc : Int32) (sx : Value) (kW : Addr) (kQ : Addr) (kS : Addr) (kY : Addr) (kE : Addr) (h0 : Heap) (n0 : Nat) (Z0 : n0 ≤ h0.size) (BW : OwnW Z wc sx) (O0 : Old Z n0 h0) (BK : OwnK Z kW kQ kS kY kE) :
    MetFree l x (head1 (Jvm.Cond.code x code maxLocals ret :: ws) room_1) (fun a U => a = #[(.int p0), (.int p1), (.int p2), (.int p3), (.int p4)] ∧ Z.Warmed39 U.vm ∧ U.heap = h0 ∧ CHv Z ownEL U.vm h0) (fun _ _ _ _ _ => True) (fun _ U o U' => ∃ v L, o = .returned v ∧ Q0 Z p0 p1 p2 p3 p4 wc sx kW kQ kS kY kE h0 n0 v U'.heap L ∧ CHr Z ownEL U.vm U.heap U'.vm U'.heap ∧ ReturnedEndW U o U' L room_1.cells room_1.slots) := by
  refine MetFree.of_bodySF (plainFor_of_name pn0) hisR ?_
  intro p e s m args below meth c s₁ Bd hml0 hP hK
  obtain ⟨rfl, hZ, hh, hH⟩ := hP
  have hx := Bd.exec
  have hby := Bd.bytes
  have hml : c.maxLocals = 13 := hml0
  have hown : s.vm.findClass "com/example/grant3/grant3/TokenIsSymbolPinLaw" = some m.cls := findClass_of_methodNamed Bd.named
  have hnm := (name_of_methodNamed Bd.named Bd.method).1
  have X0 : Stand p l e room_1 s m #[(.int p0), (.int p1), (.int p2), (.int p3), (.int p4)] below meth c s₁ [] 0 0 := Stand.of_body Bd
  have e0 : s₁.heap = h0 := by rw [← hh, Bd.state]; rfl
  have N0 := Fr.nil n0
  have hEL := own_EW hw
  obtain ⟨vm0, X0, CC, hZ, hown⟩ : ∃ vm, Stand p l e room_1 (s.setVm vm) m #[(.int p0), (.int p1), (.int p2), (.int p3), (.int p4)] below meth c s₁ [] 0 0 ∧ OwnC Z ownEL s vm h0 ∧ Z.Warmed39 (s.setVm vm).vm ∧ (s.setVm vm).vm.findClass "com/example/grant3/grant3/TokenIsSymbolPinLaw" = some m.cls := ⟨s.vm, X0, OwnC.start hh hH, hZ, hown⟩
  show OwnEndW Z ownEL p e below s (fun v h L => Q0 Z p0 p1 p2 p3 p4 wc sx kW kQ kS kY kE h0 n0 v h L) room_1.cells room_1.slots (s₁.setTop (entryFrame m #[(.int p0), (.int p1), (.int p2), (.int p3), (.int p4)] maxLocals))
  rw [ef0 m p0 p1 p2 p3 p4]
  generalize hW : OwnEndW Z ownEL p e below s (fun v h L => Q0 Z p0 p1 p2 p3 p4 wc sx kW kQ kS kY kE h0 n0 v h L) room_1.cells room_1.slots = W
  have stp : ∀ {A B : State}, (∀ t, Steps p.tables e below B t → Steps p.tables e below A t) → W B → W A := by subst hW; exact own_stepW
  obtain ⟨S_cs, hcs, S_si, hr_sx, S_ad, S_hi, S_lo⟩ := id BW
  obtain ⟨K_w, K_q, K_s, K_y, K_e, nW, nQ, nS, nE⟩ := id BK
  show W (s₁.setTop (mkF m 0 #[.val (.int p0), .val (.int p1), .val (.int p2), .val (.int p3), .val (.int p4), .unset, .unset, .unset, .unset, .unset, .unset, .unset, .unset] []))
  refine stp (fun t k => XS.iloadN X0.here hx rfl (hb hby at_0) rfl k) ?_
  show W (s₁.setTop (mkF m 1 #[.val (.int p0), .val (.int p1), .val (.int p2), .val (.int p3), .val (.int p4), .unset, .unset, .unset, .unset, .unset, .unset, .unset, .unset] [(.int p0)]))
  refine stp (fun t k => X0.ldcInt hx hown (mvT hZ (hw _ (List.mem_of_getElem? (i := 0) rfl))) (g := (mkF m 1 #[.val (.int p0), .val (.int p1), .val (.int p2), .val (.int p3), .val (.int p4), .unset, .unset, .unset, .unset, .unset, .unset, .unset, .unset] [(.int p0)])) rfl (hb hby at_1) _ k) ?_
  show W (s₁.setTop (mkF m 3 #[.val (.int p0), .val (.int p1), .val (.int p2), .val (.int p3), .val (.int p4), .unset, .unset, .unset, .unset, .unset, .unset, .unset, .unset] [(.int (2147483647 : Int32)), (.int p0)]))
  refine stp (fun t k => XS.iand X0.here hx rfl (hb hby at_3) rfl k) ?_
  show W (s₁.setTop (mkF m 4 #[.val (.int p0), .val (.int p1), .val (.int p2), .val (.int p3), .val (.int p4), .unset, .unset, .unset, .unset, .unset, .unset, .unset, .unset] [(.int (p0 &&& (2147483647 : Int32)))]))
  refine stp (fun t k => XS.iconst X0.here hx rfl (hb hby at_4) k) ?_
  show W (s₁.setTop (mkF m 5 #[.val (.int p0), .val (.int p1), .val (.int p2), .val (.int p3), .val (.int p4), .unset, .unset, .unset, .unset, .unset, .unset, .unset, .unset] [(.int (5 : Int32)), (.int (p0 &&& (2147483647 : Int32)))]))
  refine stp (fun t k => iremM X0 hx rfl (hb hby at_5) rfl (by decide) k) ?_
  show W (s₁.setTop (mkF m 6 #[.val (.int p0), .val (.int p1), .val (.int p2), .val (.int p3), .val (.int p4), .unset, .unset, .unset, .unset, .unset, .unset, .unset, .unset] [(.int ((p0 &&& (2147483647 : Int32)) % (5 : Int32)))]))
  refine stp (fun t k => XS.istore X0.here hx rfl (hb hby at_6) rfl (l' := #[.val (.int p0), .val (.int p1), .val (.int p2), .val (.int p3), .val (.int p4), .val (.int ((p0 &&& (2147483647 : Int32)) % (5 : Int32))), .unset, .unset, .unset, .unset, .unset, .unset, .unset]) rfl k) ?_
  show W (s₁.setTop (mkF m 8 #[.val (.int p0), .val (.int p1), .val (.int p2), .val (.int p3), .val (.int p4), .val (.int ((p0 &&& (2147483647 : Int32)) % (5 : Int32))), .unset, .unset, .unset, .unset, .unset, .unset, .unset] []))
  generalize hu0_1 : ((p0 &&& (2147483647 : Int32)) % (5 : Int32)) = u0_1
  show W (s₁.setTop (mkF m 8 #[.val (.int p0), .val (.int p1), .val (.int p2), .val (.int p3), .val (.int p4), .val (.int u0_1), .unset, .unset, .unset, .unset, .unset, .unset, .unset] []))
  refine stp (fun t k => XS.iload X0.here hx rfl (hb hby at_8) rfl k) ?_
  show W (s₁.setTop (mkF m 10 #[.val (.int p0), .val (.int p1), .val (.int p2), .val (.int p3), .val (.int p4), .val (.int u0_1), .unset, .unset, .unset, .unset, .unset, .unset, .unset] [(.int u0_1)]))
  obtain ⟨_, _, ⟨T0c2, L0c2, k0c2, n0c2⟩, -, X0c2, ⟨Lc0c2, hQ0c2, l0c2, y0c2, z0c2⟩, st0c2⟩ := Jvm.LawKit.callS X0 hx (y := (⟨"com/example/grant3/grant3/TokenIsSymbolPinLaw", "kindOf", "(I)Lcom/example/grant3/grant3/Lexer$Kind;"⟩ : MethodName)) hown (mvT hZ (hw _ (List.mem_of_getElem? (i := 1) rfl))) (mvT hZ (hw _ (List.mem_of_getElem? (i := 2) rfl))) (mvT hZ (hw _ (List.mem_of_getElem? (i := 3) rfl))) (mvT hZ (hw _ (List.mem_of_getElem? (i := 4) rfl))) (by decide) (backOf (W := 0) (rmkd l Z aa hw [] u0_1 wc sx kW kQ kS kY kE h0 n0 Z0 BW O0 BK) hZ (hw _ (List.mem_of_getElem? (i := 4) rfl)) (hw _ (List.mem_of_getElem? (i := 3) rfl)) (by decide) (by decide)) (g := (mkF m 10 #[.val (.int p0), .val (.int p1), .val (.int p2), .val (.int p3), .val (.int p4), .val (.int u0_1), .unset, .unset, .unset, .unset, .unset, .unset, .unset] [(.int u0_1)])) rfl (by rw [hml]; rfl) (argsL := [(.int u0_1)]) (rest := []) (lenOf pd0_0 rfl) rfl (by show 2 * 0 + _ ≤ _; exact Nat.le_of_eq rfl) (hb hby at_10) (fun _ _ => ⟨rfl, e0, (by decide : 0 + 0 ≤ _), (by decide : 0 + 0 ≤ _)⟩)
  dsimp only [Pt.U, Pt.locs, Pt.cells, Pt.slots] at X0c2 l0c2 y0c2 z0c2 st0c2 hQ0c2
  subst l0c2 y0c2 z0c2
  obtain ⟨r0c2, rfl, N0c2q, e0c2, C0c2⟩ := hQ0c2
  have N0c2 := Fr.app N0 N0c2q
  obtain ⟨lc0t3, X0c2, N0c2⟩ : ∃ lc, Stand p l e room_1 (s.setVm vm0) m #[(.int p0), (.int p1), (.int p2), (.int p3), (.int p4)] below meth c T0c2 lc 0 0 ∧ Fr n0 lc := ⟨_, X0c2, N0c2⟩
  refine stp (fun t k => st0c2 t k) ?_
  show W (T0c2.setTop (mkF m 13 #[.val (.int p0), .val (.int p1), .val (.int p2), .val (.int p3), .val (.int p4), .val (.int u0_1), .unset, .unset, .unset, .unset, .unset, .unset, .unset] [(.ref r0c2)]))
  rcases C0c2 with C0c2 | C0c2
  · obtain ⟨h3, hr⟩ := C0c2
    rw [hr]
    show W (T0c2.setTop (mkF m 13 #[.val (.int p0), .val (.int p1), .val (.int p2), .val (.int p3), .val (.int p4), .val (.int u0_1), .unset, .unset, .unset, .unset, .unset, .unset, .unset] [(.ref kY)]))
    refine stp (fun t k => XS.astore X0c2.here hx rfl (hb hby at_13) rfl rfl (l' := #[.val (.int p0), .val (.int p1), .val (.int p2), .val (.int p3), .val (.int p4), .val (.int u0_1), .val (.ref kY), .unset, .unset, .unset, .unset, .unset, .unset]) rfl k) ?_
    show W (T0c2.setTop (mkF m 15 #[.val (.int p0), .val (.int p1), .val (.int p2), .val (.int p3), .val (.int p4), .val (.int u0_1), .val (.ref kY), .unset, .unset, .unset, .unset, .unset, .unset] []))
    refine stp (fun t k => XS.iloadN X0c2.here hx rfl (hb hby at_15) rfl k) ?_
    show W (T0c2.setTop (mkF m 16 #[.val (.int p0), .val (.int p1), .val (.int p2), .val (.int p3), .val (.int p4), .val (.int u0_1), .val (.ref kY), .unset, .unset, .unset, .unset, .unset, .unset] [(.int p1)]))
    refine stp (fun t k => XS.i2c X0c2.here hx rfl (hb hby at_16) rfl k) ?_
    show W (T0c2.setTop (mkF m 17 #[.val (.int p0), .val (.int p1), .val (.int p2), .val (.int p3), .val (.int p4), .val (.int u0_1), .val (.ref kY), .unset, .unset, .unset, .unset, .unset, .unset] [(.int (p1.toUInt32.toUInt16.toUInt32.toInt32))]))
    refine stp (fun t k => XS.istore X0c2.here hx rfl (hb hby at_17) rfl (l' := #[.val (.int p0), .val (.int p1), .val (.int p2), .val (.int p3), .val (.int p4), .val (.int u0_1), .val (.ref kY), .val (.int (p1.toUInt32.toUInt16.toUInt32.toInt32)), .unset, .unset, .unset, .unset, .unset]) rfl k) ?_
    show W (T0c2.setTop (mkF m 19 #[.val (.int p0), .val (.int p1), .val (.int p2), .val (.int p3), .val (.int p4), .val (.int u0_1), .val (.ref kY), .val (.int (p1.toUInt32.toUInt16.toUInt32.toInt32)), .unset, .unset, .unset, .unset, .unset] []))
    generalize hu0_4 : (p1.toUInt32.toUInt16.toUInt32.toInt32) = u0_4
    show W (T0c2.setTop (mkF m 19 #[.val (.int p0), .val (.int p1), .val (.int p2), .val (.int p3), .val (.int p4), .val (.int u0_1), .val (.ref kY), .val (.int u0_4), .unset, .unset, .unset, .unset, .unset] []))
    refine stp (fun t k => XS.iloadN X0c2.here hx rfl (hb hby at_19) rfl k) ?_
    show W (T0c2.setTop (mkF m 20 #[.val (.int p0), .val (.int p1), .val (.int p2), .val (.int p3), .val (.int p4), .val (.int u0_1), .val (.ref kY), .val (.int u0_4), .unset, .unset, .unset, .unset, .unset] [(.int p2)]))
    refine stp (fun t k => XS.i2c X0c2.here hx rfl (hb hby at_20) rfl k) ?_
    show W (T0c2.setTop (mkF m 21 #[.val (.int p0), .val (.int p1), .val (.int p2), .val (.int p3), .val (.int p4), .val (.int u0_1), .val (.ref kY), .val (.int u0_4), .unset, .unset, .unset, .unset, .unset] [(.int (p2.toUInt32.toUInt16.toUInt32.toInt32))]))
    refine stp (fun t k => XS.istore X0c2.here hx rfl (hb hby at_21) rfl (l' := #[.val (.int p0), .val (.int p1), .val (.int p2), .val (.int p3), .val (.int p4), .val (.int u0_1), .val (.ref kY), .val (.int u0_4), .val (.int (p2.toUInt32.toUInt16.toUInt32.toInt32)), .unset, .unset, .unset, .unset]) rfl k) ?_
    show W (T0c2.setTop (mkF m 23 #[.val (.int p0), .val (.int p1), .val (.int p2), .val (.int p3), .val (.int p4), .val (.int u0_1), .val (.ref kY), .val (.int u0_4), .val (.int (p2.toUInt32.toUInt16.toUInt32.toInt32)), .unset, .unset, .unset, .unset] []))
    generalize hu0_5 : (p2.toUInt32.toUInt16.toUInt32.toInt32) = u0_5
    show W (T0c2.setTop (mkF m 23 #[.val (.int p0), .val (.int p1), .val (.int p2), .val (.int p3), .val (.int p4), .val (.int u0_1), .val (.ref kY), .val (.int u0_4), .val (.int u0_5), .unset, .unset, .unset, .unset] []))
    have kc0 : nar .char u0_4 = u0_4 := by subst hu0_5; subst hu0_4; subst hu0_1; exact own_c16 _
    show W (T0c2.setTop (mkF m 23 #[.val (.int p0), .val (.int p1), .val (.int p2), .val (.int p3), .val (.int p4), .val (.int u0_1), .val (.ref kY), .val (.int u0_4), .val (.int u0_5), .unset, .unset, .unset, .unset] []))
    refine stp (fun t k => XS.iload X0c2.here hx rfl (hb hby at_23) rfl k) ?_
    show W (T0c2.setTop (mkF m 25 #[.val (.int p0), .val (.int p1), .val (.int p2), .val (.int p3), .val (.int p4), .val (.int u0_1), .val (.ref kY), .val (.int u0_4), .val (.int u0_5), .unset, .unset, .unset, .unset] [(.int p4)]))
    refine stp (fun t k => XS.iconst X0c2.here hx rfl (hb hby at_25) k) ?_
    show W (T0c2.setTop (mkF m 26 #[.val (.int p0), .val (.int p1), .val (.int p2), .val (.int p3), .val (.int p4), .val (.int u0_1), .val (.ref kY), .val (.int u0_4), .val (.int u0_5), .unset, .unset, .unset, .unset] [(.int (1 : Int32)), (.int p4)]))
    refine stp (fun t k => XS.iand X0c2.here hx rfl (hb hby at_26) rfl k) ?_
    show W (T0c2.setTop (mkF m 27 #[.val (.int p0), .val (.int p1), .val (.int p2), .val (.int p3), .val (.int p4), .val (.int u0_1), .val (.ref kY), .val (.int u0_4), .val (.int u0_5), .unset, .unset, .unset, .unset] [(.int (p4 &&& (1 : Int32)))]))
    have J0_37_8 : ∀ (T08 : State) (lc08 : List Loc) (v0_7 : Int32) (hv0_7 : v0_7 = (if (p4 &&& (1 : Int32)) = (0 : Int32) then (p3.toUInt32.toUInt16.toUInt32.toInt32) else u0_4)) (X08 : Stand p l e room_1 (s.setVm vm0) m #[(.int p0), (.int p1), (.int p2), (.int p3), (.int p4)] below meth c T08 lc08 0 0) (e08 : T08.heap = h0) (N08 : Fr n0 lc08), W (T08.setTop (mkF m 37 #[.val (.int p0), .val (.int p1), .val (.int p2), .val (.int p3), .val (.int p4), .val (.int u0_1), .val (.ref kY), .val (.int u0_4), .val (.int u0_5), .unset, .unset, .unset, .unset] [(.int v0_7)])) := by
      intro T08 lc08 v0_7 hv0_7  X08 e08 N08
      show W (T08.setTop (mkF m 37 #[.val (.int p0), .val (.int p1), .val (.int p2), .val (.int p3), .val (.int p4), .val (.int u0_1), .val (.ref kY), .val (.int u0_4), .val (.int u0_5), .unset, .unset, .unset, .unset] [(.int v0_7)]))
      refine stp (fun t k => XS.istore X08.here hx rfl (hb hby at_37) rfl (l' := #[.val (.int p0), .val (.int p1), .val (.int p2), .val (.int p3), .val (.int p4), .val (.int u0_1), .val (.ref kY), .val (.int u0_4), .val (.int u0_5), .val (.int v0_7), .unset, .unset, .unset]) rfl k) ?_
      show W (T08.setTop (mkF m 39 #[.val (.int p0), .val (.int p1), .val (.int p2), .val (.int p3), .val (.int p4), .val (.int u0_1), .val (.ref kY), .val (.int u0_4), .val (.int u0_5), .val (.int v0_7), .unset, .unset, .unset] []))
      refine stp (fun t k => XS.iload X08.here hx rfl (hb hby at_39) rfl k) ?_
      show W (T08.setTop (mkF m 41 #[.val (.int p0), .val (.int p1), .val (.int p2), .val (.int p3), .val (.int p4), .val (.int u0_1), .val (.ref kY), .val (.int u0_4), .val (.int u0_5), .val (.int v0_7), .unset, .unset, .unset] [(.int u0_1)]))
      refine stp (fun t k => XS.iconst X08.here hx rfl (hb hby at_41) k) ?_
      show W (T08.setTop (mkF m 42 #[.val (.int p0), .val (.int p1), .val (.int p2), .val (.int p3), .val (.int p4), .val (.int u0_1), .val (.ref kY), .val (.int u0_4), .val (.int u0_5), .val (.int v0_7), .unset, .unset, .unset] [(.int (4 : Int32)), (.int u0_1)]))
      refine stp (fun t k => XS.icmpYes X08.here hx rfl (pc0 := 42) (pc' := 59) rfl (hb hby at_42) rfl ((feq (fun q => absurd (h3.symm.trans q) (by decide))).2) (by decide) (by decide) k) ?_
      show W (T08.setTop (mkF m 59 #[.val (.int p0), .val (.int p1), .val (.int p2), .val (.int p3), .val (.int p4), .val (.int u0_1), .val (.ref kY), .val (.int u0_4), .val (.int u0_5), .val (.int v0_7), .unset, .unset, .unset] []))
      refine stp (fun t k => XS.iload X08.here hx rfl (hb hby at_59) rfl k) ?_
      show W (T08.setTop (mkF m 61 #[.val (.int p0), .val (.int p1), .val (.int p2), .val (.int p3), .val (.int p4), .val (.int u0_1), .val (.ref kY), .val (.int u0_4), .val (.int u0_5), .val (.int v0_7), .unset, .unset, .unset] [(.int p4)]))
      refine stp (fun t k => XS.iconst X08.here hx rfl (hb hby at_61) k) ?_
      show W (T08.setTop (mkF m 62 #[.val (.int p0), .val (.int p1), .val (.int p2), .val (.int p3), .val (.int p4), .val (.int u0_1), .val (.ref kY), .val (.int u0_4), .val (.int u0_5), .val (.int v0_7), .unset, .unset, .unset] [(.int (4 : Int32)), (.int p4)]))
      refine stp (fun t k => XS.iand X08.here hx rfl (hb hby at_62) rfl k) ?_
      show W (T08.setTop (mkF m 63 #[.val (.int p0), .val (.int p1), .val (.int p2), .val (.int p3), .val (.int p4), .val (.int u0_1), .val (.ref kY), .val (.int u0_4), .val (.int u0_5), .val (.int v0_7), .unset, .unset, .unset] [(.int (p4 &&& (4 : Int32)))]))
      by_cases hc0_9 : (p4 &&& (4 : Int32)) = (0 : Int32)
      · refine stp (fun t k => XS.ifYes X08.here hx rfl (pc0 := 63) (pc' := 91) rfl (hb hby at_63) rfl ((if0 _ _).trans (teq hc0_9).1) (by decide) (by decide) k) ?_
        show W (T08.setTop (mkF m 91 #[.val (.int p0), .val (.int p1), .val (.int p2), .val (.int p3), .val (.int p4), .val (.int u0_1), .val (.ref kY), .val (.int u0_4), .val (.int u0_5), .val (.int v0_7), .unset, .unset, .unset] []))
        refine stp (fun t k => XS.iload X08.here hx rfl (hb hby at_91) rfl k) ?_
        show W (T08.setTop (mkF m 93 #[.val (.int p0), .val (.int p1), .val (.int p2), .val (.int p3), .val (.int p4), .val (.int u0_1), .val (.ref kY), .val (.int u0_4), .val (.int u0_5), .val (.int v0_7), .unset, .unset, .unset] [(.int u0_4)]))
        obtain ⟨_, _, ⟨T0c10, L0c10, k0c10, n0c10⟩, -, X0c10, ⟨Lc0c10, hQ0c10, l0c10, y0c10, z0c10⟩, st0c10⟩ := Jvm.LawKit.callS X08 hx (y := (⟨"java/lang/String", "valueOf", "(C)Ljava/lang/String;"⟩ : MethodName)) hown (mvT hZ (hw _ (List.mem_of_getElem? (i := 8) rfl))) (mvT hZ (hw _ (List.mem_of_getElem? (i := 9) rfl))) (mvT hZ (hw _ (List.mem_of_getElem? (i := 10) rfl))) (mvT hZ (hw _ (List.mem_of_getElem? (i := 11) rfl))) (by decide) (backOf (W := 0) (rmvo l Z aa hw [] u0_4 wc sx h0 n0 Z0 BW O0) hZ (hw _ (List.mem_of_getElem? (i := 11) rfl)) (hw _ (List.mem_of_getElem? (i := 10) rfl)) (by decide) (by decide)) (g := (mkF m 93 #[.val (.int p0), .val (.int p1), .val (.int p2), .val (.int p3), .val (.int p4), .val (.int u0_1), .val (.ref kY), .val (.int u0_4), .val (.int u0_5), .val (.int v0_7), .unset, .unset, .unset] [(.int u0_4)])) rfl (by rw [hml]; rfl) (argsL := [(.int u0_4)]) (rest := []) (lenOf pd0_1 rfl) rfl (by show 2 * 0 + _ ≤ _; exact Nat.le_of_eq rfl) (hb hby at_93) (fun _ _ => ⟨rfl, e08, (by decide : 0 + 2 ≤ _), (by decide : 0 + 6 ≤ _)⟩)
        dsimp only [Pt.U, Pt.locs, Pt.cells, Pt.slots] at X0c10 l0c10 y0c10 z0c10 st0c10 hQ0c10
        subst l0c10 y0c10 z0c10
        obtain ⟨a0c10, b0c10, rfl, N0c10q, Kq0c10, S_0c10⟩ := hQ0c10
        have N0c10 := Fr.app N08 N0c10q
        obtain ⟨lc0t11, X0c10, N0c10⟩ : ∃ lc, Stand p l e room_1 (s.setVm vm0) m #[(.int p0), (.int p1), (.int p2), (.int p3), (.int p4)] below meth c T0c10 lc 2 6 ∧ Fr n0 lc := ⟨_, X0c10, N0c10⟩
        obtain ⟨h0c10, e0c10⟩ : ∃ h, T0c10.heap = h := ⟨_, rfl⟩
        rw [e0c10] at Kq0c10 S_0c10
        replace CC := CC.keep Kq0c10 sf0
        have KK0c10 := Keep.trans (Keep.refl h0 []) Kq0c10 all0
        have Z0c10 := Nat.le_trans Z0 Kq0c10.1
        have O0c10 := O0.keep Kq0c10 all0
        refine stp (fun t k => st0c10 t k) ?_
        show W (T0c10.setTop (mkF m 96 #[.val (.int p0), .val (.int p1), .val (.int p2), .val (.int p3), .val (.int p4), .val (.int u0_1), .val (.ref kY), .val (.int u0_4), .val (.int u0_5), .val (.int v0_7), .unset, .unset, .unset] [(.ref a0c10)]))
        refine stp (fun t k => XS.astore X0c10.here hx rfl (hb hby at_96) rfl rfl (l' := #[.val (.int p0), .val (.int p1), .val (.int p2), .val (.int p3), .val (.int p4), .val (.int u0_1), .val (.ref kY), .val (.int u0_4), .val (.int u0_5), .val (.int v0_7), .val (.ref a0c10), .unset, .unset]) rfl k) ?_
        show W (T0c10.setTop (mkF m 98 #[.val (.int p0), .val (.int p1), .val (.int p2), .val (.int p3), .val (.int p4), .val (.int u0_1), .val (.ref kY), .val (.int u0_4), .val (.int u0_5), .val (.int v0_7), .val (.ref a0c10), .unset, .unset] []))
        obtain ⟨T012, h012, X012, e012, E012, A012, D012, -, st012⟩ := newO X0c10 hx hZ hown (hw _ (List.mem_of_getElem? (i := 34) rfl)) (hw _ (List.mem_of_getElem? (i := 35) rfl)) (hw _ (List.mem_of_getElem? (i := 36) rfl)) e0c10 (g := (mkF m 98 #[.val (.int p0), .val (.int p1), .val (.int p2), .val (.int p3), .val (.int p4), .val (.int u0_1), .val (.ref kY), .val (.int u0_4), .val (.int u0_5), .val (.int v0_7), .val (.ref a0c10), .unset, .unset] [])) rfl (hb hby at_98) (by decide) (by decide)
        obtain ⟨b012, gq012⟩ : ∃ z, z = h0c10.size := ⟨_, rfl⟩
        rw [← gq012] at A012 D012 st012
        replace CC := CC.ext E012
        have ne_a0c10_b012 : a0c10 ≠ b012 := Nat.ne_of_lt (Nat.lt_of_lt_of_le S_0c10.lt0 (Nat.le_of_eq gq012.symm))
        have ne_b0c10_b012 : b0c10 ≠ b012 := Nat.ne_of_lt (Nat.lt_of_lt_of_le S_0c10.lt1 (Nat.le_of_eq gq012.symm))
        have g_b012 : n0 ≤ b012 := Nat.le_trans Z0c10 (Nat.le_of_eq gq012.symm)
        have sz_b012 : h0.size ≤ b012 := Nat.le_trans KK0c10.1 (Nat.le_of_eq gq012.symm)
        replace S_0c10 := S_0c10.ext E012
        have K012 := KK0c10.ext E012
        have Z012 := Nat.le_trans Z0c10 E012.1
        have O012 := O0c10.ext E012
        have E_b012 := A012
        have F_kind_b012 : Fld Z h012 b012 "com/example/grant3/grant3/Lexer$Token" "kind" "Lcom/example/grant3/grant3/Lexer$Kind;" .null := D012 (Or.inr (hw _ (List.mem_of_getElem? (i := 47) rfl))) (ty := (.object "com/example/grant3/grant3/Lexer$Kind")) (by decide)
        have F_text_b012 : Fld Z h012 b012 "com/example/grant3/grant3/Lexer$Token" "text" "Ljava/lang/String;" .null := D012 (Or.inr (hw _ (List.mem_of_getElem? (i := 49) rfl))) (ty := (.object "java/lang/String")) (by decide)
        refine stp (fun t k => st012 t k) ?_
        show W (T012.setTop (mkF m 101 #[.val (.int p0), .val (.int p1), .val (.int p2), .val (.int p3), .val (.int p4), .val (.int u0_1), .val (.ref kY), .val (.int u0_4), .val (.int u0_5), .val (.int v0_7), .val (.ref a0c10), .unset, .unset] [(.ref b012)]))
        refine stp (fun t k => XS.dup X012.here hx rfl (hb hby at_101) rfl rfl k) ?_
        show W (T012.setTop (mkF m 102 #[.val (.int p0), .val (.int p1), .val (.int p2), .val (.int p3), .val (.int p4), .val (.int u0_1), .val (.ref kY), .val (.int u0_4), .val (.int u0_5), .val (.int v0_7), .val (.ref a0c10), .unset, .unset] [(.ref b012), (.ref b012)]))
        refine stp (fun t k => XS.aload X012.here hx rfl (hb hby at_102) rfl rfl k) ?_
        show W (T012.setTop (mkF m 104 #[.val (.int p0), .val (.int p1), .val (.int p2), .val (.int p3), .val (.int p4), .val (.int u0_1), .val (.ref kY), .val (.int u0_4), .val (.int u0_5), .val (.int v0_7), .val (.ref a0c10), .unset, .unset] [(.ref kY), (.ref b012), (.ref b012)]))
        refine stp (fun t k => XS.aload X012.here hx rfl (hb hby at_104) rfl rfl k) ?_
        show W (T012.setTop (mkF m 106 #[.val (.int p0), .val (.int p1), .val (.int p2), .val (.int p3), .val (.int p4), .val (.int u0_1), .val (.ref kY), .val (.int u0_4), .val (.int u0_5), .val (.int v0_7), .val (.ref a0c10), .unset, .unset] [(.ref a0c10), (.ref kY), (.ref b012), (.ref b012)]))
        obtain ⟨_, _, ⟨T0c13, L0c13, k0c13, n0c13⟩, -, X0c13, ⟨Lc0c13, hQ0c13, l0c13, y0c13, z0c13⟩, st0c13⟩ := X012.specialBack hx (y := (⟨"com/example/grant3/grant3/Lexer$Token", "<init>", "(Lcom/example/grant3/grant3/Lexer$Kind;Ljava/lang/String;)V"⟩ : MethodName)) rfl hown (mvT hZ (hw _ (List.mem_of_getElem? (i := 37) rfl))) (mvT hZ (hw _ (List.mem_of_getElem? (i := 38) rfl))) (mvT hZ (hw _ (List.mem_of_getElem? (i := 39) rfl))) (by decide) (backOf (W := 1) (rmtk l Z aa hw [] b012 kY a0c10 wc sx h012 n0 Z012 BW O012 E_b012 F_kind_b012 F_text_b012 g_b012) hZ (hw _ (List.mem_of_getElem? (i := 39) rfl)) (hw _ (List.mem_of_getElem? (i := 36) rfl)) (by decide) (by decide)) (g := (mkF m 106 #[.val (.int p0), .val (.int p1), .val (.int p2), .val (.int p3), .val (.int p4), .val (.int u0_1), .val (.ref kY), .val (.int u0_4), .val (.int u0_5), .val (.int v0_7), .val (.ref a0c10), .unset, .unset] [(.ref a0c10), (.ref kY), (.ref b012), (.ref b012)])) rfl (by rw [hml]; rfl) (Steps.refl _) (a := b012) (argsL := [(.ref kY), (.ref a0c10)]) (rest := [(.ref b012)]) (lenOf pd0_2 rfl) rfl (by show 2 * 0 + _ ≤ _; exact Nat.le_of_eq rfl) (hb hby at_106) (fun _ _ => ⟨rfl, e012, (by decide : 3 + 0 ≤ _), (by decide : 8 + 0 ≤ _)⟩)
        dsimp only [Pt.U, Pt.locs, Pt.cells, Pt.slots] at X0c13 l0c13 y0c13 z0c13 st0c13 hQ0c13
        subst l0c13 y0c13 z0c13
        obtain ⟨rfl, N0c13q, Kq0c13, EE0c13, FK0c13, FT0c13⟩ := hQ0c13
        have N0c13 := Fr.app N0c10 N0c13q
        obtain ⟨lc0t14, X0c13, N0c13⟩ : ∃ lc, Stand p l e room_1 (s.setVm vm0) m #[(.int p0), (.int p1), (.int p2), (.int p3), (.int p4)] below meth c T0c13 lc 3 8 ∧ Fr n0 lc := ⟨_, X0c13, N0c13⟩
        obtain ⟨h0c13, e0c13⟩ : ∃ h, T0c13.heap = h := ⟨_, rfl⟩
        rw [e0c13] at Kq0c13 EE0c13 FK0c13 FT0c13
        have SF_b012 : Safe Z ownEL vm0 _ b012 := (Safe.exa hZ.alike E_b012 (by decide) (by decide))
        have SFk : ∀ x ∈ ([b012] : List Addr), Safe Z ownEL vm0 _ x := (sfS SF_b012 sf0)
        replace SF_b012 := Safe.keep Kq0c13 SFk CC.2.1 SF_b012
        replace CC := CC.keep Kq0c13 SFk
        clear SFk
        replace S_0c10 := S_0c10.keep Kq0c13 (ninS ne_a0c10_b012 nin0) (ninS ne_b0c10_b012 nin0)
        have KK0c13 := Keep.trans K012 Kq0c13 (allS (Or.inr sz_b012) all0)
        have Z0c13 := Nat.le_trans Z012 Kq0c13.1
        have O0c13 := O012.keep Kq0c13 (allS g_b012 all0)
        refine stp (fun t k => st0c13.trans k) ?_
        show W (T0c13.setTop (mkF m 109 #[.val (.int p0), .val (.int p1), .val (.int p2), .val (.int p3), .val (.int p4), .val (.int u0_1), .val (.ref kY), .val (.int u0_4), .val (.int u0_5), .val (.int v0_7), .val (.ref a0c10), .unset, .unset] [(.ref b012)]))
        refine stp (fun t k => XS.astore X0c13.here hx rfl (hb hby at_109) rfl rfl (l' := #[.val (.int p0), .val (.int p1), .val (.int p2), .val (.int p3), .val (.int p4), .val (.int u0_1), .val (.ref kY), .val (.int u0_4), .val (.int u0_5), .val (.int v0_7), .val (.ref a0c10), .val (.ref b012), .unset]) rfl k) ?_
        show W (T0c13.setTop (mkF m 111 #[.val (.int p0), .val (.int p1), .val (.int p2), .val (.int p3), .val (.int p4), .val (.int u0_1), .val (.ref kY), .val (.int u0_4), .val (.int u0_5), .val (.int v0_7), .val (.ref a0c10), .val (.ref b012), .unset] []))
        refine stp (fun t k => XS.iload X0c13.here hx rfl (hb hby at_111) rfl k) ?_
        show W (T0c13.setTop (mkF m 113 #[.val (.int p0), .val (.int p1), .val (.int p2), .val (.int p3), .val (.int p4), .val (.int u0_1), .val (.ref kY), .val (.int u0_4), .val (.int u0_5), .val (.int v0_7), .val (.ref a0c10), .val (.ref b012), .unset] [(.int u0_1)]))
        refine stp (fun t k => XS.iconst X0c13.here hx rfl (hb hby at_113) k) ?_
        show W (T0c13.setTop (mkF m 114 #[.val (.int p0), .val (.int p1), .val (.int p2), .val (.int p3), .val (.int p4), .val (.int u0_1), .val (.ref kY), .val (.int u0_4), .val (.int u0_5), .val (.int v0_7), .val (.ref a0c10), .val (.ref b012), .unset] [(.int (3 : Int32)), (.int u0_1)]))
        refine stp (fun t k => XS.icmpNo X0c13.here hx rfl (hb hby at_114) rfl ((teq (h3)).2) k) ?_
        show W (T0c13.setTop (mkF m 117 #[.val (.int p0), .val (.int p1), .val (.int p2), .val (.int p3), .val (.int p4), .val (.int u0_1), .val (.ref kY), .val (.int u0_4), .val (.int u0_5), .val (.int v0_7), .val (.ref a0c10), .val (.ref b012), .unset] []))
        refine stp (fun t k => XS.iload X0c13.here hx rfl (hb hby at_117) rfl k) ?_
        show W (T0c13.setTop (mkF m 119 #[.val (.int p0), .val (.int p1), .val (.int p2), .val (.int p3), .val (.int p4), .val (.int u0_1), .val (.ref kY), .val (.int u0_4), .val (.int u0_5), .val (.int v0_7), .val (.ref a0c10), .val (.ref b012), .unset] [(.int u0_4)]))
        refine stp (fun t k => XS.iload X0c13.here hx rfl (hb hby at_119) rfl k) ?_
        show W (T0c13.setTop (mkF m 121 #[.val (.int p0), .val (.int p1), .val (.int p2), .val (.int p3), .val (.int p4), .val (.int u0_1), .val (.ref kY), .val (.int u0_4), .val (.int u0_5), .val (.int v0_7), .val (.ref a0c10), .val (.ref b012), .unset] [(.int v0_7), (.int u0_4)]))
        have J0_129_17 : ∀ (T017 : State) (lc017 : List Loc) (v0_16 : Int32) (hv0_16 : v0_16 = (if u0_4 = v0_7 then (1 : Int32) else (0 : Int32))) (X017 : Stand p l e room_1 (s.setVm vm0) m #[(.int p0), (.int p1), (.int p2), (.int p3), (.int p4)] below meth c T017 lc017 3 8) (e017 : T017.heap = h0c13) (N017 : Fr n0 lc017), W (T017.setTop (mkF m 129 #[.val (.int p0), .val (.int p1), .val (.int p2), .val (.int p3), .val (.int p4), .val (.int u0_1), .val (.ref kY), .val (.int u0_4), .val (.int u0_5), .val (.int v0_7), .val (.ref a0c10), .val (.ref b012), .unset] [(.int v0_16)])) := by
          intro T017 lc017 v0_16 hv0_16  X017 e017 N017
          show W (T017.setTop (mkF m 129 #[.val (.int p0), .val (.int p1), .val (.int p2), .val (.int p3), .val (.int p4), .val (.int u0_1), .val (.ref kY), .val (.int u0_4), .val (.int u0_5), .val (.int v0_7), .val (.ref a0c10), .val (.ref b012), .unset] [(.int v0_16)]))
          refine stp (fun t k => XS.istore X017.here hx rfl (hb hby at_129) rfl (l' := #[.val (.int p0), .val (.int p1), .val (.int p2), .val (.int p3), .val (.int p4), .val (.int u0_1), .val (.ref kY), .val (.int u0_4), .val (.int u0_5), .val (.int v0_7), .val (.ref a0c10), .val (.ref b012), .val (.int v0_16)]) rfl k) ?_
          show W (T017.setTop (mkF m 131 #[.val (.int p0), .val (.int p1), .val (.int p2), .val (.int p3), .val (.int p4), .val (.int u0_1), .val (.ref kY), .val (.int u0_4), .val (.int u0_5), .val (.int v0_7), .val (.ref a0c10), .val (.ref b012), .val (.int v0_16)] []))
          refine stp (fun t k => XS.goto X017.here hx rfl (pc0 := 131) (pc' := 137) rfl (hb hby at_131) (by decide) (by decide) k) ?_
          show W (T017.setTop (mkF m 137 #[.val (.int p0), .val (.int p1), .val (.int p2), .val (.int p3), .val (.int p4), .val (.int u0_1), .val (.ref kY), .val (.int u0_4), .val (.int u0_5), .val (.int v0_7), .val (.ref a0c10), .val (.ref b012), .val (.int v0_16)] []))
          refine stp (fun t k => XS.aload X017.here hx rfl (hb hby at_137) rfl rfl k) ?_
          show W (T017.setTop (mkF m 139 #[.val (.int p0), .val (.int p1), .val (.int p2), .val (.int p3), .val (.int p4), .val (.int u0_1), .val (.ref kY), .val (.int u0_4), .val (.int u0_5), .val (.int v0_7), .val (.ref a0c10), .val (.ref b012), .val (.int v0_16)] [(.ref b012)]))
          refine stp (fun t k => XS.iload X017.here hx rfl (hb hby at_139) rfl k) ?_
          show W (T017.setTop (mkF m 141 #[.val (.int p0), .val (.int p1), .val (.int p2), .val (.int p3), .val (.int p4), .val (.int u0_1), .val (.ref kY), .val (.int u0_4), .val (.int u0_5), .val (.int v0_7), .val (.ref a0c10), .val (.ref b012), .val (.int v0_16)] [(.int v0_7), (.ref b012)]))
          obtain ⟨cq0c18, kq0c18, q0c18a, q0c18b, q0c18c⟩ := isOf hZ e017 EE0c13
          obtain ⟨_, _, ⟨T0c18, L0c18, k0c18, n0c18⟩, -, X0c18, ⟨Lc0c18, hQ0c18, l0c18, y0c18, z0c18⟩, st0c18⟩ := X017.virtualBack hx (y := (⟨"com/example/grant3/grant3/Lexer$Token", "isSymbol", "(C)Z"⟩ : MethodName)) (z := (⟨"com/example/grant3/grant3/Lexer$Token", "isSymbol", "(C)Z"⟩ : MethodName)) hown (mvT hZ (hw _ (List.mem_of_getElem? (i := 50) rfl))) (mvT hZ (hw _ (List.mem_of_getElem? (i := 51) rfl))) (notFace_of_selects (args := #[]) (mvT hZ (hw _ (List.mem_of_getElem? (i := 53) rfl)))) (mvT hZ (hw _ (List.mem_of_getElem? (i := 53) rfl))) (mvT hZ (hw _ (List.mem_of_getElem? (i := 52) rfl))) (by decide) (backOf (W := 0) (rmsy l Z aa hw [] b012 v0_7 wc sx kW kQ kS kY kE a0c10 b0c10 1 (fun _ => u0_4) h0c13 n0 Z0c13 BW O0c13 BK EE0c13 FK0c13 FT0c13 S_0c10 (by decide) (fun j _ => own_rC kc0) (by decide)) hZ (hw _ (List.mem_of_getElem? (i := 54) rfl)) (hw _ (List.mem_of_getElem? (i := 36) rfl)) (by decide) (by decide)) q0c18a q0c18c (g := (mkF m 141 #[.val (.int p0), .val (.int p1), .val (.int p2), .val (.int p3), .val (.int p4), .val (.int u0_1), .val (.ref kY), .val (.int u0_4), .val (.int u0_5), .val (.int v0_7), .val (.ref a0c10), .val (.ref b012), .val (.int v0_16)] [(.int v0_7), (.ref b012)])) rfl (by rw [hml]; rfl) (Steps.refl _) (argsL := [(.int v0_7)]) (rest := []) (lenOf pd0_3 rfl) rfl (by show 2 * 0 + _ ≤ _; exact Nat.le_of_eq rfl) (hb hby at_141) (fun _ _ => ⟨rfl, e017, (by decide : 3 + 0 ≤ _), (by decide : 8 + 0 ≤ _)⟩)
          dsimp only [Pt.U, Pt.locs, Pt.cells, Pt.slots] at X0c18 l0c18 y0c18 z0c18 st0c18 hQ0c18
          subst l0c18 y0c18 z0c18
          obtain ⟨rfl, N0c18q, e0c18⟩ := hQ0c18
          have N0c18 := Fr.app N017 N0c18q
          obtain ⟨lc0t19, X0c18, N0c18⟩ : ∃ lc, Stand p l e room_1 (s.setVm vm0) m #[(.int p0), (.int p1), (.int p2), (.int p3), (.int p4)] below meth c T0c18 lc 3 8 ∧ Fr n0 lc := ⟨_, X0c18, N0c18⟩
          refine stp (fun t k => st0c18.trans k) ?_
          show W (T0c18.setTop (mkF m 144 #[.val (.int p0), .val (.int p1), .val (.int p2), .val (.int p3), .val (.int p4), .val (.int u0_1), .val (.ref kY), .val (.int u0_4), .val (.int u0_5), .val (.int v0_7), .val (.ref a0c10), .val (.ref b012), .val (.int v0_16)] [(.int (if (fun _ => u0_4) 0 = v0_7 then (1 : Int32) else (0 : Int32)))]))
          refine stp (fun t k => XS.iload X0c18.here hx rfl (hb hby at_144) rfl k) ?_
          show W (T0c18.setTop (mkF m 146 #[.val (.int p0), .val (.int p1), .val (.int p2), .val (.int p3), .val (.int p4), .val (.int u0_1), .val (.ref kY), .val (.int u0_4), .val (.int u0_5), .val (.int v0_7), .val (.ref a0c10), .val (.ref b012), .val (.int v0_16)] [(.int v0_16), (.int (if (fun _ => u0_4) 0 = v0_7 then (1 : Int32) else (0 : Int32)))]))
          refine stp (fun t k => XS.icmpNo X0c18.here hx rfl (hb hby at_146) rfl ((teq (by subst hv0_16; subst hv0_7; subst hu0_5; subst hu0_4; subst hu0_1; exact rfl)).2) k) ?_
          show W (T0c18.setTop (mkF m 149 #[.val (.int p0), .val (.int p1), .val (.int p2), .val (.int p3), .val (.int p4), .val (.int u0_1), .val (.ref kY), .val (.int u0_4), .val (.int u0_5), .val (.int v0_7), .val (.ref a0c10), .val (.ref b012), .val (.int v0_16)] []))
          refine stp (fun t k => XS.iconst X0c18.here hx rfl (hb hby at_149) k) ?_
          show W (T0c18.setTop (mkF m 150 #[.val (.int p0), .val (.int p1), .val (.int p2), .val (.int p3), .val (.int p4), .val (.int u0_1), .val (.ref kY), .val (.int u0_4), .val (.int u0_5), .val (.int v0_7), .val (.ref a0c10), .val (.ref b012), .val (.int v0_16)] [(.int (1 : Int32))]))
          refine stp (fun t k => XS.goto X0c18.here hx rfl (pc0 := 150) (pc' := 154) rfl (hb hby at_150) (by decide) (by decide) k) ?_
          show W (T0c18.setTop (mkF m 154 #[.val (.int p0), .val (.int p1), .val (.int p2), .val (.int p3), .val (.int p4), .val (.int u0_1), .val (.ref kY), .val (.int u0_4), .val (.int u0_5), .val (.int v0_7), .val (.ref a0c10), .val (.ref b012), .val (.int v0_16)] [(.int (1 : Int32))]))
          show W (T0c18.setTop (mkF m 154 #[.val (.int p0), .val (.int p1), .val (.int p2), .val (.int p3), .val (.int p4), .val (.int u0_1), .val (.ref kY), .val (.int u0_4), .val (.int u0_5), .val (.int v0_7), .val (.ref a0c10), .val (.ref b012), .val (.int v0_16)] [(.int (1 : Int32))]))
          rw [← hW]
          exact own_W hZ hEL CC (own_retN X0c18 hx Bd.notSynchronized Bd.returns (w := (1 : Int32)) (by simp) (hb hby at_154) rfl (by show Q0 Z p0 p1 p2 p3 p4 wc sx kW kQ kS kY kE h0 n0 _ T0c18.heap _ ∧ T0c18.heap = h0c13; rw [e0c18]; exact ⟨⟨rfl, N0c18⟩, rfl⟩) (by decide) (by decide))
        by_cases hc0_15 : u0_4 = v0_7
        · refine stp (fun t k => XS.icmpNo X0c13.here hx rfl (hb hby at_121) rfl ((teq hc0_15).2) k) ?_
          show W (T0c13.setTop (mkF m 124 #[.val (.int p0), .val (.int p1), .val (.int p2), .val (.int p3), .val (.int p4), .val (.int u0_1), .val (.ref kY), .val (.int u0_4), .val (.int u0_5), .val (.int v0_7), .val (.ref a0c10), .val (.ref b012), .unset] []))
          refine stp (fun t k => XS.iconst X0c13.here hx rfl (hb hby at_124) k) ?_
          show W (T0c13.setTop (mkF m 125 #[.val (.int p0), .val (.int p1), .val (.int p2), .val (.int p3), .val (.int p4), .val (.int u0_1), .val (.ref kY), .val (.int u0_4), .val (.int u0_5), .val (.int v0_7), .val (.ref a0c10), .val (.ref b012), .unset] [(.int (1 : Int32))]))
          refine stp (fun t k => XS.goto X0c13.here hx rfl (pc0 := 125) (pc' := 129) rfl (hb hby at_125) (by decide) (by decide) k) ?_
          show W (T0c13.setTop (mkF m 129 #[.val (.int p0), .val (.int p1), .val (.int p2), .val (.int p3), .val (.int p4), .val (.int u0_1), .val (.ref kY), .val (.int u0_4), .val (.int u0_5), .val (.int v0_7), .val (.ref a0c10), .val (.ref b012), .unset] [(.int (1 : Int32))]))
          exact J0_129_17 _ _ (1 : Int32) (by first | rfl | simp only [if_pos hc0_15]) X0c13 e0c13 N0c13
        · refine stp (fun t k => XS.icmpYes X0c13.here hx rfl (pc0 := 121) (pc' := 128) rfl (hb hby at_121) rfl ((feq hc0_15).2) (by decide) (by decide) k) ?_
          show W (T0c13.setTop (mkF m 128 #[.val (.int p0), .val (.int p1), .val (.int p2), .val (.int p3), .val (.int p4), .val (.int u0_1), .val (.ref kY), .val (.int u0_4), .val (.int u0_5), .val (.int v0_7), .val (.ref a0c10), .val (.ref b012), .unset] []))
          refine stp (fun t k => XS.iconst X0c13.here hx rfl (hb hby at_128) k) ?_
          show W (T0c13.setTop (mkF m 129 #[.val (.int p0), .val (.int p1), .val (.int p2), .val (.int p3), .val (.int p4), .val (.int u0_1), .val (.ref kY), .val (.int u0_4), .val (.int u0_5), .val (.int v0_7), .val (.ref a0c10), .val (.ref b012), .unset] [(.int (0 : Int32))]))
          exact J0_129_17 _ _ (0 : Int32) (by first | rfl | simp only [if_neg hc0_15]) X0c13 e0c13 N0c13
      · refine stp (fun t k => XS.ifNo X08.here hx rfl (hb hby at_63) rfl ((if0 _ _).trans (feq hc0_9).1) k) ?_
        show W (T08.setTop (mkF m 66 #[.val (.int p0), .val (.int p1), .val (.int p2), .val (.int p3), .val (.int p4), .val (.int u0_1), .val (.ref kY), .val (.int u0_4), .val (.int u0_5), .val (.int v0_7), .unset, .unset, .unset] []))
        obtain ⟨T020, h020, X020, e020, E020, A020, D020, -, st020⟩ := newO X08 hx hZ hown (hw _ (List.mem_of_getElem? (i := 58) rfl)) (hw _ (List.mem_of_getElem? (i := 18) rfl)) (hw _ (List.mem_of_getElem? (i := 10) rfl)) e08 (g := (mkF m 66 #[.val (.int p0), .val (.int p1), .val (.int p2), .val (.int p3), .val (.int p4), .val (.int u0_1), .val (.ref kY), .val (.int u0_4), .val (.int u0_5), .val (.int v0_7), .unset, .unset, .unset] [])) rfl (hb hby at_66) (by decide) (by decide)
        obtain ⟨b020, gq020⟩ : ∃ z, z = h0.size := ⟨_, rfl⟩
        rw [← gq020] at A020 D020 st020
        replace CC := CC.ext E020
        have g_b020 : n0 ≤ b020 := Nat.le_trans Z0 (Nat.le_of_eq gq020.symm)
        have sz_b020 : h0.size ≤ b020 := Nat.le_trans (Keep.refl h0 []).1 (Nat.le_of_eq gq020.symm)
        have K020 := (Keep.refl h0 []).ext E020
        have Z020 := Nat.le_trans Z0 E020.1
        have O020 := O0.ext E020
        have E_b020 := A020
        have F_value_b020 : Fld Z h020 b020 "java/lang/String" "value" "[B" .null := D020 (Or.inr (hw _ (List.mem_of_getElem? (i := 31) rfl))) (ty := (.array .byte)) (by decide)
        have F_coder_b020 : Fld Z h020 b020 "java/lang/String" "coder" "B" (.int (0 : Int32)) := D020 (Or.inr (hw _ (List.mem_of_getElem? (i := 33) rfl))) (ty := .byte) (by decide)
        refine stp (fun t k => st020 t k) ?_
        show W (T020.setTop (mkF m 69 #[.val (.int p0), .val (.int p1), .val (.int p2), .val (.int p3), .val (.int p4), .val (.int u0_1), .val (.ref kY), .val (.int u0_4), .val (.int u0_5), .val (.int v0_7), .unset, .unset, .unset] [(.ref b020)]))
        refine stp (fun t k => XS.dup X020.here hx rfl (hb hby at_69) rfl rfl k) ?_
        show W (T020.setTop (mkF m 70 #[.val (.int p0), .val (.int p1), .val (.int p2), .val (.int p3), .val (.int p4), .val (.int u0_1), .val (.ref kY), .val (.int u0_4), .val (.int u0_5), .val (.int v0_7), .unset, .unset, .unset] [(.ref b020), (.ref b020)]))
        refine stp (fun t k => XS.iconst X020.here hx rfl (hb hby at_70) k) ?_
        show W (T020.setTop (mkF m 71 #[.val (.int p0), .val (.int p1), .val (.int p2), .val (.int p3), .val (.int p4), .val (.int u0_1), .val (.ref kY), .val (.int u0_4), .val (.int u0_5), .val (.int v0_7), .unset, .unset, .unset] [(.int (2 : Int32)), (.ref b020), (.ref b020)]))
        obtain ⟨T021, h021, k021, X021, e021, E021, A021, st021⟩ := newP X020 hx hZ (hw _ (List.mem_of_getElem? (i := 59) rfl)) e020 (g := (mkF m 71 #[.val (.int p0), .val (.int p1), .val (.int p2), .val (.int p3), .val (.int p4), .val (.int u0_1), .val (.ref kY), .val (.int u0_4), .val (.int u0_5), .val (.int v0_7), .unset, .unset, .unset] [(.int (2 : Int32)), (.ref b020), (.ref b020)])) rfl (hb hby at_71) rfl (by decide) (cap := 2) (by decide) (by decide) (by decide) (by decide)
        obtain ⟨b021, gq021⟩ : ∃ z, z = h020.size := ⟨_, rfl⟩
        rw [← gq021] at A021 st021
        replace CC := CC.ext E021
        have ne_b020_b021 : b020 ≠ b021 := Nat.ne_of_lt (Nat.lt_of_lt_of_le E_b020.lt (Nat.le_of_eq gq021.symm))
        have g_b021 : n0 ≤ b021 := Nat.le_trans Z020 (Nat.le_of_eq gq021.symm)
        have sz_b021 : h0.size ≤ b021 := Nat.le_trans K020.1 (Nat.le_of_eq gq021.symm)
        replace E_b020 := E_b020.ext E021
        replace F_value_b020 := F_value_b020.ext E021
        replace F_coder_b020 := F_coder_b020.ext E021
        have K021 := K020.ext E021
        have Z021 := Nat.le_trans Z020 E021.1
        have O021 := O020.ext E021
        have V_b021 : Arv Z h021 b021 k021 .char (2 : Int32) [(.int (0 : Int32)), (.int (0 : Int32))] (.int (0 : Int32)) := (Arv.new A021 (by decide)).pad (pad_rep [] (.int (0 : Int32)) 2)
        refine stp (fun t k => st021 t k) ?_
        show W (T021.setTop (mkF m 73 #[.val (.int p0), .val (.int p1), .val (.int p2), .val (.int p3), .val (.int p4), .val (.int u0_1), .val (.ref kY), .val (.int u0_4), .val (.int u0_5), .val (.int v0_7), .unset, .unset, .unset] [(.ref b021), (.ref b020), (.ref b020)]))
        refine stp (fun t k => XS.dup X021.here hx rfl (hb hby at_73) rfl rfl k) ?_
        show W (T021.setTop (mkF m 74 #[.val (.int p0), .val (.int p1), .val (.int p2), .val (.int p3), .val (.int p4), .val (.int u0_1), .val (.ref kY), .val (.int u0_4), .val (.int u0_5), .val (.int v0_7), .unset, .unset, .unset] [(.ref b021), (.ref b021), (.ref b020), (.ref b020)]))
        refine stp (fun t k => XS.iconst X021.here hx rfl (hb hby at_74) k) ?_
        show W (T021.setTop (mkF m 75 #[.val (.int p0), .val (.int p1), .val (.int p2), .val (.int p3), .val (.int p4), .val (.int u0_1), .val (.ref kY), .val (.int u0_4), .val (.int u0_5), .val (.int v0_7), .unset, .unset, .unset] [(.int (0 : Int32)), (.ref b021), (.ref b021), (.ref b020), (.ref b020)]))
        refine stp (fun t k => XS.iload X021.here hx rfl (hb hby at_75) rfl k) ?_
        show W (T021.setTop (mkF m 77 #[.val (.int p0), .val (.int p1), .val (.int p2), .val (.int p3), .val (.int p4), .val (.int u0_1), .val (.ref kY), .val (.int u0_4), .val (.int u0_5), .val (.int v0_7), .unset, .unset, .unset] [(.int u0_4), (.int (0 : Int32)), (.ref b021), (.ref b021), (.ref b020), (.ref b020)]))
        obtain ⟨cl022, Ar022, qk022, qs022, qn022, qh022, qg022⟩ := id V_b021
        have hin022 : ¬ ((0 : Int32) < 0 ∨ cl022.slots.size ≤ ((0 : Int32)).toNatClampNeg) := inb_of qs022 ⟨by decide, by decide⟩
        obtain ⟨T022, h022, X022, e022, W022, st022⟩ := stC X021 hx hZ e021 Ar022 (j := (0 : Int32)) hin022 (g := (mkF m 77 #[.val (.int p0), .val (.int p1), .val (.int p2), .val (.int p3), .val (.int p4), .val (.int u0_1), .val (.ref kY), .val (.int u0_4), .val (.int u0_5), .val (.int v0_7), .unset, .unset, .unset] [(.int u0_4), (.int (0 : Int32)), (.ref b021), (.ref b021), (.ref b020), (.ref b020)])) rfl rfl (hb hby at_77)
        have V_b021x := Arv.set Ar022 qk022 qs022 qn022 qh022 qg022 (fits_nar_char _) W022 0 rfl (Nat.le_of_ble_eq_true rfl)
        have N022 := Fr.snoc X022 N08 g_b021
        obtain ⟨lc0t23, X022, N022⟩ : ∃ lc, Stand p l e room_1 (s.setVm vm0) m #[(.int p0), (.int p1), (.int p2), (.int p3), (.int p4)] below meth c T022 lc 2 6 ∧ Fr n0 lc := ⟨_, X022, N022⟩
        have SFw : Safe Z ownEL vm0 _ b021 := (Safe.arv hZ.alike V_b021 (by decide))
        replace CC := CC.wr W022 SFw
        clear SFw
        replace E_b020 := E_b020.wr W022
        replace F_value_b020 := F_value_b020.other W022 (Or.inl ne_b020_b021)
        replace F_coder_b020 := F_coder_b020.other W022 (Or.inl ne_b020_b021)
        have K022 := K021.wr W022 (Or.inr sz_b021)
        have Z022 := Nat.le_trans Z021 (Keep.of_wr W022).1
        have O022 := O021.wr W022 g_b021
        replace V_b021 : Arv Z h022 b021 k021 .char (2 : Int32) [(.int (nar .char u0_4)), (.int (0 : Int32))] (.int (0 : Int32)) := V_b021x
        refine stp (fun t k => st022 t k) ?_
        show W (T022.setTop (mkF m 78 #[.val (.int p0), .val (.int p1), .val (.int p2), .val (.int p3), .val (.int p4), .val (.int u0_1), .val (.ref kY), .val (.int u0_4), .val (.int u0_5), .val (.int v0_7), .unset, .unset, .unset] [(.ref b021), (.ref b020), (.ref b020)]))
        refine stp (fun t k => XS.dup X022.here hx rfl (hb hby at_78) rfl rfl k) ?_
        show W (T022.setTop (mkF m 79 #[.val (.int p0), .val (.int p1), .val (.int p2), .val (.int p3), .val (.int p4), .val (.int u0_1), .val (.ref kY), .val (.int u0_4), .val (.int u0_5), .val (.int v0_7), .unset, .unset, .unset] [(.ref b021), (.ref b021), (.ref b020), (.ref b020)]))
        refine stp (fun t k => XS.iconst X022.here hx rfl (hb hby at_79) k) ?_
        show W (T022.setTop (mkF m 80 #[.val (.int p0), .val (.int p1), .val (.int p2), .val (.int p3), .val (.int p4), .val (.int u0_1), .val (.ref kY), .val (.int u0_4), .val (.int u0_5), .val (.int v0_7), .unset, .unset, .unset] [(.int (1 : Int32)), (.ref b021), (.ref b021), (.ref b020), (.ref b020)]))
        refine stp (fun t k => XS.iload X022.here hx rfl (hb hby at_80) rfl k) ?_
        show W (T022.setTop (mkF m 82 #[.val (.int p0), .val (.int p1), .val (.int p2), .val (.int p3), .val (.int p4), .val (.int u0_1), .val (.ref kY), .val (.int u0_4), .val (.int u0_5), .val (.int v0_7), .unset, .unset, .unset] [(.int u0_5), (.int (1 : Int32)), (.ref b021), (.ref b021), (.ref b020), (.ref b020)]))
        obtain ⟨cl024, Ar024, qk024, qs024, qn024, qh024, qg024⟩ := id V_b021
        have hin024 : ¬ ((1 : Int32) < 0 ∨ cl024.slots.size ≤ ((1 : Int32)).toNatClampNeg) := inb_of qs024 ⟨by decide, by decide⟩
        obtain ⟨T024, h024, X024, e024, W024, st024⟩ := stC X022 hx hZ e022 Ar024 (j := (1 : Int32)) hin024 (g := (mkF m 82 #[.val (.int p0), .val (.int p1), .val (.int p2), .val (.int p3), .val (.int p4), .val (.int u0_1), .val (.ref kY), .val (.int u0_4), .val (.int u0_5), .val (.int v0_7), .unset, .unset, .unset] [(.int u0_5), (.int (1 : Int32)), (.ref b021), (.ref b021), (.ref b020), (.ref b020)])) rfl rfl (hb hby at_82)
        have V_b021x := Arv.set Ar024 qk024 qs024 qn024 qh024 qg024 (fits_nar_char _) W024 1 rfl (Nat.le_of_ble_eq_true rfl)
        have N024 := Fr.snoc X024 N022 g_b021
        obtain ⟨lc0t25, X024, N024⟩ : ∃ lc, Stand p l e room_1 (s.setVm vm0) m #[(.int p0), (.int p1), (.int p2), (.int p3), (.int p4)] below meth c T024 lc 2 6 ∧ Fr n0 lc := ⟨_, X024, N024⟩
        have SFw : Safe Z ownEL vm0 _ b021 := (Safe.arv hZ.alike V_b021 (by decide))
        replace CC := CC.wr W024 SFw
        clear SFw
        replace E_b020 := E_b020.wr W024
        replace F_value_b020 := F_value_b020.other W024 (Or.inl ne_b020_b021)
        replace F_coder_b020 := F_coder_b020.other W024 (Or.inl ne_b020_b021)
        have K024 := K022.wr W024 (Or.inr sz_b021)
        have Z024 := Nat.le_trans Z022 (Keep.of_wr W024).1
        have O024 := O022.wr W024 g_b021
        replace V_b021 : Arv Z h024 b021 k021 .char (2 : Int32) [(.int (nar .char u0_4)), (.int (nar .char u0_5))] (.int (0 : Int32)) := V_b021x
        refine stp (fun t k => st024 t k) ?_
        show W (T024.setTop (mkF m 83 #[.val (.int p0), .val (.int p1), .val (.int p2), .val (.int p3), .val (.int p4), .val (.int u0_1), .val (.ref kY), .val (.int u0_4), .val (.int u0_5), .val (.int v0_7), .unset, .unset, .unset] [(.ref b021), (.ref b020), (.ref b020)]))
        have V1_b021 : Arv Z h024 b021 k021 .char (Int32.ofNat 2) (own_vs 2 (own_g2 u0_4 u0_5)) (.int (0 : Int32)) := V_b021
        obtain ⟨_, _, ⟨T0c26, L0c26, k0c26, n0c26⟩, -, X0c26, ⟨Lc0c26, hQ0c26, l0c26, y0c26, z0c26⟩, st0c26⟩ := X024.specialBack hx (y := (⟨"java/lang/String", "<init>", "([C)V"⟩ : MethodName)) rfl hown (mvT hZ (hw _ (List.mem_of_getElem? (i := 60) rfl))) (mvT hZ (hw _ (List.mem_of_getElem? (i := 61) rfl))) (mvT hZ (hw _ (List.mem_of_getElem? (i := 62) rfl))) (by decide) (backOf (W := 1) (rmi1 l Z aa hw [] b020 b021 wc sx 2 (own_g2 u0_4 u0_5) k021 h024 n0 Z024 BW O024 (by decide) (own_g2R u0_4 u0_5 2 (by decide)) E_b020 F_value_b020 F_coder_b020 g_b020 V1_b021 ne_b020_b021 (by decide)) hZ (hw _ (List.mem_of_getElem? (i := 62) rfl)) (hw _ (List.mem_of_getElem? (i := 10) rfl)) (by decide) (by decide)) (g := (mkF m 83 #[.val (.int p0), .val (.int p1), .val (.int p2), .val (.int p3), .val (.int p4), .val (.int u0_1), .val (.ref kY), .val (.int u0_4), .val (.int u0_5), .val (.int v0_7), .unset, .unset, .unset] [(.ref b021), (.ref b020), (.ref b020)])) rfl (by rw [hml]; rfl) (Steps.refl _) (a := b020) (argsL := [(.ref b021)]) (rest := [(.ref b020)]) (lenOf pd0_4 rfl) rfl (by show 2 * 0 + _ ≤ _; exact Nat.le_of_eq rfl) (hb hby at_83) (fun _ _ => ⟨rfl, e024, (by decide : 2 + 2 ≤ _), (by decide : 6 + 6 ≤ _)⟩)
        dsimp only [Pt.U, Pt.locs, Pt.cells, Pt.slots] at X0c26 l0c26 y0c26 z0c26 st0c26 hQ0c26
        subst l0c26 y0c26 z0c26
        obtain ⟨rfl, N0c26q, Kq0c26, b0c26, sz_b0c26, S_0c26⟩ := hQ0c26
        have N0c26 := Fr.app N024 N0c26q
        obtain ⟨lc0t27, X0c26, N0c26⟩ : ∃ lc, Stand p l e room_1 (s.setVm vm0) m #[(.int p0), (.int p1), (.int p2), (.int p3), (.int p4)] below meth c T0c26 lc 4 12 ∧ Fr n0 lc := ⟨_, X0c26, N0c26⟩
        obtain ⟨h0c26, e0c26⟩ : ∃ h, T0c26.heap = h := ⟨_, rfl⟩
        rw [e0c26] at Kq0c26 S_0c26
        have ne_b020_b0c26 : b020 ≠ b0c26 := Nat.ne_of_lt (Nat.lt_of_lt_of_le E_b020.lt sz_b0c26)
        have ne_b021_b0c26 : b021 ≠ b0c26 := Nat.ne_of_lt (Nat.lt_of_lt_of_le V_b021.lt sz_b0c26)
        have g_b0c26 : n0 ≤ b0c26 := Nat.le_trans Z024 sz_b0c26
        have SF_b020 : Safe Z ownEL vm0 _ b020 := (own_safeNull hZ.alike E_b020 F_value_b020)
        have SFk : ∀ x ∈ ([b020] : List Addr), Safe Z ownEL vm0 _ x := (sfS SF_b020 sf0)
        replace SF_b020 := Safe.keep Kq0c26 SFk CC.2.1 SF_b020
        replace CC := CC.keep Kq0c26 SFk
        clear SFk
        replace V_b021 := V_b021.keep Kq0c26 (ninS (Ne.symm ne_b020_b021) nin0)
        have KK0c26 := Keep.trans K024 Kq0c26 (allS (Or.inr sz_b020) all0)
        have Z0c26 := Nat.le_trans Z024 Kq0c26.1
        have O0c26 := O024.keep Kq0c26 (allS g_b020 all0)
        refine stp (fun t k => st0c26.trans k) ?_
        show W (T0c26.setTop (mkF m 86 #[.val (.int p0), .val (.int p1), .val (.int p2), .val (.int p3), .val (.int p4), .val (.int u0_1), .val (.ref kY), .val (.int u0_4), .val (.int u0_5), .val (.int v0_7), .unset, .unset, .unset] [(.ref b020)]))
        refine stp (fun t k => XS.astore X0c26.here hx rfl (hb hby at_86) rfl rfl (l' := #[.val (.int p0), .val (.int p1), .val (.int p2), .val (.int p3), .val (.int p4), .val (.int u0_1), .val (.ref kY), .val (.int u0_4), .val (.int u0_5), .val (.int v0_7), .val (.ref b020), .unset, .unset]) rfl k) ?_
        show W (T0c26.setTop (mkF m 88 #[.val (.int p0), .val (.int p1), .val (.int p2), .val (.int p3), .val (.int p4), .val (.int u0_1), .val (.ref kY), .val (.int u0_4), .val (.int u0_5), .val (.int v0_7), .val (.ref b020), .unset, .unset] []))
        refine stp (fun t k => XS.goto X0c26.here hx rfl (pc0 := 88) (pc' := 98) rfl (hb hby at_88) (by decide) (by decide) k) ?_
        show W (T0c26.setTop (mkF m 98 #[.val (.int p0), .val (.int p1), .val (.int p2), .val (.int p3), .val (.int p4), .val (.int u0_1), .val (.ref kY), .val (.int u0_4), .val (.int u0_5), .val (.int v0_7), .val (.ref b020), .unset, .unset] []))
        obtain ⟨T028, h028, X028, e028, E028, A028, D028, -, st028⟩ := newO X0c26 hx hZ hown (hw _ (List.mem_of_getElem? (i := 34) rfl)) (hw _ (List.mem_of_getElem? (i := 35) rfl)) (hw _ (List.mem_of_getElem? (i := 36) rfl)) e0c26 (g := (mkF m 98 #[.val (.int p0), .val (.int p1), .val (.int p2), .val (.int p3), .val (.int p4), .val (.int u0_1), .val (.ref kY), .val (.int u0_4), .val (.int u0_5), .val (.int v0_7), .val (.ref b020), .unset, .unset] [])) rfl (hb hby at_98) (by decide) (by decide)
        obtain ⟨b028, gq028⟩ : ∃ z, z = h0c26.size := ⟨_, rfl⟩
        rw [← gq028] at A028 D028 st028
        replace CC := CC.ext E028
        have ne_b020_b028 : b020 ≠ b028 := Nat.ne_of_lt (Nat.lt_of_lt_of_le S_0c26.lt0 (Nat.le_of_eq gq028.symm))
        have ne_b021_b028 : b021 ≠ b028 := Nat.ne_of_lt (Nat.lt_of_lt_of_le V_b021.lt (Nat.le_of_eq gq028.symm))
        have ne_b0c26_b028 : b0c26 ≠ b028 := Nat.ne_of_lt (Nat.lt_of_lt_of_le S_0c26.lt1 (Nat.le_of_eq gq028.symm))
        have g_b028 : n0 ≤ b028 := Nat.le_trans Z0c26 (Nat.le_of_eq gq028.symm)
        have sz_b028 : h0.size ≤ b028 := Nat.le_trans KK0c26.1 (Nat.le_of_eq gq028.symm)
        replace V_b021 := V_b021.ext E028
        replace S_0c26 := S_0c26.ext E028
        have K028 := KK0c26.ext E028
        have Z028 := Nat.le_trans Z0c26 E028.1
        have O028 := O0c26.ext E028
        have E_b028 := A028
        have F_kind_b028 : Fld Z h028 b028 "com/example/grant3/grant3/Lexer$Token" "kind" "Lcom/example/grant3/grant3/Lexer$Kind;" .null := D028 (Or.inr (hw _ (List.mem_of_getElem? (i := 47) rfl))) (ty := (.object "com/example/grant3/grant3/Lexer$Kind")) (by decide)
        have F_text_b028 : Fld Z h028 b028 "com/example/grant3/grant3/Lexer$Token" "text" "Ljava/lang/String;" .null := D028 (Or.inr (hw _ (List.mem_of_getElem? (i := 49) rfl))) (ty := (.object "java/lang/String")) (by decide)
        refine stp (fun t k => st028 t k) ?_
        show W (T028.setTop (mkF m 101 #[.val (.int p0), .val (.int p1), .val (.int p2), .val (.int p3), .val (.int p4), .val (.int u0_1), .val (.ref kY), .val (.int u0_4), .val (.int u0_5), .val (.int v0_7), .val (.ref b020), .unset, .unset] [(.ref b028)]))
        refine stp (fun t k => XS.dup X028.here hx rfl (hb hby at_101) rfl rfl k) ?_
        show W (T028.setTop (mkF m 102 #[.val (.int p0), .val (.int p1), .val (.int p2), .val (.int p3), .val (.int p4), .val (.int u0_1), .val (.ref kY), .val (.int u0_4), .val (.int u0_5), .val (.int v0_7), .val (.ref b020), .unset, .unset] [(.ref b028), (.ref b028)]))
        refine stp (fun t k => XS.aload X028.here hx rfl (hb hby at_102) rfl rfl k) ?_
        show W (T028.setTop (mkF m 104 #[.val (.int p0), .val (.int p1), .val (.int p2), .val (.int p3), .val (.int p4), .val (.int u0_1), .val (.ref kY), .val (.int u0_4), .val (.int u0_5), .val (.int v0_7), .val (.ref b020), .unset, .unset] [(.ref kY), (.ref b028), (.ref b028)]))
        refine stp (fun t k => XS.aload X028.here hx rfl (hb hby at_104) rfl rfl k) ?_
        show W (T028.setTop (mkF m 106 #[.val (.int p0), .val (.int p1), .val (.int p2), .val (.int p3), .val (.int p4), .val (.int u0_1), .val (.ref kY), .val (.int u0_4), .val (.int u0_5), .val (.int v0_7), .val (.ref b020), .unset, .unset] [(.ref b020), (.ref kY), (.ref b028), (.ref b028)]))
        obtain ⟨_, _, ⟨T0c29, L0c29, k0c29, n0c29⟩, -, X0c29, ⟨Lc0c29, hQ0c29, l0c29, y0c29, z0c29⟩, st0c29⟩ := X028.specialBack hx (y := (⟨"com/example/grant3/grant3/Lexer$Token", "<init>", "(Lcom/example/grant3/grant3/Lexer$Kind;Ljava/lang/String;)V"⟩ : MethodName)) rfl hown (mvT hZ (hw _ (List.mem_of_getElem? (i := 37) rfl))) (mvT hZ (hw _ (List.mem_of_getElem? (i := 38) rfl))) (mvT hZ (hw _ (List.mem_of_getElem? (i := 39) rfl))) (by decide) (backOf (W := 1) (rmtk l Z aa hw [] b028 kY b020 wc sx h028 n0 Z028 BW O028 E_b028 F_kind_b028 F_text_b028 g_b028) hZ (hw _ (List.mem_of_getElem? (i := 39) rfl)) (hw _ (List.mem_of_getElem? (i := 36) rfl)) (by decide) (by decide)) (g := (mkF m 106 #[.val (.int p0), .val (.int p1), .val (.int p2), .val (.int p3), .val (.int p4), .val (.int u0_1), .val (.ref kY), .val (.int u0_4), .val (.int u0_5), .val (.int v0_7), .val (.ref b020), .unset, .unset] [(.ref b020), (.ref kY), (.ref b028), (.ref b028)])) rfl (by rw [hml]; rfl) (Steps.refl _) (a := b028) (argsL := [(.ref kY), (.ref b020)]) (rest := [(.ref b028)]) (lenOf pd0_2 rfl) rfl (by show 2 * 0 + _ ≤ _; exact Nat.le_of_eq rfl) (hb hby at_106) (fun _ _ => ⟨rfl, e028, (by decide : 5 + 0 ≤ _), (by decide : 14 + 0 ≤ _)⟩)
        dsimp only [Pt.U, Pt.locs, Pt.cells, Pt.slots] at X0c29 l0c29 y0c29 z0c29 st0c29 hQ0c29
        subst l0c29 y0c29 z0c29
        obtain ⟨rfl, N0c29q, Kq0c29, EE0c29, FK0c29, FT0c29⟩ := hQ0c29
        have N0c29 := Fr.app N0c26 N0c29q
        obtain ⟨lc0t30, X0c29, N0c29⟩ : ∃ lc, Stand p l e room_1 (s.setVm vm0) m #[(.int p0), (.int p1), (.int p2), (.int p3), (.int p4)] below meth c T0c29 lc 5 14 ∧ Fr n0 lc := ⟨_, X0c29, N0c29⟩
        obtain ⟨h0c29, e0c29⟩ : ∃ h, T0c29.heap = h := ⟨_, rfl⟩
        rw [e0c29] at Kq0c29 EE0c29 FK0c29 FT0c29
        have SF_b028 : Safe Z ownEL vm0 _ b028 := (Safe.exa hZ.alike E_b028 (by decide) (by decide))
        have SFk : ∀ x ∈ ([b028] : List Addr), Safe Z ownEL vm0 _ x := (sfS SF_b028 sf0)
        replace SF_b028 := Safe.keep Kq0c29 SFk CC.2.1 SF_b028
        replace CC := CC.keep Kq0c29 SFk
        clear SFk
        replace V_b021 := V_b021.keep Kq0c29 (ninS ne_b021_b028 nin0)
        replace S_0c26 := S_0c26.keep Kq0c29 (ninS ne_b020_b028 nin0) (ninS ne_b0c26_b028 nin0)
        have KK0c29 := Keep.trans K028 Kq0c29 (allS (Or.inr sz_b028) all0)
        have Z0c29 := Nat.le_trans Z028 Kq0c29.1
        have O0c29 := O028.keep Kq0c29 (allS g_b028 all0)
        refine stp (fun t k => st0c29.trans k) ?_
        show W (T0c29.setTop (mkF m 109 #[.val (.int p0), .val (.int p1), .val (.int p2), .val (.int p3), .val (.int p4), .val (.int u0_1), .val (.ref kY), .val (.int u0_4), .val (.int u0_5), .val (.int v0_7), .val (.ref b020), .unset, .unset] [(.ref b028)]))
        refine stp (fun t k => XS.astore X0c29.here hx rfl (hb hby at_109) rfl rfl (l' := #[.val (.int p0), .val (.int p1), .val (.int p2), .val (.int p3), .val (.int p4), .val (.int u0_1), .val (.ref kY), .val (.int u0_4), .val (.int u0_5), .val (.int v0_7), .val (.ref b020), .val (.ref b028), .unset]) rfl k) ?_
        show W (T0c29.setTop (mkF m 111 #[.val (.int p0), .val (.int p1), .val (.int p2), .val (.int p3), .val (.int p4), .val (.int u0_1), .val (.ref kY), .val (.int u0_4), .val (.int u0_5), .val (.int v0_7), .val (.ref b020), .val (.ref b028), .unset] []))
        refine stp (fun t k => XS.iload X0c29.here hx rfl (hb hby at_111) rfl k) ?_
        show W (T0c29.setTop (mkF m 113 #[.val (.int p0), .val (.int p1), .val (.int p2), .val (.int p3), .val (.int p4), .val (.int u0_1), .val (.ref kY), .val (.int u0_4), .val (.int u0_5), .val (.int v0_7), .val (.ref b020), .val (.ref b028), .unset] [(.int u0_1)]))
        refine stp (fun t k => XS.iconst X0c29.here hx rfl (hb hby at_113) k) ?_
        show W (T0c29.setTop (mkF m 114 #[.val (.int p0), .val (.int p1), .val (.int p2), .val (.int p3), .val (.int p4), .val (.int u0_1), .val (.ref kY), .val (.int u0_4), .val (.int u0_5), .val (.int v0_7), .val (.ref b020), .val (.ref b028), .unset] [(.int (3 : Int32)), (.int u0_1)]))
        refine stp (fun t k => XS.icmpNo X0c29.here hx rfl (hb hby at_114) rfl ((teq (h3)).2) k) ?_
        show W (T0c29.setTop (mkF m 117 #[.val (.int p0), .val (.int p1), .val (.int p2), .val (.int p3), .val (.int p4), .val (.int u0_1), .val (.ref kY), .val (.int u0_4), .val (.int u0_5), .val (.int v0_7), .val (.ref b020), .val (.ref b028), .unset] []))
        refine stp (fun t k => XS.iload X0c29.here hx rfl (hb hby at_117) rfl k) ?_
        show W (T0c29.setTop (mkF m 119 #[.val (.int p0), .val (.int p1), .val (.int p2), .val (.int p3), .val (.int p4), .val (.int u0_1), .val (.ref kY), .val (.int u0_4), .val (.int u0_5), .val (.int v0_7), .val (.ref b020), .val (.ref b028), .unset] [(.int u0_4)]))
        refine stp (fun t k => XS.iload X0c29.here hx rfl (hb hby at_119) rfl k) ?_
        show W (T0c29.setTop (mkF m 121 #[.val (.int p0), .val (.int p1), .val (.int p2), .val (.int p3), .val (.int p4), .val (.int u0_1), .val (.ref kY), .val (.int u0_4), .val (.int u0_5), .val (.int v0_7), .val (.ref b020), .val (.ref b028), .unset] [(.int v0_7), (.int u0_4)]))
        have J0_129_33 : ∀ (T033 : State) (lc033 : List Loc) (v0_32 : Int32) (hv0_32 : v0_32 = (if u0_4 = v0_7 then (1 : Int32) else (0 : Int32))) (X033 : Stand p l e room_1 (s.setVm vm0) m #[(.int p0), (.int p1), (.int p2), (.int p3), (.int p4)] below meth c T033 lc033 5 14) (e033 : T033.heap = h0c29) (N033 : Fr n0 lc033), W (T033.setTop (mkF m 129 #[.val (.int p0), .val (.int p1), .val (.int p2), .val (.int p3), .val (.int p4), .val (.int u0_1), .val (.ref kY), .val (.int u0_4), .val (.int u0_5), .val (.int v0_7), .val (.ref b020), .val (.ref b028), .unset] [(.int v0_32)])) := by
          intro T033 lc033 v0_32 hv0_32  X033 e033 N033
          show W (T033.setTop (mkF m 129 #[.val (.int p0), .val (.int p1), .val (.int p2), .val (.int p3), .val (.int p4), .val (.int u0_1), .val (.ref kY), .val (.int u0_4), .val (.int u0_5), .val (.int v0_7), .val (.ref b020), .val (.ref b028), .unset] [(.int v0_32)]))
          refine stp (fun t k => XS.istore X033.here hx rfl (hb hby at_129) rfl (l' := #[.val (.int p0), .val (.int p1), .val (.int p2), .val (.int p3), .val (.int p4), .val (.int u0_1), .val (.ref kY), .val (.int u0_4), .val (.int u0_5), .val (.int v0_7), .val (.ref b020), .val (.ref b028), .val (.int v0_32)]) rfl k) ?_
          show W (T033.setTop (mkF m 131 #[.val (.int p0), .val (.int p1), .val (.int p2), .val (.int p3), .val (.int p4), .val (.int u0_1), .val (.ref kY), .val (.int u0_4), .val (.int u0_5), .val (.int v0_7), .val (.ref b020), .val (.ref b028), .val (.int v0_32)] []))
          refine stp (fun t k => XS.goto X033.here hx rfl (pc0 := 131) (pc' := 137) rfl (hb hby at_131) (by decide) (by decide) k) ?_
          show W (T033.setTop (mkF m 137 #[.val (.int p0), .val (.int p1), .val (.int p2), .val (.int p3), .val (.int p4), .val (.int u0_1), .val (.ref kY), .val (.int u0_4), .val (.int u0_5), .val (.int v0_7), .val (.ref b020), .val (.ref b028), .val (.int v0_32)] []))
          refine stp (fun t k => XS.aload X033.here hx rfl (hb hby at_137) rfl rfl k) ?_
          show W (T033.setTop (mkF m 139 #[.val (.int p0), .val (.int p1), .val (.int p2), .val (.int p3), .val (.int p4), .val (.int u0_1), .val (.ref kY), .val (.int u0_4), .val (.int u0_5), .val (.int v0_7), .val (.ref b020), .val (.ref b028), .val (.int v0_32)] [(.ref b028)]))
          refine stp (fun t k => XS.iload X033.here hx rfl (hb hby at_139) rfl k) ?_
          show W (T033.setTop (mkF m 141 #[.val (.int p0), .val (.int p1), .val (.int p2), .val (.int p3), .val (.int p4), .val (.int u0_1), .val (.ref kY), .val (.int u0_4), .val (.int u0_5), .val (.int v0_7), .val (.ref b020), .val (.ref b028), .val (.int v0_32)] [(.int v0_7), (.ref b028)]))
          obtain ⟨cq0c34, kq0c34, q0c34a, q0c34b, q0c34c⟩ := isOf hZ e033 EE0c29
          obtain ⟨_, _, ⟨T0c34, L0c34, k0c34, n0c34⟩, -, X0c34, ⟨Lc0c34, hQ0c34, l0c34, y0c34, z0c34⟩, st0c34⟩ := X033.virtualBack hx (y := (⟨"com/example/grant3/grant3/Lexer$Token", "isSymbol", "(C)Z"⟩ : MethodName)) (z := (⟨"com/example/grant3/grant3/Lexer$Token", "isSymbol", "(C)Z"⟩ : MethodName)) hown (mvT hZ (hw _ (List.mem_of_getElem? (i := 50) rfl))) (mvT hZ (hw _ (List.mem_of_getElem? (i := 51) rfl))) (notFace_of_selects (args := #[]) (mvT hZ (hw _ (List.mem_of_getElem? (i := 53) rfl)))) (mvT hZ (hw _ (List.mem_of_getElem? (i := 53) rfl))) (mvT hZ (hw _ (List.mem_of_getElem? (i := 52) rfl))) (by decide) (backOf (W := 0) (rmsy l Z aa hw [] b028 v0_7 wc sx kW kQ kS kY kE b020 b0c26 2 (own_g2 u0_4 u0_5) h0c29 n0 Z0c29 BW O0c29 BK EE0c29 FK0c29 FT0c29 S_0c26 (by decide) (own_g2R u0_4 u0_5 2 (by decide)) (by decide)) hZ (hw _ (List.mem_of_getElem? (i := 54) rfl)) (hw _ (List.mem_of_getElem? (i := 36) rfl)) (by decide) (by decide)) q0c34a q0c34c (g := (mkF m 141 #[.val (.int p0), .val (.int p1), .val (.int p2), .val (.int p3), .val (.int p4), .val (.int u0_1), .val (.ref kY), .val (.int u0_4), .val (.int u0_5), .val (.int v0_7), .val (.ref b020), .val (.ref b028), .val (.int v0_32)] [(.int v0_7), (.ref b028)])) rfl (by rw [hml]; rfl) (Steps.refl _) (argsL := [(.int v0_7)]) (rest := []) (lenOf pd0_3 rfl) rfl (by show 2 * 0 + _ ≤ _; exact Nat.le_of_eq rfl) (hb hby at_141) (fun _ _ => ⟨rfl, e033, (by decide : 5 + 0 ≤ _), (by decide : 14 + 0 ≤ _)⟩)
          dsimp only [Pt.U, Pt.locs, Pt.cells, Pt.slots] at X0c34 l0c34 y0c34 z0c34 st0c34 hQ0c34
          subst l0c34 y0c34 z0c34
          obtain ⟨rfl, N0c34q, e0c34⟩ := hQ0c34
          have N0c34 := Fr.app N033 N0c34q
          obtain ⟨lc0t35, X0c34, N0c34⟩ : ∃ lc, Stand p l e room_1 (s.setVm vm0) m #[(.int p0), (.int p1), (.int p2), (.int p3), (.int p4)] below meth c T0c34 lc 5 14 ∧ Fr n0 lc := ⟨_, X0c34, N0c34⟩
          refine stp (fun t k => st0c34.trans k) ?_
          show W (T0c34.setTop (mkF m 144 #[.val (.int p0), .val (.int p1), .val (.int p2), .val (.int p3), .val (.int p4), .val (.int u0_1), .val (.ref kY), .val (.int u0_4), .val (.int u0_5), .val (.int v0_7), .val (.ref b020), .val (.ref b028), .val (.int v0_32)] [(.int (if (own_g2 u0_4 u0_5) 0 = v0_7 then (1 : Int32) else (0 : Int32)))]))
          refine stp (fun t k => XS.iload X0c34.here hx rfl (hb hby at_144) rfl k) ?_
          show W (T0c34.setTop (mkF m 146 #[.val (.int p0), .val (.int p1), .val (.int p2), .val (.int p3), .val (.int p4), .val (.int u0_1), .val (.ref kY), .val (.int u0_4), .val (.int u0_5), .val (.int v0_7), .val (.ref b020), .val (.ref b028), .val (.int v0_32)] [(.int v0_32), (.int (if (own_g2 u0_4 u0_5) 0 = v0_7 then (1 : Int32) else (0 : Int32)))]))
          refine stp (fun t k => XS.icmpNo X0c34.here hx rfl (hb hby at_146) rfl ((teq (by subst hv0_32; subst hv0_7; subst hu0_5; subst hu0_4; subst hu0_1; exact own_last kc0)).2) k) ?_
          show W (T0c34.setTop (mkF m 149 #[.val (.int p0), .val (.int p1), .val (.int p2), .val (.int p3), .val (.int p4), .val (.int u0_1), .val (.ref kY), .val (.int u0_4), .val (.int u0_5), .val (.int v0_7), .val (.ref b020), .val (.ref b028), .val (.int v0_32)] []))
          refine stp (fun t k => XS.iconst X0c34.here hx rfl (hb hby at_149) k) ?_
          show W (T0c34.setTop (mkF m 150 #[.val (.int p0), .val (.int p1), .val (.int p2), .val (.int p3), .val (.int p4), .val (.int u0_1), .val (.ref kY), .val (.int u0_4), .val (.int u0_5), .val (.int v0_7), .val (.ref b020), .val (.ref b028), .val (.int v0_32)] [(.int (1 : Int32))]))
          refine stp (fun t k => XS.goto X0c34.here hx rfl (pc0 := 150) (pc' := 154) rfl (hb hby at_150) (by decide) (by decide) k) ?_
          show W (T0c34.setTop (mkF m 154 #[.val (.int p0), .val (.int p1), .val (.int p2), .val (.int p3), .val (.int p4), .val (.int u0_1), .val (.ref kY), .val (.int u0_4), .val (.int u0_5), .val (.int v0_7), .val (.ref b020), .val (.ref b028), .val (.int v0_32)] [(.int (1 : Int32))]))
          show W (T0c34.setTop (mkF m 154 #[.val (.int p0), .val (.int p1), .val (.int p2), .val (.int p3), .val (.int p4), .val (.int u0_1), .val (.ref kY), .val (.int u0_4), .val (.int u0_5), .val (.int v0_7), .val (.ref b020), .val (.ref b028), .val (.int v0_32)] [(.int (1 : Int32))]))
          rw [← hW]
          exact own_W hZ hEL CC (own_retN X0c34 hx Bd.notSynchronized Bd.returns (w := (1 : Int32)) (by simp) (hb hby at_154) rfl (by show Q0 Z p0 p1 p2 p3 p4 wc sx kW kQ kS kY kE h0 n0 _ T0c34.heap _ ∧ T0c34.heap = h0c29; rw [e0c34]; exact ⟨⟨rfl, N0c34⟩, rfl⟩) (by decide) (by decide))
        by_cases hc0_31 : u0_4 = v0_7
        · refine stp (fun t k => XS.icmpNo X0c29.here hx rfl (hb hby at_121) rfl ((teq hc0_31).2) k) ?_
          show W (T0c29.setTop (mkF m 124 #[.val (.int p0), .val (.int p1), .val (.int p2), .val (.int p3), .val (.int p4), .val (.int u0_1), .val (.ref kY), .val (.int u0_4), .val (.int u0_5), .val (.int v0_7), .val (.ref b020), .val (.ref b028), .unset] []))
          refine stp (fun t k => XS.iconst X0c29.here hx rfl (hb hby at_124) k) ?_
          show W (T0c29.setTop (mkF m 125 #[.val (.int p0), .val (.int p1), .val (.int p2), .val (.int p3), .val (.int p4), .val (.int u0_1), .val (.ref kY), .val (.int u0_4), .val (.int u0_5), .val (.int v0_7), .val (.ref b020), .val (.ref b028), .unset] [(.int (1 : Int32))]))
          refine stp (fun t k => XS.goto X0c29.here hx rfl (pc0 := 125) (pc' := 129) rfl (hb hby at_125) (by decide) (by decide) k) ?_
          show W (T0c29.setTop (mkF m 129 #[.val (.int p0), .val (.int p1), .val (.int p2), .val (.int p3), .val (.int p4), .val (.int u0_1), .val (.ref kY), .val (.int u0_4), .val (.int u0_5), .val (.int v0_7), .val (.ref b020), .val (.ref b028), .unset] [(.int (1 : Int32))]))
          exact J0_129_33 _ _ (1 : Int32) (by first | rfl | simp only [if_pos hc0_31]) X0c29 e0c29 N0c29
        · refine stp (fun t k => XS.icmpYes X0c29.here hx rfl (pc0 := 121) (pc' := 128) rfl (hb hby at_121) rfl ((feq hc0_31).2) (by decide) (by decide) k) ?_
          show W (T0c29.setTop (mkF m 128 #[.val (.int p0), .val (.int p1), .val (.int p2), .val (.int p3), .val (.int p4), .val (.int u0_1), .val (.ref kY), .val (.int u0_4), .val (.int u0_5), .val (.int v0_7), .val (.ref b020), .val (.ref b028), .unset] []))
          refine stp (fun t k => XS.iconst X0c29.here hx rfl (hb hby at_128) k) ?_
          show W (T0c29.setTop (mkF m 129 #[.val (.int p0), .val (.int p1), .val (.int p2), .val (.int p3), .val (.int p4), .val (.int u0_1), .val (.ref kY), .val (.int u0_4), .val (.int u0_5), .val (.int v0_7), .val (.ref b020), .val (.ref b028), .unset] [(.int (0 : Int32))]))
          exact J0_129_33 _ _ (0 : Int32) (by first | rfl | simp only [if_neg hc0_31]) X0c29 e0c29 N0c29
    by_cases hc0_6 : (p4 &&& (1 : Int32)) = (0 : Int32)
    · refine stp (fun t k => XS.ifYes X0c2.here hx rfl (pc0 := 27) (pc' := 35) rfl (hb hby at_27) rfl ((if0 _ _).trans (teq hc0_6).1) (by decide) (by decide) k) ?_
      show W (T0c2.setTop (mkF m 35 #[.val (.int p0), .val (.int p1), .val (.int p2), .val (.int p3), .val (.int p4), .val (.int u0_1), .val (.ref kY), .val (.int u0_4), .val (.int u0_5), .unset, .unset, .unset, .unset] []))
      refine stp (fun t k => XS.iloadN X0c2.here hx rfl (hb hby at_35) rfl k) ?_
      show W (T0c2.setTop (mkF m 36 #[.val (.int p0), .val (.int p1), .val (.int p2), .val (.int p3), .val (.int p4), .val (.int u0_1), .val (.ref kY), .val (.int u0_4), .val (.int u0_5), .unset, .unset, .unset, .unset] [(.int p3)]))
      refine stp (fun t k => XS.i2c X0c2.here hx rfl (hb hby at_36) rfl k) ?_
      show W (T0c2.setTop (mkF m 37 #[.val (.int p0), .val (.int p1), .val (.int p2), .val (.int p3), .val (.int p4), .val (.int u0_1), .val (.ref kY), .val (.int u0_4), .val (.int u0_5), .unset, .unset, .unset, .unset] [(.int (p3.toUInt32.toUInt16.toUInt32.toInt32))]))
      exact J0_37_8 _ _ (p3.toUInt32.toUInt16.toUInt32.toInt32) (by first | rfl | simp only [if_pos hc0_6]) X0c2 e0c2 N0c2
    · refine stp (fun t k => XS.ifNo X0c2.here hx rfl (hb hby at_27) rfl ((if0 _ _).trans (feq hc0_6).1) k) ?_
      show W (T0c2.setTop (mkF m 30 #[.val (.int p0), .val (.int p1), .val (.int p2), .val (.int p3), .val (.int p4), .val (.int u0_1), .val (.ref kY), .val (.int u0_4), .val (.int u0_5), .unset, .unset, .unset, .unset] []))
      refine stp (fun t k => XS.iload X0c2.here hx rfl (hb hby at_30) rfl k) ?_
      show W (T0c2.setTop (mkF m 32 #[.val (.int p0), .val (.int p1), .val (.int p2), .val (.int p3), .val (.int p4), .val (.int u0_1), .val (.ref kY), .val (.int u0_4), .val (.int u0_5), .unset, .unset, .unset, .unset] [(.int u0_4)]))
      refine stp (fun t k => XS.goto X0c2.here hx rfl (pc0 := 32) (pc' := 37) rfl (hb hby at_32) (by decide) (by decide) k) ?_
      show W (T0c2.setTop (mkF m 37 #[.val (.int p0), .val (.int p1), .val (.int p2), .val (.int p3), .val (.int p4), .val (.int u0_1), .val (.ref kY), .val (.int u0_4), .val (.int u0_5), .unset, .unset, .unset, .unset] [(.int u0_4)]))
      exact J0_37_8 _ _ u0_4 (by first | rfl | simp only [if_neg hc0_6]) X0c2 e0c2 N0c2
  · obtain ⟨h3, hr⟩ := C0c2
    show W (T0c2.setTop (mkF m 13 #[.val (.int p0), .val (.int p1), .val (.int p2), .val (.int p3), .val (.int p4), .val (.int u0_1), .unset, .unset, .unset, .unset, .unset, .unset, .unset] [(.ref r0c2)]))
    refine stp (fun t k => XS.astore X0c2.here hx rfl (hb hby at_13) rfl rfl (l' := #[.val (.int p0), .val (.int p1), .val (.int p2), .val (.int p3), .val (.int p4), .val (.int u0_1), .val (.ref r0c2), .unset, .unset, .unset, .unset, .unset, .unset]) rfl k) ?_
    show W (T0c2.setTop (mkF m 15 #[.val (.int p0), .val (.int p1), .val (.int p2), .val (.int p3), .val (.int p4), .val (.int u0_1), .val (.ref r0c2), .unset, .unset, .unset, .unset, .unset, .unset] []))
    refine stp (fun t k => XS.iloadN X0c2.here hx rfl (hb hby at_15) rfl k) ?_
    show W (T0c2.setTop (mkF m 16 #[.val (.int p0), .val (.int p1), .val (.int p2), .val (.int p3), .val (.int p4), .val (.int u0_1), .val (.ref r0c2), .unset, .unset, .unset, .unset, .unset, .unset] [(.int p1)]))
    refine stp (fun t k => XS.i2c X0c2.here hx rfl (hb hby at_16) rfl k) ?_
    show W (T0c2.setTop (mkF m 17 #[.val (.int p0), .val (.int p1), .val (.int p2), .val (.int p3), .val (.int p4), .val (.int u0_1), .val (.ref r0c2), .unset, .unset, .unset, .unset, .unset, .unset] [(.int (p1.toUInt32.toUInt16.toUInt32.toInt32))]))
    refine stp (fun t k => XS.istore X0c2.here hx rfl (hb hby at_17) rfl (l' := #[.val (.int p0), .val (.int p1), .val (.int p2), .val (.int p3), .val (.int p4), .val (.int u0_1), .val (.ref r0c2), .val (.int (p1.toUInt32.toUInt16.toUInt32.toInt32)), .unset, .unset, .unset, .unset, .unset]) rfl k) ?_
    show W (T0c2.setTop (mkF m 19 #[.val (.int p0), .val (.int p1), .val (.int p2), .val (.int p3), .val (.int p4), .val (.int u0_1), .val (.ref r0c2), .val (.int (p1.toUInt32.toUInt16.toUInt32.toInt32)), .unset, .unset, .unset, .unset, .unset] []))
    generalize hu0_36 : (p1.toUInt32.toUInt16.toUInt32.toInt32) = u0_36
    show W (T0c2.setTop (mkF m 19 #[.val (.int p0), .val (.int p1), .val (.int p2), .val (.int p3), .val (.int p4), .val (.int u0_1), .val (.ref r0c2), .val (.int u0_36), .unset, .unset, .unset, .unset, .unset] []))
    refine stp (fun t k => XS.iloadN X0c2.here hx rfl (hb hby at_19) rfl k) ?_
    show W (T0c2.setTop (mkF m 20 #[.val (.int p0), .val (.int p1), .val (.int p2), .val (.int p3), .val (.int p4), .val (.int u0_1), .val (.ref r0c2), .val (.int u0_36), .unset, .unset, .unset, .unset, .unset] [(.int p2)]))
    refine stp (fun t k => XS.i2c X0c2.here hx rfl (hb hby at_20) rfl k) ?_
    show W (T0c2.setTop (mkF m 21 #[.val (.int p0), .val (.int p1), .val (.int p2), .val (.int p3), .val (.int p4), .val (.int u0_1), .val (.ref r0c2), .val (.int u0_36), .unset, .unset, .unset, .unset, .unset] [(.int (p2.toUInt32.toUInt16.toUInt32.toInt32))]))
    refine stp (fun t k => XS.istore X0c2.here hx rfl (hb hby at_21) rfl (l' := #[.val (.int p0), .val (.int p1), .val (.int p2), .val (.int p3), .val (.int p4), .val (.int u0_1), .val (.ref r0c2), .val (.int u0_36), .val (.int (p2.toUInt32.toUInt16.toUInt32.toInt32)), .unset, .unset, .unset, .unset]) rfl k) ?_
    show W (T0c2.setTop (mkF m 23 #[.val (.int p0), .val (.int p1), .val (.int p2), .val (.int p3), .val (.int p4), .val (.int u0_1), .val (.ref r0c2), .val (.int u0_36), .val (.int (p2.toUInt32.toUInt16.toUInt32.toInt32)), .unset, .unset, .unset, .unset] []))
    generalize hu0_37 : (p2.toUInt32.toUInt16.toUInt32.toInt32) = u0_37
    show W (T0c2.setTop (mkF m 23 #[.val (.int p0), .val (.int p1), .val (.int p2), .val (.int p3), .val (.int p4), .val (.int u0_1), .val (.ref r0c2), .val (.int u0_36), .val (.int u0_37), .unset, .unset, .unset, .unset] []))
    have kc0 : nar .char u0_36 = u0_36 := by subst hu0_37; subst hu0_36; subst hu0_1; exact own_c16 _
    show W (T0c2.setTop (mkF m 23 #[.val (.int p0), .val (.int p1), .val (.int p2), .val (.int p3), .val (.int p4), .val (.int u0_1), .val (.ref r0c2), .val (.int u0_36), .val (.int u0_37), .unset, .unset, .unset, .unset] []))
    refine stp (fun t k => XS.iload X0c2.here hx rfl (hb hby at_23) rfl k) ?_
    show W (T0c2.setTop (mkF m 25 #[.val (.int p0), .val (.int p1), .val (.int p2), .val (.int p3), .val (.int p4), .val (.int u0_1), .val (.ref r0c2), .val (.int u0_36), .val (.int u0_37), .unset, .unset, .unset, .unset] [(.int p4)]))
    refine stp (fun t k => XS.iconst X0c2.here hx rfl (hb hby at_25) k) ?_
    show W (T0c2.setTop (mkF m 26 #[.val (.int p0), .val (.int p1), .val (.int p2), .val (.int p3), .val (.int p4), .val (.int u0_1), .val (.ref r0c2), .val (.int u0_36), .val (.int u0_37), .unset, .unset, .unset, .unset] [(.int (1 : Int32)), (.int p4)]))
    refine stp (fun t k => XS.iand X0c2.here hx rfl (hb hby at_26) rfl k) ?_
    show W (T0c2.setTop (mkF m 27 #[.val (.int p0), .val (.int p1), .val (.int p2), .val (.int p3), .val (.int p4), .val (.int u0_1), .val (.ref r0c2), .val (.int u0_36), .val (.int u0_37), .unset, .unset, .unset, .unset] [(.int (p4 &&& (1 : Int32)))]))
    have J0_37_40 : ∀ (T040 : State) (lc040 : List Loc) (v0_39 : Int32) (hv0_39 : v0_39 = (if (p4 &&& (1 : Int32)) = (0 : Int32) then (p3.toUInt32.toUInt16.toUInt32.toInt32) else u0_36)) (X040 : Stand p l e room_1 (s.setVm vm0) m #[(.int p0), (.int p1), (.int p2), (.int p3), (.int p4)] below meth c T040 lc040 0 0) (e040 : T040.heap = h0) (N040 : Fr n0 lc040), W (T040.setTop (mkF m 37 #[.val (.int p0), .val (.int p1), .val (.int p2), .val (.int p3), .val (.int p4), .val (.int u0_1), .val (.ref r0c2), .val (.int u0_36), .val (.int u0_37), .unset, .unset, .unset, .unset] [(.int v0_39)])) := by
      intro T040 lc040 v0_39 hv0_39  X040 e040 N040
      show W (T040.setTop (mkF m 37 #[.val (.int p0), .val (.int p1), .val (.int p2), .val (.int p3), .val (.int p4), .val (.int u0_1), .val (.ref r0c2), .val (.int u0_36), .val (.int u0_37), .unset, .unset, .unset, .unset] [(.int v0_39)]))
      refine stp (fun t k => XS.istore X040.here hx rfl (hb hby at_37) rfl (l' := #[.val (.int p0), .val (.int p1), .val (.int p2), .val (.int p3), .val (.int p4), .val (.int u0_1), .val (.ref r0c2), .val (.int u0_36), .val (.int u0_37), .val (.int v0_39), .unset, .unset, .unset]) rfl k) ?_
      show W (T040.setTop (mkF m 39 #[.val (.int p0), .val (.int p1), .val (.int p2), .val (.int p3), .val (.int p4), .val (.int u0_1), .val (.ref r0c2), .val (.int u0_36), .val (.int u0_37), .val (.int v0_39), .unset, .unset, .unset] []))
      refine stp (fun t k => XS.iload X040.here hx rfl (hb hby at_39) rfl k) ?_
      show W (T040.setTop (mkF m 41 #[.val (.int p0), .val (.int p1), .val (.int p2), .val (.int p3), .val (.int p4), .val (.int u0_1), .val (.ref r0c2), .val (.int u0_36), .val (.int u0_37), .val (.int v0_39), .unset, .unset, .unset] [(.int u0_1)]))
      refine stp (fun t k => XS.iconst X040.here hx rfl (hb hby at_41) k) ?_
      show W (T040.setTop (mkF m 42 #[.val (.int p0), .val (.int p1), .val (.int p2), .val (.int p3), .val (.int p4), .val (.int u0_1), .val (.ref r0c2), .val (.int u0_36), .val (.int u0_37), .val (.int v0_39), .unset, .unset, .unset] [(.int (4 : Int32)), (.int u0_1)]))
      by_cases hc0_41 : u0_1 = (4 : Int32)
      · refine stp (fun t k => XS.icmpNo X040.here hx rfl (hb hby at_42) rfl ((teq hc0_41).2) k) ?_
        show W (T040.setTop (mkF m 45 #[.val (.int p0), .val (.int p1), .val (.int p2), .val (.int p3), .val (.int p4), .val (.int u0_1), .val (.ref r0c2), .val (.int u0_36), .val (.int u0_37), .val (.int v0_39), .unset, .unset, .unset] []))
        refine stp (fun t k => XS.iload X040.here hx rfl (hb hby at_45) rfl k) ?_
        show W (T040.setTop (mkF m 47 #[.val (.int p0), .val (.int p1), .val (.int p2), .val (.int p3), .val (.int p4), .val (.int u0_1), .val (.ref r0c2), .val (.int u0_36), .val (.int u0_37), .val (.int v0_39), .unset, .unset, .unset] [(.int p4)]))
        refine stp (fun t k => XS.iconst X040.here hx rfl (hb hby at_47) k) ?_
        show W (T040.setTop (mkF m 48 #[.val (.int p0), .val (.int p1), .val (.int p2), .val (.int p3), .val (.int p4), .val (.int u0_1), .val (.ref r0c2), .val (.int u0_36), .val (.int u0_37), .val (.int v0_39), .unset, .unset, .unset] [(.int (2 : Int32)), (.int p4)]))
        refine stp (fun t k => XS.iand X040.here hx rfl (hb hby at_48) rfl k) ?_
        show W (T040.setTop (mkF m 49 #[.val (.int p0), .val (.int p1), .val (.int p2), .val (.int p3), .val (.int p4), .val (.int u0_1), .val (.ref r0c2), .val (.int u0_36), .val (.int u0_37), .val (.int v0_39), .unset, .unset, .unset] [(.int (p4 &&& (2 : Int32)))]))
        by_cases hc0_42 : (p4 &&& (2 : Int32)) = (0 : Int32)
        · refine stp (fun t k => XS.ifYes X040.here hx rfl (pc0 := 49) (pc' := 59) rfl (hb hby at_49) rfl ((if0 _ _).trans (teq hc0_42).1) (by decide) (by decide) k) ?_
          show W (T040.setTop (mkF m 59 #[.val (.int p0), .val (.int p1), .val (.int p2), .val (.int p3), .val (.int p4), .val (.int u0_1), .val (.ref r0c2), .val (.int u0_36), .val (.int u0_37), .val (.int v0_39), .unset, .unset, .unset] []))
          refine stp (fun t k => XS.iload X040.here hx rfl (hb hby at_59) rfl k) ?_
          show W (T040.setTop (mkF m 61 #[.val (.int p0), .val (.int p1), .val (.int p2), .val (.int p3), .val (.int p4), .val (.int u0_1), .val (.ref r0c2), .val (.int u0_36), .val (.int u0_37), .val (.int v0_39), .unset, .unset, .unset] [(.int p4)]))
          refine stp (fun t k => XS.iconst X040.here hx rfl (hb hby at_61) k) ?_
          show W (T040.setTop (mkF m 62 #[.val (.int p0), .val (.int p1), .val (.int p2), .val (.int p3), .val (.int p4), .val (.int u0_1), .val (.ref r0c2), .val (.int u0_36), .val (.int u0_37), .val (.int v0_39), .unset, .unset, .unset] [(.int (4 : Int32)), (.int p4)]))
          refine stp (fun t k => XS.iand X040.here hx rfl (hb hby at_62) rfl k) ?_
          show W (T040.setTop (mkF m 63 #[.val (.int p0), .val (.int p1), .val (.int p2), .val (.int p3), .val (.int p4), .val (.int u0_1), .val (.ref r0c2), .val (.int u0_36), .val (.int u0_37), .val (.int v0_39), .unset, .unset, .unset] [(.int (p4 &&& (4 : Int32)))]))
          by_cases hc0_43 : (p4 &&& (4 : Int32)) = (0 : Int32)
          · refine stp (fun t k => XS.ifYes X040.here hx rfl (pc0 := 63) (pc' := 91) rfl (hb hby at_63) rfl ((if0 _ _).trans (teq hc0_43).1) (by decide) (by decide) k) ?_
            show W (T040.setTop (mkF m 91 #[.val (.int p0), .val (.int p1), .val (.int p2), .val (.int p3), .val (.int p4), .val (.int u0_1), .val (.ref r0c2), .val (.int u0_36), .val (.int u0_37), .val (.int v0_39), .unset, .unset, .unset] []))
            refine stp (fun t k => XS.iload X040.here hx rfl (hb hby at_91) rfl k) ?_
            show W (T040.setTop (mkF m 93 #[.val (.int p0), .val (.int p1), .val (.int p2), .val (.int p3), .val (.int p4), .val (.int u0_1), .val (.ref r0c2), .val (.int u0_36), .val (.int u0_37), .val (.int v0_39), .unset, .unset, .unset] [(.int u0_36)]))
            obtain ⟨_, _, ⟨T0c44, L0c44, k0c44, n0c44⟩, -, X0c44, ⟨Lc0c44, hQ0c44, l0c44, y0c44, z0c44⟩, st0c44⟩ := Jvm.LawKit.callS X040 hx (y := (⟨"java/lang/String", "valueOf", "(C)Ljava/lang/String;"⟩ : MethodName)) hown (mvT hZ (hw _ (List.mem_of_getElem? (i := 8) rfl))) (mvT hZ (hw _ (List.mem_of_getElem? (i := 9) rfl))) (mvT hZ (hw _ (List.mem_of_getElem? (i := 10) rfl))) (mvT hZ (hw _ (List.mem_of_getElem? (i := 11) rfl))) (by decide) (backOf (W := 0) (rmvo l Z aa hw [] u0_36 wc sx h0 n0 Z0 BW O0) hZ (hw _ (List.mem_of_getElem? (i := 11) rfl)) (hw _ (List.mem_of_getElem? (i := 10) rfl)) (by decide) (by decide)) (g := (mkF m 93 #[.val (.int p0), .val (.int p1), .val (.int p2), .val (.int p3), .val (.int p4), .val (.int u0_1), .val (.ref r0c2), .val (.int u0_36), .val (.int u0_37), .val (.int v0_39), .unset, .unset, .unset] [(.int u0_36)])) rfl (by rw [hml]; rfl) (argsL := [(.int u0_36)]) (rest := []) (lenOf pd0_1 rfl) rfl (by show 2 * 0 + _ ≤ _; exact Nat.le_of_eq rfl) (hb hby at_93) (fun _ _ => ⟨rfl, e040, (by decide : 0 + 2 ≤ _), (by decide : 0 + 6 ≤ _)⟩)
            dsimp only [Pt.U, Pt.locs, Pt.cells, Pt.slots] at X0c44 l0c44 y0c44 z0c44 st0c44 hQ0c44
            subst l0c44 y0c44 z0c44
            obtain ⟨a0c44, b0c44, rfl, N0c44q, Kq0c44, S_0c44⟩ := hQ0c44
            have N0c44 := Fr.app N040 N0c44q
            obtain ⟨lc0t45, X0c44, N0c44⟩ : ∃ lc, Stand p l e room_1 (s.setVm vm0) m #[(.int p0), (.int p1), (.int p2), (.int p3), (.int p4)] below meth c T0c44 lc 2 6 ∧ Fr n0 lc := ⟨_, X0c44, N0c44⟩
            obtain ⟨h0c44, e0c44⟩ : ∃ h, T0c44.heap = h := ⟨_, rfl⟩
            rw [e0c44] at Kq0c44 S_0c44
            replace CC := CC.keep Kq0c44 sf0
            have KK0c44 := Keep.trans (Keep.refl h0 []) Kq0c44 all0
            have Z0c44 := Nat.le_trans Z0 Kq0c44.1
            have O0c44 := O0.keep Kq0c44 all0
            refine stp (fun t k => st0c44 t k) ?_
            show W (T0c44.setTop (mkF m 96 #[.val (.int p0), .val (.int p1), .val (.int p2), .val (.int p3), .val (.int p4), .val (.int u0_1), .val (.ref r0c2), .val (.int u0_36), .val (.int u0_37), .val (.int v0_39), .unset, .unset, .unset] [(.ref a0c44)]))
            refine stp (fun t k => XS.astore X0c44.here hx rfl (hb hby at_96) rfl rfl (l' := #[.val (.int p0), .val (.int p1), .val (.int p2), .val (.int p3), .val (.int p4), .val (.int u0_1), .val (.ref r0c2), .val (.int u0_36), .val (.int u0_37), .val (.int v0_39), .val (.ref a0c44), .unset, .unset]) rfl k) ?_
            show W (T0c44.setTop (mkF m 98 #[.val (.int p0), .val (.int p1), .val (.int p2), .val (.int p3), .val (.int p4), .val (.int u0_1), .val (.ref r0c2), .val (.int u0_36), .val (.int u0_37), .val (.int v0_39), .val (.ref a0c44), .unset, .unset] []))
            obtain ⟨T046, h046, X046, e046, E046, A046, D046, -, st046⟩ := newO X0c44 hx hZ hown (hw _ (List.mem_of_getElem? (i := 34) rfl)) (hw _ (List.mem_of_getElem? (i := 35) rfl)) (hw _ (List.mem_of_getElem? (i := 36) rfl)) e0c44 (g := (mkF m 98 #[.val (.int p0), .val (.int p1), .val (.int p2), .val (.int p3), .val (.int p4), .val (.int u0_1), .val (.ref r0c2), .val (.int u0_36), .val (.int u0_37), .val (.int v0_39), .val (.ref a0c44), .unset, .unset] [])) rfl (hb hby at_98) (by decide) (by decide)
            obtain ⟨b046, gq046⟩ : ∃ z, z = h0c44.size := ⟨_, rfl⟩
            rw [← gq046] at A046 D046 st046
            replace CC := CC.ext E046
            have ne_a0c44_b046 : a0c44 ≠ b046 := Nat.ne_of_lt (Nat.lt_of_lt_of_le S_0c44.lt0 (Nat.le_of_eq gq046.symm))
            have ne_b0c44_b046 : b0c44 ≠ b046 := Nat.ne_of_lt (Nat.lt_of_lt_of_le S_0c44.lt1 (Nat.le_of_eq gq046.symm))
            have g_b046 : n0 ≤ b046 := Nat.le_trans Z0c44 (Nat.le_of_eq gq046.symm)
            have sz_b046 : h0.size ≤ b046 := Nat.le_trans KK0c44.1 (Nat.le_of_eq gq046.symm)
            replace S_0c44 := S_0c44.ext E046
            have K046 := KK0c44.ext E046
            have Z046 := Nat.le_trans Z0c44 E046.1
            have O046 := O0c44.ext E046
            have E_b046 := A046
            have F_kind_b046 : Fld Z h046 b046 "com/example/grant3/grant3/Lexer$Token" "kind" "Lcom/example/grant3/grant3/Lexer$Kind;" .null := D046 (Or.inr (hw _ (List.mem_of_getElem? (i := 47) rfl))) (ty := (.object "com/example/grant3/grant3/Lexer$Kind")) (by decide)
            have F_text_b046 : Fld Z h046 b046 "com/example/grant3/grant3/Lexer$Token" "text" "Ljava/lang/String;" .null := D046 (Or.inr (hw _ (List.mem_of_getElem? (i := 49) rfl))) (ty := (.object "java/lang/String")) (by decide)
            refine stp (fun t k => st046 t k) ?_
            show W (T046.setTop (mkF m 101 #[.val (.int p0), .val (.int p1), .val (.int p2), .val (.int p3), .val (.int p4), .val (.int u0_1), .val (.ref r0c2), .val (.int u0_36), .val (.int u0_37), .val (.int v0_39), .val (.ref a0c44), .unset, .unset] [(.ref b046)]))
            refine stp (fun t k => XS.dup X046.here hx rfl (hb hby at_101) rfl rfl k) ?_
            show W (T046.setTop (mkF m 102 #[.val (.int p0), .val (.int p1), .val (.int p2), .val (.int p3), .val (.int p4), .val (.int u0_1), .val (.ref r0c2), .val (.int u0_36), .val (.int u0_37), .val (.int v0_39), .val (.ref a0c44), .unset, .unset] [(.ref b046), (.ref b046)]))
            refine stp (fun t k => XS.aload X046.here hx rfl (hb hby at_102) rfl rfl k) ?_
            show W (T046.setTop (mkF m 104 #[.val (.int p0), .val (.int p1), .val (.int p2), .val (.int p3), .val (.int p4), .val (.int u0_1), .val (.ref r0c2), .val (.int u0_36), .val (.int u0_37), .val (.int v0_39), .val (.ref a0c44), .unset, .unset] [(.ref r0c2), (.ref b046), (.ref b046)]))
            refine stp (fun t k => XS.aload X046.here hx rfl (hb hby at_104) rfl rfl k) ?_
            show W (T046.setTop (mkF m 106 #[.val (.int p0), .val (.int p1), .val (.int p2), .val (.int p3), .val (.int p4), .val (.int u0_1), .val (.ref r0c2), .val (.int u0_36), .val (.int u0_37), .val (.int v0_39), .val (.ref a0c44), .unset, .unset] [(.ref a0c44), (.ref r0c2), (.ref b046), (.ref b046)]))
            obtain ⟨_, _, ⟨T0c47, L0c47, k0c47, n0c47⟩, -, X0c47, ⟨Lc0c47, hQ0c47, l0c47, y0c47, z0c47⟩, st0c47⟩ := X046.specialBack hx (y := (⟨"com/example/grant3/grant3/Lexer$Token", "<init>", "(Lcom/example/grant3/grant3/Lexer$Kind;Ljava/lang/String;)V"⟩ : MethodName)) rfl hown (mvT hZ (hw _ (List.mem_of_getElem? (i := 37) rfl))) (mvT hZ (hw _ (List.mem_of_getElem? (i := 38) rfl))) (mvT hZ (hw _ (List.mem_of_getElem? (i := 39) rfl))) (by decide) (backOf (W := 1) (rmtk l Z aa hw [] b046 r0c2 a0c44 wc sx h046 n0 Z046 BW O046 E_b046 F_kind_b046 F_text_b046 g_b046) hZ (hw _ (List.mem_of_getElem? (i := 39) rfl)) (hw _ (List.mem_of_getElem? (i := 36) rfl)) (by decide) (by decide)) (g := (mkF m 106 #[.val (.int p0), .val (.int p1), .val (.int p2), .val (.int p3), .val (.int p4), .val (.int u0_1), .val (.ref r0c2), .val (.int u0_36), .val (.int u0_37), .val (.int v0_39), .val (.ref a0c44), .unset, .unset] [(.ref a0c44), (.ref r0c2), (.ref b046), (.ref b046)])) rfl (by rw [hml]; rfl) (Steps.refl _) (a := b046) (argsL := [(.ref r0c2), (.ref a0c44)]) (rest := [(.ref b046)]) (lenOf pd0_2 rfl) rfl (by show 2 * 0 + _ ≤ _; exact Nat.le_of_eq rfl) (hb hby at_106) (fun _ _ => ⟨rfl, e046, (by decide : 3 + 0 ≤ _), (by decide : 8 + 0 ≤ _)⟩)
            dsimp only [Pt.U, Pt.locs, Pt.cells, Pt.slots] at X0c47 l0c47 y0c47 z0c47 st0c47 hQ0c47
            subst l0c47 y0c47 z0c47
            obtain ⟨rfl, N0c47q, Kq0c47, EE0c47, FK0c47, FT0c47⟩ := hQ0c47
            have N0c47 := Fr.app N0c44 N0c47q
            obtain ⟨lc0t48, X0c47, N0c47⟩ : ∃ lc, Stand p l e room_1 (s.setVm vm0) m #[(.int p0), (.int p1), (.int p2), (.int p3), (.int p4)] below meth c T0c47 lc 3 8 ∧ Fr n0 lc := ⟨_, X0c47, N0c47⟩
            obtain ⟨h0c47, e0c47⟩ : ∃ h, T0c47.heap = h := ⟨_, rfl⟩
            rw [e0c47] at Kq0c47 EE0c47 FK0c47 FT0c47
            have SF_b046 : Safe Z ownEL vm0 _ b046 := (Safe.exa hZ.alike E_b046 (by decide) (by decide))
            have SFk : ∀ x ∈ ([b046] : List Addr), Safe Z ownEL vm0 _ x := (sfS SF_b046 sf0)
            replace SF_b046 := Safe.keep Kq0c47 SFk CC.2.1 SF_b046
            replace CC := CC.keep Kq0c47 SFk
            clear SFk
            replace S_0c44 := S_0c44.keep Kq0c47 (ninS ne_a0c44_b046 nin0) (ninS ne_b0c44_b046 nin0)
            have KK0c47 := Keep.trans K046 Kq0c47 (allS (Or.inr sz_b046) all0)
            have Z0c47 := Nat.le_trans Z046 Kq0c47.1
            have O0c47 := O046.keep Kq0c47 (allS g_b046 all0)
            refine stp (fun t k => st0c47.trans k) ?_
            show W (T0c47.setTop (mkF m 109 #[.val (.int p0), .val (.int p1), .val (.int p2), .val (.int p3), .val (.int p4), .val (.int u0_1), .val (.ref r0c2), .val (.int u0_36), .val (.int u0_37), .val (.int v0_39), .val (.ref a0c44), .unset, .unset] [(.ref b046)]))
            refine stp (fun t k => XS.astore X0c47.here hx rfl (hb hby at_109) rfl rfl (l' := #[.val (.int p0), .val (.int p1), .val (.int p2), .val (.int p3), .val (.int p4), .val (.int u0_1), .val (.ref r0c2), .val (.int u0_36), .val (.int u0_37), .val (.int v0_39), .val (.ref a0c44), .val (.ref b046), .unset]) rfl k) ?_
            show W (T0c47.setTop (mkF m 111 #[.val (.int p0), .val (.int p1), .val (.int p2), .val (.int p3), .val (.int p4), .val (.int u0_1), .val (.ref r0c2), .val (.int u0_36), .val (.int u0_37), .val (.int v0_39), .val (.ref a0c44), .val (.ref b046), .unset] []))
            refine stp (fun t k => XS.iload X0c47.here hx rfl (hb hby at_111) rfl k) ?_
            show W (T0c47.setTop (mkF m 113 #[.val (.int p0), .val (.int p1), .val (.int p2), .val (.int p3), .val (.int p4), .val (.int u0_1), .val (.ref r0c2), .val (.int u0_36), .val (.int u0_37), .val (.int v0_39), .val (.ref a0c44), .val (.ref b046), .unset] [(.int u0_1)]))
            refine stp (fun t k => XS.iconst X0c47.here hx rfl (hb hby at_113) k) ?_
            show W (T0c47.setTop (mkF m 114 #[.val (.int p0), .val (.int p1), .val (.int p2), .val (.int p3), .val (.int p4), .val (.int u0_1), .val (.ref r0c2), .val (.int u0_36), .val (.int u0_37), .val (.int v0_39), .val (.ref a0c44), .val (.ref b046), .unset] [(.int (3 : Int32)), (.int u0_1)]))
            refine stp (fun t k => XS.icmpYes X0c47.here hx rfl (pc0 := 114) (pc' := 134) rfl (hb hby at_114) rfl ((feq (h3)).2) (by decide) (by decide) k) ?_
            show W (T0c47.setTop (mkF m 134 #[.val (.int p0), .val (.int p1), .val (.int p2), .val (.int p3), .val (.int p4), .val (.int u0_1), .val (.ref r0c2), .val (.int u0_36), .val (.int u0_37), .val (.int v0_39), .val (.ref a0c44), .val (.ref b046), .unset] []))
            refine stp (fun t k => XS.iconst X0c47.here hx rfl (hb hby at_134) k) ?_
            show W (T0c47.setTop (mkF m 135 #[.val (.int p0), .val (.int p1), .val (.int p2), .val (.int p3), .val (.int p4), .val (.int u0_1), .val (.ref r0c2), .val (.int u0_36), .val (.int u0_37), .val (.int v0_39), .val (.ref a0c44), .val (.ref b046), .unset] [(.int (0 : Int32))]))
            refine stp (fun t k => XS.istore X0c47.here hx rfl (hb hby at_135) rfl (l' := #[.val (.int p0), .val (.int p1), .val (.int p2), .val (.int p3), .val (.int p4), .val (.int u0_1), .val (.ref r0c2), .val (.int u0_36), .val (.int u0_37), .val (.int v0_39), .val (.ref a0c44), .val (.ref b046), .val (.int (0 : Int32))]) rfl k) ?_
            show W (T0c47.setTop (mkF m 137 #[.val (.int p0), .val (.int p1), .val (.int p2), .val (.int p3), .val (.int p4), .val (.int u0_1), .val (.ref r0c2), .val (.int u0_36), .val (.int u0_37), .val (.int v0_39), .val (.ref a0c44), .val (.ref b046), .val (.int (0 : Int32))] []))
            refine stp (fun t k => XS.aload X0c47.here hx rfl (hb hby at_137) rfl rfl k) ?_
            show W (T0c47.setTop (mkF m 139 #[.val (.int p0), .val (.int p1), .val (.int p2), .val (.int p3), .val (.int p4), .val (.int u0_1), .val (.ref r0c2), .val (.int u0_36), .val (.int u0_37), .val (.int v0_39), .val (.ref a0c44), .val (.ref b046), .val (.int (0 : Int32))] [(.ref b046)]))
            refine stp (fun t k => XS.iload X0c47.here hx rfl (hb hby at_139) rfl k) ?_
            show W (T0c47.setTop (mkF m 141 #[.val (.int p0), .val (.int p1), .val (.int p2), .val (.int p3), .val (.int p4), .val (.int u0_1), .val (.ref r0c2), .val (.int u0_36), .val (.int u0_37), .val (.int v0_39), .val (.ref a0c44), .val (.ref b046), .val (.int (0 : Int32))] [(.int v0_39), (.ref b046)]))
            obtain ⟨cq0c49, kq0c49, q0c49a, q0c49b, q0c49c⟩ := isOf hZ e0c47 EE0c47
            obtain ⟨_, _, ⟨T0c49, L0c49, k0c49, n0c49⟩, -, X0c49, ⟨Lc0c49, hQ0c49, l0c49, y0c49, z0c49⟩, st0c49⟩ := X0c47.virtualBack hx (y := (⟨"com/example/grant3/grant3/Lexer$Token", "isSymbol", "(C)Z"⟩ : MethodName)) (z := (⟨"com/example/grant3/grant3/Lexer$Token", "isSymbol", "(C)Z"⟩ : MethodName)) hown (mvT hZ (hw _ (List.mem_of_getElem? (i := 50) rfl))) (mvT hZ (hw _ (List.mem_of_getElem? (i := 51) rfl))) (notFace_of_selects (args := #[]) (mvT hZ (hw _ (List.mem_of_getElem? (i := 53) rfl)))) (mvT hZ (hw _ (List.mem_of_getElem? (i := 53) rfl))) (mvT hZ (hw _ (List.mem_of_getElem? (i := 52) rfl))) (by decide) (backOf (W := 0) (rmsn l Z aa hw [] b046 v0_39 wc sx kW kQ kS kY kE r0c2 h0c47 n0 Z0c47 BW O0c47 BK EE0c47 FK0c47 hr) hZ (hw _ (List.mem_of_getElem? (i := 54) rfl)) (hw _ (List.mem_of_getElem? (i := 36) rfl)) (by decide) (by decide)) q0c49a q0c49c (g := (mkF m 141 #[.val (.int p0), .val (.int p1), .val (.int p2), .val (.int p3), .val (.int p4), .val (.int u0_1), .val (.ref r0c2), .val (.int u0_36), .val (.int u0_37), .val (.int v0_39), .val (.ref a0c44), .val (.ref b046), .val (.int (0 : Int32))] [(.int v0_39), (.ref b046)])) rfl (by rw [hml]; rfl) (Steps.refl _) (argsL := [(.int v0_39)]) (rest := []) (lenOf pd0_3 rfl) rfl (by show 2 * 0 + _ ≤ _; exact Nat.le_of_eq rfl) (hb hby at_141) (fun _ _ => ⟨rfl, e0c47, (by decide : 3 + 0 ≤ _), (by decide : 8 + 0 ≤ _)⟩)
            dsimp only [Pt.U, Pt.locs, Pt.cells, Pt.slots] at X0c49 l0c49 y0c49 z0c49 st0c49 hQ0c49
            subst l0c49 y0c49 z0c49
            obtain ⟨rfl, N0c49q, e0c49⟩ := hQ0c49
            have N0c49 := Fr.app N0c47 N0c49q
            obtain ⟨lc0t50, X0c49, N0c49⟩ : ∃ lc, Stand p l e room_1 (s.setVm vm0) m #[(.int p0), (.int p1), (.int p2), (.int p3), (.int p4)] below meth c T0c49 lc 3 8 ∧ Fr n0 lc := ⟨_, X0c49, N0c49⟩
            refine stp (fun t k => st0c49.trans k) ?_
            show W (T0c49.setTop (mkF m 144 #[.val (.int p0), .val (.int p1), .val (.int p2), .val (.int p3), .val (.int p4), .val (.int u0_1), .val (.ref r0c2), .val (.int u0_36), .val (.int u0_37), .val (.int v0_39), .val (.ref a0c44), .val (.ref b046), .val (.int (0 : Int32))] [(.int (0 : Int32))]))
            refine stp (fun t k => XS.iload X0c49.here hx rfl (hb hby at_144) rfl k) ?_
            show W (T0c49.setTop (mkF m 146 #[.val (.int p0), .val (.int p1), .val (.int p2), .val (.int p3), .val (.int p4), .val (.int u0_1), .val (.ref r0c2), .val (.int u0_36), .val (.int u0_37), .val (.int v0_39), .val (.ref a0c44), .val (.ref b046), .val (.int (0 : Int32))] [(.int (0 : Int32)), (.int (0 : Int32))]))
            refine stp (fun t k => XS.icmpNo X0c49.here hx rfl (hb hby at_146) rfl ((teq (rfl)).2) k) ?_
            show W (T0c49.setTop (mkF m 149 #[.val (.int p0), .val (.int p1), .val (.int p2), .val (.int p3), .val (.int p4), .val (.int u0_1), .val (.ref r0c2), .val (.int u0_36), .val (.int u0_37), .val (.int v0_39), .val (.ref a0c44), .val (.ref b046), .val (.int (0 : Int32))] []))
            refine stp (fun t k => XS.iconst X0c49.here hx rfl (hb hby at_149) k) ?_
            show W (T0c49.setTop (mkF m 150 #[.val (.int p0), .val (.int p1), .val (.int p2), .val (.int p3), .val (.int p4), .val (.int u0_1), .val (.ref r0c2), .val (.int u0_36), .val (.int u0_37), .val (.int v0_39), .val (.ref a0c44), .val (.ref b046), .val (.int (0 : Int32))] [(.int (1 : Int32))]))
            refine stp (fun t k => XS.goto X0c49.here hx rfl (pc0 := 150) (pc' := 154) rfl (hb hby at_150) (by decide) (by decide) k) ?_
            show W (T0c49.setTop (mkF m 154 #[.val (.int p0), .val (.int p1), .val (.int p2), .val (.int p3), .val (.int p4), .val (.int u0_1), .val (.ref r0c2), .val (.int u0_36), .val (.int u0_37), .val (.int v0_39), .val (.ref a0c44), .val (.ref b046), .val (.int (0 : Int32))] [(.int (1 : Int32))]))
            show W (T0c49.setTop (mkF m 154 #[.val (.int p0), .val (.int p1), .val (.int p2), .val (.int p3), .val (.int p4), .val (.int u0_1), .val (.ref r0c2), .val (.int u0_36), .val (.int u0_37), .val (.int v0_39), .val (.ref a0c44), .val (.ref b046), .val (.int (0 : Int32))] [(.int (1 : Int32))]))
            rw [← hW]
            exact own_W hZ hEL CC (own_retN X0c49 hx Bd.notSynchronized Bd.returns (w := (1 : Int32)) (by simp) (hb hby at_154) rfl (by show Q0 Z p0 p1 p2 p3 p4 wc sx kW kQ kS kY kE h0 n0 _ T0c49.heap _ ∧ T0c49.heap = h0c47; rw [e0c49]; exact ⟨⟨rfl, N0c49⟩, rfl⟩) (by decide) (by decide))
          · refine stp (fun t k => XS.ifNo X040.here hx rfl (hb hby at_63) rfl ((if0 _ _).trans (feq hc0_43).1) k) ?_
            show W (T040.setTop (mkF m 66 #[.val (.int p0), .val (.int p1), .val (.int p2), .val (.int p3), .val (.int p4), .val (.int u0_1), .val (.ref r0c2), .val (.int u0_36), .val (.int u0_37), .val (.int v0_39), .unset, .unset, .unset] []))
            obtain ⟨T051, h051, X051, e051, E051, A051, D051, -, st051⟩ := newO X040 hx hZ hown (hw _ (List.mem_of_getElem? (i := 58) rfl)) (hw _ (List.mem_of_getElem? (i := 18) rfl)) (hw _ (List.mem_of_getElem? (i := 10) rfl)) e040 (g := (mkF m 66 #[.val (.int p0), .val (.int p1), .val (.int p2), .val (.int p3), .val (.int p4), .val (.int u0_1), .val (.ref r0c2), .val (.int u0_36), .val (.int u0_37), .val (.int v0_39), .unset, .unset, .unset] [])) rfl (hb hby at_66) (by decide) (by decide)
            obtain ⟨b051, gq051⟩ : ∃ z, z = h0.size := ⟨_, rfl⟩
            rw [← gq051] at A051 D051 st051
            replace CC := CC.ext E051
            have g_b051 : n0 ≤ b051 := Nat.le_trans Z0 (Nat.le_of_eq gq051.symm)
            have sz_b051 : h0.size ≤ b051 := Nat.le_trans (Keep.refl h0 []).1 (Nat.le_of_eq gq051.symm)
            have K051 := (Keep.refl h0 []).ext E051
            have Z051 := Nat.le_trans Z0 E051.1
            have O051 := O0.ext E051
            have E_b051 := A051
            have F_value_b051 : Fld Z h051 b051 "java/lang/String" "value" "[B" .null := D051 (Or.inr (hw _ (List.mem_of_getElem? (i := 31) rfl))) (ty := (.array .byte)) (by decide)
            have F_coder_b051 : Fld Z h051 b051 "java/lang/String" "coder" "B" (.int (0 : Int32)) := D051 (Or.inr (hw _ (List.mem_of_getElem? (i := 33) rfl))) (ty := .byte) (by decide)
            refine stp (fun t k => st051 t k) ?_
            show W (T051.setTop (mkF m 69 #[.val (.int p0), .val (.int p1), .val (.int p2), .val (.int p3), .val (.int p4), .val (.int u0_1), .val (.ref r0c2), .val (.int u0_36), .val (.int u0_37), .val (.int v0_39), .unset, .unset, .unset] [(.ref b051)]))
            refine stp (fun t k => XS.dup X051.here hx rfl (hb hby at_69) rfl rfl k) ?_
            show W (T051.setTop (mkF m 70 #[.val (.int p0), .val (.int p1), .val (.int p2), .val (.int p3), .val (.int p4), .val (.int u0_1), .val (.ref r0c2), .val (.int u0_36), .val (.int u0_37), .val (.int v0_39), .unset, .unset, .unset] [(.ref b051), (.ref b051)]))
            refine stp (fun t k => XS.iconst X051.here hx rfl (hb hby at_70) k) ?_
            show W (T051.setTop (mkF m 71 #[.val (.int p0), .val (.int p1), .val (.int p2), .val (.int p3), .val (.int p4), .val (.int u0_1), .val (.ref r0c2), .val (.int u0_36), .val (.int u0_37), .val (.int v0_39), .unset, .unset, .unset] [(.int (2 : Int32)), (.ref b051), (.ref b051)]))
            obtain ⟨T052, h052, k052, X052, e052, E052, A052, st052⟩ := newP X051 hx hZ (hw _ (List.mem_of_getElem? (i := 59) rfl)) e051 (g := (mkF m 71 #[.val (.int p0), .val (.int p1), .val (.int p2), .val (.int p3), .val (.int p4), .val (.int u0_1), .val (.ref r0c2), .val (.int u0_36), .val (.int u0_37), .val (.int v0_39), .unset, .unset, .unset] [(.int (2 : Int32)), (.ref b051), (.ref b051)])) rfl (hb hby at_71) rfl (by decide) (cap := 2) (by decide) (by decide) (by decide) (by decide)
            obtain ⟨b052, gq052⟩ : ∃ z, z = h051.size := ⟨_, rfl⟩
            rw [← gq052] at A052 st052
            replace CC := CC.ext E052
            have ne_b051_b052 : b051 ≠ b052 := Nat.ne_of_lt (Nat.lt_of_lt_of_le E_b051.lt (Nat.le_of_eq gq052.symm))
            have g_b052 : n0 ≤ b052 := Nat.le_trans Z051 (Nat.le_of_eq gq052.symm)
            have sz_b052 : h0.size ≤ b052 := Nat.le_trans K051.1 (Nat.le_of_eq gq052.symm)
            replace E_b051 := E_b051.ext E052
            replace F_value_b051 := F_value_b051.ext E052
            replace F_coder_b051 := F_coder_b051.ext E052
            have K052 := K051.ext E052
            have Z052 := Nat.le_trans Z051 E052.1
            have O052 := O051.ext E052
            have V_b052 : Arv Z h052 b052 k052 .char (2 : Int32) [(.int (0 : Int32)), (.int (0 : Int32))] (.int (0 : Int32)) := (Arv.new A052 (by decide)).pad (pad_rep [] (.int (0 : Int32)) 2)
            refine stp (fun t k => st052 t k) ?_
            show W (T052.setTop (mkF m 73 #[.val (.int p0), .val (.int p1), .val (.int p2), .val (.int p3), .val (.int p4), .val (.int u0_1), .val (.ref r0c2), .val (.int u0_36), .val (.int u0_37), .val (.int v0_39), .unset, .unset, .unset] [(.ref b052), (.ref b051), (.ref b051)]))
            refine stp (fun t k => XS.dup X052.here hx rfl (hb hby at_73) rfl rfl k) ?_
            show W (T052.setTop (mkF m 74 #[.val (.int p0), .val (.int p1), .val (.int p2), .val (.int p3), .val (.int p4), .val (.int u0_1), .val (.ref r0c2), .val (.int u0_36), .val (.int u0_37), .val (.int v0_39), .unset, .unset, .unset] [(.ref b052), (.ref b052), (.ref b051), (.ref b051)]))
            refine stp (fun t k => XS.iconst X052.here hx rfl (hb hby at_74) k) ?_
            show W (T052.setTop (mkF m 75 #[.val (.int p0), .val (.int p1), .val (.int p2), .val (.int p3), .val (.int p4), .val (.int u0_1), .val (.ref r0c2), .val (.int u0_36), .val (.int u0_37), .val (.int v0_39), .unset, .unset, .unset] [(.int (0 : Int32)), (.ref b052), (.ref b052), (.ref b051), (.ref b051)]))
            refine stp (fun t k => XS.iload X052.here hx rfl (hb hby at_75) rfl k) ?_
            show W (T052.setTop (mkF m 77 #[.val (.int p0), .val (.int p1), .val (.int p2), .val (.int p3), .val (.int p4), .val (.int u0_1), .val (.ref r0c2), .val (.int u0_36), .val (.int u0_37), .val (.int v0_39), .unset, .unset, .unset] [(.int u0_36), (.int (0 : Int32)), (.ref b052), (.ref b052), (.ref b051), (.ref b051)]))
            obtain ⟨cl053, Ar053, qk053, qs053, qn053, qh053, qg053⟩ := id V_b052
            have hin053 : ¬ ((0 : Int32) < 0 ∨ cl053.slots.size ≤ ((0 : Int32)).toNatClampNeg) := inb_of qs053 ⟨by decide, by decide⟩
            obtain ⟨T053, h053, X053, e053, W053, st053⟩ := stC X052 hx hZ e052 Ar053 (j := (0 : Int32)) hin053 (g := (mkF m 77 #[.val (.int p0), .val (.int p1), .val (.int p2), .val (.int p3), .val (.int p4), .val (.int u0_1), .val (.ref r0c2), .val (.int u0_36), .val (.int u0_37), .val (.int v0_39), .unset, .unset, .unset] [(.int u0_36), (.int (0 : Int32)), (.ref b052), (.ref b052), (.ref b051), (.ref b051)])) rfl rfl (hb hby at_77)
            have V_b052x := Arv.set Ar053 qk053 qs053 qn053 qh053 qg053 (fits_nar_char _) W053 0 rfl (Nat.le_of_ble_eq_true rfl)
            have N053 := Fr.snoc X053 N040 g_b052
            obtain ⟨lc0t54, X053, N053⟩ : ∃ lc, Stand p l e room_1 (s.setVm vm0) m #[(.int p0), (.int p1), (.int p2), (.int p3), (.int p4)] below meth c T053 lc 2 6 ∧ Fr n0 lc := ⟨_, X053, N053⟩
            have SFw : Safe Z ownEL vm0 _ b052 := (Safe.arv hZ.alike V_b052 (by decide))
            replace CC := CC.wr W053 SFw
            clear SFw
            replace E_b051 := E_b051.wr W053
            replace F_value_b051 := F_value_b051.other W053 (Or.inl ne_b051_b052)
            replace F_coder_b051 := F_coder_b051.other W053 (Or.inl ne_b051_b052)
            have K053 := K052.wr W053 (Or.inr sz_b052)
            have Z053 := Nat.le_trans Z052 (Keep.of_wr W053).1
            have O053 := O052.wr W053 g_b052
            replace V_b052 : Arv Z h053 b052 k052 .char (2 : Int32) [(.int (nar .char u0_36)), (.int (0 : Int32))] (.int (0 : Int32)) := V_b052x
            refine stp (fun t k => st053 t k) ?_
            show W (T053.setTop (mkF m 78 #[.val (.int p0), .val (.int p1), .val (.int p2), .val (.int p3), .val (.int p4), .val (.int u0_1), .val (.ref r0c2), .val (.int u0_36), .val (.int u0_37), .val (.int v0_39), .unset, .unset, .unset] [(.ref b052), (.ref b051), (.ref b051)]))
            refine stp (fun t k => XS.dup X053.here hx rfl (hb hby at_78) rfl rfl k) ?_
            show W (T053.setTop (mkF m 79 #[.val (.int p0), .val (.int p1), .val (.int p2), .val (.int p3), .val (.int p4), .val (.int u0_1), .val (.ref r0c2), .val (.int u0_36), .val (.int u0_37), .val (.int v0_39), .unset, .unset, .unset] [(.ref b052), (.ref b052), (.ref b051), (.ref b051)]))
            refine stp (fun t k => XS.iconst X053.here hx rfl (hb hby at_79) k) ?_
            show W (T053.setTop (mkF m 80 #[.val (.int p0), .val (.int p1), .val (.int p2), .val (.int p3), .val (.int p4), .val (.int u0_1), .val (.ref r0c2), .val (.int u0_36), .val (.int u0_37), .val (.int v0_39), .unset, .unset, .unset] [(.int (1 : Int32)), (.ref b052), (.ref b052), (.ref b051), (.ref b051)]))
            refine stp (fun t k => XS.iload X053.here hx rfl (hb hby at_80) rfl k) ?_
            show W (T053.setTop (mkF m 82 #[.val (.int p0), .val (.int p1), .val (.int p2), .val (.int p3), .val (.int p4), .val (.int u0_1), .val (.ref r0c2), .val (.int u0_36), .val (.int u0_37), .val (.int v0_39), .unset, .unset, .unset] [(.int u0_37), (.int (1 : Int32)), (.ref b052), (.ref b052), (.ref b051), (.ref b051)]))
            obtain ⟨cl055, Ar055, qk055, qs055, qn055, qh055, qg055⟩ := id V_b052
            have hin055 : ¬ ((1 : Int32) < 0 ∨ cl055.slots.size ≤ ((1 : Int32)).toNatClampNeg) := inb_of qs055 ⟨by decide, by decide⟩
            obtain ⟨T055, h055, X055, e055, W055, st055⟩ := stC X053 hx hZ e053 Ar055 (j := (1 : Int32)) hin055 (g := (mkF m 82 #[.val (.int p0), .val (.int p1), .val (.int p2), .val (.int p3), .val (.int p4), .val (.int u0_1), .val (.ref r0c2), .val (.int u0_36), .val (.int u0_37), .val (.int v0_39), .unset, .unset, .unset] [(.int u0_37), (.int (1 : Int32)), (.ref b052), (.ref b052), (.ref b051), (.ref b051)])) rfl rfl (hb hby at_82)
            have V_b052x := Arv.set Ar055 qk055 qs055 qn055 qh055 qg055 (fits_nar_char _) W055 1 rfl (Nat.le_of_ble_eq_true rfl)
            have N055 := Fr.snoc X055 N053 g_b052
            obtain ⟨lc0t56, X055, N055⟩ : ∃ lc, Stand p l e room_1 (s.setVm vm0) m #[(.int p0), (.int p1), (.int p2), (.int p3), (.int p4)] below meth c T055 lc 2 6 ∧ Fr n0 lc := ⟨_, X055, N055⟩
            have SFw : Safe Z ownEL vm0 _ b052 := (Safe.arv hZ.alike V_b052 (by decide))
            replace CC := CC.wr W055 SFw
            clear SFw
            replace E_b051 := E_b051.wr W055
            replace F_value_b051 := F_value_b051.other W055 (Or.inl ne_b051_b052)
            replace F_coder_b051 := F_coder_b051.other W055 (Or.inl ne_b051_b052)
            have K055 := K053.wr W055 (Or.inr sz_b052)
            have Z055 := Nat.le_trans Z053 (Keep.of_wr W055).1
            have O055 := O053.wr W055 g_b052
            replace V_b052 : Arv Z h055 b052 k052 .char (2 : Int32) [(.int (nar .char u0_36)), (.int (nar .char u0_37))] (.int (0 : Int32)) := V_b052x
            refine stp (fun t k => st055 t k) ?_
            show W (T055.setTop (mkF m 83 #[.val (.int p0), .val (.int p1), .val (.int p2), .val (.int p3), .val (.int p4), .val (.int u0_1), .val (.ref r0c2), .val (.int u0_36), .val (.int u0_37), .val (.int v0_39), .unset, .unset, .unset] [(.ref b052), (.ref b051), (.ref b051)]))
            have V1_b052 : Arv Z h055 b052 k052 .char (Int32.ofNat 2) (own_vs 2 (own_g2 u0_36 u0_37)) (.int (0 : Int32)) := V_b052
            obtain ⟨_, _, ⟨T0c57, L0c57, k0c57, n0c57⟩, -, X0c57, ⟨Lc0c57, hQ0c57, l0c57, y0c57, z0c57⟩, st0c57⟩ := X055.specialBack hx (y := (⟨"java/lang/String", "<init>", "([C)V"⟩ : MethodName)) rfl hown (mvT hZ (hw _ (List.mem_of_getElem? (i := 60) rfl))) (mvT hZ (hw _ (List.mem_of_getElem? (i := 61) rfl))) (mvT hZ (hw _ (List.mem_of_getElem? (i := 62) rfl))) (by decide) (backOf (W := 1) (rmi1 l Z aa hw [] b051 b052 wc sx 2 (own_g2 u0_36 u0_37) k052 h055 n0 Z055 BW O055 (by decide) (own_g2R u0_36 u0_37 2 (by decide)) E_b051 F_value_b051 F_coder_b051 g_b051 V1_b052 ne_b051_b052 (by decide)) hZ (hw _ (List.mem_of_getElem? (i := 62) rfl)) (hw _ (List.mem_of_getElem? (i := 10) rfl)) (by decide) (by decide)) (g := (mkF m 83 #[.val (.int p0), .val (.int p1), .val (.int p2), .val (.int p3), .val (.int p4), .val (.int u0_1), .val (.ref r0c2), .val (.int u0_36), .val (.int u0_37), .val (.int v0_39), .unset, .unset, .unset] [(.ref b052), (.ref b051), (.ref b051)])) rfl (by rw [hml]; rfl) (Steps.refl _) (a := b051) (argsL := [(.ref b052)]) (rest := [(.ref b051)]) (lenOf pd0_4 rfl) rfl (by show 2 * 0 + _ ≤ _; exact Nat.le_of_eq rfl) (hb hby at_83) (fun _ _ => ⟨rfl, e055, (by decide : 2 + 2 ≤ _), (by decide : 6 + 6 ≤ _)⟩)
            dsimp only [Pt.U, Pt.locs, Pt.cells, Pt.slots] at X0c57 l0c57 y0c57 z0c57 st0c57 hQ0c57
            subst l0c57 y0c57 z0c57
            obtain ⟨rfl, N0c57q, Kq0c57, b0c57, sz_b0c57, S_0c57⟩ := hQ0c57
            have N0c57 := Fr.app N055 N0c57q
            obtain ⟨lc0t58, X0c57, N0c57⟩ : ∃ lc, Stand p l e room_1 (s.setVm vm0) m #[(.int p0), (.int p1), (.int p2), (.int p3), (.int p4)] below meth c T0c57 lc 4 12 ∧ Fr n0 lc := ⟨_, X0c57, N0c57⟩
            obtain ⟨h0c57, e0c57⟩ : ∃ h, T0c57.heap = h := ⟨_, rfl⟩
            rw [e0c57] at Kq0c57 S_0c57
            have ne_b051_b0c57 : b051 ≠ b0c57 := Nat.ne_of_lt (Nat.lt_of_lt_of_le E_b051.lt sz_b0c57)
            have ne_b052_b0c57 : b052 ≠ b0c57 := Nat.ne_of_lt (Nat.lt_of_lt_of_le V_b052.lt sz_b0c57)
            have g_b0c57 : n0 ≤ b0c57 := Nat.le_trans Z055 sz_b0c57
            have SF_b051 : Safe Z ownEL vm0 _ b051 := (own_safeNull hZ.alike E_b051 F_value_b051)
            have SFk : ∀ x ∈ ([b051] : List Addr), Safe Z ownEL vm0 _ x := (sfS SF_b051 sf0)
            replace SF_b051 := Safe.keep Kq0c57 SFk CC.2.1 SF_b051
            replace CC := CC.keep Kq0c57 SFk
            clear SFk
            replace V_b052 := V_b052.keep Kq0c57 (ninS (Ne.symm ne_b051_b052) nin0)
            have KK0c57 := Keep.trans K055 Kq0c57 (allS (Or.inr sz_b051) all0)
            have Z0c57 := Nat.le_trans Z055 Kq0c57.1
            have O0c57 := O055.keep Kq0c57 (allS g_b051 all0)
            refine stp (fun t k => st0c57.trans k) ?_
            show W (T0c57.setTop (mkF m 86 #[.val (.int p0), .val (.int p1), .val (.int p2), .val (.int p3), .val (.int p4), .val (.int u0_1), .val (.ref r0c2), .val (.int u0_36), .val (.int u0_37), .val (.int v0_39), .unset, .unset, .unset] [(.ref b051)]))
            refine stp (fun t k => XS.astore X0c57.here hx rfl (hb hby at_86) rfl rfl (l' := #[.val (.int p0), .val (.int p1), .val (.int p2), .val (.int p3), .val (.int p4), .val (.int u0_1), .val (.ref r0c2), .val (.int u0_36), .val (.int u0_37), .val (.int v0_39), .val (.ref b051), .unset, .unset]) rfl k) ?_
            show W (T0c57.setTop (mkF m 88 #[.val (.int p0), .val (.int p1), .val (.int p2), .val (.int p3), .val (.int p4), .val (.int u0_1), .val (.ref r0c2), .val (.int u0_36), .val (.int u0_37), .val (.int v0_39), .val (.ref b051), .unset, .unset] []))
            refine stp (fun t k => XS.goto X0c57.here hx rfl (pc0 := 88) (pc' := 98) rfl (hb hby at_88) (by decide) (by decide) k) ?_
            show W (T0c57.setTop (mkF m 98 #[.val (.int p0), .val (.int p1), .val (.int p2), .val (.int p3), .val (.int p4), .val (.int u0_1), .val (.ref r0c2), .val (.int u0_36), .val (.int u0_37), .val (.int v0_39), .val (.ref b051), .unset, .unset] []))
            obtain ⟨T059, h059, X059, e059, E059, A059, D059, -, st059⟩ := newO X0c57 hx hZ hown (hw _ (List.mem_of_getElem? (i := 34) rfl)) (hw _ (List.mem_of_getElem? (i := 35) rfl)) (hw _ (List.mem_of_getElem? (i := 36) rfl)) e0c57 (g := (mkF m 98 #[.val (.int p0), .val (.int p1), .val (.int p2), .val (.int p3), .val (.int p4), .val (.int u0_1), .val (.ref r0c2), .val (.int u0_36), .val (.int u0_37), .val (.int v0_39), .val (.ref b051), .unset, .unset] [])) rfl (hb hby at_98) (by decide) (by decide)
            obtain ⟨b059, gq059⟩ : ∃ z, z = h0c57.size := ⟨_, rfl⟩
            rw [← gq059] at A059 D059 st059
            replace CC := CC.ext E059
            have ne_b051_b059 : b051 ≠ b059 := Nat.ne_of_lt (Nat.lt_of_lt_of_le S_0c57.lt0 (Nat.le_of_eq gq059.symm))
            have ne_b052_b059 : b052 ≠ b059 := Nat.ne_of_lt (Nat.lt_of_lt_of_le V_b052.lt (Nat.le_of_eq gq059.symm))
            have ne_b0c57_b059 : b0c57 ≠ b059 := Nat.ne_of_lt (Nat.lt_of_lt_of_le S_0c57.lt1 (Nat.le_of_eq gq059.symm))
            have g_b059 : n0 ≤ b059 := Nat.le_trans Z0c57 (Nat.le_of_eq gq059.symm)
            have sz_b059 : h0.size ≤ b059 := Nat.le_trans KK0c57.1 (Nat.le_of_eq gq059.symm)
            replace V_b052 := V_b052.ext E059
            replace S_0c57 := S_0c57.ext E059
            have K059 := KK0c57.ext E059
            have Z059 := Nat.le_trans Z0c57 E059.1
            have O059 := O0c57.ext E059
            have E_b059 := A059
            have F_kind_b059 : Fld Z h059 b059 "com/example/grant3/grant3/Lexer$Token" "kind" "Lcom/example/grant3/grant3/Lexer$Kind;" .null := D059 (Or.inr (hw _ (List.mem_of_getElem? (i := 47) rfl))) (ty := (.object "com/example/grant3/grant3/Lexer$Kind")) (by decide)
            have F_text_b059 : Fld Z h059 b059 "com/example/grant3/grant3/Lexer$Token" "text" "Ljava/lang/String;" .null := D059 (Or.inr (hw _ (List.mem_of_getElem? (i := 49) rfl))) (ty := (.object "java/lang/String")) (by decide)
            refine stp (fun t k => st059 t k) ?_
            show W (T059.setTop (mkF m 101 #[.val (.int p0), .val (.int p1), .val (.int p2), .val (.int p3), .val (.int p4), .val (.int u0_1), .val (.ref r0c2), .val (.int u0_36), .val (.int u0_37), .val (.int v0_39), .val (.ref b051), .unset, .unset] [(.ref b059)]))
            refine stp (fun t k => XS.dup X059.here hx rfl (hb hby at_101) rfl rfl k) ?_
            show W (T059.setTop (mkF m 102 #[.val (.int p0), .val (.int p1), .val (.int p2), .val (.int p3), .val (.int p4), .val (.int u0_1), .val (.ref r0c2), .val (.int u0_36), .val (.int u0_37), .val (.int v0_39), .val (.ref b051), .unset, .unset] [(.ref b059), (.ref b059)]))
            refine stp (fun t k => XS.aload X059.here hx rfl (hb hby at_102) rfl rfl k) ?_
            show W (T059.setTop (mkF m 104 #[.val (.int p0), .val (.int p1), .val (.int p2), .val (.int p3), .val (.int p4), .val (.int u0_1), .val (.ref r0c2), .val (.int u0_36), .val (.int u0_37), .val (.int v0_39), .val (.ref b051), .unset, .unset] [(.ref r0c2), (.ref b059), (.ref b059)]))
            refine stp (fun t k => XS.aload X059.here hx rfl (hb hby at_104) rfl rfl k) ?_
            show W (T059.setTop (mkF m 106 #[.val (.int p0), .val (.int p1), .val (.int p2), .val (.int p3), .val (.int p4), .val (.int u0_1), .val (.ref r0c2), .val (.int u0_36), .val (.int u0_37), .val (.int v0_39), .val (.ref b051), .unset, .unset] [(.ref b051), (.ref r0c2), (.ref b059), (.ref b059)]))
            obtain ⟨_, _, ⟨T0c60, L0c60, k0c60, n0c60⟩, -, X0c60, ⟨Lc0c60, hQ0c60, l0c60, y0c60, z0c60⟩, st0c60⟩ := X059.specialBack hx (y := (⟨"com/example/grant3/grant3/Lexer$Token", "<init>", "(Lcom/example/grant3/grant3/Lexer$Kind;Ljava/lang/String;)V"⟩ : MethodName)) rfl hown (mvT hZ (hw _ (List.mem_of_getElem? (i := 37) rfl))) (mvT hZ (hw _ (List.mem_of_getElem? (i := 38) rfl))) (mvT hZ (hw _ (List.mem_of_getElem? (i := 39) rfl))) (by decide) (backOf (W := 1) (rmtk l Z aa hw [] b059 r0c2 b051 wc sx h059 n0 Z059 BW O059 E_b059 F_kind_b059 F_text_b059 g_b059) hZ (hw _ (List.mem_of_getElem? (i := 39) rfl)) (hw _ (List.mem_of_getElem? (i := 36) rfl)) (by decide) (by decide)) (g := (mkF m 106 #[.val (.int p0), .val (.int p1), .val (.int p2), .val (.int p3), .val (.int p4), .val (.int u0_1), .val (.ref r0c2), .val (.int u0_36), .val (.int u0_37), .val (.int v0_39), .val (.ref b051), .unset, .unset] [(.ref b051), (.ref r0c2), (.ref b059), (.ref b059)])) rfl (by rw [hml]; rfl) (Steps.refl _) (a := b059) (argsL := [(.ref r0c2), (.ref b051)]) (rest := [(.ref b059)]) (lenOf pd0_2 rfl) rfl (by show 2 * 0 + _ ≤ _; exact Nat.le_of_eq rfl) (hb hby at_106) (fun _ _ => ⟨rfl, e059, (by decide : 5 + 0 ≤ _), (by decide : 14 + 0 ≤ _)⟩)
            dsimp only [Pt.U, Pt.locs, Pt.cells, Pt.slots] at X0c60 l0c60 y0c60 z0c60 st0c60 hQ0c60
            subst l0c60 y0c60 z0c60
            obtain ⟨rfl, N0c60q, Kq0c60, EE0c60, FK0c60, FT0c60⟩ := hQ0c60
            have N0c60 := Fr.app N0c57 N0c60q
            obtain ⟨lc0t61, X0c60, N0c60⟩ : ∃ lc, Stand p l e room_1 (s.setVm vm0) m #[(.int p0), (.int p1), (.int p2), (.int p3), (.int p4)] below meth c T0c60 lc 5 14 ∧ Fr n0 lc := ⟨_, X0c60, N0c60⟩
            obtain ⟨h0c60, e0c60⟩ : ∃ h, T0c60.heap = h := ⟨_, rfl⟩
            rw [e0c60] at Kq0c60 EE0c60 FK0c60 FT0c60
            have SF_b059 : Safe Z ownEL vm0 _ b059 := (Safe.exa hZ.alike E_b059 (by decide) (by decide))
            have SFk : ∀ x ∈ ([b059] : List Addr), Safe Z ownEL vm0 _ x := (sfS SF_b059 sf0)
            replace SF_b059 := Safe.keep Kq0c60 SFk CC.2.1 SF_b059
            replace CC := CC.keep Kq0c60 SFk
            clear SFk
            replace V_b052 := V_b052.keep Kq0c60 (ninS ne_b052_b059 nin0)
            replace S_0c57 := S_0c57.keep Kq0c60 (ninS ne_b051_b059 nin0) (ninS ne_b0c57_b059 nin0)
            have KK0c60 := Keep.trans K059 Kq0c60 (allS (Or.inr sz_b059) all0)
            have Z0c60 := Nat.le_trans Z059 Kq0c60.1
            have O0c60 := O059.keep Kq0c60 (allS g_b059 all0)
            refine stp (fun t k => st0c60.trans k) ?_
            show W (T0c60.setTop (mkF m 109 #[.val (.int p0), .val (.int p1), .val (.int p2), .val (.int p3), .val (.int p4), .val (.int u0_1), .val (.ref r0c2), .val (.int u0_36), .val (.int u0_37), .val (.int v0_39), .val (.ref b051), .unset, .unset] [(.ref b059)]))
            refine stp (fun t k => XS.astore X0c60.here hx rfl (hb hby at_109) rfl rfl (l' := #[.val (.int p0), .val (.int p1), .val (.int p2), .val (.int p3), .val (.int p4), .val (.int u0_1), .val (.ref r0c2), .val (.int u0_36), .val (.int u0_37), .val (.int v0_39), .val (.ref b051), .val (.ref b059), .unset]) rfl k) ?_
            show W (T0c60.setTop (mkF m 111 #[.val (.int p0), .val (.int p1), .val (.int p2), .val (.int p3), .val (.int p4), .val (.int u0_1), .val (.ref r0c2), .val (.int u0_36), .val (.int u0_37), .val (.int v0_39), .val (.ref b051), .val (.ref b059), .unset] []))
            refine stp (fun t k => XS.iload X0c60.here hx rfl (hb hby at_111) rfl k) ?_
            show W (T0c60.setTop (mkF m 113 #[.val (.int p0), .val (.int p1), .val (.int p2), .val (.int p3), .val (.int p4), .val (.int u0_1), .val (.ref r0c2), .val (.int u0_36), .val (.int u0_37), .val (.int v0_39), .val (.ref b051), .val (.ref b059), .unset] [(.int u0_1)]))
            refine stp (fun t k => XS.iconst X0c60.here hx rfl (hb hby at_113) k) ?_
            show W (T0c60.setTop (mkF m 114 #[.val (.int p0), .val (.int p1), .val (.int p2), .val (.int p3), .val (.int p4), .val (.int u0_1), .val (.ref r0c2), .val (.int u0_36), .val (.int u0_37), .val (.int v0_39), .val (.ref b051), .val (.ref b059), .unset] [(.int (3 : Int32)), (.int u0_1)]))
            refine stp (fun t k => XS.icmpYes X0c60.here hx rfl (pc0 := 114) (pc' := 134) rfl (hb hby at_114) rfl ((feq (h3)).2) (by decide) (by decide) k) ?_
            show W (T0c60.setTop (mkF m 134 #[.val (.int p0), .val (.int p1), .val (.int p2), .val (.int p3), .val (.int p4), .val (.int u0_1), .val (.ref r0c2), .val (.int u0_36), .val (.int u0_37), .val (.int v0_39), .val (.ref b051), .val (.ref b059), .unset] []))
            refine stp (fun t k => XS.iconst X0c60.here hx rfl (hb hby at_134) k) ?_
            show W (T0c60.setTop (mkF m 135 #[.val (.int p0), .val (.int p1), .val (.int p2), .val (.int p3), .val (.int p4), .val (.int u0_1), .val (.ref r0c2), .val (.int u0_36), .val (.int u0_37), .val (.int v0_39), .val (.ref b051), .val (.ref b059), .unset] [(.int (0 : Int32))]))
            refine stp (fun t k => XS.istore X0c60.here hx rfl (hb hby at_135) rfl (l' := #[.val (.int p0), .val (.int p1), .val (.int p2), .val (.int p3), .val (.int p4), .val (.int u0_1), .val (.ref r0c2), .val (.int u0_36), .val (.int u0_37), .val (.int v0_39), .val (.ref b051), .val (.ref b059), .val (.int (0 : Int32))]) rfl k) ?_
            show W (T0c60.setTop (mkF m 137 #[.val (.int p0), .val (.int p1), .val (.int p2), .val (.int p3), .val (.int p4), .val (.int u0_1), .val (.ref r0c2), .val (.int u0_36), .val (.int u0_37), .val (.int v0_39), .val (.ref b051), .val (.ref b059), .val (.int (0 : Int32))] []))
            refine stp (fun t k => XS.aload X0c60.here hx rfl (hb hby at_137) rfl rfl k) ?_
            show W (T0c60.setTop (mkF m 139 #[.val (.int p0), .val (.int p1), .val (.int p2), .val (.int p3), .val (.int p4), .val (.int u0_1), .val (.ref r0c2), .val (.int u0_36), .val (.int u0_37), .val (.int v0_39), .val (.ref b051), .val (.ref b059), .val (.int (0 : Int32))] [(.ref b059)]))
            refine stp (fun t k => XS.iload X0c60.here hx rfl (hb hby at_139) rfl k) ?_
            show W (T0c60.setTop (mkF m 141 #[.val (.int p0), .val (.int p1), .val (.int p2), .val (.int p3), .val (.int p4), .val (.int u0_1), .val (.ref r0c2), .val (.int u0_36), .val (.int u0_37), .val (.int v0_39), .val (.ref b051), .val (.ref b059), .val (.int (0 : Int32))] [(.int v0_39), (.ref b059)]))
            obtain ⟨cq0c62, kq0c62, q0c62a, q0c62b, q0c62c⟩ := isOf hZ e0c60 EE0c60
            obtain ⟨_, _, ⟨T0c62, L0c62, k0c62, n0c62⟩, -, X0c62, ⟨Lc0c62, hQ0c62, l0c62, y0c62, z0c62⟩, st0c62⟩ := X0c60.virtualBack hx (y := (⟨"com/example/grant3/grant3/Lexer$Token", "isSymbol", "(C)Z"⟩ : MethodName)) (z := (⟨"com/example/grant3/grant3/Lexer$Token", "isSymbol", "(C)Z"⟩ : MethodName)) hown (mvT hZ (hw _ (List.mem_of_getElem? (i := 50) rfl))) (mvT hZ (hw _ (List.mem_of_getElem? (i := 51) rfl))) (notFace_of_selects (args := #[]) (mvT hZ (hw _ (List.mem_of_getElem? (i := 53) rfl)))) (mvT hZ (hw _ (List.mem_of_getElem? (i := 53) rfl))) (mvT hZ (hw _ (List.mem_of_getElem? (i := 52) rfl))) (by decide) (backOf (W := 0) (rmsn l Z aa hw [] b059 v0_39 wc sx kW kQ kS kY kE r0c2 h0c60 n0 Z0c60 BW O0c60 BK EE0c60 FK0c60 hr) hZ (hw _ (List.mem_of_getElem? (i := 54) rfl)) (hw _ (List.mem_of_getElem? (i := 36) rfl)) (by decide) (by decide)) q0c62a q0c62c (g := (mkF m 141 #[.val (.int p0), .val (.int p1), .val (.int p2), .val (.int p3), .val (.int p4), .val (.int u0_1), .val (.ref r0c2), .val (.int u0_36), .val (.int u0_37), .val (.int v0_39), .val (.ref b051), .val (.ref b059), .val (.int (0 : Int32))] [(.int v0_39), (.ref b059)])) rfl (by rw [hml]; rfl) (Steps.refl _) (argsL := [(.int v0_39)]) (rest := []) (lenOf pd0_3 rfl) rfl (by show 2 * 0 + _ ≤ _; exact Nat.le_of_eq rfl) (hb hby at_141) (fun _ _ => ⟨rfl, e0c60, (by decide : 5 + 0 ≤ _), (by decide : 14 + 0 ≤ _)⟩)
            dsimp only [Pt.U, Pt.locs, Pt.cells, Pt.slots] at X0c62 l0c62 y0c62 z0c62 st0c62 hQ0c62
            subst l0c62 y0c62 z0c62
            obtain ⟨rfl, N0c62q, e0c62⟩ := hQ0c62
            have N0c62 := Fr.app N0c60 N0c62q
            obtain ⟨lc0t63, X0c62, N0c62⟩ : ∃ lc, Stand p l e room_1 (s.setVm vm0) m #[(.int p0), (.int p1), (.int p2), (.int p3), (.int p4)] below meth c T0c62 lc 5 14 ∧ Fr n0 lc := ⟨_, X0c62, N0c62⟩
            refine stp (fun t k => st0c62.trans k) ?_
            show W (T0c62.setTop (mkF m 144 #[.val (.int p0), .val (.int p1), .val (.int p2), .val (.int p3), .val (.int p4), .val (.int u0_1), .val (.ref r0c2), .val (.int u0_36), .val (.int u0_37), .val (.int v0_39), .val (.ref b051), .val (.ref b059), .val (.int (0 : Int32))] [(.int (0 : Int32))]))
            refine stp (fun t k => XS.iload X0c62.here hx rfl (hb hby at_144) rfl k) ?_
            show W (T0c62.setTop (mkF m 146 #[.val (.int p0), .val (.int p1), .val (.int p2), .val (.int p3), .val (.int p4), .val (.int u0_1), .val (.ref r0c2), .val (.int u0_36), .val (.int u0_37), .val (.int v0_39), .val (.ref b051), .val (.ref b059), .val (.int (0 : Int32))] [(.int (0 : Int32)), (.int (0 : Int32))]))
            refine stp (fun t k => XS.icmpNo X0c62.here hx rfl (hb hby at_146) rfl ((teq (rfl)).2) k) ?_
            show W (T0c62.setTop (mkF m 149 #[.val (.int p0), .val (.int p1), .val (.int p2), .val (.int p3), .val (.int p4), .val (.int u0_1), .val (.ref r0c2), .val (.int u0_36), .val (.int u0_37), .val (.int v0_39), .val (.ref b051), .val (.ref b059), .val (.int (0 : Int32))] []))
            refine stp (fun t k => XS.iconst X0c62.here hx rfl (hb hby at_149) k) ?_
            show W (T0c62.setTop (mkF m 150 #[.val (.int p0), .val (.int p1), .val (.int p2), .val (.int p3), .val (.int p4), .val (.int u0_1), .val (.ref r0c2), .val (.int u0_36), .val (.int u0_37), .val (.int v0_39), .val (.ref b051), .val (.ref b059), .val (.int (0 : Int32))] [(.int (1 : Int32))]))
            refine stp (fun t k => XS.goto X0c62.here hx rfl (pc0 := 150) (pc' := 154) rfl (hb hby at_150) (by decide) (by decide) k) ?_
            show W (T0c62.setTop (mkF m 154 #[.val (.int p0), .val (.int p1), .val (.int p2), .val (.int p3), .val (.int p4), .val (.int u0_1), .val (.ref r0c2), .val (.int u0_36), .val (.int u0_37), .val (.int v0_39), .val (.ref b051), .val (.ref b059), .val (.int (0 : Int32))] [(.int (1 : Int32))]))
            show W (T0c62.setTop (mkF m 154 #[.val (.int p0), .val (.int p1), .val (.int p2), .val (.int p3), .val (.int p4), .val (.int u0_1), .val (.ref r0c2), .val (.int u0_36), .val (.int u0_37), .val (.int v0_39), .val (.ref b051), .val (.ref b059), .val (.int (0 : Int32))] [(.int (1 : Int32))]))
            rw [← hW]
            exact own_W hZ hEL CC (own_retN X0c62 hx Bd.notSynchronized Bd.returns (w := (1 : Int32)) (by simp) (hb hby at_154) rfl (by show Q0 Z p0 p1 p2 p3 p4 wc sx kW kQ kS kY kE h0 n0 _ T0c62.heap _ ∧ T0c62.heap = h0c60; rw [e0c62]; exact ⟨⟨rfl, N0c62⟩, rfl⟩) (by decide) (by decide))
        · refine stp (fun t k => XS.ifNo X040.here hx rfl (hb hby at_49) rfl ((if0 _ _).trans (feq hc0_42).1) k) ?_
          show W (T040.setTop (mkF m 52 #[.val (.int p0), .val (.int p1), .val (.int p2), .val (.int p3), .val (.int p4), .val (.int u0_1), .val (.ref r0c2), .val (.int u0_36), .val (.int u0_37), .val (.int v0_39), .unset, .unset, .unset] []))
          obtain ⟨kk0k64, hSa0k64, hka0k64⟩ := CC.1
          obtain ⟨b0k64a, T0k64, h0k64, j0k64, X0k64, e0k64, E0k64, hS0k64, hk0k64, hZ0k64, hown0k64, hC0k64, -, st0k64⟩ := ldcOH X040 hx hZ hown (hw _ (List.mem_of_getElem? (i := 135) rfl)) (own_wS hw) e040 hSa0k64 hka0k64 hEL CC.2.1 (g := (mkF m 52 #[.val (.int p0), .val (.int p1), .val (.int p2), .val (.int p3), .val (.int p4), .val (.int u0_1), .val (.ref r0c2), .val (.int u0_36), .val (.int u0_37), .val (.int v0_39), .unset, .unset, .unset] [])) rfl (hb hby at_52) (n := 0) (by decide) (by decide) (by decide) (by decide)
          obtain ⟨vm0k64, X0k64, CC0k64, hZ, hown⟩ : ∃ vm, Stand p l e room_1 (s.setVm vm) m #[(.int p0), (.int p1), (.int p2), (.int p3), (.int p4)] below meth c T0k64 _ 2 4 ∧ OwnC Z ownEL s vm h0k64 ∧ Z.Warmed39 (s.setVm vm).vm ∧ (s.setVm vm).vm.findClass "com/example/grant3/grant3/TokenIsSymbolPinLaw" = some m.cls := ⟨_, X0k64, ⟨⟨_, hS0k64, hk0k64⟩, CC.2.trans hC0k64⟩, hZ0k64, hown0k64⟩
          replace CC := CC0k64
          have K0k64 := (Keep.refl h0 []).ext E0k64
          have Z0k64 := Nat.le_trans Z0 E0k64.1
          have O0k64 := O0.ext E0k64
          refine stp (fun t k => st0k64 t k) ?_
          show W (T0k64.setTop (mkF m 54 #[.val (.int p0), .val (.int p1), .val (.int p2), .val (.int p3), .val (.int p4), .val (.int u0_1), .val (.ref r0c2), .val (.int u0_36), .val (.int u0_37), .val (.int v0_39), .unset, .unset, .unset] [(.ref b0k64a)]))
          refine stp (fun t k => XS.astore X0k64.here hx rfl (hb hby at_54) rfl rfl (l' := #[.val (.int p0), .val (.int p1), .val (.int p2), .val (.int p3), .val (.int p4), .val (.int u0_1), .val (.ref r0c2), .val (.int u0_36), .val (.int u0_37), .val (.int v0_39), .val (.ref b0k64a), .unset, .unset]) rfl k) ?_
          show W (T0k64.setTop (mkF m 56 #[.val (.int p0), .val (.int p1), .val (.int p2), .val (.int p3), .val (.int p4), .val (.int u0_1), .val (.ref r0c2), .val (.int u0_36), .val (.int u0_37), .val (.int v0_39), .val (.ref b0k64a), .unset, .unset] []))
          refine stp (fun t k => XS.goto X0k64.here hx rfl (pc0 := 56) (pc' := 98) rfl (hb hby at_56) (by decide) (by decide) k) ?_
          show W (T0k64.setTop (mkF m 98 #[.val (.int p0), .val (.int p1), .val (.int p2), .val (.int p3), .val (.int p4), .val (.int u0_1), .val (.ref r0c2), .val (.int u0_36), .val (.int u0_37), .val (.int v0_39), .val (.ref b0k64a), .unset, .unset] []))
          obtain ⟨T065, h065, X065, e065, E065, A065, D065, -, st065⟩ := newO X0k64 hx hZ hown (hw _ (List.mem_of_getElem? (i := 34) rfl)) (hw _ (List.mem_of_getElem? (i := 35) rfl)) (hw _ (List.mem_of_getElem? (i := 36) rfl)) e0k64 (g := (mkF m 98 #[.val (.int p0), .val (.int p1), .val (.int p2), .val (.int p3), .val (.int p4), .val (.int u0_1), .val (.ref r0c2), .val (.int u0_36), .val (.int u0_37), .val (.int v0_39), .val (.ref b0k64a), .unset, .unset] [])) rfl (hb hby at_98) (by decide) (by decide)
          obtain ⟨b065, gq065⟩ : ∃ z, z = h0k64.size := ⟨_, rfl⟩
          rw [← gq065] at A065 D065 st065
          replace CC := CC.ext E065
          have g_b065 : n0 ≤ b065 := Nat.le_trans Z0k64 (Nat.le_of_eq gq065.symm)
          have sz_b065 : h0.size ≤ b065 := Nat.le_trans K0k64.1 (Nat.le_of_eq gq065.symm)
          have K065 := K0k64.ext E065
          have Z065 := Nat.le_trans Z0k64 E065.1
          have O065 := O0k64.ext E065
          have E_b065 := A065
          have F_kind_b065 : Fld Z h065 b065 "com/example/grant3/grant3/Lexer$Token" "kind" "Lcom/example/grant3/grant3/Lexer$Kind;" .null := D065 (Or.inr (hw _ (List.mem_of_getElem? (i := 47) rfl))) (ty := (.object "com/example/grant3/grant3/Lexer$Kind")) (by decide)
          have F_text_b065 : Fld Z h065 b065 "com/example/grant3/grant3/Lexer$Token" "text" "Ljava/lang/String;" .null := D065 (Or.inr (hw _ (List.mem_of_getElem? (i := 49) rfl))) (ty := (.object "java/lang/String")) (by decide)
          refine stp (fun t k => st065 t k) ?_
          show W (T065.setTop (mkF m 101 #[.val (.int p0), .val (.int p1), .val (.int p2), .val (.int p3), .val (.int p4), .val (.int u0_1), .val (.ref r0c2), .val (.int u0_36), .val (.int u0_37), .val (.int v0_39), .val (.ref b0k64a), .unset, .unset] [(.ref b065)]))
          refine stp (fun t k => XS.dup X065.here hx rfl (hb hby at_101) rfl rfl k) ?_
          show W (T065.setTop (mkF m 102 #[.val (.int p0), .val (.int p1), .val (.int p2), .val (.int p3), .val (.int p4), .val (.int u0_1), .val (.ref r0c2), .val (.int u0_36), .val (.int u0_37), .val (.int v0_39), .val (.ref b0k64a), .unset, .unset] [(.ref b065), (.ref b065)]))
          refine stp (fun t k => XS.aload X065.here hx rfl (hb hby at_102) rfl rfl k) ?_
          show W (T065.setTop (mkF m 104 #[.val (.int p0), .val (.int p1), .val (.int p2), .val (.int p3), .val (.int p4), .val (.int u0_1), .val (.ref r0c2), .val (.int u0_36), .val (.int u0_37), .val (.int v0_39), .val (.ref b0k64a), .unset, .unset] [(.ref r0c2), (.ref b065), (.ref b065)]))
          refine stp (fun t k => XS.aload X065.here hx rfl (hb hby at_104) rfl rfl k) ?_
          show W (T065.setTop (mkF m 106 #[.val (.int p0), .val (.int p1), .val (.int p2), .val (.int p3), .val (.int p4), .val (.int u0_1), .val (.ref r0c2), .val (.int u0_36), .val (.int u0_37), .val (.int v0_39), .val (.ref b0k64a), .unset, .unset] [(.ref b0k64a), (.ref r0c2), (.ref b065), (.ref b065)]))
          obtain ⟨_, _, ⟨T0c66, L0c66, k0c66, n0c66⟩, -, X0c66, ⟨Lc0c66, hQ0c66, l0c66, y0c66, z0c66⟩, st0c66⟩ := X065.specialBack hx (y := (⟨"com/example/grant3/grant3/Lexer$Token", "<init>", "(Lcom/example/grant3/grant3/Lexer$Kind;Ljava/lang/String;)V"⟩ : MethodName)) rfl hown (mvT hZ (hw _ (List.mem_of_getElem? (i := 37) rfl))) (mvT hZ (hw _ (List.mem_of_getElem? (i := 38) rfl))) (mvT hZ (hw _ (List.mem_of_getElem? (i := 39) rfl))) (by decide) (backOf (W := 1) (rmtk l Z aa hw [] b065 r0c2 b0k64a wc sx h065 n0 Z065 BW O065 E_b065 F_kind_b065 F_text_b065 g_b065) hZ (hw _ (List.mem_of_getElem? (i := 39) rfl)) (hw _ (List.mem_of_getElem? (i := 36) rfl)) (by decide) (by decide)) (g := (mkF m 106 #[.val (.int p0), .val (.int p1), .val (.int p2), .val (.int p3), .val (.int p4), .val (.int u0_1), .val (.ref r0c2), .val (.int u0_36), .val (.int u0_37), .val (.int v0_39), .val (.ref b0k64a), .unset, .unset] [(.ref b0k64a), (.ref r0c2), (.ref b065), (.ref b065)])) rfl (by rw [hml]; rfl) (Steps.refl _) (a := b065) (argsL := [(.ref r0c2), (.ref b0k64a)]) (rest := [(.ref b065)]) (lenOf pd0_2 rfl) rfl (by show 2 * 0 + _ ≤ _; exact Nat.le_of_eq rfl) (hb hby at_106) (fun _ _ => ⟨rfl, e065, (by decide : 3 + 0 ≤ _), (by decide : 6 + 0 ≤ _)⟩)
          dsimp only [Pt.U, Pt.locs, Pt.cells, Pt.slots] at X0c66 l0c66 y0c66 z0c66 st0c66 hQ0c66
          subst l0c66 y0c66 z0c66
          obtain ⟨rfl, N0c66q, Kq0c66, EE0c66, FK0c66, FT0c66⟩ := hQ0c66
          have N0c66 := Fr.app N040 N0c66q
          obtain ⟨lc0t67, X0c66, N0c66⟩ : ∃ lc, Stand p l e room_1 (s.setVm vm0k64) m #[(.int p0), (.int p1), (.int p2), (.int p3), (.int p4)] below meth c T0c66 lc 3 6 ∧ Fr n0 lc := ⟨_, X0c66, N0c66⟩
          obtain ⟨h0c66, e0c66⟩ : ∃ h, T0c66.heap = h := ⟨_, rfl⟩
          rw [e0c66] at Kq0c66 EE0c66 FK0c66 FT0c66
          have SF_b065 : Safe Z ownEL vm0k64 _ b065 := (Safe.exa hZ.alike E_b065 (by decide) (by decide))
          have SFk : ∀ x ∈ ([b065] : List Addr), Safe Z ownEL vm0k64 _ x := (sfS SF_b065 sf0)
          replace SF_b065 := Safe.keep Kq0c66 SFk CC.2.1 SF_b065
          replace CC := CC.keep Kq0c66 SFk
          clear SFk
          have KK0c66 := Keep.trans K065 Kq0c66 (allS (Or.inr sz_b065) all0)
          have Z0c66 := Nat.le_trans Z065 Kq0c66.1
          have O0c66 := O065.keep Kq0c66 (allS g_b065 all0)
          refine stp (fun t k => st0c66.trans k) ?_
          show W (T0c66.setTop (mkF m 109 #[.val (.int p0), .val (.int p1), .val (.int p2), .val (.int p3), .val (.int p4), .val (.int u0_1), .val (.ref r0c2), .val (.int u0_36), .val (.int u0_37), .val (.int v0_39), .val (.ref b0k64a), .unset, .unset] [(.ref b065)]))
          refine stp (fun t k => XS.astore X0c66.here hx rfl (hb hby at_109) rfl rfl (l' := #[.val (.int p0), .val (.int p1), .val (.int p2), .val (.int p3), .val (.int p4), .val (.int u0_1), .val (.ref r0c2), .val (.int u0_36), .val (.int u0_37), .val (.int v0_39), .val (.ref b0k64a), .val (.ref b065), .unset]) rfl k) ?_
          show W (T0c66.setTop (mkF m 111 #[.val (.int p0), .val (.int p1), .val (.int p2), .val (.int p3), .val (.int p4), .val (.int u0_1), .val (.ref r0c2), .val (.int u0_36), .val (.int u0_37), .val (.int v0_39), .val (.ref b0k64a), .val (.ref b065), .unset] []))
          refine stp (fun t k => XS.iload X0c66.here hx rfl (hb hby at_111) rfl k) ?_
          show W (T0c66.setTop (mkF m 113 #[.val (.int p0), .val (.int p1), .val (.int p2), .val (.int p3), .val (.int p4), .val (.int u0_1), .val (.ref r0c2), .val (.int u0_36), .val (.int u0_37), .val (.int v0_39), .val (.ref b0k64a), .val (.ref b065), .unset] [(.int u0_1)]))
          refine stp (fun t k => XS.iconst X0c66.here hx rfl (hb hby at_113) k) ?_
          show W (T0c66.setTop (mkF m 114 #[.val (.int p0), .val (.int p1), .val (.int p2), .val (.int p3), .val (.int p4), .val (.int u0_1), .val (.ref r0c2), .val (.int u0_36), .val (.int u0_37), .val (.int v0_39), .val (.ref b0k64a), .val (.ref b065), .unset] [(.int (3 : Int32)), (.int u0_1)]))
          refine stp (fun t k => XS.icmpYes X0c66.here hx rfl (pc0 := 114) (pc' := 134) rfl (hb hby at_114) rfl ((feq (h3)).2) (by decide) (by decide) k) ?_
          show W (T0c66.setTop (mkF m 134 #[.val (.int p0), .val (.int p1), .val (.int p2), .val (.int p3), .val (.int p4), .val (.int u0_1), .val (.ref r0c2), .val (.int u0_36), .val (.int u0_37), .val (.int v0_39), .val (.ref b0k64a), .val (.ref b065), .unset] []))
          refine stp (fun t k => XS.iconst X0c66.here hx rfl (hb hby at_134) k) ?_
          show W (T0c66.setTop (mkF m 135 #[.val (.int p0), .val (.int p1), .val (.int p2), .val (.int p3), .val (.int p4), .val (.int u0_1), .val (.ref r0c2), .val (.int u0_36), .val (.int u0_37), .val (.int v0_39), .val (.ref b0k64a), .val (.ref b065), .unset] [(.int (0 : Int32))]))
          refine stp (fun t k => XS.istore X0c66.here hx rfl (hb hby at_135) rfl (l' := #[.val (.int p0), .val (.int p1), .val (.int p2), .val (.int p3), .val (.int p4), .val (.int u0_1), .val (.ref r0c2), .val (.int u0_36), .val (.int u0_37), .val (.int v0_39), .val (.ref b0k64a), .val (.ref b065), .val (.int (0 : Int32))]) rfl k) ?_
          show W (T0c66.setTop (mkF m 137 #[.val (.int p0), .val (.int p1), .val (.int p2), .val (.int p3), .val (.int p4), .val (.int u0_1), .val (.ref r0c2), .val (.int u0_36), .val (.int u0_37), .val (.int v0_39), .val (.ref b0k64a), .val (.ref b065), .val (.int (0 : Int32))] []))
          refine stp (fun t k => XS.aload X0c66.here hx rfl (hb hby at_137) rfl rfl k) ?_
          show W (T0c66.setTop (mkF m 139 #[.val (.int p0), .val (.int p1), .val (.int p2), .val (.int p3), .val (.int p4), .val (.int u0_1), .val (.ref r0c2), .val (.int u0_36), .val (.int u0_37), .val (.int v0_39), .val (.ref b0k64a), .val (.ref b065), .val (.int (0 : Int32))] [(.ref b065)]))
          refine stp (fun t k => XS.iload X0c66.here hx rfl (hb hby at_139) rfl k) ?_
          show W (T0c66.setTop (mkF m 141 #[.val (.int p0), .val (.int p1), .val (.int p2), .val (.int p3), .val (.int p4), .val (.int u0_1), .val (.ref r0c2), .val (.int u0_36), .val (.int u0_37), .val (.int v0_39), .val (.ref b0k64a), .val (.ref b065), .val (.int (0 : Int32))] [(.int v0_39), (.ref b065)]))
          obtain ⟨cq0c68, kq0c68, q0c68a, q0c68b, q0c68c⟩ := isOf hZ e0c66 EE0c66
          obtain ⟨_, _, ⟨T0c68, L0c68, k0c68, n0c68⟩, -, X0c68, ⟨Lc0c68, hQ0c68, l0c68, y0c68, z0c68⟩, st0c68⟩ := X0c66.virtualBack hx (y := (⟨"com/example/grant3/grant3/Lexer$Token", "isSymbol", "(C)Z"⟩ : MethodName)) (z := (⟨"com/example/grant3/grant3/Lexer$Token", "isSymbol", "(C)Z"⟩ : MethodName)) hown (mvT hZ (hw _ (List.mem_of_getElem? (i := 50) rfl))) (mvT hZ (hw _ (List.mem_of_getElem? (i := 51) rfl))) (notFace_of_selects (args := #[]) (mvT hZ (hw _ (List.mem_of_getElem? (i := 53) rfl)))) (mvT hZ (hw _ (List.mem_of_getElem? (i := 53) rfl))) (mvT hZ (hw _ (List.mem_of_getElem? (i := 52) rfl))) (by decide) (backOf (W := 0) (rmsn l Z aa hw [] b065 v0_39 wc sx kW kQ kS kY kE r0c2 h0c66 n0 Z0c66 BW O0c66 BK EE0c66 FK0c66 hr) hZ (hw _ (List.mem_of_getElem? (i := 54) rfl)) (hw _ (List.mem_of_getElem? (i := 36) rfl)) (by decide) (by decide)) q0c68a q0c68c (g := (mkF m 141 #[.val (.int p0), .val (.int p1), .val (.int p2), .val (.int p3), .val (.int p4), .val (.int u0_1), .val (.ref r0c2), .val (.int u0_36), .val (.int u0_37), .val (.int v0_39), .val (.ref b0k64a), .val (.ref b065), .val (.int (0 : Int32))] [(.int v0_39), (.ref b065)])) rfl (by rw [hml]; rfl) (Steps.refl _) (argsL := [(.int v0_39)]) (rest := []) (lenOf pd0_3 rfl) rfl (by show 2 * 0 + _ ≤ _; exact Nat.le_of_eq rfl) (hb hby at_141) (fun _ _ => ⟨rfl, e0c66, (by decide : 3 + 0 ≤ _), (by decide : 6 + 0 ≤ _)⟩)
          dsimp only [Pt.U, Pt.locs, Pt.cells, Pt.slots] at X0c68 l0c68 y0c68 z0c68 st0c68 hQ0c68
          subst l0c68 y0c68 z0c68
          obtain ⟨rfl, N0c68q, e0c68⟩ := hQ0c68
          have N0c68 := Fr.app N0c66 N0c68q
          obtain ⟨lc0t69, X0c68, N0c68⟩ : ∃ lc, Stand p l e room_1 (s.setVm vm0k64) m #[(.int p0), (.int p1), (.int p2), (.int p3), (.int p4)] below meth c T0c68 lc 3 6 ∧ Fr n0 lc := ⟨_, X0c68, N0c68⟩
          refine stp (fun t k => st0c68.trans k) ?_
          show W (T0c68.setTop (mkF m 144 #[.val (.int p0), .val (.int p1), .val (.int p2), .val (.int p3), .val (.int p4), .val (.int u0_1), .val (.ref r0c2), .val (.int u0_36), .val (.int u0_37), .val (.int v0_39), .val (.ref b0k64a), .val (.ref b065), .val (.int (0 : Int32))] [(.int (0 : Int32))]))
          refine stp (fun t k => XS.iload X0c68.here hx rfl (hb hby at_144) rfl k) ?_
          show W (T0c68.setTop (mkF m 146 #[.val (.int p0), .val (.int p1), .val (.int p2), .val (.int p3), .val (.int p4), .val (.int u0_1), .val (.ref r0c2), .val (.int u0_36), .val (.int u0_37), .val (.int v0_39), .val (.ref b0k64a), .val (.ref b065), .val (.int (0 : Int32))] [(.int (0 : Int32)), (.int (0 : Int32))]))
          refine stp (fun t k => XS.icmpNo X0c68.here hx rfl (hb hby at_146) rfl ((teq (rfl)).2) k) ?_
          show W (T0c68.setTop (mkF m 149 #[.val (.int p0), .val (.int p1), .val (.int p2), .val (.int p3), .val (.int p4), .val (.int u0_1), .val (.ref r0c2), .val (.int u0_36), .val (.int u0_37), .val (.int v0_39), .val (.ref b0k64a), .val (.ref b065), .val (.int (0 : Int32))] []))
          refine stp (fun t k => XS.iconst X0c68.here hx rfl (hb hby at_149) k) ?_
          show W (T0c68.setTop (mkF m 150 #[.val (.int p0), .val (.int p1), .val (.int p2), .val (.int p3), .val (.int p4), .val (.int u0_1), .val (.ref r0c2), .val (.int u0_36), .val (.int u0_37), .val (.int v0_39), .val (.ref b0k64a), .val (.ref b065), .val (.int (0 : Int32))] [(.int (1 : Int32))]))
          refine stp (fun t k => XS.goto X0c68.here hx rfl (pc0 := 150) (pc' := 154) rfl (hb hby at_150) (by decide) (by decide) k) ?_
          show W (T0c68.setTop (mkF m 154 #[.val (.int p0), .val (.int p1), .val (.int p2), .val (.int p3), .val (.int p4), .val (.int u0_1), .val (.ref r0c2), .val (.int u0_36), .val (.int u0_37), .val (.int v0_39), .val (.ref b0k64a), .val (.ref b065), .val (.int (0 : Int32))] [(.int (1 : Int32))]))
          show W (T0c68.setTop (mkF m 154 #[.val (.int p0), .val (.int p1), .val (.int p2), .val (.int p3), .val (.int p4), .val (.int u0_1), .val (.ref r0c2), .val (.int u0_36), .val (.int u0_37), .val (.int v0_39), .val (.ref b0k64a), .val (.ref b065), .val (.int (0 : Int32))] [(.int (1 : Int32))]))
          rw [← hW]
          exact own_W hZ hEL CC (own_retN X0c68 hx Bd.notSynchronized Bd.returns (w := (1 : Int32)) (by simp) (hb hby at_154) rfl (by show Q0 Z p0 p1 p2 p3 p4 wc sx kW kQ kS kY kE h0 n0 _ T0c68.heap _ ∧ T0c68.heap = h0c66; rw [e0c68]; exact ⟨⟨rfl, N0c68⟩, rfl⟩) (by decide) (by decide))
      · refine stp (fun t k => XS.icmpYes X040.here hx rfl (pc0 := 42) (pc' := 59) rfl (hb hby at_42) rfl ((feq hc0_41).2) (by decide) (by decide) k) ?_
        show W (T040.setTop (mkF m 59 #[.val (.int p0), .val (.int p1), .val (.int p2), .val (.int p3), .val (.int p4), .val (.int u0_1), .val (.ref r0c2), .val (.int u0_36), .val (.int u0_37), .val (.int v0_39), .unset, .unset, .unset] []))
        refine stp (fun t k => XS.iload X040.here hx rfl (hb hby at_59) rfl k) ?_
        show W (T040.setTop (mkF m 61 #[.val (.int p0), .val (.int p1), .val (.int p2), .val (.int p3), .val (.int p4), .val (.int u0_1), .val (.ref r0c2), .val (.int u0_36), .val (.int u0_37), .val (.int v0_39), .unset, .unset, .unset] [(.int p4)]))
        refine stp (fun t k => XS.iconst X040.here hx rfl (hb hby at_61) k) ?_
        show W (T040.setTop (mkF m 62 #[.val (.int p0), .val (.int p1), .val (.int p2), .val (.int p3), .val (.int p4), .val (.int u0_1), .val (.ref r0c2), .val (.int u0_36), .val (.int u0_37), .val (.int v0_39), .unset, .unset, .unset] [(.int (4 : Int32)), (.int p4)]))
        refine stp (fun t k => XS.iand X040.here hx rfl (hb hby at_62) rfl k) ?_
        show W (T040.setTop (mkF m 63 #[.val (.int p0), .val (.int p1), .val (.int p2), .val (.int p3), .val (.int p4), .val (.int u0_1), .val (.ref r0c2), .val (.int u0_36), .val (.int u0_37), .val (.int v0_39), .unset, .unset, .unset] [(.int (p4 &&& (4 : Int32)))]))
        by_cases hc0_70 : (p4 &&& (4 : Int32)) = (0 : Int32)
        · refine stp (fun t k => XS.ifYes X040.here hx rfl (pc0 := 63) (pc' := 91) rfl (hb hby at_63) rfl ((if0 _ _).trans (teq hc0_70).1) (by decide) (by decide) k) ?_
          show W (T040.setTop (mkF m 91 #[.val (.int p0), .val (.int p1), .val (.int p2), .val (.int p3), .val (.int p4), .val (.int u0_1), .val (.ref r0c2), .val (.int u0_36), .val (.int u0_37), .val (.int v0_39), .unset, .unset, .unset] []))
          refine stp (fun t k => XS.iload X040.here hx rfl (hb hby at_91) rfl k) ?_
          show W (T040.setTop (mkF m 93 #[.val (.int p0), .val (.int p1), .val (.int p2), .val (.int p3), .val (.int p4), .val (.int u0_1), .val (.ref r0c2), .val (.int u0_36), .val (.int u0_37), .val (.int v0_39), .unset, .unset, .unset] [(.int u0_36)]))
          obtain ⟨_, _, ⟨T0c71, L0c71, k0c71, n0c71⟩, -, X0c71, ⟨Lc0c71, hQ0c71, l0c71, y0c71, z0c71⟩, st0c71⟩ := Jvm.LawKit.callS X040 hx (y := (⟨"java/lang/String", "valueOf", "(C)Ljava/lang/String;"⟩ : MethodName)) hown (mvT hZ (hw _ (List.mem_of_getElem? (i := 8) rfl))) (mvT hZ (hw _ (List.mem_of_getElem? (i := 9) rfl))) (mvT hZ (hw _ (List.mem_of_getElem? (i := 10) rfl))) (mvT hZ (hw _ (List.mem_of_getElem? (i := 11) rfl))) (by decide) (backOf (W := 0) (rmvo l Z aa hw [] u0_36 wc sx h0 n0 Z0 BW O0) hZ (hw _ (List.mem_of_getElem? (i := 11) rfl)) (hw _ (List.mem_of_getElem? (i := 10) rfl)) (by decide) (by decide)) (g := (mkF m 93 #[.val (.int p0), .val (.int p1), .val (.int p2), .val (.int p3), .val (.int p4), .val (.int u0_1), .val (.ref r0c2), .val (.int u0_36), .val (.int u0_37), .val (.int v0_39), .unset, .unset, .unset] [(.int u0_36)])) rfl (by rw [hml]; rfl) (argsL := [(.int u0_36)]) (rest := []) (lenOf pd0_1 rfl) rfl (by show 2 * 0 + _ ≤ _; exact Nat.le_of_eq rfl) (hb hby at_93) (fun _ _ => ⟨rfl, e040, (by decide : 0 + 2 ≤ _), (by decide : 0 + 6 ≤ _)⟩)
          dsimp only [Pt.U, Pt.locs, Pt.cells, Pt.slots] at X0c71 l0c71 y0c71 z0c71 st0c71 hQ0c71
          subst l0c71 y0c71 z0c71
          obtain ⟨a0c71, b0c71, rfl, N0c71q, Kq0c71, S_0c71⟩ := hQ0c71
          have N0c71 := Fr.app N040 N0c71q
          obtain ⟨lc0t72, X0c71, N0c71⟩ : ∃ lc, Stand p l e room_1 (s.setVm vm0) m #[(.int p0), (.int p1), (.int p2), (.int p3), (.int p4)] below meth c T0c71 lc 2 6 ∧ Fr n0 lc := ⟨_, X0c71, N0c71⟩
          obtain ⟨h0c71, e0c71⟩ : ∃ h, T0c71.heap = h := ⟨_, rfl⟩
          rw [e0c71] at Kq0c71 S_0c71
          replace CC := CC.keep Kq0c71 sf0
          have KK0c71 := Keep.trans (Keep.refl h0 []) Kq0c71 all0
          have Z0c71 := Nat.le_trans Z0 Kq0c71.1
          have O0c71 := O0.keep Kq0c71 all0
          refine stp (fun t k => st0c71 t k) ?_
          show W (T0c71.setTop (mkF m 96 #[.val (.int p0), .val (.int p1), .val (.int p2), .val (.int p3), .val (.int p4), .val (.int u0_1), .val (.ref r0c2), .val (.int u0_36), .val (.int u0_37), .val (.int v0_39), .unset, .unset, .unset] [(.ref a0c71)]))
          refine stp (fun t k => XS.astore X0c71.here hx rfl (hb hby at_96) rfl rfl (l' := #[.val (.int p0), .val (.int p1), .val (.int p2), .val (.int p3), .val (.int p4), .val (.int u0_1), .val (.ref r0c2), .val (.int u0_36), .val (.int u0_37), .val (.int v0_39), .val (.ref a0c71), .unset, .unset]) rfl k) ?_
          show W (T0c71.setTop (mkF m 98 #[.val (.int p0), .val (.int p1), .val (.int p2), .val (.int p3), .val (.int p4), .val (.int u0_1), .val (.ref r0c2), .val (.int u0_36), .val (.int u0_37), .val (.int v0_39), .val (.ref a0c71), .unset, .unset] []))
          obtain ⟨T073, h073, X073, e073, E073, A073, D073, -, st073⟩ := newO X0c71 hx hZ hown (hw _ (List.mem_of_getElem? (i := 34) rfl)) (hw _ (List.mem_of_getElem? (i := 35) rfl)) (hw _ (List.mem_of_getElem? (i := 36) rfl)) e0c71 (g := (mkF m 98 #[.val (.int p0), .val (.int p1), .val (.int p2), .val (.int p3), .val (.int p4), .val (.int u0_1), .val (.ref r0c2), .val (.int u0_36), .val (.int u0_37), .val (.int v0_39), .val (.ref a0c71), .unset, .unset] [])) rfl (hb hby at_98) (by decide) (by decide)
          obtain ⟨b073, gq073⟩ : ∃ z, z = h0c71.size := ⟨_, rfl⟩
          rw [← gq073] at A073 D073 st073
          replace CC := CC.ext E073
          have ne_a0c71_b073 : a0c71 ≠ b073 := Nat.ne_of_lt (Nat.lt_of_lt_of_le S_0c71.lt0 (Nat.le_of_eq gq073.symm))
          have ne_b0c71_b073 : b0c71 ≠ b073 := Nat.ne_of_lt (Nat.lt_of_lt_of_le S_0c71.lt1 (Nat.le_of_eq gq073.symm))
          have g_b073 : n0 ≤ b073 := Nat.le_trans Z0c71 (Nat.le_of_eq gq073.symm)
          have sz_b073 : h0.size ≤ b073 := Nat.le_trans KK0c71.1 (Nat.le_of_eq gq073.symm)
          replace S_0c71 := S_0c71.ext E073
          have K073 := KK0c71.ext E073
          have Z073 := Nat.le_trans Z0c71 E073.1
          have O073 := O0c71.ext E073
          have E_b073 := A073
          have F_kind_b073 : Fld Z h073 b073 "com/example/grant3/grant3/Lexer$Token" "kind" "Lcom/example/grant3/grant3/Lexer$Kind;" .null := D073 (Or.inr (hw _ (List.mem_of_getElem? (i := 47) rfl))) (ty := (.object "com/example/grant3/grant3/Lexer$Kind")) (by decide)
          have F_text_b073 : Fld Z h073 b073 "com/example/grant3/grant3/Lexer$Token" "text" "Ljava/lang/String;" .null := D073 (Or.inr (hw _ (List.mem_of_getElem? (i := 49) rfl))) (ty := (.object "java/lang/String")) (by decide)
          refine stp (fun t k => st073 t k) ?_
          show W (T073.setTop (mkF m 101 #[.val (.int p0), .val (.int p1), .val (.int p2), .val (.int p3), .val (.int p4), .val (.int u0_1), .val (.ref r0c2), .val (.int u0_36), .val (.int u0_37), .val (.int v0_39), .val (.ref a0c71), .unset, .unset] [(.ref b073)]))
          refine stp (fun t k => XS.dup X073.here hx rfl (hb hby at_101) rfl rfl k) ?_
          show W (T073.setTop (mkF m 102 #[.val (.int p0), .val (.int p1), .val (.int p2), .val (.int p3), .val (.int p4), .val (.int u0_1), .val (.ref r0c2), .val (.int u0_36), .val (.int u0_37), .val (.int v0_39), .val (.ref a0c71), .unset, .unset] [(.ref b073), (.ref b073)]))
          refine stp (fun t k => XS.aload X073.here hx rfl (hb hby at_102) rfl rfl k) ?_
          show W (T073.setTop (mkF m 104 #[.val (.int p0), .val (.int p1), .val (.int p2), .val (.int p3), .val (.int p4), .val (.int u0_1), .val (.ref r0c2), .val (.int u0_36), .val (.int u0_37), .val (.int v0_39), .val (.ref a0c71), .unset, .unset] [(.ref r0c2), (.ref b073), (.ref b073)]))
          refine stp (fun t k => XS.aload X073.here hx rfl (hb hby at_104) rfl rfl k) ?_
          show W (T073.setTop (mkF m 106 #[.val (.int p0), .val (.int p1), .val (.int p2), .val (.int p3), .val (.int p4), .val (.int u0_1), .val (.ref r0c2), .val (.int u0_36), .val (.int u0_37), .val (.int v0_39), .val (.ref a0c71), .unset, .unset] [(.ref a0c71), (.ref r0c2), (.ref b073), (.ref b073)]))
          obtain ⟨_, _, ⟨T0c74, L0c74, k0c74, n0c74⟩, -, X0c74, ⟨Lc0c74, hQ0c74, l0c74, y0c74, z0c74⟩, st0c74⟩ := X073.specialBack hx (y := (⟨"com/example/grant3/grant3/Lexer$Token", "<init>", "(Lcom/example/grant3/grant3/Lexer$Kind;Ljava/lang/String;)V"⟩ : MethodName)) rfl hown (mvT hZ (hw _ (List.mem_of_getElem? (i := 37) rfl))) (mvT hZ (hw _ (List.mem_of_getElem? (i := 38) rfl))) (mvT hZ (hw _ (List.mem_of_getElem? (i := 39) rfl))) (by decide) (backOf (W := 1) (rmtk l Z aa hw [] b073 r0c2 a0c71 wc sx h073 n0 Z073 BW O073 E_b073 F_kind_b073 F_text_b073 g_b073) hZ (hw _ (List.mem_of_getElem? (i := 39) rfl)) (hw _ (List.mem_of_getElem? (i := 36) rfl)) (by decide) (by decide)) (g := (mkF m 106 #[.val (.int p0), .val (.int p1), .val (.int p2), .val (.int p3), .val (.int p4), .val (.int u0_1), .val (.ref r0c2), .val (.int u0_36), .val (.int u0_37), .val (.int v0_39), .val (.ref a0c71), .unset, .unset] [(.ref a0c71), (.ref r0c2), (.ref b073), (.ref b073)])) rfl (by rw [hml]; rfl) (Steps.refl _) (a := b073) (argsL := [(.ref r0c2), (.ref a0c71)]) (rest := [(.ref b073)]) (lenOf pd0_2 rfl) rfl (by show 2 * 0 + _ ≤ _; exact Nat.le_of_eq rfl) (hb hby at_106) (fun _ _ => ⟨rfl, e073, (by decide : 3 + 0 ≤ _), (by decide : 8 + 0 ≤ _)⟩)
          dsimp only [Pt.U, Pt.locs, Pt.cells, Pt.slots] at X0c74 l0c74 y0c74 z0c74 st0c74 hQ0c74
          subst l0c74 y0c74 z0c74
          obtain ⟨rfl, N0c74q, Kq0c74, EE0c74, FK0c74, FT0c74⟩ := hQ0c74
          have N0c74 := Fr.app N0c71 N0c74q
          obtain ⟨lc0t75, X0c74, N0c74⟩ : ∃ lc, Stand p l e room_1 (s.setVm vm0) m #[(.int p0), (.int p1), (.int p2), (.int p3), (.int p4)] below meth c T0c74 lc 3 8 ∧ Fr n0 lc := ⟨_, X0c74, N0c74⟩
          obtain ⟨h0c74, e0c74⟩ : ∃ h, T0c74.heap = h := ⟨_, rfl⟩
          rw [e0c74] at Kq0c74 EE0c74 FK0c74 FT0c74
          have SF_b073 : Safe Z ownEL vm0 _ b073 := (Safe.exa hZ.alike E_b073 (by decide) (by decide))
          have SFk : ∀ x ∈ ([b073] : List Addr), Safe Z ownEL vm0 _ x := (sfS SF_b073 sf0)
          replace SF_b073 := Safe.keep Kq0c74 SFk CC.2.1 SF_b073
          replace CC := CC.keep Kq0c74 SFk
          clear SFk
          replace S_0c71 := S_0c71.keep Kq0c74 (ninS ne_a0c71_b073 nin0) (ninS ne_b0c71_b073 nin0)
          have KK0c74 := Keep.trans K073 Kq0c74 (allS (Or.inr sz_b073) all0)
          have Z0c74 := Nat.le_trans Z073 Kq0c74.1
          have O0c74 := O073.keep Kq0c74 (allS g_b073 all0)
          refine stp (fun t k => st0c74.trans k) ?_
          show W (T0c74.setTop (mkF m 109 #[.val (.int p0), .val (.int p1), .val (.int p2), .val (.int p3), .val (.int p4), .val (.int u0_1), .val (.ref r0c2), .val (.int u0_36), .val (.int u0_37), .val (.int v0_39), .val (.ref a0c71), .unset, .unset] [(.ref b073)]))
          refine stp (fun t k => XS.astore X0c74.here hx rfl (hb hby at_109) rfl rfl (l' := #[.val (.int p0), .val (.int p1), .val (.int p2), .val (.int p3), .val (.int p4), .val (.int u0_1), .val (.ref r0c2), .val (.int u0_36), .val (.int u0_37), .val (.int v0_39), .val (.ref a0c71), .val (.ref b073), .unset]) rfl k) ?_
          show W (T0c74.setTop (mkF m 111 #[.val (.int p0), .val (.int p1), .val (.int p2), .val (.int p3), .val (.int p4), .val (.int u0_1), .val (.ref r0c2), .val (.int u0_36), .val (.int u0_37), .val (.int v0_39), .val (.ref a0c71), .val (.ref b073), .unset] []))
          refine stp (fun t k => XS.iload X0c74.here hx rfl (hb hby at_111) rfl k) ?_
          show W (T0c74.setTop (mkF m 113 #[.val (.int p0), .val (.int p1), .val (.int p2), .val (.int p3), .val (.int p4), .val (.int u0_1), .val (.ref r0c2), .val (.int u0_36), .val (.int u0_37), .val (.int v0_39), .val (.ref a0c71), .val (.ref b073), .unset] [(.int u0_1)]))
          refine stp (fun t k => XS.iconst X0c74.here hx rfl (hb hby at_113) k) ?_
          show W (T0c74.setTop (mkF m 114 #[.val (.int p0), .val (.int p1), .val (.int p2), .val (.int p3), .val (.int p4), .val (.int u0_1), .val (.ref r0c2), .val (.int u0_36), .val (.int u0_37), .val (.int v0_39), .val (.ref a0c71), .val (.ref b073), .unset] [(.int (3 : Int32)), (.int u0_1)]))
          refine stp (fun t k => XS.icmpYes X0c74.here hx rfl (pc0 := 114) (pc' := 134) rfl (hb hby at_114) rfl ((feq (h3)).2) (by decide) (by decide) k) ?_
          show W (T0c74.setTop (mkF m 134 #[.val (.int p0), .val (.int p1), .val (.int p2), .val (.int p3), .val (.int p4), .val (.int u0_1), .val (.ref r0c2), .val (.int u0_36), .val (.int u0_37), .val (.int v0_39), .val (.ref a0c71), .val (.ref b073), .unset] []))
          refine stp (fun t k => XS.iconst X0c74.here hx rfl (hb hby at_134) k) ?_
          show W (T0c74.setTop (mkF m 135 #[.val (.int p0), .val (.int p1), .val (.int p2), .val (.int p3), .val (.int p4), .val (.int u0_1), .val (.ref r0c2), .val (.int u0_36), .val (.int u0_37), .val (.int v0_39), .val (.ref a0c71), .val (.ref b073), .unset] [(.int (0 : Int32))]))
          refine stp (fun t k => XS.istore X0c74.here hx rfl (hb hby at_135) rfl (l' := #[.val (.int p0), .val (.int p1), .val (.int p2), .val (.int p3), .val (.int p4), .val (.int u0_1), .val (.ref r0c2), .val (.int u0_36), .val (.int u0_37), .val (.int v0_39), .val (.ref a0c71), .val (.ref b073), .val (.int (0 : Int32))]) rfl k) ?_
          show W (T0c74.setTop (mkF m 137 #[.val (.int p0), .val (.int p1), .val (.int p2), .val (.int p3), .val (.int p4), .val (.int u0_1), .val (.ref r0c2), .val (.int u0_36), .val (.int u0_37), .val (.int v0_39), .val (.ref a0c71), .val (.ref b073), .val (.int (0 : Int32))] []))
          refine stp (fun t k => XS.aload X0c74.here hx rfl (hb hby at_137) rfl rfl k) ?_
          show W (T0c74.setTop (mkF m 139 #[.val (.int p0), .val (.int p1), .val (.int p2), .val (.int p3), .val (.int p4), .val (.int u0_1), .val (.ref r0c2), .val (.int u0_36), .val (.int u0_37), .val (.int v0_39), .val (.ref a0c71), .val (.ref b073), .val (.int (0 : Int32))] [(.ref b073)]))
          refine stp (fun t k => XS.iload X0c74.here hx rfl (hb hby at_139) rfl k) ?_
          show W (T0c74.setTop (mkF m 141 #[.val (.int p0), .val (.int p1), .val (.int p2), .val (.int p3), .val (.int p4), .val (.int u0_1), .val (.ref r0c2), .val (.int u0_36), .val (.int u0_37), .val (.int v0_39), .val (.ref a0c71), .val (.ref b073), .val (.int (0 : Int32))] [(.int v0_39), (.ref b073)]))
          obtain ⟨cq0c76, kq0c76, q0c76a, q0c76b, q0c76c⟩ := isOf hZ e0c74 EE0c74
          obtain ⟨_, _, ⟨T0c76, L0c76, k0c76, n0c76⟩, -, X0c76, ⟨Lc0c76, hQ0c76, l0c76, y0c76, z0c76⟩, st0c76⟩ := X0c74.virtualBack hx (y := (⟨"com/example/grant3/grant3/Lexer$Token", "isSymbol", "(C)Z"⟩ : MethodName)) (z := (⟨"com/example/grant3/grant3/Lexer$Token", "isSymbol", "(C)Z"⟩ : MethodName)) hown (mvT hZ (hw _ (List.mem_of_getElem? (i := 50) rfl))) (mvT hZ (hw _ (List.mem_of_getElem? (i := 51) rfl))) (notFace_of_selects (args := #[]) (mvT hZ (hw _ (List.mem_of_getElem? (i := 53) rfl)))) (mvT hZ (hw _ (List.mem_of_getElem? (i := 53) rfl))) (mvT hZ (hw _ (List.mem_of_getElem? (i := 52) rfl))) (by decide) (backOf (W := 0) (rmsn l Z aa hw [] b073 v0_39 wc sx kW kQ kS kY kE r0c2 h0c74 n0 Z0c74 BW O0c74 BK EE0c74 FK0c74 hr) hZ (hw _ (List.mem_of_getElem? (i := 54) rfl)) (hw _ (List.mem_of_getElem? (i := 36) rfl)) (by decide) (by decide)) q0c76a q0c76c (g := (mkF m 141 #[.val (.int p0), .val (.int p1), .val (.int p2), .val (.int p3), .val (.int p4), .val (.int u0_1), .val (.ref r0c2), .val (.int u0_36), .val (.int u0_37), .val (.int v0_39), .val (.ref a0c71), .val (.ref b073), .val (.int (0 : Int32))] [(.int v0_39), (.ref b073)])) rfl (by rw [hml]; rfl) (Steps.refl _) (argsL := [(.int v0_39)]) (rest := []) (lenOf pd0_3 rfl) rfl (by show 2 * 0 + _ ≤ _; exact Nat.le_of_eq rfl) (hb hby at_141) (fun _ _ => ⟨rfl, e0c74, (by decide : 3 + 0 ≤ _), (by decide : 8 + 0 ≤ _)⟩)
          dsimp only [Pt.U, Pt.locs, Pt.cells, Pt.slots] at X0c76 l0c76 y0c76 z0c76 st0c76 hQ0c76
          subst l0c76 y0c76 z0c76
          obtain ⟨rfl, N0c76q, e0c76⟩ := hQ0c76
          have N0c76 := Fr.app N0c74 N0c76q
          obtain ⟨lc0t77, X0c76, N0c76⟩ : ∃ lc, Stand p l e room_1 (s.setVm vm0) m #[(.int p0), (.int p1), (.int p2), (.int p3), (.int p4)] below meth c T0c76 lc 3 8 ∧ Fr n0 lc := ⟨_, X0c76, N0c76⟩
          refine stp (fun t k => st0c76.trans k) ?_
          show W (T0c76.setTop (mkF m 144 #[.val (.int p0), .val (.int p1), .val (.int p2), .val (.int p3), .val (.int p4), .val (.int u0_1), .val (.ref r0c2), .val (.int u0_36), .val (.int u0_37), .val (.int v0_39), .val (.ref a0c71), .val (.ref b073), .val (.int (0 : Int32))] [(.int (0 : Int32))]))
          refine stp (fun t k => XS.iload X0c76.here hx rfl (hb hby at_144) rfl k) ?_
          show W (T0c76.setTop (mkF m 146 #[.val (.int p0), .val (.int p1), .val (.int p2), .val (.int p3), .val (.int p4), .val (.int u0_1), .val (.ref r0c2), .val (.int u0_36), .val (.int u0_37), .val (.int v0_39), .val (.ref a0c71), .val (.ref b073), .val (.int (0 : Int32))] [(.int (0 : Int32)), (.int (0 : Int32))]))
          refine stp (fun t k => XS.icmpNo X0c76.here hx rfl (hb hby at_146) rfl ((teq (rfl)).2) k) ?_
          show W (T0c76.setTop (mkF m 149 #[.val (.int p0), .val (.int p1), .val (.int p2), .val (.int p3), .val (.int p4), .val (.int u0_1), .val (.ref r0c2), .val (.int u0_36), .val (.int u0_37), .val (.int v0_39), .val (.ref a0c71), .val (.ref b073), .val (.int (0 : Int32))] []))
          refine stp (fun t k => XS.iconst X0c76.here hx rfl (hb hby at_149) k) ?_
          show W (T0c76.setTop (mkF m 150 #[.val (.int p0), .val (.int p1), .val (.int p2), .val (.int p3), .val (.int p4), .val (.int u0_1), .val (.ref r0c2), .val (.int u0_36), .val (.int u0_37), .val (.int v0_39), .val (.ref a0c71), .val (.ref b073), .val (.int (0 : Int32))] [(.int (1 : Int32))]))
          refine stp (fun t k => XS.goto X0c76.here hx rfl (pc0 := 150) (pc' := 154) rfl (hb hby at_150) (by decide) (by decide) k) ?_
          show W (T0c76.setTop (mkF m 154 #[.val (.int p0), .val (.int p1), .val (.int p2), .val (.int p3), .val (.int p4), .val (.int u0_1), .val (.ref r0c2), .val (.int u0_36), .val (.int u0_37), .val (.int v0_39), .val (.ref a0c71), .val (.ref b073), .val (.int (0 : Int32))] [(.int (1 : Int32))]))
          show W (T0c76.setTop (mkF m 154 #[.val (.int p0), .val (.int p1), .val (.int p2), .val (.int p3), .val (.int p4), .val (.int u0_1), .val (.ref r0c2), .val (.int u0_36), .val (.int u0_37), .val (.int v0_39), .val (.ref a0c71), .val (.ref b073), .val (.int (0 : Int32))] [(.int (1 : Int32))]))
          rw [← hW]
          exact own_W hZ hEL CC (own_retN X0c76 hx Bd.notSynchronized Bd.returns (w := (1 : Int32)) (by simp) (hb hby at_154) rfl (by show Q0 Z p0 p1 p2 p3 p4 wc sx kW kQ kS kY kE h0 n0 _ T0c76.heap _ ∧ T0c76.heap = h0c74; rw [e0c76]; exact ⟨⟨rfl, N0c76⟩, rfl⟩) (by decide) (by decide))
        · refine stp (fun t k => XS.ifNo X040.here hx rfl (hb hby at_63) rfl ((if0 _ _).trans (feq hc0_70).1) k) ?_
          show W (T040.setTop (mkF m 66 #[.val (.int p0), .val (.int p1), .val (.int p2), .val (.int p3), .val (.int p4), .val (.int u0_1), .val (.ref r0c2), .val (.int u0_36), .val (.int u0_37), .val (.int v0_39), .unset, .unset, .unset] []))
          obtain ⟨T078, h078, X078, e078, E078, A078, D078, -, st078⟩ := newO X040 hx hZ hown (hw _ (List.mem_of_getElem? (i := 58) rfl)) (hw _ (List.mem_of_getElem? (i := 18) rfl)) (hw _ (List.mem_of_getElem? (i := 10) rfl)) e040 (g := (mkF m 66 #[.val (.int p0), .val (.int p1), .val (.int p2), .val (.int p3), .val (.int p4), .val (.int u0_1), .val (.ref r0c2), .val (.int u0_36), .val (.int u0_37), .val (.int v0_39), .unset, .unset, .unset] [])) rfl (hb hby at_66) (by decide) (by decide)
          obtain ⟨b078, gq078⟩ : ∃ z, z = h0.size := ⟨_, rfl⟩
          rw [← gq078] at A078 D078 st078
          replace CC := CC.ext E078
          have g_b078 : n0 ≤ b078 := Nat.le_trans Z0 (Nat.le_of_eq gq078.symm)
          have sz_b078 : h0.size ≤ b078 := Nat.le_trans (Keep.refl h0 []).1 (Nat.le_of_eq gq078.symm)
          have K078 := (Keep.refl h0 []).ext E078
          have Z078 := Nat.le_trans Z0 E078.1
          have O078 := O0.ext E078
          have E_b078 := A078
          have F_value_b078 : Fld Z h078 b078 "java/lang/String" "value" "[B" .null := D078 (Or.inr (hw _ (List.mem_of_getElem? (i := 31) rfl))) (ty := (.array .byte)) (by decide)
          have F_coder_b078 : Fld Z h078 b078 "java/lang/String" "coder" "B" (.int (0 : Int32)) := D078 (Or.inr (hw _ (List.mem_of_getElem? (i := 33) rfl))) (ty := .byte) (by decide)
          refine stp (fun t k => st078 t k) ?_
          show W (T078.setTop (mkF m 69 #[.val (.int p0), .val (.int p1), .val (.int p2), .val (.int p3), .val (.int p4), .val (.int u0_1), .val (.ref r0c2), .val (.int u0_36), .val (.int u0_37), .val (.int v0_39), .unset, .unset, .unset] [(.ref b078)]))
          refine stp (fun t k => XS.dup X078.here hx rfl (hb hby at_69) rfl rfl k) ?_
          show W (T078.setTop (mkF m 70 #[.val (.int p0), .val (.int p1), .val (.int p2), .val (.int p3), .val (.int p4), .val (.int u0_1), .val (.ref r0c2), .val (.int u0_36), .val (.int u0_37), .val (.int v0_39), .unset, .unset, .unset] [(.ref b078), (.ref b078)]))
          refine stp (fun t k => XS.iconst X078.here hx rfl (hb hby at_70) k) ?_
          show W (T078.setTop (mkF m 71 #[.val (.int p0), .val (.int p1), .val (.int p2), .val (.int p3), .val (.int p4), .val (.int u0_1), .val (.ref r0c2), .val (.int u0_36), .val (.int u0_37), .val (.int v0_39), .unset, .unset, .unset] [(.int (2 : Int32)), (.ref b078), (.ref b078)]))
          obtain ⟨T079, h079, k079, X079, e079, E079, A079, st079⟩ := newP X078 hx hZ (hw _ (List.mem_of_getElem? (i := 59) rfl)) e078 (g := (mkF m 71 #[.val (.int p0), .val (.int p1), .val (.int p2), .val (.int p3), .val (.int p4), .val (.int u0_1), .val (.ref r0c2), .val (.int u0_36), .val (.int u0_37), .val (.int v0_39), .unset, .unset, .unset] [(.int (2 : Int32)), (.ref b078), (.ref b078)])) rfl (hb hby at_71) rfl (by decide) (cap := 2) (by decide) (by decide) (by decide) (by decide)
          obtain ⟨b079, gq079⟩ : ∃ z, z = h078.size := ⟨_, rfl⟩
          rw [← gq079] at A079 st079
          replace CC := CC.ext E079
          have ne_b078_b079 : b078 ≠ b079 := Nat.ne_of_lt (Nat.lt_of_lt_of_le E_b078.lt (Nat.le_of_eq gq079.symm))
          have g_b079 : n0 ≤ b079 := Nat.le_trans Z078 (Nat.le_of_eq gq079.symm)
          have sz_b079 : h0.size ≤ b079 := Nat.le_trans K078.1 (Nat.le_of_eq gq079.symm)
          replace E_b078 := E_b078.ext E079
          replace F_value_b078 := F_value_b078.ext E079
          replace F_coder_b078 := F_coder_b078.ext E079
          have K079 := K078.ext E079
          have Z079 := Nat.le_trans Z078 E079.1
          have O079 := O078.ext E079
          have V_b079 : Arv Z h079 b079 k079 .char (2 : Int32) [(.int (0 : Int32)), (.int (0 : Int32))] (.int (0 : Int32)) := (Arv.new A079 (by decide)).pad (pad_rep [] (.int (0 : Int32)) 2)
          refine stp (fun t k => st079 t k) ?_
          show W (T079.setTop (mkF m 73 #[.val (.int p0), .val (.int p1), .val (.int p2), .val (.int p3), .val (.int p4), .val (.int u0_1), .val (.ref r0c2), .val (.int u0_36), .val (.int u0_37), .val (.int v0_39), .unset, .unset, .unset] [(.ref b079), (.ref b078), (.ref b078)]))
          refine stp (fun t k => XS.dup X079.here hx rfl (hb hby at_73) rfl rfl k) ?_
          show W (T079.setTop (mkF m 74 #[.val (.int p0), .val (.int p1), .val (.int p2), .val (.int p3), .val (.int p4), .val (.int u0_1), .val (.ref r0c2), .val (.int u0_36), .val (.int u0_37), .val (.int v0_39), .unset, .unset, .unset] [(.ref b079), (.ref b079), (.ref b078), (.ref b078)]))
          refine stp (fun t k => XS.iconst X079.here hx rfl (hb hby at_74) k) ?_
          show W (T079.setTop (mkF m 75 #[.val (.int p0), .val (.int p1), .val (.int p2), .val (.int p3), .val (.int p4), .val (.int u0_1), .val (.ref r0c2), .val (.int u0_36), .val (.int u0_37), .val (.int v0_39), .unset, .unset, .unset] [(.int (0 : Int32)), (.ref b079), (.ref b079), (.ref b078), (.ref b078)]))
          refine stp (fun t k => XS.iload X079.here hx rfl (hb hby at_75) rfl k) ?_
          show W (T079.setTop (mkF m 77 #[.val (.int p0), .val (.int p1), .val (.int p2), .val (.int p3), .val (.int p4), .val (.int u0_1), .val (.ref r0c2), .val (.int u0_36), .val (.int u0_37), .val (.int v0_39), .unset, .unset, .unset] [(.int u0_36), (.int (0 : Int32)), (.ref b079), (.ref b079), (.ref b078), (.ref b078)]))
          obtain ⟨cl080, Ar080, qk080, qs080, qn080, qh080, qg080⟩ := id V_b079
          have hin080 : ¬ ((0 : Int32) < 0 ∨ cl080.slots.size ≤ ((0 : Int32)).toNatClampNeg) := inb_of qs080 ⟨by decide, by decide⟩
          obtain ⟨T080, h080, X080, e080, W080, st080⟩ := stC X079 hx hZ e079 Ar080 (j := (0 : Int32)) hin080 (g := (mkF m 77 #[.val (.int p0), .val (.int p1), .val (.int p2), .val (.int p3), .val (.int p4), .val (.int u0_1), .val (.ref r0c2), .val (.int u0_36), .val (.int u0_37), .val (.int v0_39), .unset, .unset, .unset] [(.int u0_36), (.int (0 : Int32)), (.ref b079), (.ref b079), (.ref b078), (.ref b078)])) rfl rfl (hb hby at_77)
          have V_b079x := Arv.set Ar080 qk080 qs080 qn080 qh080 qg080 (fits_nar_char _) W080 0 rfl (Nat.le_of_ble_eq_true rfl)
          have N080 := Fr.snoc X080 N040 g_b079
          obtain ⟨lc0t81, X080, N080⟩ : ∃ lc, Stand p l e room_1 (s.setVm vm0) m #[(.int p0), (.int p1), (.int p2), (.int p3), (.int p4)] below meth c T080 lc 2 6 ∧ Fr n0 lc := ⟨_, X080, N080⟩
          have SFw : Safe Z ownEL vm0 _ b079 := (Safe.arv hZ.alike V_b079 (by decide))
          replace CC := CC.wr W080 SFw
          clear SFw
          replace E_b078 := E_b078.wr W080
          replace F_value_b078 := F_value_b078.other W080 (Or.inl ne_b078_b079)
          replace F_coder_b078 := F_coder_b078.other W080 (Or.inl ne_b078_b079)
          have K080 := K079.wr W080 (Or.inr sz_b079)
          have Z080 := Nat.le_trans Z079 (Keep.of_wr W080).1
          have O080 := O079.wr W080 g_b079
          replace V_b079 : Arv Z h080 b079 k079 .char (2 : Int32) [(.int (nar .char u0_36)), (.int (0 : Int32))] (.int (0 : Int32)) := V_b079x
          refine stp (fun t k => st080 t k) ?_
          show W (T080.setTop (mkF m 78 #[.val (.int p0), .val (.int p1), .val (.int p2), .val (.int p3), .val (.int p4), .val (.int u0_1), .val (.ref r0c2), .val (.int u0_36), .val (.int u0_37), .val (.int v0_39), .unset, .unset, .unset] [(.ref b079), (.ref b078), (.ref b078)]))
          refine stp (fun t k => XS.dup X080.here hx rfl (hb hby at_78) rfl rfl k) ?_
          show W (T080.setTop (mkF m 79 #[.val (.int p0), .val (.int p1), .val (.int p2), .val (.int p3), .val (.int p4), .val (.int u0_1), .val (.ref r0c2), .val (.int u0_36), .val (.int u0_37), .val (.int v0_39), .unset, .unset, .unset] [(.ref b079), (.ref b079), (.ref b078), (.ref b078)]))
          refine stp (fun t k => XS.iconst X080.here hx rfl (hb hby at_79) k) ?_
          show W (T080.setTop (mkF m 80 #[.val (.int p0), .val (.int p1), .val (.int p2), .val (.int p3), .val (.int p4), .val (.int u0_1), .val (.ref r0c2), .val (.int u0_36), .val (.int u0_37), .val (.int v0_39), .unset, .unset, .unset] [(.int (1 : Int32)), (.ref b079), (.ref b079), (.ref b078), (.ref b078)]))
          refine stp (fun t k => XS.iload X080.here hx rfl (hb hby at_80) rfl k) ?_
          show W (T080.setTop (mkF m 82 #[.val (.int p0), .val (.int p1), .val (.int p2), .val (.int p3), .val (.int p4), .val (.int u0_1), .val (.ref r0c2), .val (.int u0_36), .val (.int u0_37), .val (.int v0_39), .unset, .unset, .unset] [(.int u0_37), (.int (1 : Int32)), (.ref b079), (.ref b079), (.ref b078), (.ref b078)]))
          obtain ⟨cl082, Ar082, qk082, qs082, qn082, qh082, qg082⟩ := id V_b079
          have hin082 : ¬ ((1 : Int32) < 0 ∨ cl082.slots.size ≤ ((1 : Int32)).toNatClampNeg) := inb_of qs082 ⟨by decide, by decide⟩
          obtain ⟨T082, h082, X082, e082, W082, st082⟩ := stC X080 hx hZ e080 Ar082 (j := (1 : Int32)) hin082 (g := (mkF m 82 #[.val (.int p0), .val (.int p1), .val (.int p2), .val (.int p3), .val (.int p4), .val (.int u0_1), .val (.ref r0c2), .val (.int u0_36), .val (.int u0_37), .val (.int v0_39), .unset, .unset, .unset] [(.int u0_37), (.int (1 : Int32)), (.ref b079), (.ref b079), (.ref b078), (.ref b078)])) rfl rfl (hb hby at_82)
          have V_b079x := Arv.set Ar082 qk082 qs082 qn082 qh082 qg082 (fits_nar_char _) W082 1 rfl (Nat.le_of_ble_eq_true rfl)
          have N082 := Fr.snoc X082 N080 g_b079
          obtain ⟨lc0t83, X082, N082⟩ : ∃ lc, Stand p l e room_1 (s.setVm vm0) m #[(.int p0), (.int p1), (.int p2), (.int p3), (.int p4)] below meth c T082 lc 2 6 ∧ Fr n0 lc := ⟨_, X082, N082⟩
          have SFw : Safe Z ownEL vm0 _ b079 := (Safe.arv hZ.alike V_b079 (by decide))
          replace CC := CC.wr W082 SFw
          clear SFw
          replace E_b078 := E_b078.wr W082
          replace F_value_b078 := F_value_b078.other W082 (Or.inl ne_b078_b079)
          replace F_coder_b078 := F_coder_b078.other W082 (Or.inl ne_b078_b079)
          have K082 := K080.wr W082 (Or.inr sz_b079)
          have Z082 := Nat.le_trans Z080 (Keep.of_wr W082).1
          have O082 := O080.wr W082 g_b079
          replace V_b079 : Arv Z h082 b079 k079 .char (2 : Int32) [(.int (nar .char u0_36)), (.int (nar .char u0_37))] (.int (0 : Int32)) := V_b079x
          refine stp (fun t k => st082 t k) ?_
          show W (T082.setTop (mkF m 83 #[.val (.int p0), .val (.int p1), .val (.int p2), .val (.int p3), .val (.int p4), .val (.int u0_1), .val (.ref r0c2), .val (.int u0_36), .val (.int u0_37), .val (.int v0_39), .unset, .unset, .unset] [(.ref b079), (.ref b078), (.ref b078)]))
          have V1_b079 : Arv Z h082 b079 k079 .char (Int32.ofNat 2) (own_vs 2 (own_g2 u0_36 u0_37)) (.int (0 : Int32)) := V_b079
          obtain ⟨_, _, ⟨T0c84, L0c84, k0c84, n0c84⟩, -, X0c84, ⟨Lc0c84, hQ0c84, l0c84, y0c84, z0c84⟩, st0c84⟩ := X082.specialBack hx (y := (⟨"java/lang/String", "<init>", "([C)V"⟩ : MethodName)) rfl hown (mvT hZ (hw _ (List.mem_of_getElem? (i := 60) rfl))) (mvT hZ (hw _ (List.mem_of_getElem? (i := 61) rfl))) (mvT hZ (hw _ (List.mem_of_getElem? (i := 62) rfl))) (by decide) (backOf (W := 1) (rmi1 l Z aa hw [] b078 b079 wc sx 2 (own_g2 u0_36 u0_37) k079 h082 n0 Z082 BW O082 (by decide) (own_g2R u0_36 u0_37 2 (by decide)) E_b078 F_value_b078 F_coder_b078 g_b078 V1_b079 ne_b078_b079 (by decide)) hZ (hw _ (List.mem_of_getElem? (i := 62) rfl)) (hw _ (List.mem_of_getElem? (i := 10) rfl)) (by decide) (by decide)) (g := (mkF m 83 #[.val (.int p0), .val (.int p1), .val (.int p2), .val (.int p3), .val (.int p4), .val (.int u0_1), .val (.ref r0c2), .val (.int u0_36), .val (.int u0_37), .val (.int v0_39), .unset, .unset, .unset] [(.ref b079), (.ref b078), (.ref b078)])) rfl (by rw [hml]; rfl) (Steps.refl _) (a := b078) (argsL := [(.ref b079)]) (rest := [(.ref b078)]) (lenOf pd0_4 rfl) rfl (by show 2 * 0 + _ ≤ _; exact Nat.le_of_eq rfl) (hb hby at_83) (fun _ _ => ⟨rfl, e082, (by decide : 2 + 2 ≤ _), (by decide : 6 + 6 ≤ _)⟩)
          dsimp only [Pt.U, Pt.locs, Pt.cells, Pt.slots] at X0c84 l0c84 y0c84 z0c84 st0c84 hQ0c84
          subst l0c84 y0c84 z0c84
          obtain ⟨rfl, N0c84q, Kq0c84, b0c84, sz_b0c84, S_0c84⟩ := hQ0c84
          have N0c84 := Fr.app N082 N0c84q
          obtain ⟨lc0t85, X0c84, N0c84⟩ : ∃ lc, Stand p l e room_1 (s.setVm vm0) m #[(.int p0), (.int p1), (.int p2), (.int p3), (.int p4)] below meth c T0c84 lc 4 12 ∧ Fr n0 lc := ⟨_, X0c84, N0c84⟩
          obtain ⟨h0c84, e0c84⟩ : ∃ h, T0c84.heap = h := ⟨_, rfl⟩
          rw [e0c84] at Kq0c84 S_0c84
          have ne_b078_b0c84 : b078 ≠ b0c84 := Nat.ne_of_lt (Nat.lt_of_lt_of_le E_b078.lt sz_b0c84)
          have ne_b079_b0c84 : b079 ≠ b0c84 := Nat.ne_of_lt (Nat.lt_of_lt_of_le V_b079.lt sz_b0c84)
          have g_b0c84 : n0 ≤ b0c84 := Nat.le_trans Z082 sz_b0c84
          have SF_b078 : Safe Z ownEL vm0 _ b078 := (own_safeNull hZ.alike E_b078 F_value_b078)
          have SFk : ∀ x ∈ ([b078] : List Addr), Safe Z ownEL vm0 _ x := (sfS SF_b078 sf0)
          replace SF_b078 := Safe.keep Kq0c84 SFk CC.2.1 SF_b078
          replace CC := CC.keep Kq0c84 SFk
          clear SFk
          replace V_b079 := V_b079.keep Kq0c84 (ninS (Ne.symm ne_b078_b079) nin0)
          have KK0c84 := Keep.trans K082 Kq0c84 (allS (Or.inr sz_b078) all0)
          have Z0c84 := Nat.le_trans Z082 Kq0c84.1
          have O0c84 := O082.keep Kq0c84 (allS g_b078 all0)
          refine stp (fun t k => st0c84.trans k) ?_
          show W (T0c84.setTop (mkF m 86 #[.val (.int p0), .val (.int p1), .val (.int p2), .val (.int p3), .val (.int p4), .val (.int u0_1), .val (.ref r0c2), .val (.int u0_36), .val (.int u0_37), .val (.int v0_39), .unset, .unset, .unset] [(.ref b078)]))
          refine stp (fun t k => XS.astore X0c84.here hx rfl (hb hby at_86) rfl rfl (l' := #[.val (.int p0), .val (.int p1), .val (.int p2), .val (.int p3), .val (.int p4), .val (.int u0_1), .val (.ref r0c2), .val (.int u0_36), .val (.int u0_37), .val (.int v0_39), .val (.ref b078), .unset, .unset]) rfl k) ?_
          show W (T0c84.setTop (mkF m 88 #[.val (.int p0), .val (.int p1), .val (.int p2), .val (.int p3), .val (.int p4), .val (.int u0_1), .val (.ref r0c2), .val (.int u0_36), .val (.int u0_37), .val (.int v0_39), .val (.ref b078), .unset, .unset] []))
          refine stp (fun t k => XS.goto X0c84.here hx rfl (pc0 := 88) (pc' := 98) rfl (hb hby at_88) (by decide) (by decide) k) ?_
          show W (T0c84.setTop (mkF m 98 #[.val (.int p0), .val (.int p1), .val (.int p2), .val (.int p3), .val (.int p4), .val (.int u0_1), .val (.ref r0c2), .val (.int u0_36), .val (.int u0_37), .val (.int v0_39), .val (.ref b078), .unset, .unset] []))
          obtain ⟨T086, h086, X086, e086, E086, A086, D086, -, st086⟩ := newO X0c84 hx hZ hown (hw _ (List.mem_of_getElem? (i := 34) rfl)) (hw _ (List.mem_of_getElem? (i := 35) rfl)) (hw _ (List.mem_of_getElem? (i := 36) rfl)) e0c84 (g := (mkF m 98 #[.val (.int p0), .val (.int p1), .val (.int p2), .val (.int p3), .val (.int p4), .val (.int u0_1), .val (.ref r0c2), .val (.int u0_36), .val (.int u0_37), .val (.int v0_39), .val (.ref b078), .unset, .unset] [])) rfl (hb hby at_98) (by decide) (by decide)
          obtain ⟨b086, gq086⟩ : ∃ z, z = h0c84.size := ⟨_, rfl⟩
          rw [← gq086] at A086 D086 st086
          replace CC := CC.ext E086
          have ne_b078_b086 : b078 ≠ b086 := Nat.ne_of_lt (Nat.lt_of_lt_of_le S_0c84.lt0 (Nat.le_of_eq gq086.symm))
          have ne_b079_b086 : b079 ≠ b086 := Nat.ne_of_lt (Nat.lt_of_lt_of_le V_b079.lt (Nat.le_of_eq gq086.symm))
          have ne_b0c84_b086 : b0c84 ≠ b086 := Nat.ne_of_lt (Nat.lt_of_lt_of_le S_0c84.lt1 (Nat.le_of_eq gq086.symm))
          have g_b086 : n0 ≤ b086 := Nat.le_trans Z0c84 (Nat.le_of_eq gq086.symm)
          have sz_b086 : h0.size ≤ b086 := Nat.le_trans KK0c84.1 (Nat.le_of_eq gq086.symm)
          replace V_b079 := V_b079.ext E086
          replace S_0c84 := S_0c84.ext E086
          have K086 := KK0c84.ext E086
          have Z086 := Nat.le_trans Z0c84 E086.1
          have O086 := O0c84.ext E086
          have E_b086 := A086
          have F_kind_b086 : Fld Z h086 b086 "com/example/grant3/grant3/Lexer$Token" "kind" "Lcom/example/grant3/grant3/Lexer$Kind;" .null := D086 (Or.inr (hw _ (List.mem_of_getElem? (i := 47) rfl))) (ty := (.object "com/example/grant3/grant3/Lexer$Kind")) (by decide)
          have F_text_b086 : Fld Z h086 b086 "com/example/grant3/grant3/Lexer$Token" "text" "Ljava/lang/String;" .null := D086 (Or.inr (hw _ (List.mem_of_getElem? (i := 49) rfl))) (ty := (.object "java/lang/String")) (by decide)
          refine stp (fun t k => st086 t k) ?_
          show W (T086.setTop (mkF m 101 #[.val (.int p0), .val (.int p1), .val (.int p2), .val (.int p3), .val (.int p4), .val (.int u0_1), .val (.ref r0c2), .val (.int u0_36), .val (.int u0_37), .val (.int v0_39), .val (.ref b078), .unset, .unset] [(.ref b086)]))
          refine stp (fun t k => XS.dup X086.here hx rfl (hb hby at_101) rfl rfl k) ?_
          show W (T086.setTop (mkF m 102 #[.val (.int p0), .val (.int p1), .val (.int p2), .val (.int p3), .val (.int p4), .val (.int u0_1), .val (.ref r0c2), .val (.int u0_36), .val (.int u0_37), .val (.int v0_39), .val (.ref b078), .unset, .unset] [(.ref b086), (.ref b086)]))
          refine stp (fun t k => XS.aload X086.here hx rfl (hb hby at_102) rfl rfl k) ?_
          show W (T086.setTop (mkF m 104 #[.val (.int p0), .val (.int p1), .val (.int p2), .val (.int p3), .val (.int p4), .val (.int u0_1), .val (.ref r0c2), .val (.int u0_36), .val (.int u0_37), .val (.int v0_39), .val (.ref b078), .unset, .unset] [(.ref r0c2), (.ref b086), (.ref b086)]))
          refine stp (fun t k => XS.aload X086.here hx rfl (hb hby at_104) rfl rfl k) ?_
          show W (T086.setTop (mkF m 106 #[.val (.int p0), .val (.int p1), .val (.int p2), .val (.int p3), .val (.int p4), .val (.int u0_1), .val (.ref r0c2), .val (.int u0_36), .val (.int u0_37), .val (.int v0_39), .val (.ref b078), .unset, .unset] [(.ref b078), (.ref r0c2), (.ref b086), (.ref b086)]))
          obtain ⟨_, _, ⟨T0c87, L0c87, k0c87, n0c87⟩, -, X0c87, ⟨Lc0c87, hQ0c87, l0c87, y0c87, z0c87⟩, st0c87⟩ := X086.specialBack hx (y := (⟨"com/example/grant3/grant3/Lexer$Token", "<init>", "(Lcom/example/grant3/grant3/Lexer$Kind;Ljava/lang/String;)V"⟩ : MethodName)) rfl hown (mvT hZ (hw _ (List.mem_of_getElem? (i := 37) rfl))) (mvT hZ (hw _ (List.mem_of_getElem? (i := 38) rfl))) (mvT hZ (hw _ (List.mem_of_getElem? (i := 39) rfl))) (by decide) (backOf (W := 1) (rmtk l Z aa hw [] b086 r0c2 b078 wc sx h086 n0 Z086 BW O086 E_b086 F_kind_b086 F_text_b086 g_b086) hZ (hw _ (List.mem_of_getElem? (i := 39) rfl)) (hw _ (List.mem_of_getElem? (i := 36) rfl)) (by decide) (by decide)) (g := (mkF m 106 #[.val (.int p0), .val (.int p1), .val (.int p2), .val (.int p3), .val (.int p4), .val (.int u0_1), .val (.ref r0c2), .val (.int u0_36), .val (.int u0_37), .val (.int v0_39), .val (.ref b078), .unset, .unset] [(.ref b078), (.ref r0c2), (.ref b086), (.ref b086)])) rfl (by rw [hml]; rfl) (Steps.refl _) (a := b086) (argsL := [(.ref r0c2), (.ref b078)]) (rest := [(.ref b086)]) (lenOf pd0_2 rfl) rfl (by show 2 * 0 + _ ≤ _; exact Nat.le_of_eq rfl) (hb hby at_106) (fun _ _ => ⟨rfl, e086, (by decide : 5 + 0 ≤ _), (by decide : 14 + 0 ≤ _)⟩)
          dsimp only [Pt.U, Pt.locs, Pt.cells, Pt.slots] at X0c87 l0c87 y0c87 z0c87 st0c87 hQ0c87
          subst l0c87 y0c87 z0c87
          obtain ⟨rfl, N0c87q, Kq0c87, EE0c87, FK0c87, FT0c87⟩ := hQ0c87
          have N0c87 := Fr.app N0c84 N0c87q
          obtain ⟨lc0t88, X0c87, N0c87⟩ : ∃ lc, Stand p l e room_1 (s.setVm vm0) m #[(.int p0), (.int p1), (.int p2), (.int p3), (.int p4)] below meth c T0c87 lc 5 14 ∧ Fr n0 lc := ⟨_, X0c87, N0c87⟩
          obtain ⟨h0c87, e0c87⟩ : ∃ h, T0c87.heap = h := ⟨_, rfl⟩
          rw [e0c87] at Kq0c87 EE0c87 FK0c87 FT0c87
          have SF_b086 : Safe Z ownEL vm0 _ b086 := (Safe.exa hZ.alike E_b086 (by decide) (by decide))
          have SFk : ∀ x ∈ ([b086] : List Addr), Safe Z ownEL vm0 _ x := (sfS SF_b086 sf0)
          replace SF_b086 := Safe.keep Kq0c87 SFk CC.2.1 SF_b086
          replace CC := CC.keep Kq0c87 SFk
          clear SFk
          replace V_b079 := V_b079.keep Kq0c87 (ninS ne_b079_b086 nin0)
          replace S_0c84 := S_0c84.keep Kq0c87 (ninS ne_b078_b086 nin0) (ninS ne_b0c84_b086 nin0)
          have KK0c87 := Keep.trans K086 Kq0c87 (allS (Or.inr sz_b086) all0)
          have Z0c87 := Nat.le_trans Z086 Kq0c87.1
          have O0c87 := O086.keep Kq0c87 (allS g_b086 all0)
          refine stp (fun t k => st0c87.trans k) ?_
          show W (T0c87.setTop (mkF m 109 #[.val (.int p0), .val (.int p1), .val (.int p2), .val (.int p3), .val (.int p4), .val (.int u0_1), .val (.ref r0c2), .val (.int u0_36), .val (.int u0_37), .val (.int v0_39), .val (.ref b078), .unset, .unset] [(.ref b086)]))
          refine stp (fun t k => XS.astore X0c87.here hx rfl (hb hby at_109) rfl rfl (l' := #[.val (.int p0), .val (.int p1), .val (.int p2), .val (.int p3), .val (.int p4), .val (.int u0_1), .val (.ref r0c2), .val (.int u0_36), .val (.int u0_37), .val (.int v0_39), .val (.ref b078), .val (.ref b086), .unset]) rfl k) ?_
          show W (T0c87.setTop (mkF m 111 #[.val (.int p0), .val (.int p1), .val (.int p2), .val (.int p3), .val (.int p4), .val (.int u0_1), .val (.ref r0c2), .val (.int u0_36), .val (.int u0_37), .val (.int v0_39), .val (.ref b078), .val (.ref b086), .unset] []))
          refine stp (fun t k => XS.iload X0c87.here hx rfl (hb hby at_111) rfl k) ?_
          show W (T0c87.setTop (mkF m 113 #[.val (.int p0), .val (.int p1), .val (.int p2), .val (.int p3), .val (.int p4), .val (.int u0_1), .val (.ref r0c2), .val (.int u0_36), .val (.int u0_37), .val (.int v0_39), .val (.ref b078), .val (.ref b086), .unset] [(.int u0_1)]))
          refine stp (fun t k => XS.iconst X0c87.here hx rfl (hb hby at_113) k) ?_
          show W (T0c87.setTop (mkF m 114 #[.val (.int p0), .val (.int p1), .val (.int p2), .val (.int p3), .val (.int p4), .val (.int u0_1), .val (.ref r0c2), .val (.int u0_36), .val (.int u0_37), .val (.int v0_39), .val (.ref b078), .val (.ref b086), .unset] [(.int (3 : Int32)), (.int u0_1)]))
          refine stp (fun t k => XS.icmpYes X0c87.here hx rfl (pc0 := 114) (pc' := 134) rfl (hb hby at_114) rfl ((feq (h3)).2) (by decide) (by decide) k) ?_
          show W (T0c87.setTop (mkF m 134 #[.val (.int p0), .val (.int p1), .val (.int p2), .val (.int p3), .val (.int p4), .val (.int u0_1), .val (.ref r0c2), .val (.int u0_36), .val (.int u0_37), .val (.int v0_39), .val (.ref b078), .val (.ref b086), .unset] []))
          refine stp (fun t k => XS.iconst X0c87.here hx rfl (hb hby at_134) k) ?_
          show W (T0c87.setTop (mkF m 135 #[.val (.int p0), .val (.int p1), .val (.int p2), .val (.int p3), .val (.int p4), .val (.int u0_1), .val (.ref r0c2), .val (.int u0_36), .val (.int u0_37), .val (.int v0_39), .val (.ref b078), .val (.ref b086), .unset] [(.int (0 : Int32))]))
          refine stp (fun t k => XS.istore X0c87.here hx rfl (hb hby at_135) rfl (l' := #[.val (.int p0), .val (.int p1), .val (.int p2), .val (.int p3), .val (.int p4), .val (.int u0_1), .val (.ref r0c2), .val (.int u0_36), .val (.int u0_37), .val (.int v0_39), .val (.ref b078), .val (.ref b086), .val (.int (0 : Int32))]) rfl k) ?_
          show W (T0c87.setTop (mkF m 137 #[.val (.int p0), .val (.int p1), .val (.int p2), .val (.int p3), .val (.int p4), .val (.int u0_1), .val (.ref r0c2), .val (.int u0_36), .val (.int u0_37), .val (.int v0_39), .val (.ref b078), .val (.ref b086), .val (.int (0 : Int32))] []))
          refine stp (fun t k => XS.aload X0c87.here hx rfl (hb hby at_137) rfl rfl k) ?_
          show W (T0c87.setTop (mkF m 139 #[.val (.int p0), .val (.int p1), .val (.int p2), .val (.int p3), .val (.int p4), .val (.int u0_1), .val (.ref r0c2), .val (.int u0_36), .val (.int u0_37), .val (.int v0_39), .val (.ref b078), .val (.ref b086), .val (.int (0 : Int32))] [(.ref b086)]))
          refine stp (fun t k => XS.iload X0c87.here hx rfl (hb hby at_139) rfl k) ?_
          show W (T0c87.setTop (mkF m 141 #[.val (.int p0), .val (.int p1), .val (.int p2), .val (.int p3), .val (.int p4), .val (.int u0_1), .val (.ref r0c2), .val (.int u0_36), .val (.int u0_37), .val (.int v0_39), .val (.ref b078), .val (.ref b086), .val (.int (0 : Int32))] [(.int v0_39), (.ref b086)]))
          obtain ⟨cq0c89, kq0c89, q0c89a, q0c89b, q0c89c⟩ := isOf hZ e0c87 EE0c87
          obtain ⟨_, _, ⟨T0c89, L0c89, k0c89, n0c89⟩, -, X0c89, ⟨Lc0c89, hQ0c89, l0c89, y0c89, z0c89⟩, st0c89⟩ := X0c87.virtualBack hx (y := (⟨"com/example/grant3/grant3/Lexer$Token", "isSymbol", "(C)Z"⟩ : MethodName)) (z := (⟨"com/example/grant3/grant3/Lexer$Token", "isSymbol", "(C)Z"⟩ : MethodName)) hown (mvT hZ (hw _ (List.mem_of_getElem? (i := 50) rfl))) (mvT hZ (hw _ (List.mem_of_getElem? (i := 51) rfl))) (notFace_of_selects (args := #[]) (mvT hZ (hw _ (List.mem_of_getElem? (i := 53) rfl)))) (mvT hZ (hw _ (List.mem_of_getElem? (i := 53) rfl))) (mvT hZ (hw _ (List.mem_of_getElem? (i := 52) rfl))) (by decide) (backOf (W := 0) (rmsn l Z aa hw [] b086 v0_39 wc sx kW kQ kS kY kE r0c2 h0c87 n0 Z0c87 BW O0c87 BK EE0c87 FK0c87 hr) hZ (hw _ (List.mem_of_getElem? (i := 54) rfl)) (hw _ (List.mem_of_getElem? (i := 36) rfl)) (by decide) (by decide)) q0c89a q0c89c (g := (mkF m 141 #[.val (.int p0), .val (.int p1), .val (.int p2), .val (.int p3), .val (.int p4), .val (.int u0_1), .val (.ref r0c2), .val (.int u0_36), .val (.int u0_37), .val (.int v0_39), .val (.ref b078), .val (.ref b086), .val (.int (0 : Int32))] [(.int v0_39), (.ref b086)])) rfl (by rw [hml]; rfl) (Steps.refl _) (argsL := [(.int v0_39)]) (rest := []) (lenOf pd0_3 rfl) rfl (by show 2 * 0 + _ ≤ _; exact Nat.le_of_eq rfl) (hb hby at_141) (fun _ _ => ⟨rfl, e0c87, (by decide : 5 + 0 ≤ _), (by decide : 14 + 0 ≤ _)⟩)
          dsimp only [Pt.U, Pt.locs, Pt.cells, Pt.slots] at X0c89 l0c89 y0c89 z0c89 st0c89 hQ0c89
          subst l0c89 y0c89 z0c89
          obtain ⟨rfl, N0c89q, e0c89⟩ := hQ0c89
          have N0c89 := Fr.app N0c87 N0c89q
          obtain ⟨lc0t90, X0c89, N0c89⟩ : ∃ lc, Stand p l e room_1 (s.setVm vm0) m #[(.int p0), (.int p1), (.int p2), (.int p3), (.int p4)] below meth c T0c89 lc 5 14 ∧ Fr n0 lc := ⟨_, X0c89, N0c89⟩
          refine stp (fun t k => st0c89.trans k) ?_
          show W (T0c89.setTop (mkF m 144 #[.val (.int p0), .val (.int p1), .val (.int p2), .val (.int p3), .val (.int p4), .val (.int u0_1), .val (.ref r0c2), .val (.int u0_36), .val (.int u0_37), .val (.int v0_39), .val (.ref b078), .val (.ref b086), .val (.int (0 : Int32))] [(.int (0 : Int32))]))
          refine stp (fun t k => XS.iload X0c89.here hx rfl (hb hby at_144) rfl k) ?_
          show W (T0c89.setTop (mkF m 146 #[.val (.int p0), .val (.int p1), .val (.int p2), .val (.int p3), .val (.int p4), .val (.int u0_1), .val (.ref r0c2), .val (.int u0_36), .val (.int u0_37), .val (.int v0_39), .val (.ref b078), .val (.ref b086), .val (.int (0 : Int32))] [(.int (0 : Int32)), (.int (0 : Int32))]))
          refine stp (fun t k => XS.icmpNo X0c89.here hx rfl (hb hby at_146) rfl ((teq (rfl)).2) k) ?_
          show W (T0c89.setTop (mkF m 149 #[.val (.int p0), .val (.int p1), .val (.int p2), .val (.int p3), .val (.int p4), .val (.int u0_1), .val (.ref r0c2), .val (.int u0_36), .val (.int u0_37), .val (.int v0_39), .val (.ref b078), .val (.ref b086), .val (.int (0 : Int32))] []))
          refine stp (fun t k => XS.iconst X0c89.here hx rfl (hb hby at_149) k) ?_
          show W (T0c89.setTop (mkF m 150 #[.val (.int p0), .val (.int p1), .val (.int p2), .val (.int p3), .val (.int p4), .val (.int u0_1), .val (.ref r0c2), .val (.int u0_36), .val (.int u0_37), .val (.int v0_39), .val (.ref b078), .val (.ref b086), .val (.int (0 : Int32))] [(.int (1 : Int32))]))
          refine stp (fun t k => XS.goto X0c89.here hx rfl (pc0 := 150) (pc' := 154) rfl (hb hby at_150) (by decide) (by decide) k) ?_
          show W (T0c89.setTop (mkF m 154 #[.val (.int p0), .val (.int p1), .val (.int p2), .val (.int p3), .val (.int p4), .val (.int u0_1), .val (.ref r0c2), .val (.int u0_36), .val (.int u0_37), .val (.int v0_39), .val (.ref b078), .val (.ref b086), .val (.int (0 : Int32))] [(.int (1 : Int32))]))
          show W (T0c89.setTop (mkF m 154 #[.val (.int p0), .val (.int p1), .val (.int p2), .val (.int p3), .val (.int p4), .val (.int u0_1), .val (.ref r0c2), .val (.int u0_36), .val (.int u0_37), .val (.int v0_39), .val (.ref b078), .val (.ref b086), .val (.int (0 : Int32))] [(.int (1 : Int32))]))
          rw [← hW]
          exact own_W hZ hEL CC (own_retN X0c89 hx Bd.notSynchronized Bd.returns (w := (1 : Int32)) (by simp) (hb hby at_154) rfl (by show Q0 Z p0 p1 p2 p3 p4 wc sx kW kQ kS kY kE h0 n0 _ T0c89.heap _ ∧ T0c89.heap = h0c87; rw [e0c89]; exact ⟨⟨rfl, N0c89⟩, rfl⟩) (by decide) (by decide))
    by_cases hc0_38 : (p4 &&& (1 : Int32)) = (0 : Int32)
    · refine stp (fun t k => XS.ifYes X0c2.here hx rfl (pc0 := 27) (pc' := 35) rfl (hb hby at_27) rfl ((if0 _ _).trans (teq hc0_38).1) (by decide) (by decide) k) ?_
      show W (T0c2.setTop (mkF m 35 #[.val (.int p0), .val (.int p1), .val (.int p2), .val (.int p3), .val (.int p4), .val (.int u0_1), .val (.ref r0c2), .val (.int u0_36), .val (.int u0_37), .unset, .unset, .unset, .unset] []))
      refine stp (fun t k => XS.iloadN X0c2.here hx rfl (hb hby at_35) rfl k) ?_
      show W (T0c2.setTop (mkF m 36 #[.val (.int p0), .val (.int p1), .val (.int p2), .val (.int p3), .val (.int p4), .val (.int u0_1), .val (.ref r0c2), .val (.int u0_36), .val (.int u0_37), .unset, .unset, .unset, .unset] [(.int p3)]))
      refine stp (fun t k => XS.i2c X0c2.here hx rfl (hb hby at_36) rfl k) ?_
      show W (T0c2.setTop (mkF m 37 #[.val (.int p0), .val (.int p1), .val (.int p2), .val (.int p3), .val (.int p4), .val (.int u0_1), .val (.ref r0c2), .val (.int u0_36), .val (.int u0_37), .unset, .unset, .unset, .unset] [(.int (p3.toUInt32.toUInt16.toUInt32.toInt32))]))
      exact J0_37_40 _ _ (p3.toUInt32.toUInt16.toUInt32.toInt32) (by first | rfl | simp only [if_pos hc0_38]) X0c2 e0c2 N0c2
    · refine stp (fun t k => XS.ifNo X0c2.here hx rfl (hb hby at_27) rfl ((if0 _ _).trans (feq hc0_38).1) k) ?_
      show W (T0c2.setTop (mkF m 30 #[.val (.int p0), .val (.int p1), .val (.int p2), .val (.int p3), .val (.int p4), .val (.int u0_1), .val (.ref r0c2), .val (.int u0_36), .val (.int u0_37), .unset, .unset, .unset, .unset] []))
      refine stp (fun t k => XS.iload X0c2.here hx rfl (hb hby at_30) rfl k) ?_
      show W (T0c2.setTop (mkF m 32 #[.val (.int p0), .val (.int p1), .val (.int p2), .val (.int p3), .val (.int p4), .val (.int u0_1), .val (.ref r0c2), .val (.int u0_36), .val (.int u0_37), .unset, .unset, .unset, .unset] [(.int u0_36)]))
      refine stp (fun t k => XS.goto X0c2.here hx rfl (pc0 := 32) (pc' := 37) rfl (hb hby at_32) (by decide) (by decide) k) ?_
      show W (T0c2.setTop (mkF m 37 #[.val (.int p0), .val (.int p1), .val (.int p2), .val (.int p3), .val (.int p4), .val (.int u0_1), .val (.ref r0c2), .val (.int u0_36), .val (.int u0_37), .unset, .unset, .unset, .unset] [(.int u0_36)]))
      exact J0_37_40 _ _ u0_36 (by first | rfl | simp only [if_neg hc0_38]) X0c2 e0c2 N0c2
set_option maxRecDepth 65536 in
set_option maxHeartbeats 40000000 in
theorem comes_1 {Post : Tables → Env → Array Value → State → Outcome → State → Prop} (hpost : ∀ tb e args s v u, (limb_1_1.after args s (.returned v) u = true ∧ limb_1_2.after args s (.returned v) u = true ∧ True) → ReturnedEndW s (.returned v) u (Jvm.fieldLocs frame_1_writes args s ++ Jvm.arrayLocs frame_1_arrays args s ++ Jvm.staticLocs frame_1_statics s) 24 1152 → Post tb e args s (.returned v) u) :
    ArmFor flags0 classFile x code maxLocals ret World_1 tables_1 room_1 Calls_1 rest_1 Pre_1 Post := by
  intro l hfl _ _ p e ha hc hk s m args below hf hA hF happ hP
  obtain ⟨hcalls, hrest, hpre⟩ := hP
  obtain ⟨-, -, -, hnamed, -, -, -, hat⟩ := (Spec.applies_iff hf).mp happ
  obtain ⟨hg, hn⟩ := and_e (Cond.before_iff.mp (show (Jvm.Cond.and given_1 narrow_1).before args s = true from hpre))
  obtain ⟨gc, hg⟩ := and_e hg
  obtain ⟨g0, hg⟩ := and_e hg
  obtain ⟨g1, hg⟩ := and_e hg
  obtain ⟨g2, hg⟩ := and_e hg
  obtain ⟨g3, hg⟩ := and_e hg
  have g4 := hg
  obtain ⟨w0, w1, w2, w3, w4, rfl⟩ : ∃ w0 w1 w2 w3 w4 : Value, args = #[w0, w1, w2, w3, w4] := by
    have hs : args.size = 5 := by simpa [Cond.value, given_1] using gc
    obtain ⟨L⟩ := args
    match L, hs with
    | [w0, w1, w2, w3, w4], _ => exact ⟨w0, w1, w2, w3, w4, rfl⟩
  have hw := fun d (hd : d ∈ tables_1) => atoms_spec (ws := Jvm.Cond.code x code maxLocals ret :: tables_1) hat d (List.mem_cons_of_mem _ hd)
  have hfit : Fit s := fun {y c} hc i hi => by
    obtain ⟨ha, rfl⟩ := Array.getElem?_eq_some_iff.mp hc
    have q := List.all_eq_true.mp ((Array.all_eq_true_iff_forall_mem.mp hF) _ (Array.getElem_mem ha)) i (List.mem_range.mpr hi)
    simpa [Array.getElem?_eq_getElem hi] using q
  obtain ⟨hsets, hown0⟩ := atoms_of _ (rest_1_c_eq ▸ (show rest_1_c.before _ s = true from hrest))
  have hr0 := Cond.before_iff.mp hown0
  obtain ⟨i0, ei0⟩ := is_v g0
  obtain rfl : w0 = (.int i0) := Option.some.inj ei0
  obtain ⟨i1, ei1⟩ := is_v g1
  obtain rfl : w1 = (.int i1) := Option.some.inj ei1
  obtain ⟨i2, ei2⟩ := is_v g2
  obtain rfl : w2 = (.int i2) := Option.some.inj ei2
  obtain ⟨i3, ei3⟩ := is_v g3
  obtain rfl : w3 = (.int i3) := Option.some.inj ei3
  obtain ⟨i4, ei4⟩ := is_v g4
  obtain rfl : w4 = (.int i4) := Option.some.inj ei4
  obtain ⟨wc, ewc⟩ := is_v (Cond.before_iff.mp (hsets _ (List.mem_of_getElem? (i := 1) rfl)))
  have S_cs := Sta.start ewc (Or.inl (hsets _ (List.mem_of_getElem? (i := 0) rfl)))
  have hcs : ¬ (wc = (0 : Int32)) := fun q => by
    have h2 := not_v (Cond.before_iff.mp (hsets _ (List.mem_of_getElem? (i := 2) rfl)))
    rw [q] at ewc
    rw [eq_i ewc (Term.int_eval 0) rfl] at h2
    cases h2
  obtain ⟨sx, esx, hr_sx⟩ := isR_v (Cond.before_iff.mp (hsets _ (List.mem_of_getElem? (i := 8) rfl)))
  have S_si := Sta.start esx (Or.inl (hsets _ (List.mem_of_getElem? (i := 7) rfl)))
  have S_ad := Sta.start (own_eqI (Cond.before_iff.mp (hsets _ (List.mem_of_getElem? (i := 12) rfl))) (Term.int_eval 1)) (Or.inl (hsets _ (List.mem_of_getElem? (i := 11) rfl)))
  have S_hi := Sta.start (own_eqI (Cond.before_iff.mp (hsets _ (List.mem_of_getElem? (i := 15) rfl))) (Term.int_eval 0)) (Or.inl (hsets _ (List.mem_of_getElem? (i := 14) rfl)))
  have S_lo := Sta.start (own_eqI (Cond.before_iff.mp (hsets _ (List.mem_of_getElem? (i := 18) rfl))) (Term.int_eval 8)) (Or.inl (hsets _ (List.mem_of_getElem? (i := 17) rfl)))
  have BW : OwnW s wc sx := ⟨S_cs, hcs, S_si, hr_sx, S_ad, S_hi, S_lo⟩
  obtain ⟨q0, hn⟩ := and_e hn
  obtain ⟨q1, hn⟩ := and_e hn
  obtain ⟨q2, hn⟩ := and_e hn
  obtain ⟨q3, hn⟩ := and_e hn
  obtain ⟨q4, hn⟩ := and_e hn
  obtain ⟨q5, hn⟩ := and_e hn
  obtain ⟨q6, hn⟩ := and_e hn
  obtain ⟨q7, hn⟩ := and_e hn
  obtain ⟨q8, hn⟩ := and_e hn
  have q9 := hn
  obtain ⟨kW, x_kW⟩ := own_exr q0
  have s_kW := Sta.start x_kW (Or.inr ⟨(hw _ (List.mem_of_getElem? (i := 6) rfl)), (hw _ (List.mem_of_getElem? (i := 7) rfl))⟩)
  have o_kW := own_eqI q2 (Term.int_eval 0)
  obtain ⟨kY, x_kY⟩ := own_exr q1
  have s_kY := Sta.start x_kY (Or.inr ⟨(hw _ (List.mem_of_getElem? (i := 6) rfl)), (hw _ (List.mem_of_getElem? (i := 56) rfl))⟩)
  have o_kY := own_eqI q3 (Term.int_eval 3)
  obtain ⟨kS, x_kS⟩ := own_exr q4
  have s_kS := Sta.start x_kS (Or.inr ⟨(hw _ (List.mem_of_getElem? (i := 6) rfl)), (hw _ (List.mem_of_getElem? (i := 98) rfl))⟩)
  have o_kS := own_eqI q5 (Term.int_eval 2)
  obtain ⟨kQ, x_kQ⟩ := own_exr q6
  have s_kQ := Sta.start x_kQ (Or.inr ⟨(hw _ (List.mem_of_getElem? (i := 6) rfl)), (hw _ (List.mem_of_getElem? (i := 122) rfl))⟩)
  have o_kQ := own_eqI q7 (Term.int_eval 1)
  obtain ⟨kE, x_kE⟩ := own_exr q8
  have s_kE := Sta.start x_kE (Or.inr ⟨(hw _ (List.mem_of_getElem? (i := 6) rfl)), (hw _ (List.mem_of_getElem? (i := 134) rfl))⟩)
  have o_kE := own_eqI q9 (Term.int_eval 4)
  have BK : OwnK s kW kQ kS kY kE := ⟨s_kW, s_kQ, s_kS, s_kY, s_kE, own_ords x_kW x_kY o_kW o_kY (by decide), own_ords x_kQ x_kY o_kQ o_kY (by decide), own_ords x_kS x_kY o_kS o_kY (by decide), own_ords x_kE x_kY o_kE o_kY (by decide)⟩
  have HH : CHv s ownEL s.vm s.heap := CHv.start (own_EW hw) (fun p hp => by simp [ownEL] at hp) (hsets _ (List.mem_of_getElem? (i := 2) rfl)) (hw _ (List.mem_of_getElem? (i := 22) rfl)) (hw _ (List.mem_of_getElem? (i := 18) rfl))
  obtain ⟨n, o, h1, h2, h3, _, L, rfl, ⟨rfl, N⟩, -, hq⟩ := rm0 l s _ hw tables_1 i0 i1 i2 i3 i4 wc sx kW kQ kS kY kE s.heap s.heap.size (Nat.le_refl _) BW (Old.start s) BK p e ha hc hk s m _ below hf ((Spec.applies_iff_loose hf).mp happ).1 ⟨rfl, State.Warmed39.refl s, rfl, HH⟩ trivial
  refine ⟨n, _, h1, h2, h3, hpost _ _ _ _ _ _ ⟨Cond.after_iff.mpr rfl, Cond.after_iff.mpr (eq_i res_at (Term.int_eval (1)) rfl), trivial⟩ ⟨hq.1, hq.2.1, hq.2.2.1, (hq.2.2.2.sift fun y hy => Or.inr (N y hy)).mono (by decide) (by decide)⟩⟩
theorem main_1_1 : Claimed_1_1 := comes_1 fun _ _ _ _ _ _ h hF => ⟨h.1, hF⟩
theorem main_1_2 : Claimed_1_2 := comes_1 fun _ _ _ _ _ _ h hF => ⟨h.2.1, hF⟩
end Jvm.Pilot.@@N@@
namespace Jvm.Pilot.@@N@@
open Jvm Jvm.ClassFile Sem Op Lib Jvm.Free Jvm.Stand Jvm.Pilot.@@N@@.Jvm.D
/-! MADE BY PROGRAM (witnessworld.py) out of the Statement's table words and the real class files: 23 classes; the members and pool entries that the words name. The judged class is class 1, her method 2. -/
namespace start1
open Jvm.ClassFile
def u (s : String) : CpInfo := .utf8 (stringToUtf16 s)
/-- a pool by its gaps: so many unusable entries, then the entry; so many at the end -/
def gap : Nat → List CpInfo → List CpInfo
  | 0, r => r
  | n + 1, r => .unusable :: gap n r
def poolList (es : List (Nat × CpInfo)) (last : Nat) : List CpInfo := es.foldr (fun e r => gap e.1 (e.2 :: r)) (gap last [])
def pool (es : List (Nat × CpInfo)) (last : Nat) : Array CpInfo := ⟨poolList es last⟩
def fileOf (pool : Array CpInfo) (this : Nat) (attrs : Array Attribute := #[]) (ms : Array MethodInfo := #[]) (fl : Nat := 33) (sup : Nat := 0) (ifs : Array Nat := #[]) (fds : Array FieldInfo := #[]) : ClassFile where
  minorVersion := 0
  majorVersion := 65
  constantPool := pool
  accessFlags := fl
  thisClass := this
  superClass := sup
  interfaces := ifs
  fields := fds
  methods := ms
  attributes := attrs
def plain (name : String) (sup : Option ClassId) : Class where
  name := name
  kind := .ordinary
  loader := none
  accessFlags := 33
  super := sup
  interfaces := #[]
  cf := none
  fields := #[]
  methods := #[]
  instanceTypes := #[]
  staticTypes := #[]
  resolved := #[]
  callSites := []
  init := .initialized
  statics := none
  mirror := none

def pool0 : Array CpInfo := pool [(5, u "<init>"), (0, u "()V"), (1, .class_ 10), (1, u "java/lang/Object")] 113

def k0c0 : Code := { maxStack := 0, maxLocals := 1, code := object_method_1_code, exceptionTable := #[], attributes := #[] }
def k0m0 : Method := { name := "<init>", desc := "()V", sig := { parameters := [], returnType := none }, accessFlags := 1, code := some k0c0 }
/-- java/lang/Object -/
def k0 : Class := { plain "java/lang/Object" none with
  accessFlags := 33
  interfaces := #[]
  cf := some (fileOf pool0 8 #[] #[{ accessFlags := 1, nameIndex := 5, descriptorIndex := 6, attributes := #[] }] 33 0 #[] #[])
  fields := #[]
  methods := #[k0m0]
  instanceTypes := #[]
  staticTypes := #[]
  resolved := Array.replicate 124 none
  statics := none }

def pool1 : Array CpInfo := pool [(2, .class_ 4), (1, u "java/lang/Object"), (0, u "<init>"), (0, u "()V"), (0, .fieldref 8 9), (0, .class_ 10), (0, .nameAndType 11 12), (0, u "com/example/grant3/grant3/Lexer$Kind"), (0, u "WORD"), (0, u "Lcom/example/grant3/grant3/Lexer$Kind;"), (0, .fieldref 8 14), (0, .nameAndType 15 12), (0, u "QUOTED"), (0, .fieldref 8 17), (0, .nameAndType 18 12), (0, u "STRING"), (0, .fieldref 8 20), (0, .nameAndType 21 12), (0, u "SYMBOL"), (0, .fieldref 8 23), (0, .nameAndType 24 12), (0, u "END"), (0, .integer 2147483647), (0, .methodref 27 28), (0, .class_ 29), (0, .nameAndType 30 31), (0, u "com/example/grant3/grant3/TokenIsSymbolPinLaw"), (0, u "kindOf"), (0, u "(I)Lcom/example/grant3/grant3/Lexer$Kind;"), (0, .string 33), (0, u ""), (0, .class_ 35), (0, u "java/lang/String"), (0, .methodref 34 37), (0, .nameAndType 5 38), (0, u "([C)V"), (0, .methodref 34 40), (0, .nameAndType 41 42), (0, u "valueOf"), (0, u "(C)Ljava/lang/String;"), (0, .class_ 44), (0, u "com/example/grant3/grant3/Lexer$Token"), (0, .methodref 43 46), (0, .nameAndType 5 47), (0, u "(Lcom/example/grant3/grant3/Lexer$Kind;Ljava/lang/String;)V"), (0, .methodref 43 49), (0, .nameAndType 50 51), (0, u "isSymbol"), (0, u "(C)Z"), (3, u "law"), (0, u "(IIIII)Z")] 7

def k1m0 : Method := { name := "<init>", desc := "()V", sig := { parameters := [], returnType := none }, accessFlags := 2, code := none }
def k1c1 : Code := { maxStack := 2, maxLocals := 1, code := method_2_code, exceptionTable := #[], attributes := #[] }
def k1m1 : Method := { name := "kindOf", desc := "(I)Lcom/example/grant3/grant3/Lexer$Kind;", sig := { parameters := [.int], returnType := some (.object "com/example/grant3/grant3/Lexer$Kind") }, accessFlags := 10, code := some k1c1 }
def k1c2 : Code := { maxStack := 6, maxLocals := 13, code := code, exceptionTable := #[], attributes := #[] }
def k1m2 : Method := { name := "law", desc := "(IIIII)Z", sig := { parameters := [.int, .int, .int, .int, .int], returnType := some .boolean }, accessFlags := 9, code := some k1c2 }
/-- com/example/grant3/grant3/TokenIsSymbolPinLaw -/
def k1 : Class := { plain "com/example/grant3/grant3/TokenIsSymbolPinLaw" (some 0) with
  accessFlags := 49
  interfaces := #[]
  cf := some (fileOf pool1 27 #[] #[{ accessFlags := 2, nameIndex := 5, descriptorIndex := 6, attributes := #[] }, { accessFlags := 10, nameIndex := 30, descriptorIndex := 31, attributes := #[] }, { accessFlags := 9, nameIndex := 55, descriptorIndex := 56, attributes := #[] }] 49 2 #[] #[])
  fields := #[]
  methods := #[k1m0, k1m1, k1m2]
  instanceTypes := #[]
  staticTypes := #[]
  resolved := Array.replicate 64 none
  statics := none }

def pool2 : Array CpInfo := pool [(1, .class_ 2), (0, u "java/lang/constant/Constable"), (0, .class_ 4), (0, u "java/lang/Object")] 6

/-- java/lang/constant/Constable -/
def k2 : Class := { plain "java/lang/constant/Constable" (some 0) with
  accessFlags := 1537
  interfaces := #[]
  cf := some (fileOf pool2 1 #[] #[] 1537 3 #[] #[])
  fields := #[]
  methods := #[]
  instanceTypes := #[]
  staticTypes := #[]
  resolved := Array.replicate 11 none
  statics := none }

def pool3 : Array CpInfo := pool [(1, .class_ 2), (0, u "java/lang/Comparable"), (0, .class_ 4), (0, u "java/lang/Object")] 7

/-- java/lang/Comparable -/
def k3 : Class := { plain "java/lang/Comparable" (some 0) with
  accessFlags := 1537
  interfaces := #[]
  cf := some (fileOf pool3 1 #[] #[] 1537 3 #[] #[])
  fields := #[]
  methods := #[]
  instanceTypes := #[]
  staticTypes := #[]
  resolved := Array.replicate 12 none
  statics := none }

def pool4 : Array CpInfo := pool [(1, .class_ 2), (0, u "java/io/Serializable"), (0, .class_ 4), (0, u "java/lang/Object")] 2

/-- java/io/Serializable -/
def k4 : Class := { plain "java/io/Serializable" (some 0) with
  accessFlags := 1537
  interfaces := #[]
  cf := some (fileOf pool4 1 #[] #[] 1537 3 #[] #[])
  fields := #[]
  methods := #[]
  instanceTypes := #[]
  staticTypes := #[]
  resolved := Array.replicate 7 none
  statics := none }

def pool5 : Array CpInfo := pool [(2, .class_ 4), (1, u "java/lang/Enum"), (0, u "name"), (0, u "Ljava/lang/String;"), (2, u "ordinal"), (0, u "I"), (1, .class_ 14), (1, u "java/lang/Object"), (4, u "hash"), (86, .class_ 108), (1, u "java/lang/Enum$EnumDesc"), (2, .class_ 112), (0, u "java/lang/constant/Constable"), (0, .class_ 114), (0, u "java/lang/Comparable"), (0, .class_ 116), (0, u "java/io/Serializable")] 87

/-- java/lang/Enum -/
def k5 : Class := { plain "java/lang/Enum" (some 0) with
  accessFlags := 1057
  interfaces := #[2, 3, 4]
  cf := some (fileOf pool5 2 #[.nestMembers #[106]] #[] 1057 12 #[111, 113, 115] #[{ accessFlags := 18, nameIndex := 5, descriptorIndex := 6, attributes := #[] }, { accessFlags := 18, nameIndex := 9, descriptorIndex := 10, attributes := #[] }, { accessFlags := 2, nameIndex := 19, descriptorIndex := 10, attributes := #[] }])
  fields := #[{ name := "name", type := (.object "java/lang/String"), accessFlags := 18, slot := 0, constantValue := 0 }, { name := "ordinal", type := .int, accessFlags := 18, slot := 1, constantValue := 0 }, { name := "hash", type := .int, accessFlags := 2, slot := 2, constantValue := 0 }]
  methods := #[]
  instanceTypes := #[(.object "java/lang/String"), .int, .int]
  staticTypes := #[]
  resolved := Array.replicate 204 none
  statics := none }

def pool6 : Array CpInfo := pool [(1, .class_ 2), (0, u "com/example/grant3/grant3/Lexer$Kind"), (2, u "WORD"), (0, u "Lcom/example/grant3/grant3/Lexer$Kind;"), (2, u "QUOTED"), (2, u "STRING"), (2, u "SYMBOL"), (2, u "END"), (2, u "$VALUES"), (0, u "[Lcom/example/grant3/grant3/Lexer$Kind;"), (6, .class_ 31), (1, u "java/lang/Enum"), (28, .class_ 61), (0, u "com/example/grant3/grant3/Lexer")] 2

/-- com/example/grant3/grant3/Lexer$Kind -/
def k6 : Class := { plain "com/example/grant3/grant3/Lexer$Kind" (some 5) with
  accessFlags := 16432
  interfaces := #[]
  cf := some (fileOf pool6 1 #[.nestHost 60] #[] 16432 29 #[] #[{ accessFlags := 16409, nameIndex := 5, descriptorIndex := 6, attributes := #[] }, { accessFlags := 16409, nameIndex := 9, descriptorIndex := 6, attributes := #[] }, { accessFlags := 16409, nameIndex := 12, descriptorIndex := 6, attributes := #[] }, { accessFlags := 16409, nameIndex := 15, descriptorIndex := 6, attributes := #[] }, { accessFlags := 16409, nameIndex := 18, descriptorIndex := 6, attributes := #[] }, { accessFlags := 4122, nameIndex := 21, descriptorIndex := 22, attributes := #[] }])
  fields := #[{ name := "WORD", type := (.object "com/example/grant3/grant3/Lexer$Kind"), accessFlags := 16409, slot := 0, constantValue := 0 }, { name := "QUOTED", type := (.object "com/example/grant3/grant3/Lexer$Kind"), accessFlags := 16409, slot := 1, constantValue := 0 }, { name := "STRING", type := (.object "com/example/grant3/grant3/Lexer$Kind"), accessFlags := 16409, slot := 2, constantValue := 0 }, { name := "SYMBOL", type := (.object "com/example/grant3/grant3/Lexer$Kind"), accessFlags := 16409, slot := 3, constantValue := 0 }, { name := "END", type := (.object "com/example/grant3/grant3/Lexer$Kind"), accessFlags := 16409, slot := 4, constantValue := 0 }, { name := "$VALUES", type := (.array (.object "com/example/grant3/grant3/Lexer$Kind")), accessFlags := 4122, slot := 5, constantValue := 0 }]
  methods := #[]
  instanceTypes := #[(.object "java/lang/String"), .int, .int]
  staticTypes := #[(.object "com/example/grant3/grant3/Lexer$Kind"), (.object "com/example/grant3/grant3/Lexer$Kind"), (.object "com/example/grant3/grant3/Lexer$Kind"), (.object "com/example/grant3/grant3/Lexer$Kind"), (.object "com/example/grant3/grant3/Lexer$Kind"), (.array (.object "com/example/grant3/grant3/Lexer$Kind"))]
  resolved := Array.replicate 64 none
  statics := some 0 }

def pool7 : Array CpInfo := pool [(2, .class_ 4), (1, u "java/lang/CharSequence"), (42, .class_ 48), (0, u "java/lang/CharSequence$1CodePointIterator"), (10, .class_ 60), (0, u "java/lang/CharSequence$1CharIterator"), (5, .class_ 67), (0, u "java/lang/Object")] 63

/-- java/lang/CharSequence -/
def k7 : Class := { plain "java/lang/CharSequence" (some 0) with
  accessFlags := 1537
  interfaces := #[]
  cf := some (fileOf pool7 2 #[.nestMembers #[47, 59]] #[] 1537 66 #[] #[])
  fields := #[]
  methods := #[]
  instanceTypes := #[]
  staticTypes := #[]
  resolved := Array.replicate 131 none
  statics := none }

def pool8 : Array CpInfo := pool [(1, .class_ 2), (0, u "java/lang/constant/ConstantDesc"), (0, .class_ 4), (0, u "java/lang/Object")] 32

/-- java/lang/constant/ConstantDesc -/
def k8 : Class := { plain "java/lang/constant/ConstantDesc" (some 0) with
  accessFlags := 1537
  interfaces := #[]
  cf := some (fileOf pool8 1 #[] #[] 1537 3 #[] #[])
  fields := #[]
  methods := #[]
  instanceTypes := #[]
  staticTypes := #[]
  resolved := Array.replicate 37 none
  statics := none }

def pool9 : Array CpInfo := pool [(1, .methodref 2 3), (0, .class_ 4), (0, .nameAndType 5 6), (0, u "java/lang/Object"), (0, u "<init>"), (0, u "()V"), (2, .fieldref 10 11), (0, .class_ 12), (0, .nameAndType 13 14), (0, u "java/lang/String"), (0, u "value"), (0, u "[B"), (0, .fieldref 10 16), (0, .nameAndType 17 18), (0, u "coder"), (0, u "B"), (2, u "hash"), (0, u "I"), (2, u "hashIsZero"), (0, u "Z"), (0, .methodref 10 28), (0, .nameAndType 5 29), (0, u "([CIILjava/lang/Void;)V"), (8, .fieldref 10 39), (0, .nameAndType 40 26), (0, u "COMPACT_STRINGS"), (1, .class_ 44), (1, u "java/lang/StringUTF16"), (0, u "compress"), (1, .methodref 42 48), (0, .nameAndType 49 50), (0, u "coderFromArrayLen"), (0, u "([BI)B"), (2, u "toBytes"), (53, .class_ 109), (1, u "java/lang/StringLatin1"), (32, u "()Z"), (34, .methodref 42 178), (0, .nameAndType 45 179), (0, u "([CII)[B"), (29, .methodref 10 210), (0, .nameAndType 5 211), (0, u "([BB)V"), (151, u "([BI)C"), (5, u "(C)Z"), (21, u "(II)V"), (35, u "(I)C"), (64, .methodref 10 493), (0, .nameAndType 494 142), (0, u "isLatin1"), (0, .methodref 107 496), (0, .nameAndType 497 363), (0, u "charAt"), (0, .methodref 42 496), (2, u "checkIndex"), (73, .class_ 576), (0, u "java/lang/CharSequence"), (22, u "CASE_INSENSITIVE_ORDER"), (0, u "Ljava/util/Comparator;"), (181, u "valueOf"), (0, u "(C)Ljava/lang/String;"), (226, u "([C)V"), (4, .methodref 107 1016), (0, .nameAndType 1017 369), (0, u "canEncode"), (0, .methodref 107 1019), (0, .nameAndType 53 1020), (0, u "(C)[B"), (0, .methodref 42 1019), (31, .fieldref 1054 1055), (0, .class_ 1056), (0, .nameAndType 1057 1058), (0, u "jdk/internal/util/Preconditions"), (0, u "SIOOBE_FORMATTER"), (0, u "Ljava/util/function/BiFunction;"), (0, .methodref 1054 1060), (0, .nameAndType 501 1061), (0, u "(IILjava/util/function/BiFunction;)I"), (39, u "serialPersistentFields"), (0, u "[Ljava/io/ObjectStreamField;"), (0, .class_ 1104), (0, u "java/lang/String$CaseInsensitiveComparator"), (1, .class_ 1107), (0, u "java/io/Serializable"), (0, .class_ 1109), (0, u "java/lang/Comparable"), (0, .class_ 1111), (0, u "java/lang/constant/Constable"), (0, .class_ 1113), (0, u "java/lang/constant/ConstantDesc"), (2, u "serialVersionUID"), (0, u "J"), (3, u "REPL"), (0, u "C"), (2, u "LATIN1"), (1, u "UTF16")] 323

def k9m0 : Method := { name := "<init>", desc := "()V", sig := { parameters := [], returnType := none }, accessFlags := 1, code := none }
def k9c1 : Code := { maxStack := 5, maxLocals := 2, code := jdk_42_method_3_code, exceptionTable := #[], attributes := #[] }
def k9m1 : Method := { name := "<init>", desc := "([C)V", sig := { parameters := [(.array .char)], returnType := none }, accessFlags := 1, code := some k9c1 }
def k9c2 : Code := { maxStack := 2, maxLocals := 2, code := jdk_42_method_56_code, exceptionTable := #[], attributes := #[] }
def k9m2 : Method := { name := "charAt", desc := "(I)C", sig := { parameters := [.int], returnType := some .char }, accessFlags := 1, code := some k9c2 }
def k9c3 : Code := { maxStack := 4, maxLocals := 1, code := jdk_42_method_139_code, exceptionTable := #[], attributes := #[] }
def k9m3 : Method := { name := "valueOf", desc := "(C)Ljava/lang/String;", sig := { parameters := [.char], returnType := some (.object "java/lang/String") }, accessFlags := 9, code := some k9c3 }
def k9c4 : Code := { maxStack := 4, maxLocals := 6, code := jdk_42_method_149_code, exceptionTable := #[], attributes := #[] }
def k9m4 : Method := { name := "<init>", desc := "([CIILjava/lang/Void;)V", sig := { parameters := [(.array .char), .int, .int, (.object "java/lang/Void")], returnType := none }, accessFlags := 2, code := some k9c4 }
def k9c5 : Code := { maxStack := 2, maxLocals := 3, code := jdk_42_method_151_code, exceptionTable := #[], attributes := #[] }
def k9m5 : Method := { name := "<init>", desc := "([BB)V", sig := { parameters := [(.array .byte), .byte], returnType := none }, accessFlags := 0, code := some k9c5 }
def k9c6 : Code := { maxStack := 1, maxLocals := 1, code := jdk_42_method_154_code, exceptionTable := #[], attributes := #[] }
def k9m6 : Method := { name := "isLatin1", desc := "()Z", sig := { parameters := [], returnType := some .boolean }, accessFlags := 0, code := some k9c6 }
def k9c7 : Code := { maxStack := 3, maxLocals := 2, code := jdk_42_method_155_code, exceptionTable := #[], attributes := #[] }
def k9m7 : Method := { name := "checkIndex", desc := "(II)V", sig := { parameters := [.int, .int], returnType := none }, accessFlags := 8, code := some k9c7 }
/-- java/lang/String -/
def k9 : Class := { plain "java/lang/String" (some 0) with
  accessFlags := 49
  interfaces := #[4, 3, 7, 2, 8]
  cf := some (fileOf pool9 10 #[.nestMembers #[1103]] #[{ accessFlags := 1, nameIndex := 5, descriptorIndex := 6, attributes := #[] }, { accessFlags := 1, nameIndex := 5, descriptorIndex := 1010, attributes := #[] }, { accessFlags := 1, nameIndex := 497, descriptorIndex := 427, attributes := #[] }, { accessFlags := 9, nameIndex := 782, descriptorIndex := 783, attributes := #[] }, { accessFlags := 2, nameIndex := 5, descriptorIndex := 29, attributes := #[] }, { accessFlags := 0, nameIndex := 5, descriptorIndex := 211, attributes := #[] }, { accessFlags := 0, nameIndex := 494, descriptorIndex := 142, attributes := #[] }, { accessFlags := 8, nameIndex := 501, descriptorIndex := 391, attributes := #[] }] 49 2 #[1106, 1108, 575, 1110, 1112] #[{ accessFlags := 18, nameIndex := 13, descriptorIndex := 14, attributes := #[] }, { accessFlags := 18, nameIndex := 17, descriptorIndex := 18, attributes := #[] }, { accessFlags := 2, nameIndex := 21, descriptorIndex := 22, attributes := #[] }, { accessFlags := 2, nameIndex := 25, descriptorIndex := 26, attributes := #[] }, { accessFlags := 26, nameIndex := 1116, descriptorIndex := 1117, attributes := #[] }, { accessFlags := 24, nameIndex := 40, descriptorIndex := 26, attributes := #[] }, { accessFlags := 26, nameIndex := 1101, descriptorIndex := 1102, attributes := #[] }, { accessFlags := 26, nameIndex := 1121, descriptorIndex := 1122, attributes := #[] }, { accessFlags := 25, nameIndex := 599, descriptorIndex := 600, attributes := #[] }, { accessFlags := 24, nameIndex := 1125, descriptorIndex := 18, attributes := #[] }, { accessFlags := 24, nameIndex := 1127, descriptorIndex := 18, attributes := #[] }])
  fields := #[{ name := "value", type := (.array .byte), accessFlags := 18, slot := 0, constantValue := 0 }, { name := "coder", type := .byte, accessFlags := 18, slot := 1, constantValue := 0 }, { name := "hash", type := .int, accessFlags := 2, slot := 2, constantValue := 0 }, { name := "hashIsZero", type := .boolean, accessFlags := 2, slot := 3, constantValue := 0 }, { name := "serialVersionUID", type := .long, accessFlags := 26, slot := 0, constantValue := 0 }, { name := "COMPACT_STRINGS", type := .boolean, accessFlags := 24, slot := 1, constantValue := 0 }, { name := "serialPersistentFields", type := (.array (.object "java/io/ObjectStreamField")), accessFlags := 26, slot := 2, constantValue := 0 }, { name := "REPL", type := .char, accessFlags := 26, slot := 3, constantValue := 0 }, { name := "CASE_INSENSITIVE_ORDER", type := (.object "java/util/Comparator"), accessFlags := 25, slot := 4, constantValue := 0 }, { name := "LATIN1", type := .byte, accessFlags := 24, slot := 5, constantValue := 0 }, { name := "UTF16", type := .byte, accessFlags := 24, slot := 6, constantValue := 0 }]
  methods := #[k9m0, k9m1, k9m2, k9m3, k9m4, k9m5, k9m6, k9m7]
  instanceTypes := #[(.array .byte), .byte, .int, .boolean]
  staticTypes := #[.long, .boolean, (.array (.object "java/io/ObjectStreamField")), .char, (.object "java/util/Comparator"), .byte, .byte]
  resolved := Array.replicate 1451 none
  statics := some 1 }

def pool10 : Array CpInfo := pool [(1, .class_ 2), (0, u "java/lang/String"), (1, .class_ 6), (1, u "java/lang/Object"), (0, u "<init>"), (0, u "()V"), (0, .methodref 1 10), (0, .nameAndType 11 12), (0, u "checkIndex"), (0, u "(II)V"), (1, .class_ 16), (1, u "java/lang/StringLatin1"), (36, u "([BI)C"), (36, u "canEncode"), (14, u "(C)Z"), (15, u "$assertionsDisabled"), (0, u "Z"), (98, .class_ 223), (1, u "java/lang/StringLatin1$LinesSpliterator"), (28, u "charAt"), (127, u "toBytes"), (1, u "(C)[B"), (7, .class_ 391), (0, u "java/lang/StringLatin1$CharsSpliterator")] 3

def k10m0 : Method := { name := "<init>", desc := "()V", sig := { parameters := [], returnType := none }, accessFlags := 0, code := none }
def k10c1 : Code := { maxStack := 2, maxLocals := 2, code := jdk_43_method_2_code, exceptionTable := #[], attributes := #[] }
def k10m1 : Method := { name := "charAt", desc := "([BI)C", sig := { parameters := [(.array .byte), .int], returnType := some .char }, accessFlags := 9, code := some k10c1 }
def k10c2 : Code := { maxStack := 2, maxLocals := 1, code := jdk_43_method_3_code, exceptionTable := #[], attributes := #[] }
def k10m2 : Method := { name := "canEncode", desc := "(C)Z", sig := { parameters := [.char], returnType := some .boolean }, accessFlags := 9, code := some k10c2 }
def k10c3 : Code := { maxStack := 4, maxLocals := 1, code := jdk_43_method_46_code, exceptionTable := #[], attributes := #[] }
def k10m3 : Method := { name := "toBytes", desc := "(C)[B", sig := { parameters := [.char], returnType := some (.array .byte) }, accessFlags := 9, code := some k10c3 }
/-- java/lang/StringLatin1 -/
def k10 : Class := { plain "java/lang/StringLatin1" (some 0) with
  accessFlags := 48
  interfaces := #[]
  cf := some (fileOf pool10 14 #[.nestMembers #[390, 221]] #[{ accessFlags := 0, nameIndex := 7, descriptorIndex := 8, attributes := #[] }, { accessFlags := 9, nameIndex := 252, descriptorIndex := 53, attributes := #[] }, { accessFlags := 9, nameIndex := 90, descriptorIndex := 105, attributes := #[] }, { accessFlags := 9, nameIndex := 380, descriptorIndex := 382, attributes := #[] }] 48 4 #[] #[{ accessFlags := 4120, nameIndex := 121, descriptorIndex := 122, attributes := #[] }])
  fields := #[{ name := "$assertionsDisabled", type := .boolean, accessFlags := 4120, slot := 0, constantValue := 0 }]
  methods := #[k10m0, k10m1, k10m2, k10m3]
  instanceTypes := #[]
  staticTypes := #[.boolean]
  resolved := Array.replicate 395 none
  statics := none }

def pool11 : Array CpInfo := pool [(1, .methodref 2 3), (0, .class_ 4), (0, .nameAndType 5 6), (0, u "java/lang/Object"), (0, u "<init>"), (0, u "()V"), (0, .class_ 8), (0, u "java/lang/Record")] 13

def k11c0 : Code := { maxStack := 1, maxLocals := 1, code := jdk_30_method_1_code, exceptionTable := #[], attributes := #[] }
def k11m0 : Method := { name := "<init>", desc := "()V", sig := { parameters := [], returnType := none }, accessFlags := 4, code := some k11c0 }
/-- java/lang/Record -/
def k11 : Class := { plain "java/lang/Record" (some 0) with
  accessFlags := 1057
  interfaces := #[]
  cf := some (fileOf pool11 7 #[] #[{ accessFlags := 4, nameIndex := 5, descriptorIndex := 6, attributes := #[] }] 1057 2 #[] #[])
  fields := #[]
  methods := #[k11m0]
  instanceTypes := #[]
  staticTypes := #[]
  resolved := Array.replicate 22 none
  statics := none }

def pool12 : Array CpInfo := pool [(1, .methodref 2 3), (0, .class_ 4), (0, .nameAndType 5 6), (0, u "java/lang/Record"), (0, u "<init>"), (0, u "()V"), (0, .fieldref 8 9), (0, .class_ 10), (0, .nameAndType 11 12), (0, u "com/example/grant3/grant3/Lexer$Token"), (0, u "kind"), (0, u "Lcom/example/grant3/grant3/Lexer$Kind;"), (0, .fieldref 8 14), (0, .nameAndType 15 16), (0, u "text"), (0, u "Ljava/lang/String;"), (1, .class_ 20), (1, u "com/example/grant3/grant3/Lexer$Kind"), (2, .class_ 25), (1, u "java/lang/String"), (2, .fieldref 18 29), (0, .nameAndType 30 12), (0, u "SYMBOL"), (0, .methodref 23 32), (0, .nameAndType 33 34), (0, u "charAt"), (0, u "(I)C"), (30, u "(Lcom/example/grant3/grant3/Lexer$Kind;Ljava/lang/String;)V"), (5, u "isSymbol"), (0, u "(C)Z"), (9, .class_ 83), (0, u "com/example/grant3/grant3/Lexer")] 29

def k12c0 : Code := { maxStack := 2, maxLocals := 3, code := prog_34_method_1_code, exceptionTable := #[], attributes := #[] }
def k12m0 : Method := { name := "<init>", desc := "(Lcom/example/grant3/grant3/Lexer$Kind;Ljava/lang/String;)V", sig := { parameters := [(.object "com/example/grant3/grant3/Lexer$Kind"), (.object "java/lang/String")], returnType := none }, accessFlags := 0, code := some k12c0 }
def k12c1 : Code := { maxStack := 2, maxLocals := 2, code := prog_34_method_3_code, exceptionTable := #[], attributes := #[] }
def k12m1 : Method := { name := "isSymbol", desc := "(C)Z", sig := { parameters := [.char], returnType := some .boolean }, accessFlags := 0, code := some k12c1 }
/-- com/example/grant3/grant3/Lexer$Token -/
def k12 : Class := { plain "com/example/grant3/grant3/Lexer$Token" (some 11) with
  accessFlags := 48
  interfaces := #[]
  cf := some (fileOf pool12 8 #[.nestHost 82] #[{ accessFlags := 0, nameIndex := 5, descriptorIndex := 65, attributes := #[] }, { accessFlags := 0, nameIndex := 71, descriptorIndex := 72, attributes := #[] }] 48 2 #[] #[{ accessFlags := 18, nameIndex := 11, descriptorIndex := 12, attributes := #[] }, { accessFlags := 18, nameIndex := 15, descriptorIndex := 16, attributes := #[] }])
  fields := #[{ name := "kind", type := (.object "com/example/grant3/grant3/Lexer$Kind"), accessFlags := 18, slot := 0, constantValue := 0 }, { name := "text", type := (.object "java/lang/String"), accessFlags := 18, slot := 1, constantValue := 0 }]
  methods := #[k12m0, k12m1]
  instanceTypes := #[(.object "com/example/grant3/grant3/Lexer$Kind"), (.object "java/lang/String")]
  staticTypes := #[]
  resolved := Array.replicate 113 none
  statics := none }

def pool13 : Array CpInfo := pool [(3, .class_ 4), (0, u "java/lang/String"), (1, .class_ 8), (1, u "java/lang/Object"), (0, u "<init>"), (0, u "()V"), (0, .methodref 12 13), (0, .class_ 14), (0, .nameAndType 15 16), (0, u "java/lang/StringUTF16"), (0, u "newBytesLength"), (0, u "(I)I"), (3, .integer 1073741823), (23, .fieldref 12 45), (0, .nameAndType 46 47), (0, u "$assertionsDisabled"), (0, u "Z"), (0, .methodref 12 49), (0, .nameAndType 50 51), (0, u "length"), (0, u "([B)I"), (7, .fieldref 12 60), (0, .nameAndType 61 62), (0, u "HI_BYTE_SHIFT"), (0, u "I"), (0, .fieldref 12 64), (0, .nameAndType 65 62), (0, u "LO_BYTE_SHIFT"), (1, .methodref 12 68), (0, .nameAndType 69 70), (0, u "checkIndex"), (0, u "(I[B)V"), (0, .methodref 12 72), (0, .nameAndType 73 74), (0, u "getChar"), (0, u "([BI)C"), (32, .methodref 12 108), (0, .nameAndType 109 110), (0, u "newBytesFor"), (0, u "(I)[B"), (0, .methodref 12 112), (0, .nameAndType 113 114), (0, u "putChar"), (0, u "([BII)V"), (0, .methodref 12 116), (0, .nameAndType 117 118), (0, u "compress"), (0, u "([CI[BII)I"), (0, .methodref 12 120), (0, .nameAndType 121 122), (0, u "toBytes"), (0, u "([CII)[B"), (138, u "coderFromArrayLen"), (0, u "([BI)B"), (106, .class_ 371), (1, u "java/lang/StringUTF16$LinesSpliterator"), (20, u "charAt"), (21, .methodref 3 415), (0, .nameAndType 69 416), (0, u "(II)V"), (13, u "MAX_LENGTH"), (44, u "(C)[B"), (151, .class_ 628), (0, u "java/lang/StringUTF16$CodePointsSpliterator"), (0, .class_ 630), (0, u "java/lang/StringUTF16$CharsSpliterator")] 4

def k13m0 : Method := { name := "<init>", desc := "()V", sig := { parameters := [], returnType := none }, accessFlags := 0, code := none }
def k13c1 : Code := { maxStack := 1, maxLocals := 1, code := jdk_52_method_2_code, exceptionTable := #[], attributes := #[] }
def k13m1 : Method := { name := "newBytesFor", desc := "(I)[B", sig := { parameters := [.int], returnType := some (.array .byte) }, accessFlags := 9, code := some k13c1 }
def k13c2 : Code := { maxStack := 4, maxLocals := 1, code := jdk_52_method_3_code, exceptionTable := #[], attributes := #[] }
def k13m2 : Method := { name := "newBytesLength", desc := "(I)I", sig := { parameters := [.int], returnType := some .int }, accessFlags := 9, code := some k13c2 }
def k13c3 : Code := { maxStack := 4, maxLocals := 3, code := jdk_52_method_4_code, exceptionTable := #[], attributes := #[] }
def k13m3 : Method := { name := "putChar", desc := "([BII)V", sig := { parameters := [(.array .byte), .int, .int], returnType := none }, accessFlags := 8, code := some k13c3 }
def k13c4 : Code := { maxStack := 3, maxLocals := 2, code := jdk_52_method_5_code, exceptionTable := #[], attributes := #[] }
def k13m4 : Method := { name := "getChar", desc := "([BI)C", sig := { parameters := [(.array .byte), .int], returnType := some .char }, accessFlags := 8, code := some k13c4 }
def k13c5 : Code := { maxStack := 2, maxLocals := 1, code := jdk_52_method_6_code, exceptionTable := #[], attributes := #[] }
def k13m5 : Method := { name := "length", desc := "([B)I", sig := { parameters := [(.array .byte)], returnType := some .int }, accessFlags := 9, code := some k13c5 }
def k13c6 : Code := { maxStack := 4, maxLocals := 5, code := jdk_52_method_14_code, exceptionTable := #[], attributes := #[] }
def k13m6 : Method := { name := "toBytes", desc := "([CII)[B", sig := { parameters := [(.array .char), .int, .int], returnType := some (.array .byte) }, accessFlags := 9, code := some k13c6 }
def k13c7 : Code := { maxStack := 2, maxLocals := 2, code := jdk_52_method_15_code, exceptionTable := #[], attributes := #[] }
def k13m7 : Method := { name := "coderFromArrayLen", desc := "([BI)B", sig := { parameters := [(.array .byte), .int], returnType := some .byte }, accessFlags := 8, code := some k13c7 }
def k13c8 : Code := { maxStack := 5, maxLocals := 6, code := jdk_52_method_16_code, exceptionTable := #[], attributes := #[] }
def k13m8 : Method := { name := "compress", desc := "([CII)[B", sig := { parameters := [(.array .char), .int, .int], returnType := some (.array .byte) }, accessFlags := 9, code := some k13c8 }
def k13c9 : Code := { maxStack := 3, maxLocals := 7, code := jdk_52_method_21_code, exceptionTable := #[], attributes := #[] }
def k13m9 : Method := { name := "compress", desc := "([CI[BII)I", sig := { parameters := [(.array .char), .int, (.array .byte), .int, .int], returnType := some .int }, accessFlags := 9, code := some k13c9 }
def k13c10 : Code := { maxStack := 3, maxLocals := 2, code := jdk_52_method_24_code, exceptionTable := #[], attributes := #[] }
def k13m10 : Method := { name := "toBytes", desc := "(C)[B", sig := { parameters := [.char], returnType := some (.array .byte) }, accessFlags := 9, code := some k13c10 }
def k13c11 : Code := { maxStack := 2, maxLocals := 2, code := jdk_52_method_83_code, exceptionTable := #[], attributes := #[] }
def k13m11 : Method := { name := "charAt", desc := "([BI)C", sig := { parameters := [(.array .byte), .int], returnType := some .char }, accessFlags := 9, code := some k13c11 }
def k13c12 : Code := { maxStack := 2, maxLocals := 2, code := jdk_52_method_91_code, exceptionTable := #[], attributes := #[] }
def k13m12 : Method := { name := "checkIndex", desc := "(I[B)V", sig := { parameters := [.int, (.array .byte)], returnType := none }, accessFlags := 9, code := some k13c12 }
/-- java/lang/StringUTF16 -/
def k13 : Class := { plain "java/lang/StringUTF16" (some 0) with
  accessFlags := 48
  interfaces := #[]
  cf := some (fileOf pool13 12 #[.nestMembers #[627, 629, 369]] #[{ accessFlags := 0, nameIndex := 9, descriptorIndex := 10, attributes := #[] }, { accessFlags := 9, nameIndex := 109, descriptorIndex := 110, attributes := #[] }, { accessFlags := 9, nameIndex := 15, descriptorIndex := 16, attributes := #[] }, { accessFlags := 8, nameIndex := 113, descriptorIndex := 114, attributes := #[] }, { accessFlags := 8, nameIndex := 73, descriptorIndex := 74, attributes := #[] }, { accessFlags := 9, nameIndex := 50, descriptorIndex := 51, attributes := #[] }, { accessFlags := 9, nameIndex := 121, descriptorIndex := 122, attributes := #[] }, { accessFlags := 8, nameIndex := 261, descriptorIndex := 262, attributes := #[] }, { accessFlags := 9, nameIndex := 117, descriptorIndex := 122, attributes := #[] }, { accessFlags := 9, nameIndex := 117, descriptorIndex := 118, attributes := #[] }, { accessFlags := 9, nameIndex := 121, descriptorIndex := 475, attributes := #[] }, { accessFlags := 9, nameIndex := 392, descriptorIndex := 74, attributes := #[] }, { accessFlags := 9, nameIndex := 69, descriptorIndex := 70, attributes := #[] }] 48 6 #[] #[{ accessFlags := 26, nameIndex := 61, descriptorIndex := 62, attributes := #[] }, { accessFlags := 26, nameIndex := 65, descriptorIndex := 62, attributes := #[] }, { accessFlags := 24, nameIndex := 430, descriptorIndex := 62, attributes := #[] }, { accessFlags := 4120, nameIndex := 46, descriptorIndex := 47, attributes := #[] }])
  fields := #[{ name := "HI_BYTE_SHIFT", type := .int, accessFlags := 26, slot := 0, constantValue := 0 }, { name := "LO_BYTE_SHIFT", type := .int, accessFlags := 26, slot := 1, constantValue := 0 }, { name := "MAX_LENGTH", type := .int, accessFlags := 24, slot := 2, constantValue := 0 }, { name := "$assertionsDisabled", type := .boolean, accessFlags := 4120, slot := 3, constantValue := 0 }]
  methods := #[k13m0, k13m1, k13m2, k13m3, k13m4, k13m5, k13m6, k13m7, k13m8, k13m9, k13m10, k13m11, k13m12]
  instanceTypes := #[]
  staticTypes := #[.int, .int, .int, .boolean]
  resolved := Array.replicate 635 none
  statics := some 2 }

def pool14 : Array CpInfo := pool [(2, .class_ 4), (1, u "java/lang/Object"), (0, u "<init>"), (0, u "()V"), (17, .class_ 26), (1, u "jdk/internal/util/Preconditions"), (6, u "checkIndex"), (21, .class_ 56), (0, u "jdk/internal/util/Preconditions$4"), (57, .class_ 115), (0, u "jdk/internal/util/Preconditions$1"), (7, u "SIOOBE_FORMATTER"), (0, u "Ljava/util/function/BiFunction;"), (0, .class_ 126), (0, u "jdk/internal/util/Preconditions$2"), (3, u "AIOOBE_FORMATTER"), (0, .class_ 132), (0, u "jdk/internal/util/Preconditions$3"), (3, u "IOOBE_FORMATTER"), (41, u "(IILjava/util/function/BiFunction;)I")] 15

def k14m0 : Method := { name := "<init>", desc := "()V", sig := { parameters := [], returnType := none }, accessFlags := 1, code := none }
def k14c1 : Code := { maxStack := 3, maxLocals := 3, code := jdk_41_method_11_code, exceptionTable := #[], attributes := #[] }
def k14m1 : Method := { name := "checkIndex", desc := "(IILjava/util/function/BiFunction;)I", sig := { parameters := [.int, .int, (.object "java/util/function/BiFunction")], returnType := some .int }, accessFlags := 9, code := some k14c1 }
/-- jdk/internal/util/Preconditions -/
def k14 : Class := { plain "jdk/internal/util/Preconditions" (some 0) with
  accessFlags := 33
  interfaces := #[]
  cf := some (fileOf pool14 24 #[.nestMembers #[55, 131, 125, 114]] #[{ accessFlags := 1, nameIndex := 5, descriptorIndex := 6, attributes := #[] }, { accessFlags := 9, nameIndex := 33, descriptorIndex := 178, attributes := #[] }] 33 2 #[] #[{ accessFlags := 25, nameIndex := 123, descriptorIndex := 124, attributes := #[] }, { accessFlags := 25, nameIndex := 130, descriptorIndex := 124, attributes := #[] }, { accessFlags := 25, nameIndex := 136, descriptorIndex := 124, attributes := #[] }])
  fields := #[{ name := "SIOOBE_FORMATTER", type := (.object "java/util/function/BiFunction"), accessFlags := 25, slot := 0, constantValue := 0 }, { name := "AIOOBE_FORMATTER", type := (.object "java/util/function/BiFunction"), accessFlags := 25, slot := 1, constantValue := 0 }, { name := "IOOBE_FORMATTER", type := (.object "java/util/function/BiFunction"), accessFlags := 25, slot := 2, constantValue := 0 }]
  methods := #[k14m0, k14m1]
  instanceTypes := #[]
  staticTypes := #[(.object "java/util/function/BiFunction"), (.object "java/util/function/BiFunction"), (.object "java/util/function/BiFunction")]
  resolved := Array.replicate 194 none
  statics := some 3 }

def pool15 : Array CpInfo := pool [(9, u "<init>"), (6, .class_ 18), (1, u "java/lang/Object"), (0, u "()V"), (1, .class_ 23), (1, u "jdk/internal/util/ArraysSupport"), (0, u "LOG2_ARRAY_LONG_INDEX_SCALE"), (0, u "I"), (2, u "U"), (0, u "Ljdk/internal/misc/Unsafe;"), (8, u "BIG_ENDIAN"), (0, u "Z"), (8, u "LOG2_BYTE_BIT_SIZE"), (4, u "LOG2_ARRAY_INT_INDEX_SCALE"), (54, u "JLA"), (0, u "Ljdk/internal/access/JavaLangAccess;"), (11, u "LOG2_ARRAY_BOOLEAN_INDEX_SCALE"), (9, u "LOG2_ARRAY_BYTE_INDEX_SCALE"), (5, u "LOG2_ARRAY_CHAR_INDEX_SCALE"), (5, u "LOG2_ARRAY_SHORT_INDEX_SCALE"), (18, u "LOG2_ARRAY_FLOAT_INDEX_SCALE"), (24, u "LOG2_ARRAY_DOUBLE_INDEX_SCALE"), (89, u "T_BOOLEAN"), (2, u "T_CHAR"), (1, u "T_FLOAT"), (1, u "T_DOUBLE"), (1, u "T_BYTE"), (1, u "T_SHORT"), (1, u "T_INT"), (1, u "T_LONG"), (1, u "SOFT_MAX_ARRAY_LENGTH")] 83

def k15m0 : Method := { name := "<init>", desc := "()V", sig := { parameters := [], returnType := none }, accessFlags := 2, code := none }
/-- jdk/internal/util/ArraysSupport -/
def k15 : Class := { plain "jdk/internal/util/ArraysSupport" (some 0) with
  accessFlags := 33
  interfaces := #[]
  cf := some (fileOf pool15 21 #[] #[{ accessFlags := 2, nameIndex := 9, descriptorIndex := 19, attributes := #[] }] 33 16 #[] #[{ accessFlags := 24, nameIndex := 28, descriptorIndex := 29, attributes := #[] }, { accessFlags := 26, nameIndex := 38, descriptorIndex := 39, attributes := #[] }, { accessFlags := 25, nameIndex := 121, descriptorIndex := 25, attributes := #[] }, { accessFlags := 25, nameIndex := 131, descriptorIndex := 25, attributes := #[] }, { accessFlags := 25, nameIndex := 137, descriptorIndex := 25, attributes := #[] }, { accessFlags := 25, nameIndex := 143, descriptorIndex := 25, attributes := #[] }, { accessFlags := 25, nameIndex := 53, descriptorIndex := 25, attributes := #[] }, { accessFlags := 25, nameIndex := 24, descriptorIndex := 25, attributes := #[] }, { accessFlags := 25, nameIndex := 162, descriptorIndex := 25, attributes := #[] }, { accessFlags := 25, nameIndex := 187, descriptorIndex := 25, attributes := #[] }, { accessFlags := 26, nameIndex := 48, descriptorIndex := 25, attributes := #[] }, { accessFlags := 25, nameIndex := 277, descriptorIndex := 25, attributes := #[] }, { accessFlags := 25, nameIndex := 280, descriptorIndex := 25, attributes := #[] }, { accessFlags := 25, nameIndex := 282, descriptorIndex := 25, attributes := #[] }, { accessFlags := 25, nameIndex := 284, descriptorIndex := 25, attributes := #[] }, { accessFlags := 25, nameIndex := 286, descriptorIndex := 25, attributes := #[] }, { accessFlags := 25, nameIndex := 288, descriptorIndex := 25, attributes := #[] }, { accessFlags := 25, nameIndex := 290, descriptorIndex := 25, attributes := #[] }, { accessFlags := 25, nameIndex := 292, descriptorIndex := 25, attributes := #[] }, { accessFlags := 26, nameIndex := 108, descriptorIndex := 109, attributes := #[] }, { accessFlags := 25, nameIndex := 294, descriptorIndex := 25, attributes := #[] }])
  fields := #[{ name := "U", type := (.object "jdk/internal/misc/Unsafe"), accessFlags := 24, slot := 0, constantValue := 0 }, { name := "BIG_ENDIAN", type := .boolean, accessFlags := 26, slot := 1, constantValue := 0 }, { name := "LOG2_ARRAY_BOOLEAN_INDEX_SCALE", type := .int, accessFlags := 25, slot := 2, constantValue := 0 }, { name := "LOG2_ARRAY_BYTE_INDEX_SCALE", type := .int, accessFlags := 25, slot := 3, constantValue := 0 }, { name := "LOG2_ARRAY_CHAR_INDEX_SCALE", type := .int, accessFlags := 25, slot := 4, constantValue := 0 }, { name := "LOG2_ARRAY_SHORT_INDEX_SCALE", type := .int, accessFlags := 25, slot := 5, constantValue := 0 }, { name := "LOG2_ARRAY_INT_INDEX_SCALE", type := .int, accessFlags := 25, slot := 6, constantValue := 0 }, { name := "LOG2_ARRAY_LONG_INDEX_SCALE", type := .int, accessFlags := 25, slot := 7, constantValue := 0 }, { name := "LOG2_ARRAY_FLOAT_INDEX_SCALE", type := .int, accessFlags := 25, slot := 8, constantValue := 0 }, { name := "LOG2_ARRAY_DOUBLE_INDEX_SCALE", type := .int, accessFlags := 25, slot := 9, constantValue := 0 }, { name := "LOG2_BYTE_BIT_SIZE", type := .int, accessFlags := 26, slot := 10, constantValue := 0 }, { name := "T_BOOLEAN", type := .int, accessFlags := 25, slot := 11, constantValue := 0 }, { name := "T_CHAR", type := .int, accessFlags := 25, slot := 12, constantValue := 0 }, { name := "T_FLOAT", type := .int, accessFlags := 25, slot := 13, constantValue := 0 }, { name := "T_DOUBLE", type := .int, accessFlags := 25, slot := 14, constantValue := 0 }, { name := "T_BYTE", type := .int, accessFlags := 25, slot := 15, constantValue := 0 }, { name := "T_SHORT", type := .int, accessFlags := 25, slot := 16, constantValue := 0 }, { name := "T_INT", type := .int, accessFlags := 25, slot := 17, constantValue := 0 }, { name := "T_LONG", type := .int, accessFlags := 25, slot := 18, constantValue := 0 }, { name := "JLA", type := (.object "jdk/internal/access/JavaLangAccess"), accessFlags := 26, slot := 19, constantValue := 0 }, { name := "SOFT_MAX_ARRAY_LENGTH", type := .int, accessFlags := 25, slot := 20, constantValue := 0 }]
  methods := #[k15m0]
  instanceTypes := #[]
  staticTypes := #[(.object "jdk/internal/misc/Unsafe"), .boolean, .int, .int, .int, .int, .int, .int, .int, .int, .int, .int, .int, .int, .int, .int, .int, .int, .int, (.object "jdk/internal/access/JavaLangAccess"), .int]
  resolved := Array.replicate 378 none
  statics := none }

def pool16 : Array CpInfo := pool [(1, u "java/lang/Cloneable"), (0, .class_ 1), (0, u "java/lang/Object"), (0, .class_ 3)] 3

/-- java/lang/Cloneable -/
def k16 : Class := { plain "java/lang/Cloneable" (some 0) with
  accessFlags := 1537
  interfaces := #[]
  cf := some (fileOf pool16 2 #[] #[] 1537 4 #[] #[])
  fields := #[]
  methods := #[]
  instanceTypes := #[]
  staticTypes := #[]
  resolved := Array.replicate 8 none
  statics := none }

/-- the primitive byte -/
def k17 : Class := { plain "byte" none with kind := .primitive 'B', accessFlags := 0x411 }
/-- [B -/
def k18 : Class := { plain "[B" (some 0) with kind := .array 17 .byte, interfaces := #[16, 4], accessFlags := 1041 }

/-- the primitive char -/
def k19 : Class := { plain "char" none with kind := .primitive 'C', accessFlags := 0x411 }
/-- [C -/
def k20 : Class := { plain "[C" (some 0) with kind := .array 19 .char, interfaces := #[16, 4], accessFlags := 1041 }

/-- the primitive int -/
def k21 : Class := { plain "int" none with kind := .primitive 'I', accessFlags := 0x411 }
/-- [I -/
def k22 : Class := { plain "[I" (some 0) with kind := .array 21 .int, interfaces := #[16, 4], accessFlags := 1041 }

def heap : Heap := #[{ cls := 6, slots := #[.ref 4, .ref 5, .ref 6, .ref 7, .ref 8, .null], vm := .statics 6 },
  { cls := 9, slots := #[.long 0, .int 1, .null, .int 0, .null, .int 0, .int 0], vm := .statics 9 },
  { cls := 13, slots := #[.int 0, .int 8, .int 0, .int 1], vm := .statics 13 },
  { cls := 14, slots := #[.null, .null, .null], vm := .statics 14 },
  { cls := 6, slots := #[.null, .int 0, .int 0], vm := .none },
  { cls := 6, slots := #[.null, .int 1, .int 0], vm := .none },
  { cls := 6, slots := #[.null, .int 2, .int 0], vm := .none },
  { cls := 6, slots := #[.null, .int 3, .int 0], vm := .none },
  { cls := 6, slots := #[.null, .int 4, .int 0], vm := .none }]
def classes : Array Class := #[k0, k1, k2, k3, k4, k5, k6, k7, k8, k9, k10, k11, k12, k13, k14, k15, k16, k17, k18, k19, k20, k21, k22]
def interned : List (Array UInt16 × Addr) := []
def slotsUsed : Nat := 35
def theMethod : MethodId := ⟨1, 2⟩
def args0 : Array Value := #[.int 3, .int 66, .int 67, .int 66, .int 5]
def aboutOver (below : List Frame) : State where
  vm := { classes := classes, interned := interned.toArray }
  heap := heap
  slotsUsed := slotsUsed
  threads := #[{ frames := .invoking theMethod args0 :: below }]
def below0 : List Frame := [.native { method := ⟨0, 0⟩, args := #[] }]
def about1 : State := aboutOver below0
def p0 : Program := .bare "" "" ""
def e0 : Env := launch0.env 0 0 0
theorem w_frames : about1.frames = Frame.invoking theMethod args0 :: below0 := rfl
set_option maxRecDepth 65536 in
theorem w_args : argsFit about1.vm theMethod args0 = true := by decide +kernel
set_option maxRecDepth 65536 in
theorem w_heap : heapFits about1 = true := by decide +kernel
set_option maxRecDepth 65536 in
theorem w_runnable : about1.curStatus? = some .runnable := by decide +kernel
set_option maxRecDepth 65536 in
theorem w_alone : about1.alone = true := by decide +kernel
set_option maxRecDepth 65536 in
theorem w_named : about1.methodNamed? x = some theMethod := by decide +kernel
set_option maxRecDepth 65536 in
theorem w_hears : about1.hears theMethod below0 = true := by decide +kernel
set_option maxRecDepth 65536 in
theorem w_ripe : about1.ripe theMethod args0 below0 = true := by decide +kernel
theorem w_running : about1.status = .running := rfl
set_option maxRecDepth 65536 in
theorem w_room : about1.hasRoom e0.platform room_1 = true :=
  launch0.hasRoom_least _ room_1 (by decide +kernel) (by decide +kernel) (by decide +kernel) (by decide +kernel) (by decide +kernel) (by decide +kernel)
theorem allAtoms_all (ts : List Jvm.Cond) (a : Array Jvm.Value) (st : Jvm.State) : (allAtoms ts).before a st = ts.all (fun c => c.before a st) := by
  induction ts with
  | nil => rfl
  | cons c t ih =>
    show (Jvm.Cond.and c (allAtoms t)).before a st = _
    rw [Jvm.Cond.before_and, ih, List.all_cons]
def words1 : List Jvm.Cond := Jvm.Cond.code x code maxLocals ret :: tables_1
/-- a 'code' word, met by the world's own term for the bytes: nothing is compared byte by byte -/
theorem code_word {y : MethodName} {bytes : ByteArray} {mx : Nat} {rt : Option FieldType} {a : Array Value} {s : State} {m : MethodId} {meth : Method} {c : Code} (h1 : s.methodNamed? y = some m) (h2 : s.vm.method? m = some meth) (h3 : meth.code = some c) (h4 : c.code = bytes)
    (h5 : (c.maxLocals == mx && c.exceptionTable.isEmpty && decide (c.maxStack ≤ mostOperands) && decide (meth.sig.returnType = rt) && !meth.locks && decide (parseMethodDescriptor y.desc = some meth.sig)) = true) : (Jvm.Cond.code y bytes mx rt).before a s = true := by
  simp only [Bool.and_eq_true, beq_iff_eq, Bool.not_eq_true', decide_eq_true_eq] at h5
  obtain ⟨⟨⟨⟨⟨g1, g2⟩, g3⟩, g4⟩, g5⟩, g6⟩ := h5
  simp [Cond.before, Cond.holds, Cond.value, h1, h2, h3, h4, g1, g2, g3, g4, g5, g6]
def isCode : Jvm.Cond → Bool
  | .code _ _ _ _ => true
  | _ => false
theorem all_split {L : List Jvm.Cond} {P : Jvm.Cond → Bool} (h1 : L.all (fun c => isCode c || P c) = true) (h2 : ∀ c ∈ L.filter isCode, P c = true) : L.all P = true := by
  refine List.all_eq_true.mpr fun c hc => ?_
  have h := List.all_eq_true.mp h1 c hc
  rcases Bool.eq_false_or_eq_true (isCode c) with hi | hi
  · exact h2 c (List.mem_filter.mpr ⟨hc, hi⟩)
  · simpa [hi] using h
set_option maxRecDepth 65536 in
theorem w_c0 : (Jvm.Cond.code x code maxLocals ret).before args0 about1 = true := code_word (m := ⟨1, 2⟩) (meth := k1m2) (c := k1c2) (by decide +kernel) rfl rfl rfl (by decide +kernel)
set_option maxRecDepth 65536 in
theorem w_c1 : (Jvm.Cond.code ({ cls := "com/example/grant3/grant3/TokenIsSymbolPinLaw", name := "kindOf", desc := "(I)Lcom/example/grant3/grant3/Lexer$Kind;" } : Jvm.MethodName) method_2_code (1 : Nat) (Option.some (Jvm.ClassFile.FieldType.object "com/example/grant3/grant3/Lexer$Kind"))).before args0 about1 = true := code_word (m := ⟨1, 1⟩) (meth := k1m1) (c := k1c1) (by decide +kernel) rfl rfl rfl (by decide +kernel)
set_option maxRecDepth 65536 in
theorem w_c2 : (Jvm.Cond.code ({ cls := "java/lang/String", name := "valueOf", desc := "(C)Ljava/lang/String;" } : Jvm.MethodName) jdk_42_method_139_code (1 : Nat) (Option.some (Jvm.ClassFile.FieldType.object "java/lang/String"))).before args0 about1 = true := code_word (m := ⟨9, 3⟩) (meth := k9m3) (c := k9c3) (by decide +kernel) rfl rfl rfl (by decide +kernel)
set_option maxRecDepth 65536 in
theorem w_c3 : (Jvm.Cond.code ({ cls := "java/lang/StringLatin1", name := "canEncode", desc := "(C)Z" } : Jvm.MethodName) jdk_43_method_3_code (1 : Nat) (Option.some Jvm.ClassFile.FieldType.boolean)).before args0 about1 = true := code_word (m := ⟨10, 2⟩) (meth := k10m2) (c := k10c2) (by decide +kernel) rfl rfl rfl (by decide +kernel)
set_option maxRecDepth 65536 in
theorem w_c4 : (Jvm.Cond.code ({ cls := "java/lang/StringLatin1", name := "toBytes", desc := "(C)[B" } : Jvm.MethodName) jdk_43_method_46_code (1 : Nat) (Option.some (Jvm.ClassFile.FieldType.array Jvm.ClassFile.FieldType.byte))).before args0 about1 = true := code_word (m := ⟨10, 3⟩) (meth := k10m3) (c := k10c3) (by decide +kernel) rfl rfl rfl (by decide +kernel)
set_option maxRecDepth 65536 in
theorem w_c5 : (Jvm.Cond.code ({ cls := "java/lang/String", name := "<init>", desc := "([BB)V" } : Jvm.MethodName) jdk_42_method_151_code (3 : Nat) (Option.none : Option Jvm.ClassFile.FieldType)).before args0 about1 = true := code_word (m := ⟨9, 5⟩) (meth := k9m5) (c := k9c5) (by decide +kernel) rfl rfl rfl (by decide +kernel)
set_option maxRecDepth 65536 in
theorem w_c6 : (Jvm.Cond.code ({ cls := "java/lang/Object", name := "<init>", desc := "()V" } : Jvm.MethodName) object_method_1_code (1 : Nat) (Option.none : Option Jvm.ClassFile.FieldType)).before args0 about1 = true := code_word (m := ⟨0, 0⟩) (meth := k0m0) (c := k0c0) (by decide +kernel) rfl rfl rfl (by decide +kernel)
set_option maxRecDepth 65536 in
theorem w_c7 : (Jvm.Cond.code ({ cls := "com/example/grant3/grant3/Lexer$Token", name := "<init>", desc := "(Lcom/example/grant3/grant3/Lexer$Kind;Ljava/lang/String;)V" } : Jvm.MethodName) prog_34_method_1_code (3 : Nat) (Option.none : Option Jvm.ClassFile.FieldType)).before args0 about1 = true := code_word (m := ⟨12, 0⟩) (meth := k12m0) (c := k12c0) (by decide +kernel) rfl rfl rfl (by decide +kernel)
set_option maxRecDepth 65536 in
theorem w_c8 : (Jvm.Cond.code ({ cls := "java/lang/Record", name := "<init>", desc := "()V" } : Jvm.MethodName) jdk_30_method_1_code (1 : Nat) (Option.none : Option Jvm.ClassFile.FieldType)).before args0 about1 = true := code_word (m := ⟨11, 0⟩) (meth := k11m0) (c := k11c0) (by decide +kernel) rfl rfl rfl (by decide +kernel)
set_option maxRecDepth 65536 in
theorem w_c9 : (Jvm.Cond.code ({ cls := "com/example/grant3/grant3/Lexer$Token", name := "isSymbol", desc := "(C)Z" } : Jvm.MethodName) prog_34_method_3_code (2 : Nat) (Option.some Jvm.ClassFile.FieldType.boolean)).before args0 about1 = true := code_word (m := ⟨12, 1⟩) (meth := k12m1) (c := k12c1) (by decide +kernel) rfl rfl rfl (by decide +kernel)
set_option maxRecDepth 65536 in
theorem w_c10 : (Jvm.Cond.code ({ cls := "java/lang/String", name := "<init>", desc := "([C)V" } : Jvm.MethodName) jdk_42_method_3_code (2 : Nat) (Option.none : Option Jvm.ClassFile.FieldType)).before args0 about1 = true := code_word (m := ⟨9, 1⟩) (meth := k9m1) (c := k9c1) (by decide +kernel) rfl rfl rfl (by decide +kernel)
set_option maxRecDepth 65536 in
theorem w_c11 : (Jvm.Cond.code ({ cls := "java/lang/String", name := "<init>", desc := "([CIILjava/lang/Void;)V" } : Jvm.MethodName) jdk_42_method_149_code (6 : Nat) (Option.none : Option Jvm.ClassFile.FieldType)).before args0 about1 = true := code_word (m := ⟨9, 4⟩) (meth := k9m4) (c := k9c4) (by decide +kernel) rfl rfl rfl (by decide +kernel)
set_option maxRecDepth 65536 in
theorem w_c12 : (Jvm.Cond.code ({ cls := "java/lang/StringUTF16", name := "compress", desc := "([CII)[B" } : Jvm.MethodName) jdk_52_method_16_code (6 : Nat) (Option.some (Jvm.ClassFile.FieldType.array Jvm.ClassFile.FieldType.byte))).before args0 about1 = true := code_word (m := ⟨13, 8⟩) (meth := k13m8) (c := k13c8) (by decide +kernel) rfl rfl rfl (by decide +kernel)
set_option maxRecDepth 65536 in
theorem w_c13 : (Jvm.Cond.code ({ cls := "java/lang/StringUTF16", name := "compress", desc := "([CI[BII)I" } : Jvm.MethodName) jdk_52_method_21_code (7 : Nat) (Option.some Jvm.ClassFile.FieldType.int)).before args0 about1 = true := code_word (m := ⟨13, 9⟩) (meth := k13m9) (c := k13c9) (by decide +kernel) rfl rfl rfl (by decide +kernel)
set_option maxRecDepth 65536 in
theorem w_c14 : (Jvm.Cond.code ({ cls := "java/lang/StringUTF16", name := "coderFromArrayLen", desc := "([BI)B" } : Jvm.MethodName) jdk_52_method_15_code (2 : Nat) (Option.some Jvm.ClassFile.FieldType.byte)).before args0 about1 = true := code_word (m := ⟨13, 7⟩) (meth := k13m7) (c := k13c7) (by decide +kernel) rfl rfl rfl (by decide +kernel)
set_option maxRecDepth 65536 in
theorem w_c15 : (Jvm.Cond.code ({ cls := "java/lang/String", name := "charAt", desc := "(I)C" } : Jvm.MethodName) jdk_42_method_56_code (2 : Nat) (Option.some Jvm.ClassFile.FieldType.char)).before args0 about1 = true := code_word (m := ⟨9, 2⟩) (meth := k9m2) (c := k9c2) (by decide +kernel) rfl rfl rfl (by decide +kernel)
set_option maxRecDepth 65536 in
theorem w_c16 : (Jvm.Cond.code ({ cls := "java/lang/String", name := "isLatin1", desc := "()Z" } : Jvm.MethodName) jdk_42_method_154_code (1 : Nat) (Option.some Jvm.ClassFile.FieldType.boolean)).before args0 about1 = true := code_word (m := ⟨9, 6⟩) (meth := k9m6) (c := k9c6) (by decide +kernel) rfl rfl rfl (by decide +kernel)
set_option maxRecDepth 65536 in
theorem w_c17 : (Jvm.Cond.code ({ cls := "java/lang/StringLatin1", name := "charAt", desc := "([BI)C" } : Jvm.MethodName) jdk_43_method_2_code (2 : Nat) (Option.some Jvm.ClassFile.FieldType.char)).before args0 about1 = true := code_word (m := ⟨10, 1⟩) (meth := k10m1) (c := k10c1) (by decide +kernel) rfl rfl rfl (by decide +kernel)
set_option maxRecDepth 65536 in
theorem w_c18 : (Jvm.Cond.code ({ cls := "java/lang/String", name := "checkIndex", desc := "(II)V" } : Jvm.MethodName) jdk_42_method_155_code (2 : Nat) (Option.none : Option Jvm.ClassFile.FieldType)).before args0 about1 = true := code_word (m := ⟨9, 7⟩) (meth := k9m7) (c := k9c7) (by decide +kernel) rfl rfl rfl (by decide +kernel)
set_option maxRecDepth 65536 in
theorem w_c19 : (Jvm.Cond.code ({ cls := "jdk/internal/util/Preconditions", name := "checkIndex", desc := "(IILjava/util/function/BiFunction;)I" } : Jvm.MethodName) jdk_41_method_11_code (3 : Nat) (Option.some Jvm.ClassFile.FieldType.int)).before args0 about1 = true := code_word (m := ⟨14, 1⟩) (meth := k14m1) (c := k14c1) (by decide +kernel) rfl rfl rfl (by decide +kernel)
set_option maxRecDepth 65536 in
theorem w_c20 : (Jvm.Cond.code ({ cls := "java/lang/StringUTF16", name := "toBytes", desc := "(C)[B" } : Jvm.MethodName) jdk_52_method_24_code (2 : Nat) (Option.some (Jvm.ClassFile.FieldType.array Jvm.ClassFile.FieldType.byte))).before args0 about1 = true := code_word (m := ⟨13, 10⟩) (meth := k13m10) (c := k13c10) (by decide +kernel) rfl rfl rfl (by decide +kernel)
set_option maxRecDepth 65536 in
theorem w_c21 : (Jvm.Cond.code ({ cls := "java/lang/StringUTF16", name := "putChar", desc := "([BII)V" } : Jvm.MethodName) jdk_52_method_4_code (3 : Nat) (Option.none : Option Jvm.ClassFile.FieldType)).before args0 about1 = true := code_word (m := ⟨13, 3⟩) (meth := k13m3) (c := k13c3) (by decide +kernel) rfl rfl rfl (by decide +kernel)
set_option maxRecDepth 65536 in
theorem w_c22 : (Jvm.Cond.code ({ cls := "java/lang/StringUTF16", name := "toBytes", desc := "([CII)[B" } : Jvm.MethodName) jdk_52_method_14_code (5 : Nat) (Option.some (Jvm.ClassFile.FieldType.array Jvm.ClassFile.FieldType.byte))).before args0 about1 = true := code_word (m := ⟨13, 6⟩) (meth := k13m6) (c := k13c6) (by decide +kernel) rfl rfl rfl (by decide +kernel)
set_option maxRecDepth 65536 in
theorem w_c23 : (Jvm.Cond.code ({ cls := "java/lang/StringUTF16", name := "newBytesFor", desc := "(I)[B" } : Jvm.MethodName) jdk_52_method_2_code (1 : Nat) (Option.some (Jvm.ClassFile.FieldType.array Jvm.ClassFile.FieldType.byte))).before args0 about1 = true := code_word (m := ⟨13, 1⟩) (meth := k13m1) (c := k13c1) (by decide +kernel) rfl rfl rfl (by decide +kernel)
set_option maxRecDepth 65536 in
theorem w_c24 : (Jvm.Cond.code ({ cls := "java/lang/StringUTF16", name := "newBytesLength", desc := "(I)I" } : Jvm.MethodName) jdk_52_method_3_code (1 : Nat) (Option.some Jvm.ClassFile.FieldType.int)).before args0 about1 = true := code_word (m := ⟨13, 2⟩) (meth := k13m2) (c := k13c2) (by decide +kernel) rfl rfl rfl (by decide +kernel)
set_option maxRecDepth 65536 in
theorem w_c25 : (Jvm.Cond.code ({ cls := "java/lang/StringUTF16", name := "getChar", desc := "([BI)C" } : Jvm.MethodName) jdk_52_method_5_code (2 : Nat) (Option.some Jvm.ClassFile.FieldType.char)).before args0 about1 = true := code_word (m := ⟨13, 4⟩) (meth := k13m4) (c := k13c4) (by decide +kernel) rfl rfl rfl (by decide +kernel)
set_option maxRecDepth 65536 in
theorem w_c26 : (Jvm.Cond.code ({ cls := "java/lang/StringUTF16", name := "charAt", desc := "([BI)C" } : Jvm.MethodName) jdk_52_method_83_code (2 : Nat) (Option.some Jvm.ClassFile.FieldType.char)).before args0 about1 = true := code_word (m := ⟨13, 11⟩) (meth := k13m11) (c := k13c11) (by decide +kernel) rfl rfl rfl (by decide +kernel)
set_option maxRecDepth 65536 in
theorem w_c27 : (Jvm.Cond.code ({ cls := "java/lang/StringUTF16", name := "checkIndex", desc := "(I[B)V" } : Jvm.MethodName) jdk_52_method_91_code (2 : Nat) (Option.none : Option Jvm.ClassFile.FieldType)).before args0 about1 = true := code_word (m := ⟨13, 12⟩) (meth := k13m12) (c := k13c12) (by decide +kernel) rfl rfl rfl (by decide +kernel)
set_option maxRecDepth 65536 in
theorem w_c28 : (Jvm.Cond.code ({ cls := "java/lang/StringUTF16", name := "length", desc := "([B)I" } : Jvm.MethodName) jdk_52_method_6_code (1 : Nat) (Option.some Jvm.ClassFile.FieldType.int)).before args0 about1 = true := code_word (m := ⟨13, 5⟩) (meth := k13m5) (c := k13c5) (by decide +kernel) rfl rfl rfl (by decide +kernel)
def codes1 : List Jvm.Cond := [Jvm.Cond.code x code maxLocals ret, Jvm.Cond.code ({ cls := "com/example/grant3/grant3/TokenIsSymbolPinLaw", name := "kindOf", desc := "(I)Lcom/example/grant3/grant3/Lexer$Kind;" } : Jvm.MethodName) method_2_code (1 : Nat) (Option.some (Jvm.ClassFile.FieldType.object "com/example/grant3/grant3/Lexer$Kind")), Jvm.Cond.code ({ cls := "java/lang/String", name := "valueOf", desc := "(C)Ljava/lang/String;" } : Jvm.MethodName) jdk_42_method_139_code (1 : Nat) (Option.some (Jvm.ClassFile.FieldType.object "java/lang/String")), Jvm.Cond.code ({ cls := "java/lang/StringLatin1", name := "canEncode", desc := "(C)Z" } : Jvm.MethodName) jdk_43_method_3_code (1 : Nat) (Option.some Jvm.ClassFile.FieldType.boolean), Jvm.Cond.code ({ cls := "java/lang/StringLatin1", name := "toBytes", desc := "(C)[B" } : Jvm.MethodName) jdk_43_method_46_code (1 : Nat) (Option.some (Jvm.ClassFile.FieldType.array Jvm.ClassFile.FieldType.byte)), Jvm.Cond.code ({ cls := "java/lang/String", name := "<init>", desc := "([BB)V" } : Jvm.MethodName) jdk_42_method_151_code (3 : Nat) (Option.none : Option Jvm.ClassFile.FieldType), Jvm.Cond.code ({ cls := "java/lang/Object", name := "<init>", desc := "()V" } : Jvm.MethodName) object_method_1_code (1 : Nat) (Option.none : Option Jvm.ClassFile.FieldType), Jvm.Cond.code ({ cls := "com/example/grant3/grant3/Lexer$Token", name := "<init>", desc := "(Lcom/example/grant3/grant3/Lexer$Kind;Ljava/lang/String;)V" } : Jvm.MethodName) prog_34_method_1_code (3 : Nat) (Option.none : Option Jvm.ClassFile.FieldType), Jvm.Cond.code ({ cls := "java/lang/Record", name := "<init>", desc := "()V" } : Jvm.MethodName) jdk_30_method_1_code (1 : Nat) (Option.none : Option Jvm.ClassFile.FieldType), Jvm.Cond.code ({ cls := "com/example/grant3/grant3/Lexer$Token", name := "isSymbol", desc := "(C)Z" } : Jvm.MethodName) prog_34_method_3_code (2 : Nat) (Option.some Jvm.ClassFile.FieldType.boolean), Jvm.Cond.code ({ cls := "java/lang/String", name := "<init>", desc := "([C)V" } : Jvm.MethodName) jdk_42_method_3_code (2 : Nat) (Option.none : Option Jvm.ClassFile.FieldType), Jvm.Cond.code ({ cls := "java/lang/String", name := "<init>", desc := "([CIILjava/lang/Void;)V" } : Jvm.MethodName) jdk_42_method_149_code (6 : Nat) (Option.none : Option Jvm.ClassFile.FieldType), Jvm.Cond.code ({ cls := "java/lang/StringUTF16", name := "compress", desc := "([CII)[B" } : Jvm.MethodName) jdk_52_method_16_code (6 : Nat) (Option.some (Jvm.ClassFile.FieldType.array Jvm.ClassFile.FieldType.byte)), Jvm.Cond.code ({ cls := "java/lang/StringUTF16", name := "compress", desc := "([CI[BII)I" } : Jvm.MethodName) jdk_52_method_21_code (7 : Nat) (Option.some Jvm.ClassFile.FieldType.int), Jvm.Cond.code ({ cls := "java/lang/StringUTF16", name := "coderFromArrayLen", desc := "([BI)B" } : Jvm.MethodName) jdk_52_method_15_code (2 : Nat) (Option.some Jvm.ClassFile.FieldType.byte), Jvm.Cond.code ({ cls := "java/lang/String", name := "charAt", desc := "(I)C" } : Jvm.MethodName) jdk_42_method_56_code (2 : Nat) (Option.some Jvm.ClassFile.FieldType.char), Jvm.Cond.code ({ cls := "java/lang/String", name := "isLatin1", desc := "()Z" } : Jvm.MethodName) jdk_42_method_154_code (1 : Nat) (Option.some Jvm.ClassFile.FieldType.boolean), Jvm.Cond.code ({ cls := "java/lang/StringLatin1", name := "charAt", desc := "([BI)C" } : Jvm.MethodName) jdk_43_method_2_code (2 : Nat) (Option.some Jvm.ClassFile.FieldType.char), Jvm.Cond.code ({ cls := "java/lang/String", name := "checkIndex", desc := "(II)V" } : Jvm.MethodName) jdk_42_method_155_code (2 : Nat) (Option.none : Option Jvm.ClassFile.FieldType), Jvm.Cond.code ({ cls := "jdk/internal/util/Preconditions", name := "checkIndex", desc := "(IILjava/util/function/BiFunction;)I" } : Jvm.MethodName) jdk_41_method_11_code (3 : Nat) (Option.some Jvm.ClassFile.FieldType.int), Jvm.Cond.code ({ cls := "java/lang/StringUTF16", name := "toBytes", desc := "(C)[B" } : Jvm.MethodName) jdk_52_method_24_code (2 : Nat) (Option.some (Jvm.ClassFile.FieldType.array Jvm.ClassFile.FieldType.byte)), Jvm.Cond.code ({ cls := "java/lang/StringUTF16", name := "putChar", desc := "([BII)V" } : Jvm.MethodName) jdk_52_method_4_code (3 : Nat) (Option.none : Option Jvm.ClassFile.FieldType), Jvm.Cond.code ({ cls := "java/lang/StringUTF16", name := "toBytes", desc := "([CII)[B" } : Jvm.MethodName) jdk_52_method_14_code (5 : Nat) (Option.some (Jvm.ClassFile.FieldType.array Jvm.ClassFile.FieldType.byte)), Jvm.Cond.code ({ cls := "java/lang/StringUTF16", name := "newBytesFor", desc := "(I)[B" } : Jvm.MethodName) jdk_52_method_2_code (1 : Nat) (Option.some (Jvm.ClassFile.FieldType.array Jvm.ClassFile.FieldType.byte)), Jvm.Cond.code ({ cls := "java/lang/StringUTF16", name := "newBytesLength", desc := "(I)I" } : Jvm.MethodName) jdk_52_method_3_code (1 : Nat) (Option.some Jvm.ClassFile.FieldType.int), Jvm.Cond.code ({ cls := "java/lang/StringUTF16", name := "getChar", desc := "([BI)C" } : Jvm.MethodName) jdk_52_method_5_code (2 : Nat) (Option.some Jvm.ClassFile.FieldType.char), Jvm.Cond.code ({ cls := "java/lang/StringUTF16", name := "charAt", desc := "([BI)C" } : Jvm.MethodName) jdk_52_method_83_code (2 : Nat) (Option.some Jvm.ClassFile.FieldType.char), Jvm.Cond.code ({ cls := "java/lang/StringUTF16", name := "checkIndex", desc := "(I[B)V" } : Jvm.MethodName) jdk_52_method_91_code (2 : Nat) (Option.none : Option Jvm.ClassFile.FieldType), Jvm.Cond.code ({ cls := "java/lang/StringUTF16", name := "length", desc := "([B)I" } : Jvm.MethodName) jdk_52_method_6_code (1 : Nat) (Option.some Jvm.ClassFile.FieldType.int)]
set_option maxRecDepth 65536 in
theorem codes_eq : words1.filter isCode = codes1 := rfl
theorem w_codes : ∀ c ∈ words1.filter isCode, c.before args0 about1 = true := by
  rw [codes_eq]
  intro c hc
  simp only [codes1, List.mem_cons, List.not_mem_nil, or_false] at hc
  rcases hc with rfl | rfl | rfl | rfl | rfl | rfl | rfl | rfl | rfl | rfl | rfl | rfl | rfl | rfl | rfl | rfl | rfl | rfl | rfl | rfl | rfl | rfl | rfl | rfl | rfl | rfl | rfl | rfl | rfl
  · exact w_c0
  · exact w_c1
  · exact w_c2
  · exact w_c3
  · exact w_c4
  · exact w_c5
  · exact w_c6
  · exact w_c7
  · exact w_c8
  · exact w_c9
  · exact w_c10
  · exact w_c11
  · exact w_c12
  · exact w_c13
  · exact w_c14
  · exact w_c15
  · exact w_c16
  · exact w_c17
  · exact w_c18
  · exact w_c19
  · exact w_c20
  · exact w_c21
  · exact w_c22
  · exact w_c23
  · exact w_c24
  · exact w_c25
  · exact w_c26
  · exact w_c27
  · exact w_c28
set_option maxRecDepth 65536 in
theorem w_t1 : (words1.take 24).all (fun c => isCode c || c.before args0 about1) = true := by decide +kernel
set_option maxRecDepth 65536 in
theorem w_t2 : ((words1.drop 24).take 24).all (fun c => isCode c || c.before args0 about1) = true := by decide +kernel
set_option maxRecDepth 65536 in
theorem w_t3 : (((words1.drop 24).drop 24).take 24).all (fun c => isCode c || c.before args0 about1) = true := by decide +kernel
set_option maxRecDepth 65536 in
theorem w_t4 : ((((words1.drop 24).drop 24).drop 24).take 24).all (fun c => isCode c || c.before args0 about1) = true := by decide +kernel
set_option maxRecDepth 65536 in
theorem w_t5 : (((((words1.drop 24).drop 24).drop 24).drop 24).take 24).all (fun c => isCode c || c.before args0 about1) = true := by decide +kernel
set_option maxRecDepth 65536 in
theorem w_t6 : (((((words1.drop 24).drop 24).drop 24).drop 24).drop 24).all (fun c => isCode c || c.before args0 about1) = true := by decide +kernel
theorem w_tables : (allAtoms (Jvm.Cond.code x code maxLocals ret :: tables_1)).before args0 about1 = true := by
  rw [allAtoms_all]
  show words1.all (fun c => c.before args0 about1) = true
  refine all_split ?_ w_codes
  rw [← List.take_append_drop 24 words1, List.all_append, w_t1, ← List.take_append_drop 24 (words1.drop 24), List.all_append, w_t2, ← List.take_append_drop 24 ((words1.drop 24).drop 24), List.all_append, w_t3, ← List.take_append_drop 24 (((words1.drop 24).drop 24).drop 24), List.all_append, w_t4, ← List.take_append_drop 24 ((((words1.drop 24).drop 24).drop 24).drop 24), List.all_append, w_t5, w_t6]
  rfl
set_option maxRecDepth 65536 in
theorem w_rest : rest_1_c.before args0 about1 = true := by decide +kernel
set_option maxRecDepth 65536 in
theorem w_case : (Jvm.Cond.and given_1 narrow_1).before args0 about1 = true := by decide +kernel
theorem w_applies : (headSpec (Jvm.Cond.code x code maxLocals ret :: tables_1) room_1).applies x e0.platform about1 = true :=
  (Spec.applies_iff w_frames).mpr ⟨w_running, w_runnable, w_alone, w_named, w_hears, w_ripe, w_room, w_tables⟩
theorem atStart : AtStart classFile x code maxLocals ret World_1 tables_1 room_1 Calls_1 rest_1 Pre_1 launch0 p0 e0 about1 theMethod args0 below0 :=
  ⟨lists_1, trivial, launch0.admits_env _ _ _, launch0.least_env, fairChoices_fair.cas, fairChoices_fair.clock, w_frames, w_args, w_heap, w_applies, trivial, w_rest, w_case⟩
end start1
theorem witness_1 : WitnessClaimed_1 := ⟨start1.p0, start1.e0, start1.about1, start1.theMethod, start1.args0, start1.below0, start1.atStart⟩
end Jvm.Pilot.@@N@@
