import JvmDerived
import JvmDerived.Pilot.@@N@@Statement
import JvmDerived.Pilot.@@N@@Code
set_option linter.unusedVariables false
set_option linter.unusedSimpArgs false
namespace Jvm.Pilot.@@N@@
open Jvm Jvm.ClassFile Sem Op Lib Jvm.Free Jvm.Stand Jvm.LawKit Jvm.RoadKit Bundle Jvm.Pilot.@@N@@.Jvm.D
/-! the walk's goal: from the state A the run ends, returning what Qv says -/
def OwnEnd (p : Program) (e : Env) (below : List Frame) (s : State) (Qv : Option Value → Heap → List Loc → Prop) (k n : Nat) (A : State) : Prop :=
  ∃ s₂ o, Steps p.tables e below A s₂ ∧ s₂.status = .running ∧ Ended s₂ below o ∧ ∃ v L, o = .returned v ∧ Qv v s₂.heap L ∧ FrameEnd s o s₂ L k n
theorem own_step {p : Program} {e : Env} {below : List Frame} {s : State} {Qv : Option Value → Heap → List Loc → Prop} {k n : Nat} {A B : State} (h : ∀ t, Steps p.tables e below B t → Steps p.tables e below A t) (q : OwnEnd p e below s Qv k n B) : OwnEnd p e below s Qv k n A := by
  obtain ⟨s₂, o, h1, h2⟩ := q
  exact ⟨s₂, o, h _ h1, h2⟩
theorem own_arvEq {Z : State} {h : Heap} {a : Addr} {k : ClassId} {ty : FieldType} {z : Int32} {vs vs' : List Value} {d : Value} (e : vs = vs') (F : Arv Z h a k ty z vs d) : Arv Z h a k ty z vs' d := by subst e; exact F
theorem own_fldEq {Z : State} {h : Heap} {a : Addr} {C n d : String} {x y : Int32} (e : x = y) (F : Fld Z h a C n d (.int x)) : Fld Z h a C n d (.int y) := by subst e; exact F
section OwnRet
variable {p : Program} {l : Launch} {e : Env} {R : Room} {s : State} {m : MethodId} {args : Array Value} {below : List Frame} {meth : Method} {c : Code} {T : State} {locs : List Loc} {cells slots k n : Nat} {Qv : Option Value → Heap → List Loc → Prop}
theorem own_retN (X : Stand p l e R s m args below meth c T locs cells slots) (hx : p.tables.exec = Jvm.exec) (hlocks : meth.locks = false) {pc : Nat} {Ls : Array Slot} {z w : Int32} {t : FieldType} {rest : List Value} (hret : meth.sig.returnType = some t) (ht : t = .boolean ∨ t = .byte ∨ t = .char ∨ t = .short) (hd : decode c.code pc = .ok (.ireturn, 1)) (hz : nar t z = w) (hq : Qv (some (.int w)) T.heap locs) (hk : cells ≤ k) (hn : slots ≤ n) :
    OwnEnd p e below s Qv k n (T.setTop (mkF m pc Ls (.int z :: rest))) := by
  obtain ⟨fs, hr, hrun, hended, hW, hsame⟩ := X.leave (v := some (.int w)) (fun h => by rw [hret] at h; cases h) hlocks
  exact ⟨_, _, retN X hx hret ht hd (fs := fs) (by rw [hz]; exact hr), hrun, hended, _, _, rfl, hq, ⟨_, rfl⟩, hW, hsame.mono hk hn⟩
theorem own_retI (X : Stand p l e R s m args below meth c T locs cells slots) (hx : p.tables.exec = Jvm.exec) (hlocks : meth.locks = false) {pc : Nat} {Ls : Array Slot} {z : Int32} {rest : List Value} (hret : meth.sig.returnType = some .int) (hd : decode c.code pc = .ok (.ireturn, 1)) (hq : Qv (some (.int z)) T.heap locs) (hk : cells ≤ k) (hn : slots ≤ n) :
    OwnEnd p e below s Qv k n (T.setTop (mkF m pc Ls (.int z :: rest))) := by
  obtain ⟨fs, hr, hrun, hended, hW, hsame⟩ := X.leave (v := some (.int z)) (fun h => by rw [hret] at h; cases h) hlocks
  refine ⟨T.setFrames fs, _, ?_, hrun, hended, _, _, rfl, hq, ⟨_, rfl⟩, hW, hsame.mono hk hn⟩
  have hm' : T.vm.method? m = some meth := X.method'
  have hn' : narrow .int (.int z) = .int z := rfl
  show Steps p.tables e below (T.setTop { method := m, pc := pc, locals := Ls, stack := _ :: rest, locked := none }) _
  jvm_step X.here [X.here.top, hx, hd, hm', hret, hn']
  first | (intro acts; rw [hr _ acts rfl rfl rfl]) | rw [hr _ _ rfl rfl rfl]
  exact Steps.refl _
theorem own_retJ (X : Stand p l e R s m args below meth c T locs cells slots) (hx : p.tables.exec = Jvm.exec) (hlocks : meth.locks = false) {pc : Nat} {Ls : Array Slot} {z : Int64} {rest : List Value} (hret : meth.sig.returnType = some .long) (hd : decode c.code pc = .ok (.lreturn, 1)) (hq : Qv (some (.long z)) T.heap locs) (hk : cells ≤ k) (hn : slots ≤ n) :
    OwnEnd p e below s Qv k n (T.setTop (mkF m pc Ls (.long z :: rest))) := by
  obtain ⟨fs, hr, hrun, hended, hW, hsame⟩ := X.leave (v := some (.long z)) (fun h => by rw [hret] at h; cases h) hlocks
  refine ⟨T.setFrames fs, _, ?_, hrun, hended, _, _, rfl, hq, ⟨_, rfl⟩, hW, hsame.mono hk hn⟩
  have hm' : T.vm.method? m = some meth := X.method'
  have hn' : narrow .long (.long z) = .long z := rfl
  show Steps p.tables e below (T.setTop { method := m, pc := pc, locals := Ls, stack := _ :: rest, locked := none }) _
  jvm_step X.here [X.here.top, hx, hd, hm', hret, hn']
  first | (intro acts; rw [hr _ acts rfl rfl rfl]) | rw [hr _ _ rfl rfl rfl]
  exact Steps.refl _
theorem own_retD (X : Stand p l e R s m args below meth c T locs cells slots) (hx : p.tables.exec = Jvm.exec) (hlocks : meth.locks = false) {pc : Nat} {Ls : Array Slot} {z : UInt64} {rest : List Value} (hret : meth.sig.returnType = some .double) (hd : decode c.code pc = .ok (.dreturn, 1)) (hq : Qv (some (.double z)) T.heap locs) (hk : cells ≤ k) (hn : slots ≤ n) :
    OwnEnd p e below s Qv k n (T.setTop (mkF m pc Ls (.double z :: rest))) := by
  obtain ⟨fs, hr, hrun, hended, hW, hsame⟩ := X.leave (v := some (.double z)) (fun h => by rw [hret] at h; cases h) hlocks
  refine ⟨T.setFrames fs, _, ?_, hrun, hended, _, _, rfl, hq, ⟨_, rfl⟩, hW, hsame.mono hk hn⟩
  have hm' : T.vm.method? m = some meth := X.method'
  have hn' : narrow .double (.double z) = .double z := rfl
  show Steps p.tables e below (T.setTop { method := m, pc := pc, locals := Ls, stack := _ :: rest, locked := none }) _
  jvm_step X.here [X.here.top, hx, hd, hm', hret, hn']
  first | (intro acts; rw [hr _ acts rfl rfl rfl]) | rw [hr _ _ rfl rfl rfl]
  exact Steps.refl _
theorem own_retR (X : Stand p l e R s m args below meth c T locs cells slots) (hx : p.tables.exec = Jvm.exec) (hlocks : meth.locks = false) {pc : Nat} {Ls : Array Slot} {z : Addr} {t : FieldType} {rest : List Value} (hret : meth.sig.returnType = some t) (ht : t.isReference = true) (hd : decode c.code pc = .ok (.areturn, 1)) (hq : Qv (some (.ref z)) T.heap locs) (hk : cells ≤ k) (hn : slots ≤ n) :
    OwnEnd p e below s Qv k n (T.setTop (mkF m pc Ls (.ref z :: rest))) := by
  obtain ⟨fs, hr, hrun, hended, hW, hsame⟩ := X.leave (v := some (.ref z)) (fun h => by rw [hret] at h; cases h) hlocks
  refine ⟨T.setFrames fs, _, ?_, hrun, hended, _, _, rfl, hq, ⟨_, rfl⟩, hW, hsame.mono hk hn⟩
  have hm' : T.vm.method? m = some meth := X.method'
  show Steps p.tables e below (T.setTop { method := m, pc := pc, locals := Ls, stack := _ :: rest, locked := none }) _
  jvm_step X.here [X.here.top, hx, hd, hm', hret, ht, Value.isRef]
  first | (intro acts; rw [hr _ acts rfl rfl rfl]) | rw [hr _ _ rfl rfl rfl]
  exact Steps.refl _
theorem own_ret0 (X : Stand p l e R s m args below meth c T locs cells slots) (hx : p.tables.exec = Jvm.exec) (hlocks : meth.locks = false) {pc : Nat} {Ls : Array Slot} (hret : meth.sig.returnType = none) (hd : decode c.code pc = .ok (.return_, 1)) (hq : Qv none T.heap locs) (hk : cells ≤ k) (hn : slots ≤ n) :
    OwnEnd p e below s Qv k n (T.setTop (mkF m pc Ls [])) := by
  obtain ⟨fs, hr, hrun, hended, hW, hsame⟩ := X.leave (v := none) (fun _ => rfl) hlocks
  exact ⟨_, _, X.returnOut hx hret hd hr, hrun, hended, _, _, rfl, hq, ⟨_, rfl⟩, hW, hsame.mono hk hn⟩
end OwnRet
/-! lists of ints by a function of the place -/
def own_vs (n : Nat) (F : Nat → Int32) : List Value := (List.range n).map fun j => Value.int (F j)
theorem own_vsLen (n : Nat) (F : Nat → Int32) : (own_vs n F).length = n := by simp [own_vs]
theorem own_vsGet {n : Nat} {F : Nat → Int32} {j : Nat} {d : Value} (h : j < n) : (own_vs n F).getD j d = .int (F j) := by
  simp [own_vs, List.getD_eq_getElem?_getD, h]
theorem own_vsCongr {n : Nat} {F G : Nat → Int32} (h : ∀ j, j < n → F j = G j) : own_vs n F = own_vs n G := by
  apply List.map_congr_left
  intro j hj
  rw [h j (List.mem_range.mp hj)]
theorem own_vsSet {n : Nat} {F : Nat → Int32} {i : Nat} {x : Int32} : (own_vs n F).set i (.int x) = own_vs n (fun j => if j = i then x else F j) := by
  apply List.ext_getElem?
  intro j
  rw [List.getElem?_set]
  by_cases hj : j < n
  · by_cases hi : i = j
    · subst hi; simp [own_vs, hj]
    · have hi' : ¬ j = i := fun q => hi q.symm
      simp [own_vs, hj, hi, hi']
  · by_cases hi : i = j
    · subst hi; simp [own_vs, hj]
    · simp [own_vs, hj, hi]
theorem own_vsPad (n : Nat) : ∀ i, (own_vs n fun _ => (0 : Int32)).getD i (.int (0 : Int32)) = ([] : List Value).getD i (.int (0 : Int32)) := by
  intro i
  by_cases h : i < n
  · rw [own_vsGet h]; rfl
  · simp [own_vs, List.getD_eq_getElem?_getD, h]
theorem own_clamp {p : Int32} {i : Nat} (h : p.toInt = i) : p.toNatClampNeg = i := by
  simp only [Int32.toNatClampNeg, h]; rfl
theorem own_inc {p : Int32} {i : Nat} (h : p.toInt = i) (hi : i < 2147483647) : (p + 1).toInt = ((i + 1 : Nat) : Int) := by
  have h1 := c_iadd p 1
  have h2 := rng32 (p + 1)
  have h3 : (1 : Int32).toInt = 1 := by decide
  omega
theorem own_lt32 {p q : Int32} {i j : Nat} (hp : p.toInt = i) (hq : q.toInt = j) : p < q ↔ i < j := by
  rw [Int32.lt_iff_toInt_lt, hp, hq]; omega
theorem own_nn {p : Int32} {i : Nat} (hp : p.toInt = i) : ¬ p < 0 := by
  rw [Int32.lt_iff_toInt_lt, hp, show (0 : Int32).toInt = 0 from by decide]; omega
theorem own_ofNat {n : Nat} (h : n < 2147483648) : (Int32.ofNat n).toInt = n := Int32.toInt_ofNat_of_lt h
/-! the bytes of a char -/
def own_b (c : Int32) : Int32 := (c.toInt8.toInt32).toInt8.toInt32
def own_lo (c : Int32) : Int32 := own_b (c >>> ((0 : Int32) &&& 31))
def own_hi (c : Int32) : Int32 := own_b (c >>> ((8 : Int32) &&& 31))
def own_u (g : Nat → Int32) (j : Nat) : Int32 := if j % 2 = 0 then own_lo (g (j / 2)) else own_hi (g (j / 2))
def own_cL (x : Int32) : Int32 := ((x &&& (255 : Int32)).toUInt32.toUInt16.toUInt32.toInt32)
def own_cU (x y : Int32) : Int32 := ((((x &&& (255 : Int32)) <<< ((0 : Int32) &&& 31)) ||| ((y &&& (255 : Int32)) <<< ((8 : Int32) &&& 31))).toUInt32.toUInt16.toUInt32.toInt32)
theorem own_bInt (c : Int32) : ((own_b c).toInt - c.toInt) % 256 = 0 := by
  have h1 := c_i2b (c.toInt8.toInt32)
  have h2 := c_i2b c
  unfold own_b
  omega
theorem own_i2c {x : Int32} (h0 : 0 ≤ x.toInt) (h1 : x.toInt < 65536) : x.toUInt32.toUInt16.toUInt32.toInt32 = x := by
  have h := c_i2c x
  apply Int32.toInt_inj.mp
  omega
theorem own_shr0 (c : Int32) : c >>> ((0 : Int32) &&& 31) = c := by
  have h := c_ishr c 0 0 (by decide)
  apply Int32.toInt_inj.mp
  rw [h]; simp
theorem own_shl0 (c : Int32) : c <<< ((0 : Int32) &&& 31) = c := by
  have h := c_ishl c 0 0 (by decide)
  have h2 := rng32 c
  have h3 := rng32 (c <<< ((0 : Int32) &&& 31))
  apply Int32.toInt_inj.mp
  simp only [Nat.pow_zero] at h
  omega
theorem own_decL {c : Int32} (h0 : 0 ≤ c.toInt) (h1 : c.toInt < 256) : own_cL (own_b c) = c := by
  have h2 := c_mask (own_b c) 255 8 (by decide) (by decide)
  have h3 := own_bInt c
  have e : own_b c &&& 255 = c := by apply Int32.toInt_inj.mp; rw [h2]; omega
  unfold own_cL
  rw [e]
  exact own_i2c h0 (by omega)
theorem own_decU {c : Int32} (h0 : 0 ≤ c.toInt) (h1 : c.toInt < 65536) : own_cU (own_lo c) (own_hi c) = c := by
  have a1 := c_mask (own_lo c) 255 8 (by decide) (by decide)
  have a2 := c_mask (own_hi c) 255 8 (by decide) (by decide)
  have a3 : ((own_lo c).toInt - c.toInt) % 256 = 0 := by
    have := own_bInt (c >>> ((0 : Int32) &&& 31)); rw [own_shr0] at this
    unfold own_lo; rw [own_shr0]; exact this
  have a4 : ((own_hi c).toInt - c.toInt / 256) % 256 = 0 := by
    have := own_bInt (c >>> ((8 : Int32) &&& 31)); rw [c_ishr c 8 8 (by decide)] at this
    exact this
  unfold own_cU
  rw [own_shl0]
  generalize own_lo c &&& 255 = x at *
  generalize own_hi c &&& 255 = y at *
  have b1 := c_ishl y 8 8 (by decide)
  have b2 := rng32 (y <<< ((8 : Int32) &&& 31))
  have b3 := c_or' x (y <<< ((8 : Int32) &&& 31)) 8 (by decide) 256 (by decide) (by omega) (by omega) (by omega)
  have b4 := rng32 (x ||| y <<< ((8 : Int32) &&& 31))
  have e : x ||| y <<< ((8 : Int32) &&& 31) = c := by apply Int32.toInt_inj.mp; omega
  rw [e]
  exact own_i2c h0 h1
/-! the statics on which the String bodies rest -/
def OwnW (Z : State) (wc : Int32) (sx : Value) : Prop := Sta Z Z.heap "java/lang/String" "COMPACT_STRINGS" "Z" (.int wc) ∧ ¬ (wc = (0 : Int32)) ∧ Sta Z Z.heap "jdk/internal/util/Preconditions" "SIOOBE_FORMATTER" "Ljava/util/function/BiFunction;" sx ∧ sx.isRef = true ∧ Sta Z Z.heap "java/lang/StringUTF16" "$assertionsDisabled" "Z" (.int (1 : Int32)) ∧ Sta Z Z.heap "java/lang/StringUTF16" "HI_BYTE_SHIFT" "I" (.int (0 : Int32)) ∧ Sta Z Z.heap "java/lang/StringUTF16" "LO_BYTE_SHIFT" "I" (.int (8 : Int32))
theorem own_mono {l : Launch} {x : MethodName} {S : Spec} {P : Array Value → State → Prop} {K : Program → Env → List Frame → State → Array Value → Prop} {Q Q' : Array Value → State → Outcome → State → Prop} (h : MetFree l x S P K Q) (hq : ∀ a s o t, Q a s o t → Q' a s o t) : MetFree l x S P K Q' := by
  intro p e ha hc hk s m args below hf happ hP hK
  obtain ⟨n, o, h1, h2, h3, h4⟩ := h p e ha hc hk s m args below hf happ hP hK
  exact ⟨n, o, h1, h2, h3, hq _ _ _ _ h4⟩
/-! a String object and its chars -/
def OwnStr (Z : State) (h : Heap) (a b : Addr) (n : Nat) (g : Nat → Int32) : Prop :=
  Exa Z h a "java/lang/String" ∧ Fld Z h a "java/lang/String" "value" "[B" (.ref b) ∧
  ((Fld Z h a "java/lang/String" "coder" "B" (.int (0 : Int32)) ∧ (∀ j, j < n → (g j).toInt < 256) ∧ ∃ k, Arv Z h b k .byte (Int32.ofNat n) (own_vs n fun j => own_b (g j)) (.int (0 : Int32))) ∨
   (Fld Z h a "java/lang/String" "coder" "B" (.int (1 : Int32)) ∧ ∃ k, Arv Z h b k .byte (Int32.ofNat (2 * n)) (own_vs (2 * n) (own_u g)) (.int (0 : Int32))))
section OwnStrLaws
variable {Z : State} {h h' : Heap} {a b o : Addr} {n : Nat} {g : Nat → Int32} {sl : Nat} {v : Value} {ws : List Addr}
theorem OwnStr.ext (S : OwnStr Z h a b n g) (E : Ext h h') : OwnStr Z h' a b n g := by
  obtain ⟨A, F, C⟩ := S
  refine ⟨A.ext E, F.ext E, ?_⟩
  rcases C with ⟨C, q, k, V⟩ | ⟨C, k, V⟩
  · exact Or.inl ⟨C.ext E, q, k, V.ext E⟩
  · exact Or.inr ⟨C.ext E, k, V.ext E⟩
theorem OwnStr.other (S : OwnStr Z h a b n g) (W : Wr h h' o sl v) (ha : a ≠ o) (hb : b ≠ o) : OwnStr Z h' a b n g := by
  obtain ⟨A, F, C⟩ := S
  refine ⟨A.wr W, F.other W (Or.inl ha), ?_⟩
  rcases C with ⟨C, q, k, V⟩ | ⟨C, k, V⟩
  · exact Or.inl ⟨C.other W (Or.inl ha), q, k, V.other W hb⟩
  · exact Or.inr ⟨C.other W (Or.inl ha), k, V.other W hb⟩
theorem OwnStr.keep (S : OwnStr Z h a b n g) (K : Keep h h' ws) (ha : a ∉ ws) (hb : b ∉ ws) : OwnStr Z h' a b n g := by
  obtain ⟨A, F, C⟩ := S
  refine ⟨A.keep K, F.keep K ha, ?_⟩
  rcases C with ⟨C, q, k, V⟩ | ⟨C, k, V⟩
  · exact Or.inl ⟨C.keep K ha, q, k, V.keep K hb⟩
  · exact Or.inr ⟨C.keep K ha, k, V.keep K hb⟩
theorem OwnStr.lt0 (S : OwnStr Z h a b n g) : a < h.size := S.1.lt
theorem OwnStr.lt1 (S : OwnStr Z h a b n g) : b < h.size := by
  rcases S.2.2 with ⟨-, -, k, V⟩ | ⟨-, k, V⟩ <;> exact V.lt
end OwnStrLaws
theorem own_len2 {p : Int32} {n : Nat} (hp : p.toInt = n) (hn : n ≤ 1000000) : p <<< ((1 : Int32) &&& 31) = Int32.ofNat (2 * n) := by
  apply Int32.toInt_inj.mp
  rw [own_ofNat (by omega)]
  have h := c_ishl p 1 1 (by decide)
  have h2 := rng32 (p <<< ((1 : Int32) &&& 31))
  omega
theorem own_shl1 {p : Int32} {i : Nat} (hp : p.toInt = i) (hn : i ≤ 1000000) : (p <<< ((1 : Int32) &&& 31)).toInt = ((2 * i : Nat) : Int) := by
  rw [own_len2 hp hn, own_ofNat (by omega)]
theorem own_shr1 {n : Nat} (hn : n ≤ 1000000) : (Int32.ofNat (2 * n) >>> ((1 : Int32) &&& 31)) = Int32.ofNat n := by
  apply Int32.toInt_inj.mp
  rw [c_ishr _ 1 1 (by decide), own_ofNat (by omega), own_ofNat (by omega)]
  omega
theorem dci_0 : decode jdk_41_method_11_code 0 = .ok (.iload_n 0, 1) := by decide +kernel
theorem dci_1 : decode jdk_41_method_11_code 1 = .ok (.ifCond .lt 8, 3) := by decide +kernel
theorem dci_4 : decode jdk_41_method_11_code 4 = .ok (.iload_n 0, 1) := by decide +kernel
theorem dci_5 : decode jdk_41_method_11_code 5 = .ok (.iload_n 1, 1) := by decide +kernel
theorem dci_6 : decode jdk_41_method_11_code 6 = .ok (.if_icmp .lt 10, 3) := by decide +kernel
theorem dci_16 : decode jdk_41_method_11_code 16 = .ok (.iload_n 0, 1) := by decide +kernel
theorem dci_17 : decode jdk_41_method_11_code 17 = .ok (.ireturn, 1) := by decide +kernel
theorem pnci : plainName "jdk/internal/util/Preconditions" = true := by first | (simp [plainName, overriddenIn]; done) | decide +kernel
theorem efci (m : MethodId) (p0 : Int32) (p1 : Int32) (x2 : Value) (hr_x2 : x2.isRef = true) : entryFrame m #[(.int p0), (.int p1), x2] 3 = mkF m 0 #[.val (.int p0), .val (.int p1), .val x2] [] := by
  rcases ref_cases hr_x2 with rfl | ⟨_, rfl⟩
  · rfl
  rfl
def fci (p0 : Int32) : Int32 := p0
def Qci (Z : State) (p0 : Int32) (p1 : Int32) (x2 : Value) (h0 : Heap) (n0 : Nat) (v : Option Value) (h : Heap) (L : List Loc) : Prop := v = some (.int (fci p0)) ∧ Fr n0 L ∧ h = h0
set_option maxRecDepth 65536 in
set_option maxHeartbeats 40000000 in
theorem rmci (l : Launch) (Z : State) (aa : Array Value) (hw : ∀ d ∈ tables_1, d.before aa Z = true) (ws : List Jvm.Cond) (p0 : Int32) (p1 : Int32) (x2 : Value) (h0 : Heap) (n0 : Nat) (Z0 : n0 ≤ h0.size) (hr_x2 : x2.isRef = true) (hlo : ¬ p0 < (0 : Int32)) (hhi : p0 < p1) :
    MetFree l (⟨"jdk/internal/util/Preconditions", "checkIndex", "(IILjava/util/function/BiFunction;)I"⟩ : MethodName) (head1 (Jvm.Cond.code (⟨"jdk/internal/util/Preconditions", "checkIndex", "(IILjava/util/function/BiFunction;)I"⟩ : MethodName) jdk_41_method_11_code 3 (some .int) :: ws) ({ frames := 0, cells := 0, slots := 0, locals := 0 } : Room)) (fun a U => a = #[(.int p0), (.int p1), x2] ∧ Z.Warmed39 U.vm ∧ U.heap = h0) (fun _ _ _ _ _ => True) (fun _ U o U' => ∃ v L, o = .returned v ∧ Qci Z p0 p1 x2 h0 n0 v U'.heap L ∧ FrameEnd U o U' L ({ frames := 0, cells := 0, slots := 0, locals := 0 } : Room).cells ({ frames := 0, cells := 0, slots := 0, locals := 0 } : Room).slots) := by
  refine MetFree.of_bodySF (plainFor_of_name pnci) hisR ?_
  intro p e s m args below meth c s₁ Bd hml0 hP hK
  obtain ⟨rfl, hZ, hh⟩ := hP
  have hx := Bd.exec
  have hby := Bd.bytes
  have hml : c.maxLocals = 3 := hml0
  have hown : s.vm.findClass "jdk/internal/util/Preconditions" = some m.cls := findClass_of_methodNamed Bd.named
  have hnm := (name_of_methodNamed Bd.named Bd.method).1
  have X0 : Stand p l e ({ frames := 0, cells := 0, slots := 0, locals := 0 } : Room) s m #[(.int p0), (.int p1), x2] below meth c s₁ [] 0 0 := Stand.of_body Bd
  have e0 : s₁.heap = h0 := by rw [← hh, Bd.state]; rfl
  have N0 := Fr.nil n0
  show OwnEnd p e below s (fun v h L => Qci Z p0 p1 x2 h0 n0 v h L) ({ frames := 0, cells := 0, slots := 0, locals := 0 } : Room).cells ({ frames := 0, cells := 0, slots := 0, locals := 0 } : Room).slots (s₁.setTop (entryFrame m #[(.int p0), (.int p1), x2] 3))
  rw [efci m p0 p1 x2 hr_x2]
  generalize hW : OwnEnd p e below s (fun v h L => Qci Z p0 p1 x2 h0 n0 v h L) ({ frames := 0, cells := 0, slots := 0, locals := 0 } : Room).cells ({ frames := 0, cells := 0, slots := 0, locals := 0 } : Room).slots = W
  have stp : ∀ {A B : State}, (∀ t, Steps p.tables e below B t → Steps p.tables e below A t) → W B → W A := by subst hW; exact own_step
  show W (s₁.setTop (mkF m 0 #[.val (.int p0), .val (.int p1), .val x2] []))
  refine stp (fun t k => XS.iloadN X0.here hx rfl (hb hby dci_0) rfl k) ?_
  show W (s₁.setTop (mkF m 1 #[.val (.int p0), .val (.int p1), .val x2] [(.int p0)]))
  refine stp (fun t k => XS.ifNo X0.here hx rfl (hb hby dci_1) rfl ((if0 _ _).trans (flt (hlo)).1) k) ?_
  show W (s₁.setTop (mkF m 4 #[.val (.int p0), .val (.int p1), .val x2] []))
  refine stp (fun t k => XS.iloadN X0.here hx rfl (hb hby dci_4) rfl k) ?_
  show W (s₁.setTop (mkF m 5 #[.val (.int p0), .val (.int p1), .val x2] [(.int p0)]))
  refine stp (fun t k => XS.iloadN X0.here hx rfl (hb hby dci_5) rfl k) ?_
  show W (s₁.setTop (mkF m 6 #[.val (.int p0), .val (.int p1), .val x2] [(.int p1), (.int p0)]))
  refine stp (fun t k => XS.icmpYes X0.here hx rfl (pc0 := 6) (pc' := 16) rfl (hb hby dci_6) rfl ((tlt (hhi)).1) (by decide) (by decide) k) ?_
  show W (s₁.setTop (mkF m 16 #[.val (.int p0), .val (.int p1), .val x2] []))
  refine stp (fun t k => XS.iloadN X0.here hx rfl (hb hby dci_16) rfl k) ?_
  show W (s₁.setTop (mkF m 17 #[.val (.int p0), .val (.int p1), .val x2] [(.int p0)]))
  show W (s₁.setTop (mkF m 17 #[.val (.int p0), .val (.int p1), .val x2] [(.int p0)]))
  rw [← hW]
  exact own_retI X0 hx Bd.notSynchronized Bd.returns (hb hby dci_17) (by show Qci Z p0 p1 x2 h0 n0 _ s₁.heap _; rw [e0]; exact ⟨rfl, N0, rfl⟩) (by decide) (by decide)
theorem dsc_0 : decode jdk_42_method_155_code 0 = .ok (.iload_n 0, 1) := by decide +kernel
theorem dsc_1 : decode jdk_42_method_155_code 1 = .ok (.iload_n 1, 1) := by decide +kernel
theorem dsc_2 : decode jdk_42_method_155_code 2 = .ok (.getstatic 1053, 3) := by decide +kernel
theorem dsc_5 : decode jdk_42_method_155_code 5 = .ok (.invokestatic 1059, 3) := by decide +kernel
theorem dsc_8 : decode jdk_42_method_155_code 8 = .ok (.pop, 1) := by decide +kernel
theorem dsc_9 : decode jdk_42_method_155_code 9 = .ok (.return_, 1) := by decide +kernel
theorem pnsc : plainName "java/lang/String" = true := by first | (simp [plainName, overriddenIn]; done) | decide +kernel
theorem pdsc_0 : parseMethodDescriptor "(IILjava/util/function/BiFunction;)I" = some ⟨[.int, .int, (.object "java/util/function/BiFunction")], some .int⟩ := by decide +kernel
theorem efsc (m : MethodId) (p0 : Int32) (p1 : Int32) : entryFrame m #[(.int p0), (.int p1)] 2 = mkF m 0 #[.val (.int p0), .val (.int p1)] [] := by first | (simp [entryFrame, mkF, argsToLocals, Value.category]; done) | rfl
def Qsc (Z : State) (p0 : Int32) (p1 : Int32) (wc : Int32) (sx : Value) (h0 : Heap) (n0 : Nat) (v : Option Value) (h : Heap) (L : List Loc) : Prop := v = none ∧ Fr n0 L ∧ h = h0
set_option maxRecDepth 65536 in
set_option maxHeartbeats 40000000 in
theorem rmsc (l : Launch) (Z : State) (aa : Array Value) (hw : ∀ d ∈ tables_1, d.before aa Z = true) (ws : List Jvm.Cond) (p0 : Int32) (p1 : Int32) (wc : Int32) (sx : Value) (h0 : Heap) (n0 : Nat) (Z0 : n0 ≤ h0.size) (BW : OwnW Z wc sx) (O0 : Old Z n0 h0) (hlo : ¬ p0 < (0 : Int32)) (hhi : p0 < p1) :
    MetFree l (⟨"java/lang/String", "checkIndex", "(II)V"⟩ : MethodName) (head1 (Jvm.Cond.code (⟨"java/lang/String", "checkIndex", "(II)V"⟩ : MethodName) jdk_42_method_155_code 2 none :: ws) ({ frames := 1, cells := 0, slots := 0, locals := 14 } : Room)) (fun a U => a = #[(.int p0), (.int p1)] ∧ Z.Warmed39 U.vm ∧ U.heap = h0) (fun _ _ _ _ _ => True) (fun _ U o U' => ∃ v L, o = .returned v ∧ Qsc Z p0 p1 wc sx h0 n0 v U'.heap L ∧ FrameEnd U o U' L ({ frames := 1, cells := 0, slots := 0, locals := 14 } : Room).cells ({ frames := 1, cells := 0, slots := 0, locals := 14 } : Room).slots) := by
  refine MetFree.of_bodySF (plainFor_of_name pnsc) hisR ?_
  intro p e s m args below meth c s₁ Bd hml0 hP hK
  obtain ⟨rfl, hZ, hh⟩ := hP
  have hx := Bd.exec
  have hby := Bd.bytes
  have hml : c.maxLocals = 2 := hml0
  have hown : s.vm.findClass "java/lang/String" = some m.cls := findClass_of_methodNamed Bd.named
  have hnm := (name_of_methodNamed Bd.named Bd.method).1
  have X0 : Stand p l e ({ frames := 1, cells := 0, slots := 0, locals := 14 } : Room) s m #[(.int p0), (.int p1)] below meth c s₁ [] 0 0 := Stand.of_body Bd
  have e0 : s₁.heap = h0 := by rw [← hh, Bd.state]; rfl
  have N0 := Fr.nil n0
  show OwnEnd p e below s (fun v h L => Qsc Z p0 p1 wc sx h0 n0 v h L) ({ frames := 1, cells := 0, slots := 0, locals := 14 } : Room).cells ({ frames := 1, cells := 0, slots := 0, locals := 14 } : Room).slots (s₁.setTop (entryFrame m #[(.int p0), (.int p1)] 2))
  rw [efsc m p0 p1]
  generalize hW : OwnEnd p e below s (fun v h L => Qsc Z p0 p1 wc sx h0 n0 v h L) ({ frames := 1, cells := 0, slots := 0, locals := 14 } : Room).cells ({ frames := 1, cells := 0, slots := 0, locals := 14 } : Room).slots = W
  have stp : ∀ {A B : State}, (∀ t, Steps p.tables e below B t → Steps p.tables e below A t) → W B → W A := by subst hW; exact own_step
  obtain ⟨S_cs, hcs, S_si, hr_sx, S_ad, S_hi, S_lo⟩ := id BW
  show W (s₁.setTop (mkF m 0 #[.val (.int p0), .val (.int p1)] []))
  refine stp (fun t k => XS.iloadN X0.here hx rfl (hb hby dsc_0) rfl k) ?_
  show W (s₁.setTop (mkF m 1 #[.val (.int p0), .val (.int p1)] [(.int p0)]))
  refine stp (fun t k => XS.iloadN X0.here hx rfl (hb hby dsc_1) rfl k) ?_
  show W (s₁.setTop (mkF m 2 #[.val (.int p0), .val (.int p1)] [(.int p1), (.int p0)]))
  obtain ⟨Tsc1, Xsc1, esc1, stsc1⟩ := getS2 X0 hx hZ hown (host := "") (Or.inl (hw _ (List.mem_of_getElem? (i := 92) rfl))) Via.refl e0 (S_si.ext O0.2) (g := (mkF m 2 #[.val (.int p0), .val (.int p1)] [(.int p1), (.int p0)])) rfl (hb hby dsc_2)
  refine stp (fun t k => stsc1 t k) ?_
  show W (Tsc1.setTop (mkF m 5 #[.val (.int p0), .val (.int p1)] [sx, (.int p1), (.int p0)]))
  obtain ⟨_, _, ⟨Tscc2, Lscc2, kscc2, nscc2⟩, -, Xscc2, ⟨Lcscc2, hQscc2, lscc2, yscc2, zscc2⟩, stscc2⟩ := Jvm.LawKit.callS Xsc1 hx (y := (⟨"jdk/internal/util/Preconditions", "checkIndex", "(IILjava/util/function/BiFunction;)I"⟩ : MethodName)) hown (mvT hZ (hw _ (List.mem_of_getElem? (i := 94) rfl))) (mvT hZ (hw _ (List.mem_of_getElem? (i := 95) rfl))) (mvT hZ (hw _ (List.mem_of_getElem? (i := 93) rfl))) (mvT hZ (hw _ (List.mem_of_getElem? (i := 96) rfl))) (by decide) (backOf (W := 0) (rmci l Z aa hw [] p0 p1 sx  h0 n0 Z0 hr_sx hlo hhi) hZ (hw _ (List.mem_of_getElem? (i := 96) rfl)) (hw _ (List.mem_of_getElem? (i := 93) rfl)) (by decide) (by decide)) (g := (mkF m 5 #[.val (.int p0), .val (.int p1)] [sx, (.int p1), (.int p0)])) rfl (by rw [hml]; rfl) (argsL := [(.int p0), (.int p1), sx]) (rest := []) (lenOf pdsc_0 rfl) rfl (by show 2 * 0 + _ ≤ _; exact Nat.le_of_eq rfl) (hb hby dsc_5) (fun _ _ => ⟨rfl, esc1, (by decide : 0 + 0 ≤ _), (by decide : 0 + 0 ≤ _)⟩)
  dsimp only [Pt.U, Pt.locs, Pt.cells, Pt.slots] at Xscc2 lscc2 yscc2 zscc2 stscc2 hQscc2
  subst lscc2 yscc2 zscc2
  obtain ⟨rfl, Nscc2q, escc2⟩ := hQscc2
  have Nscc2 := Fr.app N0 Nscc2q
  obtain ⟨lcsct3, Xscc2, Nscc2⟩ : ∃ lc, Stand p l e ({ frames := 1, cells := 0, slots := 0, locals := 14 } : Room) s m #[(.int p0), (.int p1)] below meth c Tscc2 lc 0 0 ∧ Fr n0 lc := ⟨_, Xscc2, Nscc2⟩
  refine stp (fun t k => stscc2 t k) ?_
  show W (Tscc2.setTop (mkF m 8 #[.val (.int p0), .val (.int p1)] [(.int (fci p0))]))
  refine stp (fun t k => XS.pop Xscc2.here hx rfl (hb hby dsc_8) rfl rfl k) ?_
  show W (Tscc2.setTop (mkF m 9 #[.val (.int p0), .val (.int p1)] []))
  show W (Tscc2.setTop (mkF m 9 #[.val (.int p0), .val (.int p1)] []))
  rw [← hW]
  exact own_ret0 Xscc2 hx Bd.notSynchronized Bd.returns (hb hby dsc_9) (by show Qsc Z p0 p1 wc sx h0 n0 _ Tscc2.heap _; rw [escc2]; exact ⟨rfl, Nscc2, rfl⟩) (by decide) (by decide)
theorem dlc_0 : decode jdk_43_method_2_code 0 = .ok (.iload_n 1, 1) := by decide +kernel
theorem dlc_1 : decode jdk_43_method_2_code 1 = .ok (.aload_n 0, 1) := by decide +kernel
theorem dlc_2 : decode jdk_43_method_2_code 2 = .ok (.arraylength, 1) := by decide +kernel
theorem dlc_3 : decode jdk_43_method_2_code 3 = .ok (.invokestatic 9, 3) := by decide +kernel
theorem dlc_6 : decode jdk_43_method_2_code 6 = .ok (.aload_n 0, 1) := by decide +kernel
theorem dlc_7 : decode jdk_43_method_2_code 7 = .ok (.iload_n 1, 1) := by decide +kernel
theorem dlc_8 : decode jdk_43_method_2_code 8 = .ok (.baload, 1) := by decide +kernel
theorem dlc_9 : decode jdk_43_method_2_code 9 = .ok (.sipush 255, 3) := by decide +kernel
theorem dlc_12 : decode jdk_43_method_2_code 12 = .ok (.iand, 1) := by decide +kernel
theorem dlc_13 : decode jdk_43_method_2_code 13 = .ok (.i2c, 1) := by decide +kernel
theorem dlc_14 : decode jdk_43_method_2_code 14 = .ok (.ireturn, 1) := by decide +kernel
theorem pnlc : plainName "java/lang/StringLatin1" = true := by first | (simp [plainName, overriddenIn]; done) | decide +kernel
theorem pdlc_0 : parseMethodDescriptor "(II)V" = some ⟨[.int, .int], none⟩ := by decide +kernel
theorem eflc (m : MethodId) (a0 : Addr) (p1 : Int32) : entryFrame m #[(.ref a0), (.int p1)] 2 = mkF m 0 #[.val (.ref a0), .val (.int p1)] [] := by first | (simp [entryFrame, mkF, argsToLocals, Value.category]; done) | rfl
def flc (x : Int32) : Int32 := (nar .char ((x &&& (255 : Int32)).toUInt32.toUInt16.toUInt32.toInt32))
def Qlc (Z : State) (a0 : Addr) (p1 : Int32) (wc : Int32) (sx : Value) (kb : ClassId) (z : Int32) (vs : List Value) (x : Int32) (h0 : Heap) (n0 : Nat) (v : Option Value) (h : Heap) (L : List Loc) : Prop := v = some (.int (flc x)) ∧ Fr n0 L ∧ h = h0
set_option maxRecDepth 65536 in
set_option maxHeartbeats 40000000 in
theorem rmlc (l : Launch) (Z : State) (aa : Array Value) (hw : ∀ d ∈ tables_1, d.before aa Z = true) (ws : List Jvm.Cond) (a0 : Addr) (p1 : Int32) (wc : Int32) (sx : Value) (kb : ClassId) (z : Int32) (vs : List Value) (x : Int32) (h0 : Heap) (n0 : Nat) (Z0 : n0 ≤ h0.size) (BW : OwnW Z wc sx) (O0 : Old Z n0 h0) (V_a0 : Arv Z h0 a0 kb .byte z vs (.int (0 : Int32))) (hlo : ¬ p1 < (0 : Int32)) (hhi : p1 < z) (hgx : vs.getD p1.toNatClampNeg (.int (0 : Int32)) = .int x) :
    MetFree l (⟨"java/lang/StringLatin1", "charAt", "([BI)C"⟩ : MethodName) (head1 (Jvm.Cond.code (⟨"java/lang/StringLatin1", "charAt", "([BI)C"⟩ : MethodName) jdk_43_method_2_code 2 (some .char) :: ws) ({ frames := 2, cells := 0, slots := 0, locals := 27 } : Room)) (fun a U => a = #[(.ref a0), (.int p1)] ∧ Z.Warmed39 U.vm ∧ U.heap = h0) (fun _ _ _ _ _ => True) (fun _ U o U' => ∃ v L, o = .returned v ∧ Qlc Z a0 p1 wc sx kb z vs x h0 n0 v U'.heap L ∧ FrameEnd U o U' L ({ frames := 2, cells := 0, slots := 0, locals := 27 } : Room).cells ({ frames := 2, cells := 0, slots := 0, locals := 27 } : Room).slots) := by
  refine MetFree.of_bodySF (plainFor_of_name pnlc) hisR ?_
  intro p e s m args below meth c s₁ Bd hml0 hP hK
  obtain ⟨rfl, hZ, hh⟩ := hP
  have hx := Bd.exec
  have hby := Bd.bytes
  have hml : c.maxLocals = 2 := hml0
  have hown : s.vm.findClass "java/lang/StringLatin1" = some m.cls := findClass_of_methodNamed Bd.named
  have hnm := (name_of_methodNamed Bd.named Bd.method).1
  have X0 : Stand p l e ({ frames := 2, cells := 0, slots := 0, locals := 27 } : Room) s m #[(.ref a0), (.int p1)] below meth c s₁ [] 0 0 := Stand.of_body Bd
  have e0 : s₁.heap = h0 := by rw [← hh, Bd.state]; rfl
  have N0 := Fr.nil n0
  show OwnEnd p e below s (fun v h L => Qlc Z a0 p1 wc sx kb z vs x h0 n0 v h L) ({ frames := 2, cells := 0, slots := 0, locals := 27 } : Room).cells ({ frames := 2, cells := 0, slots := 0, locals := 27 } : Room).slots (s₁.setTop (entryFrame m #[(.ref a0), (.int p1)] 2))
  rw [eflc m a0 p1]
  generalize hW : OwnEnd p e below s (fun v h L => Qlc Z a0 p1 wc sx kb z vs x h0 n0 v h L) ({ frames := 2, cells := 0, slots := 0, locals := 27 } : Room).cells ({ frames := 2, cells := 0, slots := 0, locals := 27 } : Room).slots = W
  have stp : ∀ {A B : State}, (∀ t, Steps p.tables e below B t → Steps p.tables e below A t) → W B → W A := by subst hW; exact own_step
  obtain ⟨S_cs, hcs, S_si, hr_sx, S_ad, S_hi, S_lo⟩ := id BW
  show W (s₁.setTop (mkF m 0 #[.val (.ref a0), .val (.int p1)] []))
  refine stp (fun t k => XS.iloadN X0.here hx rfl (hb hby dlc_0) rfl k) ?_
  show W (s₁.setTop (mkF m 1 #[.val (.ref a0), .val (.int p1)] [(.int p1)]))
  refine stp (fun t k => XS.aloadN X0.here hx rfl (hb hby dlc_1) rfl rfl k) ?_
  show W (s₁.setTop (mkF m 2 #[.val (.ref a0), .val (.int p1)] [(.ref a0), (.int p1)]))
  obtain ⟨cllc1, Arlc1, qklc1, qslc1, qnlc1, qhlc1, qglc1⟩ := id V_a0
  refine stp (fun t k => X0.arraylength hx (by rw [e0]; exact Arlc1.1) (State.isArrayOf_alike hZ.alike Arlc1.2.1) (g := (mkF m 2 #[.val (.ref a0), .val (.int p1)] [(.ref a0), (.int p1)])) rfl rfl (hb hby dlc_2) _ k) ?_
  rw [len_of qslc1 qnlc1]
  show W (s₁.setTop (mkF m 3 #[.val (.ref a0), .val (.int p1)] [(.int z), (.int p1)]))
  obtain ⟨_, _, ⟨Tlcc2, Llcc2, klcc2, nlcc2⟩, -, Xlcc2, ⟨Lclcc2, hQlcc2, llcc2, ylcc2, zlcc2⟩, stlcc2⟩ := Jvm.LawKit.callS X0 hx (y := (⟨"java/lang/String", "checkIndex", "(II)V"⟩ : MethodName)) hown (mvT hZ (hw _ (List.mem_of_getElem? (i := 101) rfl))) (mvT hZ (hw _ (List.mem_of_getElem? (i := 90) rfl))) (mvT hZ (hw _ (List.mem_of_getElem? (i := 10) rfl))) (mvT hZ (hw _ (List.mem_of_getElem? (i := 91) rfl))) (by decide) (backOf (W := 0) (rmsc l Z aa hw [] p1 z wc sx h0 n0 Z0 BW O0 hlo hhi) hZ (hw _ (List.mem_of_getElem? (i := 91) rfl)) (hw _ (List.mem_of_getElem? (i := 10) rfl)) (by decide) (by decide)) (g := (mkF m 3 #[.val (.ref a0), .val (.int p1)] [(.int z), (.int p1)])) rfl (by rw [hml]; rfl) (argsL := [(.int p1), (.int z)]) (rest := []) (lenOf pdlc_0 rfl) rfl (by show 2 * 0 + _ ≤ _; exact Nat.le_of_eq rfl) (hb hby dlc_3) (fun _ _ => ⟨rfl, e0, (by decide : 0 + 0 ≤ _), (by decide : 0 + 0 ≤ _)⟩)
  dsimp only [Pt.U, Pt.locs, Pt.cells, Pt.slots] at Xlcc2 llcc2 ylcc2 zlcc2 stlcc2 hQlcc2
  subst llcc2 ylcc2 zlcc2
  obtain ⟨rfl, Nlcc2q, elcc2⟩ := hQlcc2
  have Nlcc2 := Fr.app N0 Nlcc2q
  obtain ⟨lclct3, Xlcc2, Nlcc2⟩ : ∃ lc, Stand p l e ({ frames := 2, cells := 0, slots := 0, locals := 27 } : Room) s m #[(.ref a0), (.int p1)] below meth c Tlcc2 lc 0 0 ∧ Fr n0 lc := ⟨_, Xlcc2, Nlcc2⟩
  refine stp (fun t k => stlcc2 t k) ?_
  show W (Tlcc2.setTop (mkF m 6 #[.val (.ref a0), .val (.int p1)] []))
  refine stp (fun t k => XS.aloadN Xlcc2.here hx rfl (hb hby dlc_6) rfl rfl k) ?_
  show W (Tlcc2.setTop (mkF m 7 #[.val (.ref a0), .val (.int p1)] [(.ref a0)]))
  refine stp (fun t k => XS.iloadN Xlcc2.here hx rfl (hb hby dlc_7) rfl k) ?_
  show W (Tlcc2.setTop (mkF m 8 #[.val (.ref a0), .val (.int p1)] [(.int p1), (.ref a0)]))
  obtain ⟨cllc4, Arlc4, qklc4, qslc4, qnlc4, qhlc4, qglc4⟩ := id V_a0
  have hinlc4 : ¬ (p1 < 0 ∨ cllc4.slots.size ≤ (p1).toNatClampNeg) := inb_of qslc4 ⟨hlo, hhi⟩
  have hatlc4 : cllc4.slots[(p1).toNatClampNeg]? = some (.int x) := qhlc4.at hinlc4 hgx
  refine stp (fun t k => Xlcc2.baloadBytes hx (j := p1) (v := (.int x)) (by rw [elcc2]; exact Arlc4.1) (State.isArrayOf_alike hZ.alike Arlc4.2.1) Arlc4.2.2 hinlc4 hatlc4 (g := (mkF m 8 #[.val (.ref a0), .val (.int p1)] [(.int p1), (.ref a0)])) rfl rfl (hb hby dlc_8) _ k) ?_
  show W (Tlcc2.setTop (mkF m 9 #[.val (.ref a0), .val (.int p1)] [(.int x)]))
  refine stp (fun t k => XS.sipush Xlcc2.here hx rfl (hb hby dlc_9) k) ?_
  show W (Tlcc2.setTop (mkF m 12 #[.val (.ref a0), .val (.int p1)] [(.int (255 : Int32)), (.int x)]))
  refine stp (fun t k => XS.iand Xlcc2.here hx rfl (hb hby dlc_12) rfl k) ?_
  show W (Tlcc2.setTop (mkF m 13 #[.val (.ref a0), .val (.int p1)] [(.int (x &&& (255 : Int32)))]))
  refine stp (fun t k => XS.i2c Xlcc2.here hx rfl (hb hby dlc_13) rfl k) ?_
  show W (Tlcc2.setTop (mkF m 14 #[.val (.ref a0), .val (.int p1)] [(.int ((x &&& (255 : Int32)).toUInt32.toUInt16.toUInt32.toInt32))]))
  show W (Tlcc2.setTop (mkF m 14 #[.val (.ref a0), .val (.int p1)] [(.int ((x &&& (255 : Int32)).toUInt32.toUInt16.toUInt32.toInt32))]))
  rw [← hW]
  exact own_retN Xlcc2 hx Bd.notSynchronized Bd.returns (w := (nar .char ((x &&& (255 : Int32)).toUInt32.toUInt16.toUInt32.toInt32))) (by simp) (hb hby dlc_14) rfl (by show Qlc Z a0 p1 wc sx kb z vs x h0 n0 _ Tlcc2.heap _; rw [elcc2]; exact ⟨rfl, Nlcc2, rfl⟩) (by decide) (by decide)
theorem dil_0 : decode jdk_42_method_154_code 0 = .ok (.getstatic 38, 3) := by decide +kernel
theorem dil_3 : decode jdk_42_method_154_code 3 = .ok (.ifCond .eq 14, 3) := by decide +kernel
theorem dil_6 : decode jdk_42_method_154_code 6 = .ok (.aload_n 0, 1) := by decide +kernel
theorem dil_7 : decode jdk_42_method_154_code 7 = .ok (.getfield 15, 3) := by decide +kernel
theorem dil_10 : decode jdk_42_method_154_code 10 = .ok (.ifCond .ne 7, 3) := by decide +kernel
theorem dil_13 : decode jdk_42_method_154_code 13 = .ok (.iconst 1, 1) := by decide +kernel
theorem dil_14 : decode jdk_42_method_154_code 14 = .ok (.goto 4, 3) := by decide +kernel
theorem dil_17 : decode jdk_42_method_154_code 17 = .ok (.iconst 0, 1) := by decide +kernel
theorem dil_18 : decode jdk_42_method_154_code 18 = .ok (.ireturn, 1) := by decide +kernel
theorem pnil : plainName "java/lang/String" = true := by first | (simp [plainName, overriddenIn]; done) | decide +kernel
theorem efil (m : MethodId) (a0 : Addr) : entryFrame m #[(.ref a0)] 1 = mkF m 0 #[.val (.ref a0)] [] := by first | (simp [entryFrame, mkF, argsToLocals, Value.category]; done) | rfl
def fil (cd : Int32) : Int32 := (if cd = (0 : Int32) then (1 : Int32) else (0 : Int32))
def Qil (Z : State) (a0 : Addr) (wc : Int32) (sx : Value) (cd : Int32) (h0 : Heap) (n0 : Nat) (v : Option Value) (h : Heap) (L : List Loc) : Prop := v = some (.int (fil cd)) ∧ Fr n0 L ∧ h = h0
set_option maxRecDepth 65536 in
set_option maxHeartbeats 40000000 in
theorem rmil (l : Launch) (Z : State) (aa : Array Value) (hw : ∀ d ∈ tables_1, d.before aa Z = true) (ws : List Jvm.Cond) (a0 : Addr) (wc : Int32) (sx : Value) (cd : Int32) (h0 : Heap) (n0 : Nat) (Z0 : n0 ≤ h0.size) (BW : OwnW Z wc sx) (O0 : Old Z n0 h0) (F_coder_a0 : Fld Z h0 a0 "java/lang/String" "coder" "B" (.int cd)) :
    MetFree l (⟨"java/lang/String", "isLatin1", "()Z"⟩ : MethodName) (head1 (Jvm.Cond.code (⟨"java/lang/String", "isLatin1", "()Z"⟩ : MethodName) jdk_42_method_154_code 1 (some .boolean) :: ws) ({ frames := 0, cells := 0, slots := 0, locals := 0 } : Room)) (fun a U => a = #[(.ref a0)] ∧ Z.Warmed39 U.vm ∧ U.heap = h0) (fun _ _ _ _ _ => True) (fun _ U o U' => ∃ v L, o = .returned v ∧ Qil Z a0 wc sx cd h0 n0 v U'.heap L ∧ FrameEnd U o U' L ({ frames := 0, cells := 0, slots := 0, locals := 0 } : Room).cells ({ frames := 0, cells := 0, slots := 0, locals := 0 } : Room).slots) := by
  refine MetFree.of_bodySF (plainFor_of_name pnil) hisR ?_
  intro p e s m args below meth c s₁ Bd hml0 hP hK
  obtain ⟨rfl, hZ, hh⟩ := hP
  have hx := Bd.exec
  have hby := Bd.bytes
  have hml : c.maxLocals = 1 := hml0
  have hown : s.vm.findClass "java/lang/String" = some m.cls := findClass_of_methodNamed Bd.named
  have hnm := (name_of_methodNamed Bd.named Bd.method).1
  have X0 : Stand p l e ({ frames := 0, cells := 0, slots := 0, locals := 0 } : Room) s m #[(.ref a0)] below meth c s₁ [] 0 0 := Stand.of_body Bd
  have e0 : s₁.heap = h0 := by rw [← hh, Bd.state]; rfl
  have N0 := Fr.nil n0
  show OwnEnd p e below s (fun v h L => Qil Z a0 wc sx cd h0 n0 v h L) ({ frames := 0, cells := 0, slots := 0, locals := 0 } : Room).cells ({ frames := 0, cells := 0, slots := 0, locals := 0 } : Room).slots (s₁.setTop (entryFrame m #[(.ref a0)] 1))
  rw [efil m a0]
  generalize hW : OwnEnd p e below s (fun v h L => Qil Z a0 wc sx cd h0 n0 v h L) ({ frames := 0, cells := 0, slots := 0, locals := 0 } : Room).cells ({ frames := 0, cells := 0, slots := 0, locals := 0 } : Room).slots = W
  have stp : ∀ {A B : State}, (∀ t, Steps p.tables e below B t → Steps p.tables e below A t) → W B → W A := by subst hW; exact own_step
  obtain ⟨S_cs, hcs, S_si, hr_sx, S_ad, S_hi, S_lo⟩ := id BW
  show W (s₁.setTop (mkF m 0 #[.val (.ref a0)] []))
  obtain ⟨Til1, Xil1, eil1, stil1⟩ := getS2 X0 hx hZ hown (host := "") (Or.inl (hw _ (List.mem_of_getElem? (i := 21) rfl))) Via.refl e0 (S_cs.ext O0.2) (g := (mkF m 0 #[.val (.ref a0)] [])) rfl (hb hby dil_0)
  refine stp (fun t k => stil1 t k) ?_
  show W (Til1.setTop (mkF m 3 #[.val (.ref a0)] [(.int wc)]))
  refine stp (fun t k => XS.ifNo Xil1.here hx rfl (hb hby dil_3) rfl ((if0 _ _).trans (feq (hcs)).1) k) ?_
  show W (Til1.setTop (mkF m 6 #[.val (.ref a0)] []))
  refine stp (fun t k => XS.aloadN Xil1.here hx rfl (hb hby dil_6) rfl rfl k) ?_
  show W (Til1.setTop (mkF m 7 #[.val (.ref a0)] [(.ref a0)]))
  obtain ⟨Til2, Xil2, eil2, stil2⟩ := getF Xil1 hx hZ hown (host := "") (Or.inl (hw _ (List.mem_of_getElem? (i := 52) rfl))) Via.refl eil1 F_coder_a0 (g := (mkF m 7 #[.val (.ref a0)] [(.ref a0)])) rfl rfl (hb hby dil_7)
  refine stp (fun t k => stil2 t k) ?_
  show W (Til2.setTop (mkF m 10 #[.val (.ref a0)] [(.int cd)]))
  by_cases hcil_3 : cd = (0 : Int32)
  · refine stp (fun t k => XS.ifNo Xil2.here hx rfl (hb hby dil_10) rfl ((if0 _ _).trans (teq hcil_3).2) k) ?_
    show W (Til2.setTop (mkF m 13 #[.val (.ref a0)] []))
    refine stp (fun t k => XS.iconst Xil2.here hx rfl (hb hby dil_13) k) ?_
    show W (Til2.setTop (mkF m 14 #[.val (.ref a0)] [(.int (1 : Int32))]))
    refine stp (fun t k => XS.goto Xil2.here hx rfl (pc0 := 14) (pc' := 18) rfl (hb hby dil_14) (by decide) (by decide) k) ?_
    show W (Til2.setTop (mkF m 18 #[.val (.ref a0)] [(.int (1 : Int32))]))
    show W (Til2.setTop (mkF m 18 #[.val (.ref a0)] [(.int (1 : Int32))]))
    rw [← hW]
    exact own_retN Xil2 hx Bd.notSynchronized Bd.returns (w := (1 : Int32)) (by simp) (hb hby dil_18) rfl (by show Qil Z a0 wc sx cd h0 n0 _ Til2.heap _; rw [eil2]; exact ⟨(by rw [fil, if_pos hcil_3]), N0, rfl⟩) (by decide) (by decide)
  · refine stp (fun t k => XS.ifYes Xil2.here hx rfl (pc0 := 10) (pc' := 17) rfl (hb hby dil_10) rfl ((if0 _ _).trans (feq hcil_3).2) (by decide) (by decide) k) ?_
    show W (Til2.setTop (mkF m 17 #[.val (.ref a0)] []))
    refine stp (fun t k => XS.iconst Xil2.here hx rfl (hb hby dil_17) k) ?_
    show W (Til2.setTop (mkF m 18 #[.val (.ref a0)] [(.int (0 : Int32))]))
    show W (Til2.setTop (mkF m 18 #[.val (.ref a0)] [(.int (0 : Int32))]))
    rw [← hW]
    exact own_retN Xil2 hx Bd.notSynchronized Bd.returns (w := (0 : Int32)) (by simp) (hb hby dil_18) rfl (by show Qil Z a0 wc sx cd h0 n0 _ Til2.heap _; rw [eil2]; exact ⟨(by rw [fil, if_neg hcil_3]), N0, rfl⟩) (by decide) (by decide)
theorem dco_0 : decode jdk_42_method_152_code 0 = .ok (.getstatic 38, 3) := by decide +kernel
theorem dco_3 : decode jdk_42_method_152_code 3 = .ok (.ifCond .eq 10, 3) := by decide +kernel
theorem dco_6 : decode jdk_42_method_152_code 6 = .ok (.aload_n 0, 1) := by decide +kernel
theorem dco_7 : decode jdk_42_method_152_code 7 = .ok (.getfield 15, 3) := by decide +kernel
theorem dco_10 : decode jdk_42_method_152_code 10 = .ok (.goto 4, 3) := by decide +kernel
theorem dco_14 : decode jdk_42_method_152_code 14 = .ok (.ireturn, 1) := by decide +kernel
theorem pnco : plainName "java/lang/String" = true := by first | (simp [plainName, overriddenIn]; done) | decide +kernel
theorem efco (m : MethodId) (a0 : Addr) : entryFrame m #[(.ref a0)] 1 = mkF m 0 #[.val (.ref a0)] [] := by first | (simp [entryFrame, mkF, argsToLocals, Value.category]; done) | rfl
def fco (cd : Int32) : Int32 := (nar .byte cd)
def Qco (Z : State) (a0 : Addr) (wc : Int32) (sx : Value) (cd : Int32) (h0 : Heap) (n0 : Nat) (v : Option Value) (h : Heap) (L : List Loc) : Prop := v = some (.int (fco cd)) ∧ Fr n0 L ∧ h = h0
set_option maxRecDepth 65536 in
set_option maxHeartbeats 40000000 in
theorem rmco (l : Launch) (Z : State) (aa : Array Value) (hw : ∀ d ∈ tables_1, d.before aa Z = true) (ws : List Jvm.Cond) (a0 : Addr) (wc : Int32) (sx : Value) (cd : Int32) (h0 : Heap) (n0 : Nat) (Z0 : n0 ≤ h0.size) (BW : OwnW Z wc sx) (O0 : Old Z n0 h0) (F_coder_a0 : Fld Z h0 a0 "java/lang/String" "coder" "B" (.int cd)) :
    MetFree l (⟨"java/lang/String", "coder", "()B"⟩ : MethodName) (head1 (Jvm.Cond.code (⟨"java/lang/String", "coder", "()B"⟩ : MethodName) jdk_42_method_152_code 1 (some .byte) :: ws) ({ frames := 0, cells := 0, slots := 0, locals := 0 } : Room)) (fun a U => a = #[(.ref a0)] ∧ Z.Warmed39 U.vm ∧ U.heap = h0) (fun _ _ _ _ _ => True) (fun _ U o U' => ∃ v L, o = .returned v ∧ Qco Z a0 wc sx cd h0 n0 v U'.heap L ∧ FrameEnd U o U' L ({ frames := 0, cells := 0, slots := 0, locals := 0 } : Room).cells ({ frames := 0, cells := 0, slots := 0, locals := 0 } : Room).slots) := by
  refine MetFree.of_bodySF (plainFor_of_name pnco) hisR ?_
  intro p e s m args below meth c s₁ Bd hml0 hP hK
  obtain ⟨rfl, hZ, hh⟩ := hP
  have hx := Bd.exec
  have hby := Bd.bytes
  have hml : c.maxLocals = 1 := hml0
  have hown : s.vm.findClass "java/lang/String" = some m.cls := findClass_of_methodNamed Bd.named
  have hnm := (name_of_methodNamed Bd.named Bd.method).1
  have X0 : Stand p l e ({ frames := 0, cells := 0, slots := 0, locals := 0 } : Room) s m #[(.ref a0)] below meth c s₁ [] 0 0 := Stand.of_body Bd
  have e0 : s₁.heap = h0 := by rw [← hh, Bd.state]; rfl
  have N0 := Fr.nil n0
  show OwnEnd p e below s (fun v h L => Qco Z a0 wc sx cd h0 n0 v h L) ({ frames := 0, cells := 0, slots := 0, locals := 0 } : Room).cells ({ frames := 0, cells := 0, slots := 0, locals := 0 } : Room).slots (s₁.setTop (entryFrame m #[(.ref a0)] 1))
  rw [efco m a0]
  generalize hW : OwnEnd p e below s (fun v h L => Qco Z a0 wc sx cd h0 n0 v h L) ({ frames := 0, cells := 0, slots := 0, locals := 0 } : Room).cells ({ frames := 0, cells := 0, slots := 0, locals := 0 } : Room).slots = W
  have stp : ∀ {A B : State}, (∀ t, Steps p.tables e below B t → Steps p.tables e below A t) → W B → W A := by subst hW; exact own_step
  obtain ⟨S_cs, hcs, S_si, hr_sx, S_ad, S_hi, S_lo⟩ := id BW
  show W (s₁.setTop (mkF m 0 #[.val (.ref a0)] []))
  obtain ⟨Tco1, Xco1, eco1, stco1⟩ := getS2 X0 hx hZ hown (host := "") (Or.inl (hw _ (List.mem_of_getElem? (i := 21) rfl))) Via.refl e0 (S_cs.ext O0.2) (g := (mkF m 0 #[.val (.ref a0)] [])) rfl (hb hby dco_0)
  refine stp (fun t k => stco1 t k) ?_
  show W (Tco1.setTop (mkF m 3 #[.val (.ref a0)] [(.int wc)]))
  refine stp (fun t k => XS.ifNo Xco1.here hx rfl (hb hby dco_3) rfl ((if0 _ _).trans (feq (hcs)).1) k) ?_
  show W (Tco1.setTop (mkF m 6 #[.val (.ref a0)] []))
  refine stp (fun t k => XS.aloadN Xco1.here hx rfl (hb hby dco_6) rfl rfl k) ?_
  show W (Tco1.setTop (mkF m 7 #[.val (.ref a0)] [(.ref a0)]))
  obtain ⟨Tco2, Xco2, eco2, stco2⟩ := getF Xco1 hx hZ hown (host := "") (Or.inl (hw _ (List.mem_of_getElem? (i := 52) rfl))) Via.refl eco1 F_coder_a0 (g := (mkF m 7 #[.val (.ref a0)] [(.ref a0)])) rfl rfl (hb hby dco_7)
  refine stp (fun t k => stco2 t k) ?_
  show W (Tco2.setTop (mkF m 10 #[.val (.ref a0)] [(.int cd)]))
  refine stp (fun t k => XS.goto Xco2.here hx rfl (pc0 := 10) (pc' := 14) rfl (hb hby dco_10) (by decide) (by decide) k) ?_
  show W (Tco2.setTop (mkF m 14 #[.val (.ref a0)] [(.int cd)]))
  show W (Tco2.setTop (mkF m 14 #[.val (.ref a0)] [(.int cd)]))
  rw [← hW]
  exact own_retN Xco2 hx Bd.notSynchronized Bd.returns (w := (nar .byte cd)) (by simp) (hb hby dco_14) rfl (by show Qco Z a0 wc sx cd h0 n0 _ Tco2.heap _; rw [eco2]; exact ⟨rfl, N0, rfl⟩) (by decide) (by decide)
theorem dul_0 : decode jdk_52_method_6_code 0 = .ok (.aload_n 0, 1) := by decide +kernel
theorem dul_1 : decode jdk_52_method_6_code 1 = .ok (.arraylength, 1) := by decide +kernel
theorem dul_2 : decode jdk_52_method_6_code 2 = .ok (.iconst 1, 1) := by decide +kernel
theorem dul_3 : decode jdk_52_method_6_code 3 = .ok (.ishr, 1) := by decide +kernel
theorem dul_4 : decode jdk_52_method_6_code 4 = .ok (.ireturn, 1) := by decide +kernel
theorem pnul : plainName "java/lang/StringUTF16" = true := by first | (simp [plainName, overriddenIn]; done) | decide +kernel
theorem eful (m : MethodId) (a0 : Addr) : entryFrame m #[(.ref a0)] 1 = mkF m 0 #[.val (.ref a0)] [] := by first | (simp [entryFrame, mkF, argsToLocals, Value.category]; done) | rfl
def ful (z : Int32) : Int32 := (z >>> ((1 : Int32) &&& 31))
def Qul (Z : State) (a0 : Addr) (wc : Int32) (sx : Value) (kb : ClassId) (z : Int32) (vs : List Value) (h0 : Heap) (n0 : Nat) (v : Option Value) (h : Heap) (L : List Loc) : Prop := v = some (.int (ful z)) ∧ Fr n0 L ∧ h = h0
set_option maxRecDepth 65536 in
set_option maxHeartbeats 40000000 in
theorem rmul (l : Launch) (Z : State) (aa : Array Value) (hw : ∀ d ∈ tables_1, d.before aa Z = true) (ws : List Jvm.Cond) (a0 : Addr) (wc : Int32) (sx : Value) (kb : ClassId) (z : Int32) (vs : List Value) (h0 : Heap) (n0 : Nat) (Z0 : n0 ≤ h0.size) (BW : OwnW Z wc sx) (O0 : Old Z n0 h0) (V_a0 : Arv Z h0 a0 kb .byte z vs (.int (0 : Int32))) :
    MetFree l (⟨"java/lang/StringUTF16", "length", "([B)I"⟩ : MethodName) (head1 (Jvm.Cond.code (⟨"java/lang/StringUTF16", "length", "([B)I"⟩ : MethodName) jdk_52_method_6_code 1 (some .int) :: ws) ({ frames := 0, cells := 0, slots := 0, locals := 0 } : Room)) (fun a U => a = #[(.ref a0)] ∧ Z.Warmed39 U.vm ∧ U.heap = h0) (fun _ _ _ _ _ => True) (fun _ U o U' => ∃ v L, o = .returned v ∧ Qul Z a0 wc sx kb z vs h0 n0 v U'.heap L ∧ FrameEnd U o U' L ({ frames := 0, cells := 0, slots := 0, locals := 0 } : Room).cells ({ frames := 0, cells := 0, slots := 0, locals := 0 } : Room).slots) := by
  refine MetFree.of_bodySF (plainFor_of_name pnul) hisR ?_
  intro p e s m args below meth c s₁ Bd hml0 hP hK
  obtain ⟨rfl, hZ, hh⟩ := hP
  have hx := Bd.exec
  have hby := Bd.bytes
  have hml : c.maxLocals = 1 := hml0
  have hown : s.vm.findClass "java/lang/StringUTF16" = some m.cls := findClass_of_methodNamed Bd.named
  have hnm := (name_of_methodNamed Bd.named Bd.method).1
  have X0 : Stand p l e ({ frames := 0, cells := 0, slots := 0, locals := 0 } : Room) s m #[(.ref a0)] below meth c s₁ [] 0 0 := Stand.of_body Bd
  have e0 : s₁.heap = h0 := by rw [← hh, Bd.state]; rfl
  have N0 := Fr.nil n0
  show OwnEnd p e below s (fun v h L => Qul Z a0 wc sx kb z vs h0 n0 v h L) ({ frames := 0, cells := 0, slots := 0, locals := 0 } : Room).cells ({ frames := 0, cells := 0, slots := 0, locals := 0 } : Room).slots (s₁.setTop (entryFrame m #[(.ref a0)] 1))
  rw [eful m a0]
  generalize hW : OwnEnd p e below s (fun v h L => Qul Z a0 wc sx kb z vs h0 n0 v h L) ({ frames := 0, cells := 0, slots := 0, locals := 0 } : Room).cells ({ frames := 0, cells := 0, slots := 0, locals := 0 } : Room).slots = W
  have stp : ∀ {A B : State}, (∀ t, Steps p.tables e below B t → Steps p.tables e below A t) → W B → W A := by subst hW; exact own_step
  obtain ⟨S_cs, hcs, S_si, hr_sx, S_ad, S_hi, S_lo⟩ := id BW
  show W (s₁.setTop (mkF m 0 #[.val (.ref a0)] []))
  refine stp (fun t k => XS.aloadN X0.here hx rfl (hb hby dul_0) rfl rfl k) ?_
  show W (s₁.setTop (mkF m 1 #[.val (.ref a0)] [(.ref a0)]))
  obtain ⟨clul1, Arul1, qkul1, qsul1, qnul1, qhul1, qgul1⟩ := id V_a0
  refine stp (fun t k => X0.arraylength hx (by rw [e0]; exact Arul1.1) (State.isArrayOf_alike hZ.alike Arul1.2.1) (g := (mkF m 1 #[.val (.ref a0)] [(.ref a0)])) rfl rfl (hb hby dul_1) _ k) ?_
  rw [len_of qsul1 qnul1]
  show W (s₁.setTop (mkF m 2 #[.val (.ref a0)] [(.int z)]))
  refine stp (fun t k => XS.iconst X0.here hx rfl (hb hby dul_2) k) ?_
  show W (s₁.setTop (mkF m 3 #[.val (.ref a0)] [(.int (1 : Int32)), (.int z)]))
  refine stp (fun t k => XS.ishr X0.here hx rfl (hb hby dul_3) rfl k) ?_
  show W (s₁.setTop (mkF m 4 #[.val (.ref a0)] [(.int (z >>> ((1 : Int32) &&& 31)))]))
  show W (s₁.setTop (mkF m 4 #[.val (.ref a0)] [(.int (z >>> ((1 : Int32) &&& 31)))]))
  rw [← hW]
  exact own_retI X0 hx Bd.notSynchronized Bd.returns (hb hby dul_4) (by show Qul Z a0 wc sx kb z vs h0 n0 _ s₁.heap _; rw [e0]; exact ⟨rfl, N0, rfl⟩) (by decide) (by decide)
theorem duc_0 : decode jdk_52_method_91_code 0 = .ok (.iload_n 0, 1) := by decide +kernel
theorem duc_1 : decode jdk_52_method_91_code 1 = .ok (.aload_n 1, 1) := by decide +kernel
theorem duc_2 : decode jdk_52_method_91_code 2 = .ok (.invokestatic 48, 3) := by decide +kernel
theorem duc_5 : decode jdk_52_method_91_code 5 = .ok (.invokestatic 414, 3) := by decide +kernel
theorem duc_8 : decode jdk_52_method_91_code 8 = .ok (.return_, 1) := by decide +kernel
theorem pnuc : plainName "java/lang/StringUTF16" = true := by first | (simp [plainName, overriddenIn]; done) | decide +kernel
theorem pduc_0 : parseMethodDescriptor "([B)I" = some ⟨[(.array .byte)], some .int⟩ := by decide +kernel
theorem pduc_1 : parseMethodDescriptor "(II)V" = some ⟨[.int, .int], none⟩ := by decide +kernel
theorem efuc (m : MethodId) (p0 : Int32) (a1 : Addr) : entryFrame m #[(.int p0), (.ref a1)] 2 = mkF m 0 #[.val (.int p0), .val (.ref a1)] [] := by first | (simp [entryFrame, mkF, argsToLocals, Value.category]; done) | rfl
def Quc (Z : State) (p0 : Int32) (a1 : Addr) (wc : Int32) (sx : Value) (kb : ClassId) (z : Int32) (vs : List Value) (h0 : Heap) (n0 : Nat) (v : Option Value) (h : Heap) (L : List Loc) : Prop := v = none ∧ Fr n0 L ∧ h = h0
set_option maxRecDepth 65536 in
set_option maxHeartbeats 40000000 in
theorem rmuc (l : Launch) (Z : State) (aa : Array Value) (hw : ∀ d ∈ tables_1, d.before aa Z = true) (ws : List Jvm.Cond) (p0 : Int32) (a1 : Addr) (wc : Int32) (sx : Value) (kb : ClassId) (z : Int32) (vs : List Value) (h0 : Heap) (n0 : Nat) (Z0 : n0 ≤ h0.size) (BW : OwnW Z wc sx) (O0 : Old Z n0 h0) (V_a1 : Arv Z h0 a1 kb .byte z vs (.int (0 : Int32))) (hlo : ¬ p0 < (0 : Int32)) (hhi : p0 < (ful z)) :
    MetFree l (⟨"java/lang/StringUTF16", "checkIndex", "(I[B)V"⟩ : MethodName) (head1 (Jvm.Cond.code (⟨"java/lang/StringUTF16", "checkIndex", "(I[B)V"⟩ : MethodName) jdk_52_method_91_code 2 none :: ws) ({ frames := 2, cells := 0, slots := 0, locals := 27 } : Room)) (fun a U => a = #[(.int p0), (.ref a1)] ∧ Z.Warmed39 U.vm ∧ U.heap = h0) (fun _ _ _ _ _ => True) (fun _ U o U' => ∃ v L, o = .returned v ∧ Quc Z p0 a1 wc sx kb z vs h0 n0 v U'.heap L ∧ FrameEnd U o U' L ({ frames := 2, cells := 0, slots := 0, locals := 27 } : Room).cells ({ frames := 2, cells := 0, slots := 0, locals := 27 } : Room).slots) := by
  refine MetFree.of_bodySF (plainFor_of_name pnuc) hisR ?_
  intro p e s m args below meth c s₁ Bd hml0 hP hK
  obtain ⟨rfl, hZ, hh⟩ := hP
  have hx := Bd.exec
  have hby := Bd.bytes
  have hml : c.maxLocals = 2 := hml0
  have hown : s.vm.findClass "java/lang/StringUTF16" = some m.cls := findClass_of_methodNamed Bd.named
  have hnm := (name_of_methodNamed Bd.named Bd.method).1
  have X0 : Stand p l e ({ frames := 2, cells := 0, slots := 0, locals := 27 } : Room) s m #[(.int p0), (.ref a1)] below meth c s₁ [] 0 0 := Stand.of_body Bd
  have e0 : s₁.heap = h0 := by rw [← hh, Bd.state]; rfl
  have N0 := Fr.nil n0
  show OwnEnd p e below s (fun v h L => Quc Z p0 a1 wc sx kb z vs h0 n0 v h L) ({ frames := 2, cells := 0, slots := 0, locals := 27 } : Room).cells ({ frames := 2, cells := 0, slots := 0, locals := 27 } : Room).slots (s₁.setTop (entryFrame m #[(.int p0), (.ref a1)] 2))
  rw [efuc m p0 a1]
  generalize hW : OwnEnd p e below s (fun v h L => Quc Z p0 a1 wc sx kb z vs h0 n0 v h L) ({ frames := 2, cells := 0, slots := 0, locals := 27 } : Room).cells ({ frames := 2, cells := 0, slots := 0, locals := 27 } : Room).slots = W
  have stp : ∀ {A B : State}, (∀ t, Steps p.tables e below B t → Steps p.tables e below A t) → W B → W A := by subst hW; exact own_step
  obtain ⟨S_cs, hcs, S_si, hr_sx, S_ad, S_hi, S_lo⟩ := id BW
  show W (s₁.setTop (mkF m 0 #[.val (.int p0), .val (.ref a1)] []))
  refine stp (fun t k => XS.iloadN X0.here hx rfl (hb hby duc_0) rfl k) ?_
  show W (s₁.setTop (mkF m 1 #[.val (.int p0), .val (.ref a1)] [(.int p0)]))
  refine stp (fun t k => XS.aloadN X0.here hx rfl (hb hby duc_1) rfl rfl k) ?_
  show W (s₁.setTop (mkF m 2 #[.val (.int p0), .val (.ref a1)] [(.ref a1), (.int p0)]))
  obtain ⟨_, _, ⟨Tucc1, Lucc1, kucc1, nucc1⟩, -, Xucc1, ⟨Lcucc1, hQucc1, lucc1, yucc1, zucc1⟩, stucc1⟩ := Jvm.LawKit.callS X0 hx (y := (⟨"java/lang/StringUTF16", "length", "([B)I"⟩ : MethodName)) hown (mvT hZ (hw _ (List.mem_of_getElem? (i := 86) rfl))) (mvT hZ (hw _ (List.mem_of_getElem? (i := 87) rfl))) (mvT hZ (hw _ (List.mem_of_getElem? (i := 24) rfl))) (mvT hZ (hw _ (List.mem_of_getElem? (i := 88) rfl))) (by decide) (backOf (W := 1) (rmul l Z aa hw [] a1 wc sx kb z vs h0 n0 Z0 BW O0 V_a1) hZ (hw _ (List.mem_of_getElem? (i := 88) rfl)) (hw _ (List.mem_of_getElem? (i := 24) rfl)) (by decide) (by decide)) (g := (mkF m 2 #[.val (.int p0), .val (.ref a1)] [(.ref a1), (.int p0)])) rfl (by rw [hml]; rfl) (argsL := [(.ref a1)]) (rest := [(.int p0)]) (lenOf pduc_0 rfl) rfl (by show 2 * 0 + _ ≤ _; exact Nat.le_of_eq rfl) (hb hby duc_2) (fun _ _ => ⟨rfl, e0, (by decide : 0 + 0 ≤ _), (by decide : 0 + 0 ≤ _)⟩)
  dsimp only [Pt.U, Pt.locs, Pt.cells, Pt.slots] at Xucc1 lucc1 yucc1 zucc1 stucc1 hQucc1
  subst lucc1 yucc1 zucc1
  obtain ⟨rfl, Nucc1q, eucc1⟩ := hQucc1
  have Nucc1 := Fr.app N0 Nucc1q
  obtain ⟨lcuct2, Xucc1, Nucc1⟩ : ∃ lc, Stand p l e ({ frames := 2, cells := 0, slots := 0, locals := 27 } : Room) s m #[(.int p0), (.ref a1)] below meth c Tucc1 lc 0 0 ∧ Fr n0 lc := ⟨_, Xucc1, Nucc1⟩
  refine stp (fun t k => stucc1 t k) ?_
  show W (Tucc1.setTop (mkF m 5 #[.val (.int p0), .val (.ref a1)] [(.int (ful z)), (.int p0)]))
  obtain ⟨_, _, ⟨Tucc3, Lucc3, kucc3, nucc3⟩, -, Xucc3, ⟨Lcucc3, hQucc3, lucc3, yucc3, zucc3⟩, stucc3⟩ := Jvm.LawKit.callS Xucc1 hx (y := (⟨"java/lang/String", "checkIndex", "(II)V"⟩ : MethodName)) hown (mvT hZ (hw _ (List.mem_of_getElem? (i := 89) rfl))) (mvT hZ (hw _ (List.mem_of_getElem? (i := 90) rfl))) (mvT hZ (hw _ (List.mem_of_getElem? (i := 10) rfl))) (mvT hZ (hw _ (List.mem_of_getElem? (i := 91) rfl))) (by decide) (backOf (W := 0) (rmsc l Z aa hw [] p0 (ful z) wc sx h0 n0 Z0 BW O0 hlo hhi) hZ (hw _ (List.mem_of_getElem? (i := 91) rfl)) (hw _ (List.mem_of_getElem? (i := 10) rfl)) (by decide) (by decide)) (g := (mkF m 5 #[.val (.int p0), .val (.ref a1)] [(.int (ful z)), (.int p0)])) rfl (by rw [hml]; rfl) (argsL := [(.int p0), (.int (ful z))]) (rest := []) (lenOf pduc_1 rfl) rfl (by show 2 * 0 + _ ≤ _; exact Nat.le_of_eq rfl) (hb hby duc_5) (fun _ _ => ⟨rfl, eucc1, (by decide : 0 + 0 ≤ _), (by decide : 0 + 0 ≤ _)⟩)
  dsimp only [Pt.U, Pt.locs, Pt.cells, Pt.slots] at Xucc3 lucc3 yucc3 zucc3 stucc3 hQucc3
  subst lucc3 yucc3 zucc3
  obtain ⟨rfl, Nucc3q, eucc3⟩ := hQucc3
  have Nucc3 := Fr.app Nucc1 Nucc3q
  obtain ⟨lcuct4, Xucc3, Nucc3⟩ : ∃ lc, Stand p l e ({ frames := 2, cells := 0, slots := 0, locals := 27 } : Room) s m #[(.int p0), (.ref a1)] below meth c Tucc3 lc 0 0 ∧ Fr n0 lc := ⟨_, Xucc3, Nucc3⟩
  refine stp (fun t k => stucc3 t k) ?_
  show W (Tucc3.setTop (mkF m 8 #[.val (.int p0), .val (.ref a1)] []))
  show W (Tucc3.setTop (mkF m 8 #[.val (.int p0), .val (.ref a1)] []))
  rw [← hW]
  exact own_ret0 Xucc3 hx Bd.notSynchronized Bd.returns (hb hby duc_8) (by show Quc Z p0 a1 wc sx kb z vs h0 n0 _ Tucc3.heap _; rw [eucc3]; exact ⟨rfl, Nucc3, rfl⟩) (by decide) (by decide)
theorem dgc_0 : decode jdk_52_method_5_code 0 = .ok (.getstatic 44, 3) := by decide +kernel
theorem dgc_3 : decode jdk_52_method_5_code 3 = .ok (.ifCond .ne 25, 3) := by decide +kernel
theorem dgc_28 : decode jdk_52_method_5_code 28 = .ok (.iload_n 1, 1) := by decide +kernel
theorem dgc_29 : decode jdk_52_method_5_code 29 = .ok (.iconst 1, 1) := by decide +kernel
theorem dgc_30 : decode jdk_52_method_5_code 30 = .ok (.ishl, 1) := by decide +kernel
theorem dgc_31 : decode jdk_52_method_5_code 31 = .ok (.istore_n 1, 1) := by decide +kernel
theorem dgc_32 : decode jdk_52_method_5_code 32 = .ok (.aload_n 0, 1) := by decide +kernel
theorem dgc_33 : decode jdk_52_method_5_code 33 = .ok (.iload_n 1, 1) := by decide +kernel
theorem dgc_34 : decode jdk_52_method_5_code 34 = .ok (.iinc 1 1, 3) := by decide +kernel
theorem dgc_37 : decode jdk_52_method_5_code 37 = .ok (.baload, 1) := by decide +kernel
theorem dgc_38 : decode jdk_52_method_5_code 38 = .ok (.sipush 255, 3) := by decide +kernel
theorem dgc_41 : decode jdk_52_method_5_code 41 = .ok (.iand, 1) := by decide +kernel
theorem dgc_42 : decode jdk_52_method_5_code 42 = .ok (.getstatic 59, 3) := by decide +kernel
theorem dgc_45 : decode jdk_52_method_5_code 45 = .ok (.ishl, 1) := by decide +kernel
theorem dgc_46 : decode jdk_52_method_5_code 46 = .ok (.aload_n 0, 1) := by decide +kernel
theorem dgc_47 : decode jdk_52_method_5_code 47 = .ok (.iload_n 1, 1) := by decide +kernel
theorem dgc_48 : decode jdk_52_method_5_code 48 = .ok (.baload, 1) := by decide +kernel
theorem dgc_49 : decode jdk_52_method_5_code 49 = .ok (.sipush 255, 3) := by decide +kernel
theorem dgc_52 : decode jdk_52_method_5_code 52 = .ok (.iand, 1) := by decide +kernel
theorem dgc_53 : decode jdk_52_method_5_code 53 = .ok (.getstatic 63, 3) := by decide +kernel
theorem dgc_56 : decode jdk_52_method_5_code 56 = .ok (.ishl, 1) := by decide +kernel
theorem dgc_57 : decode jdk_52_method_5_code 57 = .ok (.ior, 1) := by decide +kernel
theorem dgc_58 : decode jdk_52_method_5_code 58 = .ok (.i2c, 1) := by decide +kernel
theorem dgc_59 : decode jdk_52_method_5_code 59 = .ok (.ireturn, 1) := by decide +kernel
theorem pngc : plainName "java/lang/StringUTF16" = true := by first | (simp [plainName, overriddenIn]; done) | decide +kernel
theorem efgc (m : MethodId) (a0 : Addr) (p1 : Int32) : entryFrame m #[(.ref a0), (.int p1)] 2 = mkF m 0 #[.val (.ref a0), .val (.int p1)] [] := by first | (simp [entryFrame, mkF, argsToLocals, Value.category]; done) | rfl
def fgc (x : Int32) (y : Int32) : Int32 := (nar .char ((((x &&& (255 : Int32)) <<< ((0 : Int32) &&& 31)) ||| ((y &&& (255 : Int32)) <<< ((8 : Int32) &&& 31))).toUInt32.toUInt16.toUInt32.toInt32))
def Qgc (Z : State) (a0 : Addr) (p1 : Int32) (wc : Int32) (sx : Value) (kb : ClassId) (z : Int32) (vs : List Value) (x : Int32) (y : Int32) (h0 : Heap) (n0 : Nat) (v : Option Value) (h : Heap) (L : List Loc) : Prop := v = some (.int (fgc x y)) ∧ Fr n0 L ∧ h = h0
set_option maxRecDepth 65536 in
set_option maxHeartbeats 40000000 in
theorem rmgc (l : Launch) (Z : State) (aa : Array Value) (hw : ∀ d ∈ tables_1, d.before aa Z = true) (ws : List Jvm.Cond) (a0 : Addr) (p1 : Int32) (wc : Int32) (sx : Value) (kb : ClassId) (z : Int32) (vs : List Value) (x : Int32) (y : Int32) (h0 : Heap) (n0 : Nat) (Z0 : n0 ≤ h0.size) (BW : OwnW Z wc sx) (O0 : Old Z n0 h0) (V_a0 : Arv Z h0 a0 kb .byte z vs (.int (0 : Int32))) (hi0 : ¬ (p1 <<< ((1 : Int32) &&& 31)) < 0 ∧ (p1 <<< ((1 : Int32) &&& 31)) < z) (hi1 : ¬ ((p1 <<< ((1 : Int32) &&& 31)) + (1 : Int32)) < 0 ∧ ((p1 <<< ((1 : Int32) &&& 31)) + (1 : Int32)) < z) (hg0 : vs.getD (p1 <<< ((1 : Int32) &&& 31)).toNatClampNeg (.int (0 : Int32)) = .int x) (hg1 : vs.getD ((p1 <<< ((1 : Int32) &&& 31)) + (1 : Int32)).toNatClampNeg (.int (0 : Int32)) = .int y) :
    MetFree l (⟨"java/lang/StringUTF16", "getChar", "([BI)C"⟩ : MethodName) (head1 (Jvm.Cond.code (⟨"java/lang/StringUTF16", "getChar", "([BI)C"⟩ : MethodName) jdk_52_method_5_code 2 (some .char) :: ws) ({ frames := 0, cells := 0, slots := 0, locals := 0 } : Room)) (fun a U => a = #[(.ref a0), (.int p1)] ∧ Z.Warmed39 U.vm ∧ U.heap = h0) (fun _ _ _ _ _ => True) (fun _ U o U' => ∃ v L, o = .returned v ∧ Qgc Z a0 p1 wc sx kb z vs x y h0 n0 v U'.heap L ∧ FrameEnd U o U' L ({ frames := 0, cells := 0, slots := 0, locals := 0 } : Room).cells ({ frames := 0, cells := 0, slots := 0, locals := 0 } : Room).slots) := by
  refine MetFree.of_bodySF (plainFor_of_name pngc) hisR ?_
  intro p e s m args below meth c s₁ Bd hml0 hP hK
  obtain ⟨rfl, hZ, hh⟩ := hP
  have hx := Bd.exec
  have hby := Bd.bytes
  have hml : c.maxLocals = 2 := hml0
  have hown : s.vm.findClass "java/lang/StringUTF16" = some m.cls := findClass_of_methodNamed Bd.named
  have hnm := (name_of_methodNamed Bd.named Bd.method).1
  have X0 : Stand p l e ({ frames := 0, cells := 0, slots := 0, locals := 0 } : Room) s m #[(.ref a0), (.int p1)] below meth c s₁ [] 0 0 := Stand.of_body Bd
  have e0 : s₁.heap = h0 := by rw [← hh, Bd.state]; rfl
  have N0 := Fr.nil n0
  show OwnEnd p e below s (fun v h L => Qgc Z a0 p1 wc sx kb z vs x y h0 n0 v h L) ({ frames := 0, cells := 0, slots := 0, locals := 0 } : Room).cells ({ frames := 0, cells := 0, slots := 0, locals := 0 } : Room).slots (s₁.setTop (entryFrame m #[(.ref a0), (.int p1)] 2))
  rw [efgc m a0 p1]
  generalize hW : OwnEnd p e below s (fun v h L => Qgc Z a0 p1 wc sx kb z vs x y h0 n0 v h L) ({ frames := 0, cells := 0, slots := 0, locals := 0 } : Room).cells ({ frames := 0, cells := 0, slots := 0, locals := 0 } : Room).slots = W
  have stp : ∀ {A B : State}, (∀ t, Steps p.tables e below B t → Steps p.tables e below A t) → W B → W A := by subst hW; exact own_step
  obtain ⟨S_cs, hcs, S_si, hr_sx, S_ad, S_hi, S_lo⟩ := id BW
  show W (s₁.setTop (mkF m 0 #[.val (.ref a0), .val (.int p1)] []))
  obtain ⟨Tgc1, Xgc1, egc1, stgc1⟩ := getS2 X0 hx hZ hown (host := "") (Or.inl (hw _ (List.mem_of_getElem? (i := 43) rfl))) Via.refl e0 (S_ad.ext O0.2) (g := (mkF m 0 #[.val (.ref a0), .val (.int p1)] [])) rfl (hb hby dgc_0)
  refine stp (fun t k => stgc1 t k) ?_
  show W (Tgc1.setTop (mkF m 3 #[.val (.ref a0), .val (.int p1)] [(.int (1 : Int32))]))
  refine stp (fun t k => XS.ifYes Xgc1.here hx rfl (pc0 := 3) (pc' := 28) rfl (hb hby dgc_3) rfl ((if0 _ _).trans (feq (by decide)).2) (by decide) (by decide) k) ?_
  show W (Tgc1.setTop (mkF m 28 #[.val (.ref a0), .val (.int p1)] []))
  refine stp (fun t k => XS.iloadN Xgc1.here hx rfl (hb hby dgc_28) rfl k) ?_
  show W (Tgc1.setTop (mkF m 29 #[.val (.ref a0), .val (.int p1)] [(.int p1)]))
  refine stp (fun t k => XS.iconst Xgc1.here hx rfl (hb hby dgc_29) k) ?_
  show W (Tgc1.setTop (mkF m 30 #[.val (.ref a0), .val (.int p1)] [(.int (1 : Int32)), (.int p1)]))
  refine stp (fun t k => XS.ishl Xgc1.here hx rfl (hb hby dgc_30) rfl k) ?_
  show W (Tgc1.setTop (mkF m 31 #[.val (.ref a0), .val (.int p1)] [(.int (p1 <<< ((1 : Int32) &&& 31)))]))
  refine stp (fun t k => XS.istoreN Xgc1.here hx rfl (hb hby dgc_31) rfl (l' := #[.val (.ref a0), .val (.int (p1 <<< ((1 : Int32) &&& 31)))]) rfl k) ?_
  show W (Tgc1.setTop (mkF m 32 #[.val (.ref a0), .val (.int (p1 <<< ((1 : Int32) &&& 31)))] []))
  refine stp (fun t k => XS.aloadN Xgc1.here hx rfl (hb hby dgc_32) rfl rfl k) ?_
  show W (Tgc1.setTop (mkF m 33 #[.val (.ref a0), .val (.int (p1 <<< ((1 : Int32) &&& 31)))] [(.ref a0)]))
  refine stp (fun t k => XS.iloadN Xgc1.here hx rfl (hb hby dgc_33) rfl k) ?_
  show W (Tgc1.setTop (mkF m 34 #[.val (.ref a0), .val (.int (p1 <<< ((1 : Int32) &&& 31)))] [(.int (p1 <<< ((1 : Int32) &&& 31))), (.ref a0)]))
  refine stp (fun t k => XS.iinc Xgc1.here hx rfl (hb hby dgc_34) rfl (l' := #[.val (.ref a0), .val (.int ((p1 <<< ((1 : Int32) &&& 31)) + (1 : Int32)))]) rfl k) ?_
  show W (Tgc1.setTop (mkF m 37 #[.val (.ref a0), .val (.int ((p1 <<< ((1 : Int32) &&& 31)) + (1 : Int32)))] [(.int (p1 <<< ((1 : Int32) &&& 31))), (.ref a0)]))
  obtain ⟨clgc2, Argc2, qkgc2, qsgc2, qngc2, qhgc2, qggc2⟩ := id V_a0
  have hingc2 : ¬ ((p1 <<< ((1 : Int32) &&& 31)) < 0 ∨ clgc2.slots.size ≤ ((p1 <<< ((1 : Int32) &&& 31))).toNatClampNeg) := inb_of qsgc2 hi0
  have hatgc2 : clgc2.slots[((p1 <<< ((1 : Int32) &&& 31))).toNatClampNeg]? = some (.int x) := qhgc2.at hingc2 hg0
  refine stp (fun t k => Xgc1.baloadBytes hx (j := (p1 <<< ((1 : Int32) &&& 31))) (v := (.int x)) (by rw [egc1]; exact Argc2.1) (State.isArrayOf_alike hZ.alike Argc2.2.1) Argc2.2.2 hingc2 hatgc2 (g := (mkF m 37 #[.val (.ref a0), .val (.int ((p1 <<< ((1 : Int32) &&& 31)) + (1 : Int32)))] [(.int (p1 <<< ((1 : Int32) &&& 31))), (.ref a0)])) rfl rfl (hb hby dgc_37) _ k) ?_
  show W (Tgc1.setTop (mkF m 38 #[.val (.ref a0), .val (.int ((p1 <<< ((1 : Int32) &&& 31)) + (1 : Int32)))] [(.int x)]))
  refine stp (fun t k => XS.sipush Xgc1.here hx rfl (hb hby dgc_38) k) ?_
  show W (Tgc1.setTop (mkF m 41 #[.val (.ref a0), .val (.int ((p1 <<< ((1 : Int32) &&& 31)) + (1 : Int32)))] [(.int (255 : Int32)), (.int x)]))
  refine stp (fun t k => XS.iand Xgc1.here hx rfl (hb hby dgc_41) rfl k) ?_
  show W (Tgc1.setTop (mkF m 42 #[.val (.ref a0), .val (.int ((p1 <<< ((1 : Int32) &&& 31)) + (1 : Int32)))] [(.int (x &&& (255 : Int32)))]))
  obtain ⟨Tgc3, Xgc3, egc3, stgc3⟩ := getS2 Xgc1 hx hZ hown (host := "") (Or.inl (hw _ (List.mem_of_getElem? (i := 44) rfl))) Via.refl egc1 (S_hi.ext O0.2) (g := (mkF m 42 #[.val (.ref a0), .val (.int ((p1 <<< ((1 : Int32) &&& 31)) + (1 : Int32)))] [(.int (x &&& (255 : Int32)))])) rfl (hb hby dgc_42)
  refine stp (fun t k => stgc3 t k) ?_
  show W (Tgc3.setTop (mkF m 45 #[.val (.ref a0), .val (.int ((p1 <<< ((1 : Int32) &&& 31)) + (1 : Int32)))] [(.int (0 : Int32)), (.int (x &&& (255 : Int32)))]))
  refine stp (fun t k => XS.ishl Xgc3.here hx rfl (hb hby dgc_45) rfl k) ?_
  show W (Tgc3.setTop (mkF m 46 #[.val (.ref a0), .val (.int ((p1 <<< ((1 : Int32) &&& 31)) + (1 : Int32)))] [(.int ((x &&& (255 : Int32)) <<< ((0 : Int32) &&& 31)))]))
  refine stp (fun t k => XS.aloadN Xgc3.here hx rfl (hb hby dgc_46) rfl rfl k) ?_
  show W (Tgc3.setTop (mkF m 47 #[.val (.ref a0), .val (.int ((p1 <<< ((1 : Int32) &&& 31)) + (1 : Int32)))] [(.ref a0), (.int ((x &&& (255 : Int32)) <<< ((0 : Int32) &&& 31)))]))
  refine stp (fun t k => XS.iloadN Xgc3.here hx rfl (hb hby dgc_47) rfl k) ?_
  show W (Tgc3.setTop (mkF m 48 #[.val (.ref a0), .val (.int ((p1 <<< ((1 : Int32) &&& 31)) + (1 : Int32)))] [(.int ((p1 <<< ((1 : Int32) &&& 31)) + (1 : Int32))), (.ref a0), (.int ((x &&& (255 : Int32)) <<< ((0 : Int32) &&& 31)))]))
  obtain ⟨clgc4, Argc4, qkgc4, qsgc4, qngc4, qhgc4, qggc4⟩ := id V_a0
  have hingc4 : ¬ (((p1 <<< ((1 : Int32) &&& 31)) + (1 : Int32)) < 0 ∨ clgc4.slots.size ≤ (((p1 <<< ((1 : Int32) &&& 31)) + (1 : Int32))).toNatClampNeg) := inb_of qsgc4 hi1
  have hatgc4 : clgc4.slots[(((p1 <<< ((1 : Int32) &&& 31)) + (1 : Int32))).toNatClampNeg]? = some (.int y) := qhgc4.at hingc4 hg1
  refine stp (fun t k => Xgc3.baloadBytes hx (j := ((p1 <<< ((1 : Int32) &&& 31)) + (1 : Int32))) (v := (.int y)) (by rw [egc3]; exact Argc4.1) (State.isArrayOf_alike hZ.alike Argc4.2.1) Argc4.2.2 hingc4 hatgc4 (g := (mkF m 48 #[.val (.ref a0), .val (.int ((p1 <<< ((1 : Int32) &&& 31)) + (1 : Int32)))] [(.int ((p1 <<< ((1 : Int32) &&& 31)) + (1 : Int32))), (.ref a0), (.int ((x &&& (255 : Int32)) <<< ((0 : Int32) &&& 31)))])) rfl rfl (hb hby dgc_48) _ k) ?_
  show W (Tgc3.setTop (mkF m 49 #[.val (.ref a0), .val (.int ((p1 <<< ((1 : Int32) &&& 31)) + (1 : Int32)))] [(.int y), (.int ((x &&& (255 : Int32)) <<< ((0 : Int32) &&& 31)))]))
  refine stp (fun t k => XS.sipush Xgc3.here hx rfl (hb hby dgc_49) k) ?_
  show W (Tgc3.setTop (mkF m 52 #[.val (.ref a0), .val (.int ((p1 <<< ((1 : Int32) &&& 31)) + (1 : Int32)))] [(.int (255 : Int32)), (.int y), (.int ((x &&& (255 : Int32)) <<< ((0 : Int32) &&& 31)))]))
  refine stp (fun t k => XS.iand Xgc3.here hx rfl (hb hby dgc_52) rfl k) ?_
  show W (Tgc3.setTop (mkF m 53 #[.val (.ref a0), .val (.int ((p1 <<< ((1 : Int32) &&& 31)) + (1 : Int32)))] [(.int (y &&& (255 : Int32))), (.int ((x &&& (255 : Int32)) <<< ((0 : Int32) &&& 31)))]))
  obtain ⟨Tgc5, Xgc5, egc5, stgc5⟩ := getS2 Xgc3 hx hZ hown (host := "") (Or.inl (hw _ (List.mem_of_getElem? (i := 45) rfl))) Via.refl egc3 (S_lo.ext O0.2) (g := (mkF m 53 #[.val (.ref a0), .val (.int ((p1 <<< ((1 : Int32) &&& 31)) + (1 : Int32)))] [(.int (y &&& (255 : Int32))), (.int ((x &&& (255 : Int32)) <<< ((0 : Int32) &&& 31)))])) rfl (hb hby dgc_53)
  refine stp (fun t k => stgc5 t k) ?_
  show W (Tgc5.setTop (mkF m 56 #[.val (.ref a0), .val (.int ((p1 <<< ((1 : Int32) &&& 31)) + (1 : Int32)))] [(.int (8 : Int32)), (.int (y &&& (255 : Int32))), (.int ((x &&& (255 : Int32)) <<< ((0 : Int32) &&& 31)))]))
  refine stp (fun t k => XS.ishl Xgc5.here hx rfl (hb hby dgc_56) rfl k) ?_
  show W (Tgc5.setTop (mkF m 57 #[.val (.ref a0), .val (.int ((p1 <<< ((1 : Int32) &&& 31)) + (1 : Int32)))] [(.int ((y &&& (255 : Int32)) <<< ((8 : Int32) &&& 31))), (.int ((x &&& (255 : Int32)) <<< ((0 : Int32) &&& 31)))]))
  refine stp (fun t k => XS.ior Xgc5.here hx rfl (hb hby dgc_57) rfl k) ?_
  show W (Tgc5.setTop (mkF m 58 #[.val (.ref a0), .val (.int ((p1 <<< ((1 : Int32) &&& 31)) + (1 : Int32)))] [(.int (((x &&& (255 : Int32)) <<< ((0 : Int32) &&& 31)) ||| ((y &&& (255 : Int32)) <<< ((8 : Int32) &&& 31))))]))
  refine stp (fun t k => XS.i2c Xgc5.here hx rfl (hb hby dgc_58) rfl k) ?_
  show W (Tgc5.setTop (mkF m 59 #[.val (.ref a0), .val (.int ((p1 <<< ((1 : Int32) &&& 31)) + (1 : Int32)))] [(.int ((((x &&& (255 : Int32)) <<< ((0 : Int32) &&& 31)) ||| ((y &&& (255 : Int32)) <<< ((8 : Int32) &&& 31))).toUInt32.toUInt16.toUInt32.toInt32))]))
  show W (Tgc5.setTop (mkF m 59 #[.val (.ref a0), .val (.int ((p1 <<< ((1 : Int32) &&& 31)) + (1 : Int32)))] [(.int ((((x &&& (255 : Int32)) <<< ((0 : Int32) &&& 31)) ||| ((y &&& (255 : Int32)) <<< ((8 : Int32) &&& 31))).toUInt32.toUInt16.toUInt32.toInt32))]))
  rw [← hW]
  exact own_retN Xgc5 hx Bd.notSynchronized Bd.returns (w := (nar .char ((((x &&& (255 : Int32)) <<< ((0 : Int32) &&& 31)) ||| ((y &&& (255 : Int32)) <<< ((8 : Int32) &&& 31))).toUInt32.toUInt16.toUInt32.toInt32))) (by simp) (hb hby dgc_59) rfl (by show Qgc Z a0 p1 wc sx kb z vs x y h0 n0 _ Tgc5.heap _; rw [egc5]; exact ⟨rfl, N0, rfl⟩) (by decide) (by decide)
theorem dua_0 : decode jdk_52_method_83_code 0 = .ok (.iload_n 1, 1) := by decide +kernel
theorem dua_1 : decode jdk_52_method_83_code 1 = .ok (.aload_n 0, 1) := by decide +kernel
theorem dua_2 : decode jdk_52_method_83_code 2 = .ok (.invokestatic 67, 3) := by decide +kernel
theorem dua_5 : decode jdk_52_method_83_code 5 = .ok (.aload_n 0, 1) := by decide +kernel
theorem dua_6 : decode jdk_52_method_83_code 6 = .ok (.iload_n 1, 1) := by decide +kernel
theorem dua_7 : decode jdk_52_method_83_code 7 = .ok (.invokestatic 71, 3) := by decide +kernel
theorem dua_10 : decode jdk_52_method_83_code 10 = .ok (.ireturn, 1) := by decide +kernel
theorem pnua : plainName "java/lang/StringUTF16" = true := by first | (simp [plainName, overriddenIn]; done) | decide +kernel
theorem pdua_0 : parseMethodDescriptor "(I[B)V" = some ⟨[.int, (.array .byte)], none⟩ := by decide +kernel
theorem pdua_1 : parseMethodDescriptor "([BI)C" = some ⟨[(.array .byte), .int], some .char⟩ := by decide +kernel
theorem efua (m : MethodId) (a0 : Addr) (p1 : Int32) : entryFrame m #[(.ref a0), (.int p1)] 2 = mkF m 0 #[.val (.ref a0), .val (.int p1)] [] := by first | (simp [entryFrame, mkF, argsToLocals, Value.category]; done) | rfl
def fua (x : Int32) (y : Int32) : Int32 := (nar .char (fgc x y))
def Qua (Z : State) (a0 : Addr) (p1 : Int32) (wc : Int32) (sx : Value) (kb : ClassId) (z : Int32) (vs : List Value) (x : Int32) (y : Int32) (h0 : Heap) (n0 : Nat) (v : Option Value) (h : Heap) (L : List Loc) : Prop := v = some (.int (fua x y)) ∧ Fr n0 L ∧ h = h0
set_option maxRecDepth 65536 in
set_option maxHeartbeats 40000000 in
theorem rmua (l : Launch) (Z : State) (aa : Array Value) (hw : ∀ d ∈ tables_1, d.before aa Z = true) (ws : List Jvm.Cond) (a0 : Addr) (p1 : Int32) (wc : Int32) (sx : Value) (kb : ClassId) (z : Int32) (vs : List Value) (x : Int32) (y : Int32) (h0 : Heap) (n0 : Nat) (Z0 : n0 ≤ h0.size) (BW : OwnW Z wc sx) (O0 : Old Z n0 h0) (V_a0 : Arv Z h0 a0 kb .byte z vs (.int (0 : Int32))) (hlo : ¬ p1 < (0 : Int32)) (hhi : p1 < (ful z)) (hi0 : ¬ (p1 <<< ((1 : Int32) &&& 31)) < 0 ∧ (p1 <<< ((1 : Int32) &&& 31)) < z) (hi1 : ¬ ((p1 <<< ((1 : Int32) &&& 31)) + (1 : Int32)) < 0 ∧ ((p1 <<< ((1 : Int32) &&& 31)) + (1 : Int32)) < z) (hg0 : vs.getD (p1 <<< ((1 : Int32) &&& 31)).toNatClampNeg (.int (0 : Int32)) = .int x) (hg1 : vs.getD ((p1 <<< ((1 : Int32) &&& 31)) + (1 : Int32)).toNatClampNeg (.int (0 : Int32)) = .int y) :
    MetFree l (⟨"java/lang/StringUTF16", "charAt", "([BI)C"⟩ : MethodName) (head1 (Jvm.Cond.code (⟨"java/lang/StringUTF16", "charAt", "([BI)C"⟩ : MethodName) jdk_52_method_83_code 2 (some .char) :: ws) ({ frames := 3, cells := 0, slots := 0, locals := 40 } : Room)) (fun a U => a = #[(.ref a0), (.int p1)] ∧ Z.Warmed39 U.vm ∧ U.heap = h0) (fun _ _ _ _ _ => True) (fun _ U o U' => ∃ v L, o = .returned v ∧ Qua Z a0 p1 wc sx kb z vs x y h0 n0 v U'.heap L ∧ FrameEnd U o U' L ({ frames := 3, cells := 0, slots := 0, locals := 40 } : Room).cells ({ frames := 3, cells := 0, slots := 0, locals := 40 } : Room).slots) := by
  refine MetFree.of_bodySF (plainFor_of_name pnua) hisR ?_
  intro p e s m args below meth c s₁ Bd hml0 hP hK
  obtain ⟨rfl, hZ, hh⟩ := hP
  have hx := Bd.exec
  have hby := Bd.bytes
  have hml : c.maxLocals = 2 := hml0
  have hown : s.vm.findClass "java/lang/StringUTF16" = some m.cls := findClass_of_methodNamed Bd.named
  have hnm := (name_of_methodNamed Bd.named Bd.method).1
  have X0 : Stand p l e ({ frames := 3, cells := 0, slots := 0, locals := 40 } : Room) s m #[(.ref a0), (.int p1)] below meth c s₁ [] 0 0 := Stand.of_body Bd
  have e0 : s₁.heap = h0 := by rw [← hh, Bd.state]; rfl
  have N0 := Fr.nil n0
  show OwnEnd p e below s (fun v h L => Qua Z a0 p1 wc sx kb z vs x y h0 n0 v h L) ({ frames := 3, cells := 0, slots := 0, locals := 40 } : Room).cells ({ frames := 3, cells := 0, slots := 0, locals := 40 } : Room).slots (s₁.setTop (entryFrame m #[(.ref a0), (.int p1)] 2))
  rw [efua m a0 p1]
  generalize hW : OwnEnd p e below s (fun v h L => Qua Z a0 p1 wc sx kb z vs x y h0 n0 v h L) ({ frames := 3, cells := 0, slots := 0, locals := 40 } : Room).cells ({ frames := 3, cells := 0, slots := 0, locals := 40 } : Room).slots = W
  have stp : ∀ {A B : State}, (∀ t, Steps p.tables e below B t → Steps p.tables e below A t) → W B → W A := by subst hW; exact own_step
  obtain ⟨S_cs, hcs, S_si, hr_sx, S_ad, S_hi, S_lo⟩ := id BW
  show W (s₁.setTop (mkF m 0 #[.val (.ref a0), .val (.int p1)] []))
  refine stp (fun t k => XS.iloadN X0.here hx rfl (hb hby dua_0) rfl k) ?_
  show W (s₁.setTop (mkF m 1 #[.val (.ref a0), .val (.int p1)] [(.int p1)]))
  refine stp (fun t k => XS.aloadN X0.here hx rfl (hb hby dua_1) rfl rfl k) ?_
  show W (s₁.setTop (mkF m 2 #[.val (.ref a0), .val (.int p1)] [(.ref a0), (.int p1)]))
  obtain ⟨_, _, ⟨Tuac1, Luac1, kuac1, nuac1⟩, -, Xuac1, ⟨Lcuac1, hQuac1, luac1, yuac1, zuac1⟩, stuac1⟩ := Jvm.LawKit.callS X0 hx (y := (⟨"java/lang/StringUTF16", "checkIndex", "(I[B)V"⟩ : MethodName)) hown (mvT hZ (hw _ (List.mem_of_getElem? (i := 83) rfl))) (mvT hZ (hw _ (List.mem_of_getElem? (i := 84) rfl))) (mvT hZ (hw _ (List.mem_of_getElem? (i := 24) rfl))) (mvT hZ (hw _ (List.mem_of_getElem? (i := 85) rfl))) (by decide) (backOf (W := 0) (rmuc l Z aa hw [] p1 a0 wc sx kb z vs h0 n0 Z0 BW O0 V_a0 hlo hhi) hZ (hw _ (List.mem_of_getElem? (i := 85) rfl)) (hw _ (List.mem_of_getElem? (i := 24) rfl)) (by decide) (by decide)) (g := (mkF m 2 #[.val (.ref a0), .val (.int p1)] [(.ref a0), (.int p1)])) rfl (by rw [hml]; rfl) (argsL := [(.int p1), (.ref a0)]) (rest := []) (lenOf pdua_0 rfl) rfl (by show 2 * 0 + _ ≤ _; exact Nat.le_of_eq rfl) (hb hby dua_2) (fun _ _ => ⟨rfl, e0, (by decide : 0 + 0 ≤ _), (by decide : 0 + 0 ≤ _)⟩)
  dsimp only [Pt.U, Pt.locs, Pt.cells, Pt.slots] at Xuac1 luac1 yuac1 zuac1 stuac1 hQuac1
  subst luac1 yuac1 zuac1
  obtain ⟨rfl, Nuac1q, euac1⟩ := hQuac1
  have Nuac1 := Fr.app N0 Nuac1q
  obtain ⟨lcuat2, Xuac1, Nuac1⟩ : ∃ lc, Stand p l e ({ frames := 3, cells := 0, slots := 0, locals := 40 } : Room) s m #[(.ref a0), (.int p1)] below meth c Tuac1 lc 0 0 ∧ Fr n0 lc := ⟨_, Xuac1, Nuac1⟩
  refine stp (fun t k => stuac1 t k) ?_
  show W (Tuac1.setTop (mkF m 5 #[.val (.ref a0), .val (.int p1)] []))
  refine stp (fun t k => XS.aloadN Xuac1.here hx rfl (hb hby dua_5) rfl rfl k) ?_
  show W (Tuac1.setTop (mkF m 6 #[.val (.ref a0), .val (.int p1)] [(.ref a0)]))
  refine stp (fun t k => XS.iloadN Xuac1.here hx rfl (hb hby dua_6) rfl k) ?_
  show W (Tuac1.setTop (mkF m 7 #[.val (.ref a0), .val (.int p1)] [(.int p1), (.ref a0)]))
  obtain ⟨_, _, ⟨Tuac3, Luac3, kuac3, nuac3⟩, -, Xuac3, ⟨Lcuac3, hQuac3, luac3, yuac3, zuac3⟩, stuac3⟩ := Jvm.LawKit.callS Xuac1 hx (y := (⟨"java/lang/StringUTF16", "getChar", "([BI)C"⟩ : MethodName)) hown (mvT hZ (hw _ (List.mem_of_getElem? (i := 46) rfl))) (mvT hZ (hw _ (List.mem_of_getElem? (i := 47) rfl))) (mvT hZ (hw _ (List.mem_of_getElem? (i := 24) rfl))) (mvT hZ (hw _ (List.mem_of_getElem? (i := 48) rfl))) (by decide) (backOf (W := 0) (rmgc l Z aa hw [] a0 p1 wc sx kb z vs x y h0 n0 Z0 BW O0 V_a0 hi0 hi1 hg0 hg1) hZ (hw _ (List.mem_of_getElem? (i := 48) rfl)) (hw _ (List.mem_of_getElem? (i := 24) rfl)) (by decide) (by decide)) (g := (mkF m 7 #[.val (.ref a0), .val (.int p1)] [(.int p1), (.ref a0)])) rfl (by rw [hml]; rfl) (argsL := [(.ref a0), (.int p1)]) (rest := []) (lenOf pdua_1 rfl) rfl (by show 2 * 0 + _ ≤ _; exact Nat.le_of_eq rfl) (hb hby dua_7) (fun _ _ => ⟨rfl, euac1, (by decide : 0 + 0 ≤ _), (by decide : 0 + 0 ≤ _)⟩)
  dsimp only [Pt.U, Pt.locs, Pt.cells, Pt.slots] at Xuac3 luac3 yuac3 zuac3 stuac3 hQuac3
  subst luac3 yuac3 zuac3
  obtain ⟨rfl, Nuac3q, euac3⟩ := hQuac3
  have Nuac3 := Fr.app Nuac1 Nuac3q
  obtain ⟨lcuat4, Xuac3, Nuac3⟩ : ∃ lc, Stand p l e ({ frames := 3, cells := 0, slots := 0, locals := 40 } : Room) s m #[(.ref a0), (.int p1)] below meth c Tuac3 lc 0 0 ∧ Fr n0 lc := ⟨_, Xuac3, Nuac3⟩
  refine stp (fun t k => stuac3 t k) ?_
  show W (Tuac3.setTop (mkF m 10 #[.val (.ref a0), .val (.int p1)] [(.int (fgc x y))]))
  show W (Tuac3.setTop (mkF m 10 #[.val (.ref a0), .val (.int p1)] [(.int (fgc x y))]))
  rw [← hW]
  exact own_retN Xuac3 hx Bd.notSynchronized Bd.returns (w := (nar .char (fgc x y))) (by simp) (hb hby dua_10) rfl (by show Qua Z a0 p1 wc sx kb z vs x y h0 n0 _ Tuac3.heap _; rw [euac3]; exact ⟨rfl, Nuac3, rfl⟩) (by decide) (by decide)
theorem dcL_0 : decode jdk_42_method_56_code 0 = .ok (.aload_n 0, 1) := by decide +kernel
theorem dcL_1 : decode jdk_42_method_56_code 1 = .ok (.invokevirtual 492, 3) := by decide +kernel
theorem dcL_4 : decode jdk_42_method_56_code 4 = .ok (.ifCond .eq 12, 3) := by decide +kernel
theorem dcL_7 : decode jdk_42_method_56_code 7 = .ok (.aload_n 0, 1) := by decide +kernel
theorem dcL_8 : decode jdk_42_method_56_code 8 = .ok (.getfield 9, 3) := by decide +kernel
theorem dcL_11 : decode jdk_42_method_56_code 11 = .ok (.iload_n 1, 1) := by decide +kernel
theorem dcL_12 : decode jdk_42_method_56_code 12 = .ok (.invokestatic 495, 3) := by decide +kernel
theorem dcL_15 : decode jdk_42_method_56_code 15 = .ok (.ireturn, 1) := by decide +kernel
theorem pncL : plainName "java/lang/String" = true := by first | (simp [plainName, overriddenIn]; done) | decide +kernel
theorem pdcL_0 : parseMethodDescriptor "()Z" = some ⟨[], some .boolean⟩ := by decide +kernel
theorem pdcL_1 : parseMethodDescriptor "([BI)C" = some ⟨[(.array .byte), .int], some .char⟩ := by decide +kernel
theorem efcL (m : MethodId) (a0 : Addr) (p1 : Int32) : entryFrame m #[(.ref a0), (.int p1)] 2 = mkF m 0 #[.val (.ref a0), .val (.int p1)] [] := by first | (simp [entryFrame, mkF, argsToLocals, Value.category]; done) | rfl
def fcL (x : Int32) : Int32 := (nar .char (flc x))
def QcL (Z : State) (a0 : Addr) (p1 : Int32) (wc : Int32) (sx : Value) (b : Addr) (kb : ClassId) (z : Int32) (vs : List Value) (x : Int32) (h0 : Heap) (n0 : Nat) (v : Option Value) (h : Heap) (L : List Loc) : Prop := v = some (.int (fcL x)) ∧ Fr n0 L ∧ h = h0
set_option maxRecDepth 65536 in
set_option maxHeartbeats 40000000 in
theorem rmcL (l : Launch) (Z : State) (aa : Array Value) (hw : ∀ d ∈ tables_1, d.before aa Z = true) (ws : List Jvm.Cond) (a0 : Addr) (p1 : Int32) (wc : Int32) (sx : Value) (b : Addr) (kb : ClassId) (z : Int32) (vs : List Value) (x : Int32) (h0 : Heap) (n0 : Nat) (Z0 : n0 ≤ h0.size) (BW : OwnW Z wc sx) (O0 : Old Z n0 h0) (E_a0 : Exa Z h0 a0 "java/lang/String") (F_value_a0 : Fld Z h0 a0 "java/lang/String" "value" "[B" (.ref b)) (F_coder_a0 : Fld Z h0 a0 "java/lang/String" "coder" "B" (.int (0 : Int32))) (V_b : Arv Z h0 b kb .byte z vs (.int (0 : Int32))) (hlo : ¬ p1 < (0 : Int32)) (hhi : p1 < z) (hgx : vs.getD p1.toNatClampNeg (.int (0 : Int32)) = .int x) :
    MetFree l (⟨"java/lang/String", "charAt", "(I)C"⟩ : MethodName) (head1 (Jvm.Cond.code (⟨"java/lang/String", "charAt", "(I)C"⟩ : MethodName) jdk_42_method_56_code 2 (some .char) :: ws) ({ frames := 4, cells := 0, slots := 0, locals := 53 } : Room)) (fun a U => a = #[(.ref a0), (.int p1)] ∧ Z.Warmed39 U.vm ∧ U.heap = h0) (fun _ _ _ _ _ => True) (fun _ U o U' => ∃ v L, o = .returned v ∧ QcL Z a0 p1 wc sx b kb z vs x h0 n0 v U'.heap L ∧ FrameEnd U o U' L ({ frames := 4, cells := 0, slots := 0, locals := 53 } : Room).cells ({ frames := 4, cells := 0, slots := 0, locals := 53 } : Room).slots) := by
  refine MetFree.of_bodySF (plainFor_of_name pncL) hisR ?_
  intro p e s m args below meth c s₁ Bd hml0 hP hK
  obtain ⟨rfl, hZ, hh⟩ := hP
  have hx := Bd.exec
  have hby := Bd.bytes
  have hml : c.maxLocals = 2 := hml0
  have hown : s.vm.findClass "java/lang/String" = some m.cls := findClass_of_methodNamed Bd.named
  have hnm := (name_of_methodNamed Bd.named Bd.method).1
  have X0 : Stand p l e ({ frames := 4, cells := 0, slots := 0, locals := 53 } : Room) s m #[(.ref a0), (.int p1)] below meth c s₁ [] 0 0 := Stand.of_body Bd
  have e0 : s₁.heap = h0 := by rw [← hh, Bd.state]; rfl
  have N0 := Fr.nil n0
  show OwnEnd p e below s (fun v h L => QcL Z a0 p1 wc sx b kb z vs x h0 n0 v h L) ({ frames := 4, cells := 0, slots := 0, locals := 53 } : Room).cells ({ frames := 4, cells := 0, slots := 0, locals := 53 } : Room).slots (s₁.setTop (entryFrame m #[(.ref a0), (.int p1)] 2))
  rw [efcL m a0 p1]
  generalize hW : OwnEnd p e below s (fun v h L => QcL Z a0 p1 wc sx b kb z vs x h0 n0 v h L) ({ frames := 4, cells := 0, slots := 0, locals := 53 } : Room).cells ({ frames := 4, cells := 0, slots := 0, locals := 53 } : Room).slots = W
  have stp : ∀ {A B : State}, (∀ t, Steps p.tables e below B t → Steps p.tables e below A t) → W B → W A := by subst hW; exact own_step
  obtain ⟨S_cs, hcs, S_si, hr_sx, S_ad, S_hi, S_lo⟩ := id BW
  show W (s₁.setTop (mkF m 0 #[.val (.ref a0), .val (.int p1)] []))
  refine stp (fun t k => XS.aloadN X0.here hx rfl (hb hby dcL_0) rfl rfl k) ?_
  show W (s₁.setTop (mkF m 1 #[.val (.ref a0), .val (.int p1)] [(.ref a0)]))
  obtain ⟨cqcLc1, kqcLc1, qcLc1a, qcLc1b, qcLc1c⟩ := isOf hZ e0 E_a0
  obtain ⟨_, _, ⟨TcLc1, LcLc1, kcLc1, ncLc1⟩, -, XcLc1, ⟨LccLc1, hQcLc1, lcLc1, ycLc1, zcLc1⟩, stcLc1⟩ := X0.virtualBack hx (y := (⟨"java/lang/String", "isLatin1", "()Z"⟩ : MethodName)) (z := (⟨"java/lang/String", "isLatin1", "()Z"⟩ : MethodName)) hown (mvT hZ (hw _ (List.mem_of_getElem? (i := 75) rfl))) (mvT hZ (hw _ (List.mem_of_getElem? (i := 76) rfl))) (notFace_of_selects (args := #[]) (mvT hZ (hw _ (List.mem_of_getElem? (i := 78) rfl)))) (mvT hZ (hw _ (List.mem_of_getElem? (i := 78) rfl))) (mvT hZ (hw _ (List.mem_of_getElem? (i := 77) rfl))) (by decide) (backOf (W := 0) (rmil l Z aa hw [] a0 wc sx (0 : Int32) h0 n0 Z0 BW O0 F_coder_a0) hZ (hw _ (List.mem_of_getElem? (i := 79) rfl)) (hw _ (List.mem_of_getElem? (i := 10) rfl)) (by decide) (by decide)) qcLc1a qcLc1c (g := (mkF m 1 #[.val (.ref a0), .val (.int p1)] [(.ref a0)])) rfl (by rw [hml]; rfl) (Steps.refl _) (argsL := []) (rest := []) (lenOf pdcL_0 rfl) rfl (by show 2 * 0 + _ ≤ _; exact Nat.le_of_eq rfl) (hb hby dcL_1) (fun _ _ => ⟨rfl, e0, (by decide : 0 + 0 ≤ _), (by decide : 0 + 0 ≤ _)⟩)
  dsimp only [Pt.U, Pt.locs, Pt.cells, Pt.slots] at XcLc1 lcLc1 ycLc1 zcLc1 stcLc1 hQcLc1
  subst lcLc1 ycLc1 zcLc1
  obtain ⟨rfl, NcLc1q, ecLc1⟩ := hQcLc1
  have NcLc1 := Fr.app N0 NcLc1q
  obtain ⟨lccLt2, XcLc1, NcLc1⟩ : ∃ lc, Stand p l e ({ frames := 4, cells := 0, slots := 0, locals := 53 } : Room) s m #[(.ref a0), (.int p1)] below meth c TcLc1 lc 0 0 ∧ Fr n0 lc := ⟨_, XcLc1, NcLc1⟩
  refine stp (fun t k => stcLc1.trans k) ?_
  show W (TcLc1.setTop (mkF m 4 #[.val (.ref a0), .val (.int p1)] [(.int (fil (0 : Int32)))]))
  refine stp (fun t k => XS.ifNo XcLc1.here hx rfl (hb hby dcL_4) rfl ((if0 _ _).trans (feq (by decide)).1) k) ?_
  show W (TcLc1.setTop (mkF m 7 #[.val (.ref a0), .val (.int p1)] []))
  refine stp (fun t k => XS.aloadN XcLc1.here hx rfl (hb hby dcL_7) rfl rfl k) ?_
  show W (TcLc1.setTop (mkF m 8 #[.val (.ref a0), .val (.int p1)] [(.ref a0)]))
  obtain ⟨TcL3, XcL3, ecL3, stcL3⟩ := getF XcLc1 hx hZ hown (host := "") (Or.inl (hw _ (List.mem_of_getElem? (i := 54) rfl))) Via.refl ecLc1 F_value_a0 (g := (mkF m 8 #[.val (.ref a0), .val (.int p1)] [(.ref a0)])) rfl rfl (hb hby dcL_8)
  refine stp (fun t k => stcL3 t k) ?_
  show W (TcL3.setTop (mkF m 11 #[.val (.ref a0), .val (.int p1)] [(.ref b)]))
  refine stp (fun t k => XS.iloadN XcL3.here hx rfl (hb hby dcL_11) rfl k) ?_
  show W (TcL3.setTop (mkF m 12 #[.val (.ref a0), .val (.int p1)] [(.int p1), (.ref b)]))
  obtain ⟨_, _, ⟨TcLc4, LcLc4, kcLc4, ncLc4⟩, -, XcLc4, ⟨LccLc4, hQcLc4, lcLc4, ycLc4, zcLc4⟩, stcLc4⟩ := Jvm.LawKit.callS XcL3 hx (y := (⟨"java/lang/StringLatin1", "charAt", "([BI)C"⟩ : MethodName)) hown (mvT hZ (hw _ (List.mem_of_getElem? (i := 97) rfl))) (mvT hZ (hw _ (List.mem_of_getElem? (i := 98) rfl))) (mvT hZ (hw _ (List.mem_of_getElem? (i := 99) rfl))) (mvT hZ (hw _ (List.mem_of_getElem? (i := 100) rfl))) (by decide) (backOf (W := 0) (rmlc l Z aa hw [] b p1 wc sx kb z vs x h0 n0 Z0 BW O0 V_b hlo hhi hgx) hZ (hw _ (List.mem_of_getElem? (i := 100) rfl)) (hw _ (List.mem_of_getElem? (i := 99) rfl)) (by decide) (by decide)) (g := (mkF m 12 #[.val (.ref a0), .val (.int p1)] [(.int p1), (.ref b)])) rfl (by rw [hml]; rfl) (argsL := [(.ref b), (.int p1)]) (rest := []) (lenOf pdcL_1 rfl) rfl (by show 2 * 0 + _ ≤ _; exact Nat.le_of_eq rfl) (hb hby dcL_12) (fun _ _ => ⟨rfl, ecL3, (by decide : 0 + 0 ≤ _), (by decide : 0 + 0 ≤ _)⟩)
  dsimp only [Pt.U, Pt.locs, Pt.cells, Pt.slots] at XcLc4 lcLc4 ycLc4 zcLc4 stcLc4 hQcLc4
  subst lcLc4 ycLc4 zcLc4
  obtain ⟨rfl, NcLc4q, ecLc4⟩ := hQcLc4
  have NcLc4 := Fr.app NcLc1 NcLc4q
  obtain ⟨lccLt5, XcLc4, NcLc4⟩ : ∃ lc, Stand p l e ({ frames := 4, cells := 0, slots := 0, locals := 53 } : Room) s m #[(.ref a0), (.int p1)] below meth c TcLc4 lc 0 0 ∧ Fr n0 lc := ⟨_, XcLc4, NcLc4⟩
  refine stp (fun t k => stcLc4 t k) ?_
  show W (TcLc4.setTop (mkF m 15 #[.val (.ref a0), .val (.int p1)] [(.int (flc x))]))
  show W (TcLc4.setTop (mkF m 15 #[.val (.ref a0), .val (.int p1)] [(.int (flc x))]))
  rw [← hW]
  exact own_retN XcLc4 hx Bd.notSynchronized Bd.returns (w := (nar .char (flc x))) (by simp) (hb hby dcL_15) rfl (by show QcL Z a0 p1 wc sx b kb z vs x h0 n0 _ TcLc4.heap _; rw [ecLc4]; exact ⟨rfl, NcLc4, rfl⟩) (by decide) (by decide)
theorem dcU_0 : decode jdk_42_method_56_code 0 = .ok (.aload_n 0, 1) := by decide +kernel
theorem dcU_1 : decode jdk_42_method_56_code 1 = .ok (.invokevirtual 492, 3) := by decide +kernel
theorem dcU_4 : decode jdk_42_method_56_code 4 = .ok (.ifCond .eq 12, 3) := by decide +kernel
theorem dcU_16 : decode jdk_42_method_56_code 16 = .ok (.aload_n 0, 1) := by decide +kernel
theorem dcU_17 : decode jdk_42_method_56_code 17 = .ok (.getfield 9, 3) := by decide +kernel
theorem dcU_20 : decode jdk_42_method_56_code 20 = .ok (.iload_n 1, 1) := by decide +kernel
theorem dcU_21 : decode jdk_42_method_56_code 21 = .ok (.invokestatic 498, 3) := by decide +kernel
theorem dcU_24 : decode jdk_42_method_56_code 24 = .ok (.ireturn, 1) := by decide +kernel
theorem pncU : plainName "java/lang/String" = true := by first | (simp [plainName, overriddenIn]; done) | decide +kernel
theorem pdcU_0 : parseMethodDescriptor "()Z" = some ⟨[], some .boolean⟩ := by decide +kernel
theorem pdcU_1 : parseMethodDescriptor "([BI)C" = some ⟨[(.array .byte), .int], some .char⟩ := by decide +kernel
theorem efcU (m : MethodId) (a0 : Addr) (p1 : Int32) : entryFrame m #[(.ref a0), (.int p1)] 2 = mkF m 0 #[.val (.ref a0), .val (.int p1)] [] := by first | (simp [entryFrame, mkF, argsToLocals, Value.category]; done) | rfl
def fcU (x : Int32) (y : Int32) : Int32 := (nar .char (fua x y))
def QcU (Z : State) (a0 : Addr) (p1 : Int32) (wc : Int32) (sx : Value) (b : Addr) (kb : ClassId) (z : Int32) (vs : List Value) (x : Int32) (y : Int32) (h0 : Heap) (n0 : Nat) (v : Option Value) (h : Heap) (L : List Loc) : Prop := v = some (.int (fcU x y)) ∧ Fr n0 L ∧ h = h0
set_option maxRecDepth 65536 in
set_option maxHeartbeats 40000000 in
theorem rmcU (l : Launch) (Z : State) (aa : Array Value) (hw : ∀ d ∈ tables_1, d.before aa Z = true) (ws : List Jvm.Cond) (a0 : Addr) (p1 : Int32) (wc : Int32) (sx : Value) (b : Addr) (kb : ClassId) (z : Int32) (vs : List Value) (x : Int32) (y : Int32) (h0 : Heap) (n0 : Nat) (Z0 : n0 ≤ h0.size) (BW : OwnW Z wc sx) (O0 : Old Z n0 h0) (E_a0 : Exa Z h0 a0 "java/lang/String") (F_value_a0 : Fld Z h0 a0 "java/lang/String" "value" "[B" (.ref b)) (F_coder_a0 : Fld Z h0 a0 "java/lang/String" "coder" "B" (.int (1 : Int32))) (V_b : Arv Z h0 b kb .byte z vs (.int (0 : Int32))) (hlo : ¬ p1 < (0 : Int32)) (hhi : p1 < (ful z)) (hi0 : ¬ (p1 <<< ((1 : Int32) &&& 31)) < 0 ∧ (p1 <<< ((1 : Int32) &&& 31)) < z) (hi1 : ¬ ((p1 <<< ((1 : Int32) &&& 31)) + (1 : Int32)) < 0 ∧ ((p1 <<< ((1 : Int32) &&& 31)) + (1 : Int32)) < z) (hg0 : vs.getD (p1 <<< ((1 : Int32) &&& 31)).toNatClampNeg (.int (0 : Int32)) = .int x) (hg1 : vs.getD ((p1 <<< ((1 : Int32) &&& 31)) + (1 : Int32)).toNatClampNeg (.int (0 : Int32)) = .int y) :
    MetFree l (⟨"java/lang/String", "charAt", "(I)C"⟩ : MethodName) (head1 (Jvm.Cond.code (⟨"java/lang/String", "charAt", "(I)C"⟩ : MethodName) jdk_42_method_56_code 2 (some .char) :: ws) ({ frames := 4, cells := 0, slots := 0, locals := 53 } : Room)) (fun a U => a = #[(.ref a0), (.int p1)] ∧ Z.Warmed39 U.vm ∧ U.heap = h0) (fun _ _ _ _ _ => True) (fun _ U o U' => ∃ v L, o = .returned v ∧ QcU Z a0 p1 wc sx b kb z vs x y h0 n0 v U'.heap L ∧ FrameEnd U o U' L ({ frames := 4, cells := 0, slots := 0, locals := 53 } : Room).cells ({ frames := 4, cells := 0, slots := 0, locals := 53 } : Room).slots) := by
  refine MetFree.of_bodySF (plainFor_of_name pncU) hisR ?_
  intro p e s m args below meth c s₁ Bd hml0 hP hK
  obtain ⟨rfl, hZ, hh⟩ := hP
  have hx := Bd.exec
  have hby := Bd.bytes
  have hml : c.maxLocals = 2 := hml0
  have hown : s.vm.findClass "java/lang/String" = some m.cls := findClass_of_methodNamed Bd.named
  have hnm := (name_of_methodNamed Bd.named Bd.method).1
  have X0 : Stand p l e ({ frames := 4, cells := 0, slots := 0, locals := 53 } : Room) s m #[(.ref a0), (.int p1)] below meth c s₁ [] 0 0 := Stand.of_body Bd
  have e0 : s₁.heap = h0 := by rw [← hh, Bd.state]; rfl
  have N0 := Fr.nil n0
  show OwnEnd p e below s (fun v h L => QcU Z a0 p1 wc sx b kb z vs x y h0 n0 v h L) ({ frames := 4, cells := 0, slots := 0, locals := 53 } : Room).cells ({ frames := 4, cells := 0, slots := 0, locals := 53 } : Room).slots (s₁.setTop (entryFrame m #[(.ref a0), (.int p1)] 2))
  rw [efcU m a0 p1]
  generalize hW : OwnEnd p e below s (fun v h L => QcU Z a0 p1 wc sx b kb z vs x y h0 n0 v h L) ({ frames := 4, cells := 0, slots := 0, locals := 53 } : Room).cells ({ frames := 4, cells := 0, slots := 0, locals := 53 } : Room).slots = W
  have stp : ∀ {A B : State}, (∀ t, Steps p.tables e below B t → Steps p.tables e below A t) → W B → W A := by subst hW; exact own_step
  obtain ⟨S_cs, hcs, S_si, hr_sx, S_ad, S_hi, S_lo⟩ := id BW
  show W (s₁.setTop (mkF m 0 #[.val (.ref a0), .val (.int p1)] []))
  refine stp (fun t k => XS.aloadN X0.here hx rfl (hb hby dcU_0) rfl rfl k) ?_
  show W (s₁.setTop (mkF m 1 #[.val (.ref a0), .val (.int p1)] [(.ref a0)]))
  obtain ⟨cqcUc1, kqcUc1, qcUc1a, qcUc1b, qcUc1c⟩ := isOf hZ e0 E_a0
  obtain ⟨_, _, ⟨TcUc1, LcUc1, kcUc1, ncUc1⟩, -, XcUc1, ⟨LccUc1, hQcUc1, lcUc1, ycUc1, zcUc1⟩, stcUc1⟩ := X0.virtualBack hx (y := (⟨"java/lang/String", "isLatin1", "()Z"⟩ : MethodName)) (z := (⟨"java/lang/String", "isLatin1", "()Z"⟩ : MethodName)) hown (mvT hZ (hw _ (List.mem_of_getElem? (i := 75) rfl))) (mvT hZ (hw _ (List.mem_of_getElem? (i := 76) rfl))) (notFace_of_selects (args := #[]) (mvT hZ (hw _ (List.mem_of_getElem? (i := 78) rfl)))) (mvT hZ (hw _ (List.mem_of_getElem? (i := 78) rfl))) (mvT hZ (hw _ (List.mem_of_getElem? (i := 77) rfl))) (by decide) (backOf (W := 0) (rmil l Z aa hw [] a0 wc sx (1 : Int32) h0 n0 Z0 BW O0 F_coder_a0) hZ (hw _ (List.mem_of_getElem? (i := 79) rfl)) (hw _ (List.mem_of_getElem? (i := 10) rfl)) (by decide) (by decide)) qcUc1a qcUc1c (g := (mkF m 1 #[.val (.ref a0), .val (.int p1)] [(.ref a0)])) rfl (by rw [hml]; rfl) (Steps.refl _) (argsL := []) (rest := []) (lenOf pdcU_0 rfl) rfl (by show 2 * 0 + _ ≤ _; exact Nat.le_of_eq rfl) (hb hby dcU_1) (fun _ _ => ⟨rfl, e0, (by decide : 0 + 0 ≤ _), (by decide : 0 + 0 ≤ _)⟩)
  dsimp only [Pt.U, Pt.locs, Pt.cells, Pt.slots] at XcUc1 lcUc1 ycUc1 zcUc1 stcUc1 hQcUc1
  subst lcUc1 ycUc1 zcUc1
  obtain ⟨rfl, NcUc1q, ecUc1⟩ := hQcUc1
  have NcUc1 := Fr.app N0 NcUc1q
  obtain ⟨lccUt2, XcUc1, NcUc1⟩ : ∃ lc, Stand p l e ({ frames := 4, cells := 0, slots := 0, locals := 53 } : Room) s m #[(.ref a0), (.int p1)] below meth c TcUc1 lc 0 0 ∧ Fr n0 lc := ⟨_, XcUc1, NcUc1⟩
  refine stp (fun t k => stcUc1.trans k) ?_
  show W (TcUc1.setTop (mkF m 4 #[.val (.ref a0), .val (.int p1)] [(.int (fil (1 : Int32)))]))
  refine stp (fun t k => XS.ifYes XcUc1.here hx rfl (pc0 := 4) (pc' := 16) rfl (hb hby dcU_4) rfl ((if0 _ _).trans (teq (by decide)).1) (by decide) (by decide) k) ?_
  show W (TcUc1.setTop (mkF m 16 #[.val (.ref a0), .val (.int p1)] []))
  refine stp (fun t k => XS.aloadN XcUc1.here hx rfl (hb hby dcU_16) rfl rfl k) ?_
  show W (TcUc1.setTop (mkF m 17 #[.val (.ref a0), .val (.int p1)] [(.ref a0)]))
  obtain ⟨TcU3, XcU3, ecU3, stcU3⟩ := getF XcUc1 hx hZ hown (host := "") (Or.inl (hw _ (List.mem_of_getElem? (i := 54) rfl))) Via.refl ecUc1 F_value_a0 (g := (mkF m 17 #[.val (.ref a0), .val (.int p1)] [(.ref a0)])) rfl rfl (hb hby dcU_17)
  refine stp (fun t k => stcU3 t k) ?_
  show W (TcU3.setTop (mkF m 20 #[.val (.ref a0), .val (.int p1)] [(.ref b)]))
  refine stp (fun t k => XS.iloadN XcU3.here hx rfl (hb hby dcU_20) rfl k) ?_
  show W (TcU3.setTop (mkF m 21 #[.val (.ref a0), .val (.int p1)] [(.int p1), (.ref b)]))
  obtain ⟨_, _, ⟨TcUc4, LcUc4, kcUc4, ncUc4⟩, -, XcUc4, ⟨LccUc4, hQcUc4, lcUc4, ycUc4, zcUc4⟩, stcUc4⟩ := Jvm.LawKit.callS XcU3 hx (y := (⟨"java/lang/StringUTF16", "charAt", "([BI)C"⟩ : MethodName)) hown (mvT hZ (hw _ (List.mem_of_getElem? (i := 80) rfl))) (mvT hZ (hw _ (List.mem_of_getElem? (i := 81) rfl))) (mvT hZ (hw _ (List.mem_of_getElem? (i := 24) rfl))) (mvT hZ (hw _ (List.mem_of_getElem? (i := 82) rfl))) (by decide) (backOf (W := 0) (rmua l Z aa hw [] b p1 wc sx kb z vs x y h0 n0 Z0 BW O0 V_b hlo hhi hi0 hi1 hg0 hg1) hZ (hw _ (List.mem_of_getElem? (i := 82) rfl)) (hw _ (List.mem_of_getElem? (i := 24) rfl)) (by decide) (by decide)) (g := (mkF m 21 #[.val (.ref a0), .val (.int p1)] [(.int p1), (.ref b)])) rfl (by rw [hml]; rfl) (argsL := [(.ref b), (.int p1)]) (rest := []) (lenOf pdcU_1 rfl) rfl (by show 2 * 0 + _ ≤ _; exact Nat.le_of_eq rfl) (hb hby dcU_21) (fun _ _ => ⟨rfl, ecU3, (by decide : 0 + 0 ≤ _), (by decide : 0 + 0 ≤ _)⟩)
  dsimp only [Pt.U, Pt.locs, Pt.cells, Pt.slots] at XcUc4 lcUc4 ycUc4 zcUc4 stcUc4 hQcUc4
  subst lcUc4 ycUc4 zcUc4
  obtain ⟨rfl, NcUc4q, ecUc4⟩ := hQcUc4
  have NcUc4 := Fr.app NcUc1 NcUc4q
  obtain ⟨lccUt5, XcUc4, NcUc4⟩ : ∃ lc, Stand p l e ({ frames := 4, cells := 0, slots := 0, locals := 53 } : Room) s m #[(.ref a0), (.int p1)] below meth c TcUc4 lc 0 0 ∧ Fr n0 lc := ⟨_, XcUc4, NcUc4⟩
  refine stp (fun t k => stcUc4 t k) ?_
  show W (TcUc4.setTop (mkF m 24 #[.val (.ref a0), .val (.int p1)] [(.int (fua x y))]))
  show W (TcUc4.setTop (mkF m 24 #[.val (.ref a0), .val (.int p1)] [(.int (fua x y))]))
  rw [← hW]
  exact own_retN XcUc4 hx Bd.notSynchronized Bd.returns (w := (nar .char (fua x y))) (by simp) (hb hby dcU_24) rfl (by show QcU Z a0 p1 wc sx b kb z vs x y h0 n0 _ TcUc4.heap _; rw [ecUc4]; exact ⟨rfl, NcUc4, rfl⟩) (by decide) (by decide)
theorem own_narC {c : Int32} (h0 : 0 ≤ c.toInt) (h1 : c.toInt < 65536) : nar .char c = c := own_i2c h0 h1
theorem own_fcL {c : Int32} (h0 : 0 ≤ c.toInt) (h1 : c.toInt < 256) : fcL (own_b c) = c := by
  have e : flc (own_b c) = c := by
    show nar .char (own_cL (own_b c)) = c
    rw [own_decL h0 h1, own_narC h0 (by omega)]
  show nar .char (flc (own_b c)) = c
  rw [e, own_narC h0 (by omega)]
theorem own_fgc {c : Int32} (h0 : 0 ≤ c.toInt) (h1 : c.toInt < 65536) : fgc (own_lo c) (own_hi c) = c := by
  show nar .char (own_cU (own_lo c) (own_hi c)) = c
  rw [own_decU h0 h1, own_narC h0 h1]
theorem own_fcU {c : Int32} (h0 : 0 ≤ c.toInt) (h1 : c.toInt < 65536) : fcU (own_lo c) (own_hi c) = c := by
  have e : fua (own_lo c) (own_hi c) = c := by
    show nar .char (fgc (own_lo c) (own_hi c)) = c
    rw [own_fgc h0 h1, own_narC h0 h1]
  show nar .char (fua (own_lo c) (own_hi c)) = c
  rw [e, own_narC h0 h1]
theorem own_u0 (g : Nat → Int32) (i : Nat) : own_u g (2 * i) = own_lo (g i) := by
  unfold own_u
  rw [if_pos (by omega), show 2 * i / 2 = i from by omega]
theorem own_u1 (g : Nat → Int32) (i : Nat) : own_u g (2 * i + 1) = own_hi (g i) := by
  unfold own_u
  rw [if_neg (by omega), show (2 * i + 1) / 2 = i from by omega]
/-- charAt on a String whose chars are known -/
def QcA (Z : State) (a0_ : Addr) (p1 : Int32) (g : Nat → Int32) (i : Nat) (h0 : Heap) (n0 : Nat) (v : Option Value) (h : Heap) (L : List Loc) : Prop := v = some (.int (g i)) ∧ Fr n0 L ∧ h = h0
theorem rmcA (l : Launch) (Z : State) (aa : Array Value) (hw : ∀ d ∈ tables_1, d.before aa Z = true) (ws : List Jvm.Cond) (a0_ : Addr) (p1 : Int32) (wc : Int32) (sx : Value) (b : Addr) (n : Nat) (g : Nat → Int32) (i : Nat) (h0 : Heap) (n0 : Nat) (Z0 : n0 ≤ h0.size) (BW : OwnW Z wc sx) (O0 : Old Z n0 h0) (S : OwnStr Z h0 a0_ b n g) (hn : n ≤ 4000) (hch : ∀ j, j < n → 0 ≤ (g j).toInt ∧ (g j).toInt < 65536) (hi : p1.toInt = i) (hlt : i < n) :
    MetFree l (⟨"java/lang/String", "charAt", "(I)C"⟩ : MethodName) (head1 (Jvm.Cond.code (⟨"java/lang/String", "charAt", "(I)C"⟩ : MethodName) jdk_42_method_56_code 2 (some .char) :: ws) ({ frames := 4, cells := 0, slots := 0, locals := 53 } : Room)) (fun a U => a = #[(.ref a0_), (.int p1)] ∧ Z.Warmed39 U.vm ∧ U.heap = h0) (fun _ _ _ _ _ => True) (fun _ U o U' => ∃ v L, o = .returned v ∧ QcA Z a0_ p1 g i h0 n0 v U'.heap L ∧ FrameEnd U o U' L ({ frames := 4, cells := 0, slots := 0, locals := 53 } : Room).cells ({ frames := 4, cells := 0, slots := 0, locals := 53 } : Room).slots) := by
  obtain ⟨E, F, ⟨C, q, k, V⟩ | ⟨C, k, V⟩⟩ := S
  · have hz := own_ofNat (n := n) (by omega)
    refine own_mono (rmcL l Z aa hw ws a0_ p1 wc sx b k (Int32.ofNat n) (own_vs n fun j => own_b (g j)) (own_b (g i)) h0 n0 Z0 BW O0 E F C V (own_nn hi) ((own_lt32 hi hz).mpr hlt) (by rw [own_clamp hi, own_vsGet hlt])) ?_
    rintro a s o t ⟨v, L, ho, ⟨hv, N, hh⟩, hF⟩
    exact ⟨v, L, ho, ⟨by rw [hv, own_fcL (hch i hlt).1 (q i hlt)], N, hh⟩, hF⟩
  · have e0 := own_shl1 hi (by omega)
    have e1 := own_inc e0 (by omega)
    have hz := own_ofNat (n := 2 * n) (by omega)
    refine own_mono (rmcU l Z aa hw ws a0_ p1 wc sx b k (Int32.ofNat (2 * n)) (own_vs (2 * n) (own_u g)) (own_lo (g i)) (own_hi (g i)) h0 n0 Z0 BW O0 E F C V (own_nn hi) (by show p1 < Int32.ofNat (2 * n) >>> ((1 : Int32) &&& 31); rw [own_shr1 (by omega)]; exact (own_lt32 hi (own_ofNat (by omega))).mpr hlt) ⟨own_nn e0, (own_lt32 e0 hz).mpr (by omega)⟩ ⟨own_nn e1, (own_lt32 e1 hz).mpr (by omega)⟩ (by rw [own_clamp e0, own_vsGet (by omega), own_u0]) (by rw [own_clamp e1, own_vsGet (by omega), own_u1])) ?_
    rintro a s o t ⟨v, L, ho, ⟨hv, N, hh⟩, hF⟩
    exact ⟨v, L, ho, ⟨by rw [hv, own_fcU (hch i hlt).1 (hch i hlt).2], N, hh⟩, hF⟩
theorem dln_0 : decode jdk_42_method_54_code 0 = .ok (.aload_n 0, 1) := by decide +kernel
theorem dln_1 : decode jdk_42_method_54_code 1 = .ok (.getfield 9, 3) := by decide +kernel
theorem dln_4 : decode jdk_42_method_54_code 4 = .ok (.arraylength, 1) := by decide +kernel
theorem dln_5 : decode jdk_42_method_54_code 5 = .ok (.aload_n 0, 1) := by decide +kernel
theorem dln_6 : decode jdk_42_method_54_code 6 = .ok (.invokevirtual 335, 3) := by decide +kernel
theorem dln_9 : decode jdk_42_method_54_code 9 = .ok (.ishr, 1) := by decide +kernel
theorem dln_10 : decode jdk_42_method_54_code 10 = .ok (.ireturn, 1) := by decide +kernel
theorem pnln : plainName "java/lang/String" = true := by first | (simp [plainName, overriddenIn]; done) | decide +kernel
theorem pdln_0 : parseMethodDescriptor "()B" = some ⟨[], some .byte⟩ := by decide +kernel
theorem efln (m : MethodId) (a0 : Addr) : entryFrame m #[(.ref a0)] 1 = mkF m 0 #[.val (.ref a0)] [] := by first | (simp [entryFrame, mkF, argsToLocals, Value.category]; done) | rfl
def fln (z : Int32) (cd : Int32) : Int32 := (z >>> ((fco cd) &&& 31))
def Qln (Z : State) (a0 : Addr) (wc : Int32) (sx : Value) (cd : Int32) (b : Addr) (kb : ClassId) (z : Int32) (vs : List Value) (h0 : Heap) (n0 : Nat) (v : Option Value) (h : Heap) (L : List Loc) : Prop := v = some (.int (fln z cd)) ∧ Fr n0 L ∧ h = h0
set_option maxRecDepth 65536 in
set_option maxHeartbeats 40000000 in
theorem rmln (l : Launch) (Z : State) (aa : Array Value) (hw : ∀ d ∈ tables_1, d.before aa Z = true) (ws : List Jvm.Cond) (a0 : Addr) (wc : Int32) (sx : Value) (cd : Int32) (b : Addr) (kb : ClassId) (z : Int32) (vs : List Value) (h0 : Heap) (n0 : Nat) (Z0 : n0 ≤ h0.size) (BW : OwnW Z wc sx) (O0 : Old Z n0 h0) (E_a0 : Exa Z h0 a0 "java/lang/String") (F_value_a0 : Fld Z h0 a0 "java/lang/String" "value" "[B" (.ref b)) (F_coder_a0 : Fld Z h0 a0 "java/lang/String" "coder" "B" (.int cd)) (V_b : Arv Z h0 b kb .byte z vs (.int (0 : Int32))) :
    MetFree l (⟨"java/lang/String", "length", "()I"⟩ : MethodName) (head1 (Jvm.Cond.code (⟨"java/lang/String", "length", "()I"⟩ : MethodName) jdk_42_method_54_code 1 (some .int) :: ws) ({ frames := 1, cells := 0, slots := 0, locals := 13 } : Room)) (fun a U => a = #[(.ref a0)] ∧ Z.Warmed39 U.vm ∧ U.heap = h0) (fun _ _ _ _ _ => True) (fun _ U o U' => ∃ v L, o = .returned v ∧ Qln Z a0 wc sx cd b kb z vs h0 n0 v U'.heap L ∧ FrameEnd U o U' L ({ frames := 1, cells := 0, slots := 0, locals := 13 } : Room).cells ({ frames := 1, cells := 0, slots := 0, locals := 13 } : Room).slots) := by
  refine MetFree.of_bodySF (plainFor_of_name pnln) hisR ?_
  intro p e s m args below meth c s₁ Bd hml0 hP hK
  obtain ⟨rfl, hZ, hh⟩ := hP
  have hx := Bd.exec
  have hby := Bd.bytes
  have hml : c.maxLocals = 1 := hml0
  have hown : s.vm.findClass "java/lang/String" = some m.cls := findClass_of_methodNamed Bd.named
  have hnm := (name_of_methodNamed Bd.named Bd.method).1
  have X0 : Stand p l e ({ frames := 1, cells := 0, slots := 0, locals := 13 } : Room) s m #[(.ref a0)] below meth c s₁ [] 0 0 := Stand.of_body Bd
  have e0 : s₁.heap = h0 := by rw [← hh, Bd.state]; rfl
  have N0 := Fr.nil n0
  show OwnEnd p e below s (fun v h L => Qln Z a0 wc sx cd b kb z vs h0 n0 v h L) ({ frames := 1, cells := 0, slots := 0, locals := 13 } : Room).cells ({ frames := 1, cells := 0, slots := 0, locals := 13 } : Room).slots (s₁.setTop (entryFrame m #[(.ref a0)] 1))
  rw [efln m a0]
  generalize hW : OwnEnd p e below s (fun v h L => Qln Z a0 wc sx cd b kb z vs h0 n0 v h L) ({ frames := 1, cells := 0, slots := 0, locals := 13 } : Room).cells ({ frames := 1, cells := 0, slots := 0, locals := 13 } : Room).slots = W
  have stp : ∀ {A B : State}, (∀ t, Steps p.tables e below B t → Steps p.tables e below A t) → W B → W A := by subst hW; exact own_step
  obtain ⟨S_cs, hcs, S_si, hr_sx, S_ad, S_hi, S_lo⟩ := id BW
  show W (s₁.setTop (mkF m 0 #[.val (.ref a0)] []))
  refine stp (fun t k => XS.aloadN X0.here hx rfl (hb hby dln_0) rfl rfl k) ?_
  show W (s₁.setTop (mkF m 1 #[.val (.ref a0)] [(.ref a0)]))
  obtain ⟨Tln1, Xln1, eln1, stln1⟩ := getF X0 hx hZ hown (host := "") (Or.inl (hw _ (List.mem_of_getElem? (i := 54) rfl))) Via.refl e0 F_value_a0 (g := (mkF m 1 #[.val (.ref a0)] [(.ref a0)])) rfl rfl (hb hby dln_1)
  refine stp (fun t k => stln1 t k) ?_
  show W (Tln1.setTop (mkF m 4 #[.val (.ref a0)] [(.ref b)]))
  obtain ⟨clln2, Arln2, qkln2, qsln2, qnln2, qhln2, qgln2⟩ := id V_b
  refine stp (fun t k => Xln1.arraylength hx (by rw [eln1]; exact Arln2.1) (State.isArrayOf_alike hZ.alike Arln2.2.1) (g := (mkF m 4 #[.val (.ref a0)] [(.ref b)])) rfl rfl (hb hby dln_4) _ k) ?_
  rw [len_of qsln2 qnln2]
  show W (Tln1.setTop (mkF m 5 #[.val (.ref a0)] [(.int z)]))
  refine stp (fun t k => XS.aloadN Xln1.here hx rfl (hb hby dln_5) rfl rfl k) ?_
  show W (Tln1.setTop (mkF m 6 #[.val (.ref a0)] [(.ref a0), (.int z)]))
  obtain ⟨cqlnc3, kqlnc3, qlnc3a, qlnc3b, qlnc3c⟩ := isOf hZ eln1 E_a0
  obtain ⟨_, _, ⟨Tlnc3, Llnc3, klnc3, nlnc3⟩, -, Xlnc3, ⟨Lclnc3, hQlnc3, llnc3, ylnc3, zlnc3⟩, stlnc3⟩ := Xln1.virtualBack hx (y := (⟨"java/lang/String", "coder", "()B"⟩ : MethodName)) (z := (⟨"java/lang/String", "coder", "()B"⟩ : MethodName)) hown (mvT hZ (hw _ (List.mem_of_getElem? (i := 65) rfl))) (mvT hZ (hw _ (List.mem_of_getElem? (i := 66) rfl))) (notFace_of_selects (args := #[]) (mvT hZ (hw _ (List.mem_of_getElem? (i := 68) rfl)))) (mvT hZ (hw _ (List.mem_of_getElem? (i := 68) rfl))) (mvT hZ (hw _ (List.mem_of_getElem? (i := 67) rfl))) (by decide) (backOf (W := 1) (rmco l Z aa hw [] a0 wc sx cd h0 n0 Z0 BW O0 F_coder_a0) hZ (hw _ (List.mem_of_getElem? (i := 69) rfl)) (hw _ (List.mem_of_getElem? (i := 10) rfl)) (by decide) (by decide)) qlnc3a qlnc3c (g := (mkF m 6 #[.val (.ref a0)] [(.ref a0), (.int z)])) rfl (by rw [hml]; rfl) (Steps.refl _) (argsL := []) (rest := [(.int z)]) (lenOf pdln_0 rfl) rfl (by show 2 * 0 + _ ≤ _; exact Nat.le_of_eq rfl) (hb hby dln_6) (fun _ _ => ⟨rfl, eln1, (by decide : 0 + 0 ≤ _), (by decide : 0 + 0 ≤ _)⟩)
  dsimp only [Pt.U, Pt.locs, Pt.cells, Pt.slots] at Xlnc3 llnc3 ylnc3 zlnc3 stlnc3 hQlnc3
  subst llnc3 ylnc3 zlnc3
  obtain ⟨rfl, Nlnc3q, elnc3⟩ := hQlnc3
  have Nlnc3 := Fr.app N0 Nlnc3q
  obtain ⟨lclnt4, Xlnc3, Nlnc3⟩ : ∃ lc, Stand p l e ({ frames := 1, cells := 0, slots := 0, locals := 13 } : Room) s m #[(.ref a0)] below meth c Tlnc3 lc 0 0 ∧ Fr n0 lc := ⟨_, Xlnc3, Nlnc3⟩
  refine stp (fun t k => stlnc3.trans k) ?_
  show W (Tlnc3.setTop (mkF m 9 #[.val (.ref a0)] [(.int (fco cd)), (.int z)]))
  refine stp (fun t k => XS.ishr Xlnc3.here hx rfl (hb hby dln_9) rfl k) ?_
  show W (Tlnc3.setTop (mkF m 10 #[.val (.ref a0)] [(.int (z >>> ((fco cd) &&& 31)))]))
  show W (Tlnc3.setTop (mkF m 10 #[.val (.ref a0)] [(.int (z >>> ((fco cd) &&& 31)))]))
  rw [← hW]
  exact own_retI Xlnc3 hx Bd.notSynchronized Bd.returns (hb hby dln_10) (by show Qln Z a0 wc sx cd b kb z vs h0 n0 _ Tlnc3.heap _; rw [elnc3]; exact ⟨rfl, Nlnc3, rfl⟩) (by decide) (by decide)
theorem own_fln0 (z : Int32) : fln z (0 : Int32) = z := by
  show z >>> (nar .byte (0 : Int32) &&& 31) = z
  exact own_shr0 z
theorem own_fln1 {n : Nat} (hn : n ≤ 1000000) : fln (Int32.ofNat (2 * n)) (1 : Int32) = Int32.ofNat n := by
  show Int32.ofNat (2 * n) >>> (nar .byte (1 : Int32) &&& 31) = Int32.ofNat n
  exact own_shr1 hn
def QlA (Z : State) (a0_ : Addr) (n : Nat) (h0 : Heap) (n0 : Nat) (v : Option Value) (h : Heap) (L : List Loc) : Prop := v = some (.int (Int32.ofNat n)) ∧ Fr n0 L ∧ h = h0
theorem rmlA (l : Launch) (Z : State) (aa : Array Value) (hw : ∀ d ∈ tables_1, d.before aa Z = true) (ws : List Jvm.Cond) (a0_ : Addr) (wc : Int32) (sx : Value) (b : Addr) (n : Nat) (g : Nat → Int32) (h0 : Heap) (n0 : Nat) (Z0 : n0 ≤ h0.size) (BW : OwnW Z wc sx) (O0 : Old Z n0 h0) (S : OwnStr Z h0 a0_ b n g) (hn : n ≤ 4000) :
    MetFree l (⟨"java/lang/String", "length", "()I"⟩ : MethodName) (head1 (Jvm.Cond.code (⟨"java/lang/String", "length", "()I"⟩ : MethodName) jdk_42_method_54_code 1 (some .int) :: ws) ({ frames := 1, cells := 0, slots := 0, locals := 13 } : Room)) (fun a U => a = #[(.ref a0_)] ∧ Z.Warmed39 U.vm ∧ U.heap = h0) (fun _ _ _ _ _ => True) (fun _ U o U' => ∃ v L, o = .returned v ∧ QlA Z a0_ n h0 n0 v U'.heap L ∧ FrameEnd U o U' L ({ frames := 1, cells := 0, slots := 0, locals := 13 } : Room).cells ({ frames := 1, cells := 0, slots := 0, locals := 13 } : Room).slots) := by
  obtain ⟨E, F, ⟨C, q, k, V⟩ | ⟨C, k, V⟩⟩ := S
  · refine own_mono (rmln l Z aa hw ws a0_ wc sx (0 : Int32) b k (Int32.ofNat n) (own_vs n fun j => own_b (g j)) h0 n0 Z0 BW O0 E F C V) ?_
    rintro a s o t ⟨v, L, ho, ⟨hv, N, hh⟩, hF⟩
    exact ⟨v, L, ho, ⟨by rw [hv, own_fln0], N, hh⟩, hF⟩
  · refine own_mono (rmln l Z aa hw ws a0_ wc sx (1 : Int32) b k (Int32.ofNat (2 * n)) (own_vs (2 * n) (own_u g)) h0 n0 Z0 BW O0 E F C V) ?_
    rintro a s o t ⟨v, L, ho, ⟨hv, N, hh⟩, hF⟩
    exact ⟨v, L, ho, ⟨by rw [hv, own_fln1 (by omega)], N, hh⟩, hF⟩
theorem own_c256 {c : Int32} (h : ¬ ((255 : Int32) < c)) : c.toInt < 256 := by
  rw [Int32.lt_iff_toInt_lt, show (255 : Int32).toInt = 255 from by decide] at h; omega
theorem own_c255 {c : Int32} (h : (255 : Int32) < c) : 256 ≤ c.toInt := by
  rw [Int32.lt_iff_toInt_lt, show (255 : Int32).toInt = 255 from by decide] at h; omega
theorem own_step1 (n i : Nat) (g : Nat → Int32) : (own_vs n fun j => if j < i then own_b (g j) else (0 : Int32)).set i (.int (own_b (g i))) = own_vs n fun j => if j < i + 1 then own_b (g j) else (0 : Int32) := by
  rw [own_vsSet]
  apply own_vsCongr
  intro j _
  by_cases h : j = i
  · subst h; simp
  · by_cases h2 : j < i
    · simp [h, h2, Nat.lt_succ_of_lt h2]
    · have h3 : ¬ j < i + 1 := by omega
      simp [h, h2, h3]
theorem dk1_0 : decode jdk_52_method_21_code 0 = .ok (.iconst 0, 1) := by decide +kernel
theorem dk1_1 : decode jdk_52_method_21_code 1 = .ok (.istore 5, 2) := by decide +kernel
theorem dk1_3 : decode jdk_52_method_21_code 3 = .ok (.iload 5, 2) := by decide +kernel
theorem dk1_5 : decode jdk_52_method_21_code 5 = .ok (.iload 4, 2) := by decide +kernel
theorem dk1_7 : decode jdk_52_method_21_code 7 = .ok (.if_icmp .ge 37, 3) := by decide +kernel
theorem dk1_10 : decode jdk_52_method_21_code 10 = .ok (.aload_n 0, 1) := by decide +kernel
theorem dk1_11 : decode jdk_52_method_21_code 11 = .ok (.iload_n 1, 1) := by decide +kernel
theorem dk1_12 : decode jdk_52_method_21_code 12 = .ok (.caload, 1) := by decide +kernel
theorem dk1_13 : decode jdk_52_method_21_code 13 = .ok (.istore 6, 2) := by decide +kernel
theorem dk1_15 : decode jdk_52_method_21_code 15 = .ok (.iload 6, 2) := by decide +kernel
theorem dk1_17 : decode jdk_52_method_21_code 17 = .ok (.sipush 255, 3) := by decide +kernel
theorem dk1_20 : decode jdk_52_method_21_code 20 = .ok (.if_icmp .le 6, 3) := by decide +kernel
theorem dk1_23 : decode jdk_52_method_21_code 23 = .ok (.iload 5, 2) := by decide +kernel
theorem dk1_25 : decode jdk_52_method_21_code 25 = .ok (.ireturn, 1) := by decide +kernel
theorem dk1_26 : decode jdk_52_method_21_code 26 = .ok (.aload_n 2, 1) := by decide +kernel
theorem dk1_27 : decode jdk_52_method_21_code 27 = .ok (.iload_n 3, 1) := by decide +kernel
theorem dk1_28 : decode jdk_52_method_21_code 28 = .ok (.iload 6, 2) := by decide +kernel
theorem dk1_30 : decode jdk_52_method_21_code 30 = .ok (.i2b, 1) := by decide +kernel
theorem dk1_31 : decode jdk_52_method_21_code 31 = .ok (.bastore, 1) := by decide +kernel
theorem dk1_32 : decode jdk_52_method_21_code 32 = .ok (.iinc 1 1, 3) := by decide +kernel
theorem dk1_35 : decode jdk_52_method_21_code 35 = .ok (.iinc 3 1, 3) := by decide +kernel
theorem dk1_38 : decode jdk_52_method_21_code 38 = .ok (.iinc 5 1, 3) := by decide +kernel
theorem dk1_41 : decode jdk_52_method_21_code 41 = .ok (.goto (-38), 3) := by decide +kernel
theorem dk1_44 : decode jdk_52_method_21_code 44 = .ok (.iload 4, 2) := by decide +kernel
theorem dk1_46 : decode jdk_52_method_21_code 46 = .ok (.ireturn, 1) := by decide +kernel
theorem pnk1 : plainName "java/lang/StringUTF16" = true := by first | (simp [plainName, overriddenIn]; done) | decide +kernel
theorem efk1 (m : MethodId) (a0 : Addr) (p1 : Int32) (a2 : Addr) (p3 : Int32) (p4 : Int32) : entryFrame m #[(.ref a0), (.int p1), (.ref a2), (.int p3), (.int p4)] 7 = mkF m 0 #[.val (.ref a0), .val (.int p1), .val (.ref a2), .val (.int p3), .val (.int p4), .unset, .unset] [] := by first | (simp [entryFrame, mkF, argsToLocals, Value.category]; done) | rfl
def Qk1 (Z : State) (a0 : Addr) (p1 : Int32) (a2 : Addr) (p3 : Int32) (p4 : Int32) (wc : Int32) (sx : Value) (n : Nat) (g : Nat → Int32) (ka : ClassId) (kb : ClassId) (h0 : Heap) (n0 : Nat) (v : Option Value) (h : Heap) (L : List Loc) : Prop := ∃ r : Int32, v = some (.int r) ∧ Fr n0 L ∧ Keep h0 h [a2] ∧ ((r = (Int32.ofNat n) ∧ (∀ j, j < n → (g j).toInt < 256) ∧ Arv Z h a2 kb .byte (Int32.ofNat n) (own_vs n fun j => own_b (g j)) (.int (0 : Int32))) ∨ ∃ i, i < n ∧ r.toInt = (i : Int) ∧ 256 ≤ (g i).toInt)
set_option maxRecDepth 65536 in
set_option maxHeartbeats 40000000 in
theorem rmk1 (l : Launch) (Z : State) (aa : Array Value) (hw : ∀ d ∈ tables_1, d.before aa Z = true) (ws : List Jvm.Cond) (a0 : Addr) (p1 : Int32) (a2 : Addr) (p3 : Int32) (p4 : Int32) (wc : Int32) (sx : Value) (n : Nat) (g : Nat → Int32) (ka : ClassId) (kb : ClassId) (h0 : Heap) (n0 : Nat) (Z0 : n0 ≤ h0.size) (BW : OwnW Z wc sx) (O0 : Old Z n0 h0) (hn : n ≤ 6) (hch : ∀ j, j < n → 0 ≤ (g j).toInt ∧ (g j).toInt < 65536) (V_a0 : Arv Z h0 a0 ka .char (Int32.ofNat n) (own_vs n g) (.int (0 : Int32))) (V_a2 : Arv Z h0 a2 kb .byte (Int32.ofNat n) (own_vs n fun _ => (0 : Int32)) (.int (0 : Int32))) (ne_a0_a2 : a0 ≠ a2) (g_a2 : n0 ≤ a2) (hp1 : p1 = (0 : Int32)) (hp3 : p3 = (0 : Int32)) (hp4 : p4 = (Int32.ofNat n)) :
    MetFree l (⟨"java/lang/StringUTF16", "compress", "([CI[BII)I"⟩ : MethodName) (head1 (Jvm.Cond.code (⟨"java/lang/StringUTF16", "compress", "([CI[BII)I"⟩ : MethodName) jdk_52_method_21_code 7 (some .int) :: ws) ({ frames := 0, cells := 0, slots := 0, locals := 0 } : Room)) (fun a U => a = #[(.ref a0), (.int p1), (.ref a2), (.int p3), (.int p4)] ∧ Z.Warmed39 U.vm ∧ U.heap = h0) (fun _ _ _ _ _ => True) (fun _ U o U' => ∃ v L, o = .returned v ∧ Qk1 Z a0 p1 a2 p3 p4 wc sx n g ka kb h0 n0 v U'.heap L ∧ FrameEnd U o U' L ({ frames := 0, cells := 0, slots := 0, locals := 0 } : Room).cells ({ frames := 0, cells := 0, slots := 0, locals := 0 } : Room).slots) := by
  refine MetFree.of_bodySF (plainFor_of_name pnk1) hisR ?_
  intro p e s m args below meth c s₁ Bd hml0 hP hK
  obtain ⟨rfl, hZ, hh⟩ := hP
  have hx := Bd.exec
  have hby := Bd.bytes
  have hml : c.maxLocals = 7 := hml0
  have hown : s.vm.findClass "java/lang/StringUTF16" = some m.cls := findClass_of_methodNamed Bd.named
  have hnm := (name_of_methodNamed Bd.named Bd.method).1
  have X0 : Stand p l e ({ frames := 0, cells := 0, slots := 0, locals := 0 } : Room) s m #[(.ref a0), (.int p1), (.ref a2), (.int p3), (.int p4)] below meth c s₁ [] 0 0 := Stand.of_body Bd
  have e0 : s₁.heap = h0 := by rw [← hh, Bd.state]; rfl
  have N0 := Fr.nil n0
  show OwnEnd p e below s (fun v h L => Qk1 Z a0 p1 a2 p3 p4 wc sx n g ka kb h0 n0 v h L) ({ frames := 0, cells := 0, slots := 0, locals := 0 } : Room).cells ({ frames := 0, cells := 0, slots := 0, locals := 0 } : Room).slots (s₁.setTop (entryFrame m #[(.ref a0), (.int p1), (.ref a2), (.int p3), (.int p4)] 7))
  rw [efk1 m a0 p1 a2 p3 p4]
  generalize hW : OwnEnd p e below s (fun v h L => Qk1 Z a0 p1 a2 p3 p4 wc sx n g ka kb h0 n0 v h L) ({ frames := 0, cells := 0, slots := 0, locals := 0 } : Room).cells ({ frames := 0, cells := 0, slots := 0, locals := 0 } : Room).slots = W
  have stp : ∀ {A B : State}, (∀ t, Steps p.tables e below B t → Steps p.tables e below A t) → W B → W A := by subst hW; exact own_step
  obtain ⟨S_cs, hcs, S_si, hr_sx, S_ad, S_hi, S_lo⟩ := id BW
  have hz := own_ofNat (n := n) (by omega)
  subst hp1 hp3 hp4
  show W (s₁.setTop (mkF m 0 #[.val (.ref a0), .val (.int (0 : Int32)), .val (.ref a2), .val (.int (0 : Int32)), .val (.int (Int32.ofNat n)), .unset, .unset] []))
  refine stp (fun t k => XS.iconst X0.here hx rfl (hb hby dk1_0) k) ?_
  show W (s₁.setTop (mkF m 1 #[.val (.ref a0), .val (.int (0 : Int32)), .val (.ref a2), .val (.int (0 : Int32)), .val (.int (Int32.ofNat n)), .unset, .unset] [(.int (0 : Int32))]))
  refine stp (fun t k => XS.istore X0.here hx rfl (hb hby dk1_1) rfl (l' := #[.val (.ref a0), .val (.int (0 : Int32)), .val (.ref a2), .val (.int (0 : Int32)), .val (.int (Int32.ofNat n)), .val (.int (0 : Int32)), .unset]) rfl k) ?_
  have LP : ∀ (r i : Nat) (x1 : Int32) (x3 : Int32) (x5 : Int32) (s6 : Slot) (T' : State) (lc : List Loc) (h' : Heap) (hir : i + r = n) (hx1 : x1.toInt = (i : Int)) (hx3 : x3.toInt = (i : Int)) (hx5 : x5.toInt = (i : Int)) (hs6 : One s6) (hlat : ∀ j, j < i → (g j).toInt < 256) (XL : Stand p l e ({ frames := 0, cells := 0, slots := 0, locals := 0 } : Room) s m #[(.ref a0), (.int (0 : Int32)), (.ref a2), (.int (0 : Int32)), (.int (Int32.ofNat n))] below meth c T' lc 0 0) (eL : T'.heap = h') (NL : Fr n0 lc) (KL : Keep h0 h' [a2]) (OL : Old Z n0 h') (V_a0 : Arv Z h' a0 ka .char (Int32.ofNat n) (own_vs n g) (.int (0 : Int32))) (V_a2 : Arv Z h' a2 kb .byte (Int32.ofNat n) (own_vs n fun j => if j < i then own_b (g j) else (0 : Int32)) (.int (0 : Int32))), W (T'.setTop (mkF m 3 #[.val (.ref a0), .val (.int x1), .val (.ref a2), .val (.int x3), .val (.int (Int32.ofNat n)), .val (.int x5), s6] [])) := by
    intro r
    induction r with
    | zero =>
      intro i x1 x3 x5 s6 T' lc h' hir hx1 hx3 hx5 hs6 hlat XL eL NL KL OL V_a0 V_a2
      have ZL : n0 ≤ h'.size := Nat.le_trans Z0 KL.1
      show W (T'.setTop (mkF m 3 #[.val (.ref a0), .val (.int x1), .val (.ref a2), .val (.int x3), .val (.int (Int32.ofNat n)), .val (.int x5), s6] []))
      refine stp (fun t k => XS.iload XL.here hx rfl (hb hby dk1_3) rfl k) ?_
      show W (T'.setTop (mkF m 5 #[.val (.ref a0), .val (.int x1), .val (.ref a2), .val (.int x3), .val (.int (Int32.ofNat n)), .val (.int x5), s6] [(.int x5)]))
      refine stp (fun t k => XS.iload XL.here hx rfl (hb hby dk1_5) rfl k) ?_
      show W (T'.setTop (mkF m 7 #[.val (.ref a0), .val (.int x1), .val (.ref a2), .val (.int x3), .val (.int (Int32.ofNat n)), .val (.int x5), s6] [(.int (Int32.ofNat n)), (.int x5)]))
      refine stp (fun t k => XS.icmpYes XL.here hx rfl (pc0 := 7) (pc' := 44) rfl (hb hby dk1_7) rfl ((flt (fun q => by have := (own_lt32 hx5 hz).mp q; omega)).2.1) (by decide) (by decide) k) ?_
      show W (T'.setTop (mkF m 44 #[.val (.ref a0), .val (.int x1), .val (.ref a2), .val (.int x3), .val (.int (Int32.ofNat n)), .val (.int x5), s6] []))
      refine stp (fun t k => XS.iload XL.here hx rfl (hb hby dk1_44) rfl k) ?_
      show W (T'.setTop (mkF m 46 #[.val (.ref a0), .val (.int x1), .val (.ref a2), .val (.int x3), .val (.int (Int32.ofNat n)), .val (.int x5), s6] [(.int (Int32.ofNat n))]))
      show W (T'.setTop (mkF m 46 #[.val (.ref a0), .val (.int x1), .val (.ref a2), .val (.int x3), .val (.int (Int32.ofNat n)), .val (.int x5), s6] [(.int (Int32.ofNat n))]))
      rw [← hW]
      exact own_retI XL hx Bd.notSynchronized Bd.returns (hb hby dk1_46) (by show Qk1 Z a0 (0 : Int32) a2 (0 : Int32) (Int32.ofNat n) wc sx n g ka kb h0 n0 _ T'.heap _; rw [eL]; exact ⟨(Int32.ofNat n), rfl, NL, KL, Or.inl ⟨rfl, (by obtain rfl : i = n := (by omega); exact hlat), (by obtain rfl : i = n := (by omega); exact own_arvEq (own_vsCongr (fun j hj => if_pos hj)) V_a2)⟩⟩) (by decide) (by decide)
    | succ r ih =>
      intro i x1 x3 x5 s6 T' lc h' hir hx1 hx3 hx5 hs6 hlat XL eL NL KL OL V_a0 V_a2
      have ZL : n0 ≤ h'.size := Nat.le_trans Z0 KL.1
      show W (T'.setTop (mkF m 3 #[.val (.ref a0), .val (.int x1), .val (.ref a2), .val (.int x3), .val (.int (Int32.ofNat n)), .val (.int x5), s6] []))
      refine stp (fun t k => XS.iload XL.here hx rfl (hb hby dk1_3) rfl k) ?_
      show W (T'.setTop (mkF m 5 #[.val (.ref a0), .val (.int x1), .val (.ref a2), .val (.int x3), .val (.int (Int32.ofNat n)), .val (.int x5), s6] [(.int x5)]))
      refine stp (fun t k => XS.iload XL.here hx rfl (hb hby dk1_5) rfl k) ?_
      show W (T'.setTop (mkF m 7 #[.val (.ref a0), .val (.int x1), .val (.ref a2), .val (.int x3), .val (.int (Int32.ofNat n)), .val (.int x5), s6] [(.int (Int32.ofNat n)), (.int x5)]))
      refine stp (fun t k => XS.icmpNo XL.here hx rfl (hb hby dk1_7) rfl ((tlt ((own_lt32 hx5 hz).mpr (by omega))).2.1) k) ?_
      show W (T'.setTop (mkF m 10 #[.val (.ref a0), .val (.int x1), .val (.ref a2), .val (.int x3), .val (.int (Int32.ofNat n)), .val (.int x5), s6] []))
      refine stp (fun t k => XS.aloadN XL.here hx rfl (hb hby dk1_10) rfl rfl k) ?_
      show W (T'.setTop (mkF m 11 #[.val (.ref a0), .val (.int x1), .val (.ref a2), .val (.int x3), .val (.int (Int32.ofNat n)), .val (.int x5), s6] [(.ref a0)]))
      refine stp (fun t k => XS.iloadN XL.here hx rfl (hb hby dk1_11) rfl k) ?_
      show W (T'.setTop (mkF m 12 #[.val (.ref a0), .val (.int x1), .val (.ref a2), .val (.int x3), .val (.int (Int32.ofNat n)), .val (.int x5), s6] [(.int x1), (.ref a0)]))
      obtain ⟨clk11, Ark11, qkk11, qsk11, qnk11, qhk11, qgk11⟩ := id V_a0
      have hink11 : ¬ (x1 < 0 ∨ clk11.slots.size ≤ (x1).toNatClampNeg) := inb_of qsk11 ⟨own_nn hx1, (own_lt32 hx1 hz).mpr (by omega)⟩
      have hatk11 : clk11.slots[(x1).toNatClampNeg]? = some (.int (g i)) := qhk11.at hink11 (by rw [own_clamp hx1, own_vsGet (by omega)])
      refine stp (fun t k => XL.caload hx (j := x1) (v := (.int (g i))) (by rw [eL]; exact Ark11.1) (State.isArrayOf_alike hZ.alike Ark11.2.1) Ark11.2.2 hink11 hatk11 (g := (mkF m 12 #[.val (.ref a0), .val (.int x1), .val (.ref a2), .val (.int x3), .val (.int (Int32.ofNat n)), .val (.int x5), s6] [(.int x1), (.ref a0)])) rfl rfl (hb hby dk1_12) _ k) ?_
      show W (T'.setTop (mkF m 13 #[.val (.ref a0), .val (.int x1), .val (.ref a2), .val (.int x3), .val (.int (Int32.ofNat n)), .val (.int x5), s6] [(.int (g i))]))
      refine stp (fun t k => XS.istoreS XL.here hx rfl (hb hby dk1_13) rfl rfl hs6 k) ?_
      show W (T'.setTop (mkF m 15 #[.val (.ref a0), .val (.int x1), .val (.ref a2), .val (.int x3), .val (.int (Int32.ofNat n)), .val (.int x5), .val (.int (g i))] []))
      show W (T'.setTop (mkF m 15 #[.val (.ref a0), .val (.int x1), .val (.ref a2), .val (.int x3), .val (.int (Int32.ofNat n)), .val (.int x5), .val (.int (g i))] []))
      refine stp (fun t k => XS.iload XL.here hx rfl (hb hby dk1_15) rfl k) ?_
      show W (T'.setTop (mkF m 17 #[.val (.ref a0), .val (.int x1), .val (.ref a2), .val (.int x3), .val (.int (Int32.ofNat n)), .val (.int x5), .val (.int (g i))] [(.int (g i))]))
      refine stp (fun t k => XS.sipush XL.here hx rfl (hb hby dk1_17) k) ?_
      show W (T'.setTop (mkF m 20 #[.val (.ref a0), .val (.int x1), .val (.ref a2), .val (.int x3), .val (.int (Int32.ofNat n)), .val (.int x5), .val (.int (g i))] [(.int (255 : Int32)), (.int (g i))]))
      by_cases hck1_2 : (255 : Int32) < (g i)
      · refine stp (fun t k => XS.icmpNo XL.here hx rfl (hb hby dk1_20) rfl ((tlt hck1_2).2.2.2) k) ?_
        show W (T'.setTop (mkF m 23 #[.val (.ref a0), .val (.int x1), .val (.ref a2), .val (.int x3), .val (.int (Int32.ofNat n)), .val (.int x5), .val (.int (g i))] []))
        refine stp (fun t k => XS.iload XL.here hx rfl (hb hby dk1_23) rfl k) ?_
        show W (T'.setTop (mkF m 25 #[.val (.ref a0), .val (.int x1), .val (.ref a2), .val (.int x3), .val (.int (Int32.ofNat n)), .val (.int x5), .val (.int (g i))] [(.int x5)]))
        show W (T'.setTop (mkF m 25 #[.val (.ref a0), .val (.int x1), .val (.ref a2), .val (.int x3), .val (.int (Int32.ofNat n)), .val (.int x5), .val (.int (g i))] [(.int x5)]))
        rw [← hW]
        exact own_retI XL hx Bd.notSynchronized Bd.returns (hb hby dk1_25) (by show Qk1 Z a0 (0 : Int32) a2 (0 : Int32) (Int32.ofNat n) wc sx n g ka kb h0 n0 _ T'.heap _; rw [eL]; exact ⟨x5, rfl, NL, KL, Or.inr ⟨i, by omega, hx5, own_c255 hck1_2⟩⟩) (by decide) (by decide)
      · refine stp (fun t k => XS.icmpYes XL.here hx rfl (pc0 := 20) (pc' := 26) rfl (hb hby dk1_20) rfl ((flt hck1_2).2.2.2) (by decide) (by decide) k) ?_
        show W (T'.setTop (mkF m 26 #[.val (.ref a0), .val (.int x1), .val (.ref a2), .val (.int x3), .val (.int (Int32.ofNat n)), .val (.int x5), .val (.int (g i))] []))
        refine stp (fun t k => XS.aloadN XL.here hx rfl (hb hby dk1_26) rfl rfl k) ?_
        show W (T'.setTop (mkF m 27 #[.val (.ref a0), .val (.int x1), .val (.ref a2), .val (.int x3), .val (.int (Int32.ofNat n)), .val (.int x5), .val (.int (g i))] [(.ref a2)]))
        refine stp (fun t k => XS.iloadN XL.here hx rfl (hb hby dk1_27) rfl k) ?_
        show W (T'.setTop (mkF m 28 #[.val (.ref a0), .val (.int x1), .val (.ref a2), .val (.int x3), .val (.int (Int32.ofNat n)), .val (.int x5), .val (.int (g i))] [(.int x3), (.ref a2)]))
        refine stp (fun t k => XS.iload XL.here hx rfl (hb hby dk1_28) rfl k) ?_
        show W (T'.setTop (mkF m 30 #[.val (.ref a0), .val (.int x1), .val (.ref a2), .val (.int x3), .val (.int (Int32.ofNat n)), .val (.int x5), .val (.int (g i))] [(.int (g i)), (.int x3), (.ref a2)]))
        refine stp (fun t k => XS.i2b XL.here hx rfl (hb hby dk1_30) rfl k) ?_
        show W (T'.setTop (mkF m 31 #[.val (.ref a0), .val (.int x1), .val (.ref a2), .val (.int x3), .val (.int (Int32.ofNat n)), .val (.int x5), .val (.int (g i))] [(.int ((g i).toInt8.toInt32)), (.int x3), (.ref a2)]))
        obtain ⟨clk13, Ark13, qkk13, qsk13, qnk13, qhk13, qgk13⟩ := id V_a2
        have hink13 : ¬ (x3 < 0 ∨ clk13.slots.size ≤ (x3).toNatClampNeg) := inb_of qsk13 ⟨own_nn hx3, (own_lt32 hx3 hz).mpr (by omega)⟩
        obtain ⟨Tk13, hk13, Xk13, ek13, Wk13, stk13⟩ := stB XL hx hZ eL Ark13 (j := x3) hink13 (g := (mkF m 31 #[.val (.ref a0), .val (.int x1), .val (.ref a2), .val (.int x3), .val (.int (Int32.ofNat n)), .val (.int x5), .val (.int (g i))] [(.int ((g i).toInt8.toInt32)), (.int x3), (.ref a2)])) rfl rfl (hb hby dk1_31)
        have V_a2x := Arv.set Ark13 qkk13 qsk13 qnk13 qhk13 qgk13 (fits_nar_byte _) Wk13 i (own_clamp hx3) (by rw [own_vsLen]; omega)
        have Nk13 := Fr.snoc Xk13 NL g_a2
        obtain ⟨lck1t4, Xk13, Nk13⟩ : ∃ lc, Stand p l e ({ frames := 0, cells := 0, slots := 0, locals := 0 } : Room) s m #[(.ref a0), (.int (0 : Int32)), (.ref a2), (.int (0 : Int32)), (.int (Int32.ofNat n))] below meth c Tk13 lc 0 0 ∧ Fr n0 lc := ⟨_, Xk13, Nk13⟩
        replace V_a0 := V_a0.other Wk13 ne_a0_a2
        have Kk13 := KL.wr Wk13 (Or.inl (List.mem_of_getElem? (i := 0) rfl))
        have Zk13 := Nat.le_trans ZL (Keep.of_wr Wk13).1
        have Ok13 := OL.wr Wk13 g_a2
        replace V_a2 : Arv Z hk13 a2 kb .byte (Int32.ofNat n) (own_vs n fun j => if j < i + 1 then own_b (g j) else (0 : Int32)) (.int (0 : Int32)) := own_arvEq (own_step1 n i g) V_a2x
        refine stp (fun t k => stk13 t k) ?_
        show W (Tk13.setTop (mkF m 32 #[.val (.ref a0), .val (.int x1), .val (.ref a2), .val (.int x3), .val (.int (Int32.ofNat n)), .val (.int x5), .val (.int (g i))] []))
        refine stp (fun t k => XS.iinc Xk13.here hx rfl (hb hby dk1_32) rfl (l' := #[.val (.ref a0), .val (.int (x1 + (1 : Int32))), .val (.ref a2), .val (.int x3), .val (.int (Int32.ofNat n)), .val (.int x5), .val (.int (g i))]) rfl k) ?_
        show W (Tk13.setTop (mkF m 35 #[.val (.ref a0), .val (.int (x1 + (1 : Int32))), .val (.ref a2), .val (.int x3), .val (.int (Int32.ofNat n)), .val (.int x5), .val (.int (g i))] []))
        refine stp (fun t k => XS.iinc Xk13.here hx rfl (hb hby dk1_35) rfl (l' := #[.val (.ref a0), .val (.int (x1 + (1 : Int32))), .val (.ref a2), .val (.int (x3 + (1 : Int32))), .val (.int (Int32.ofNat n)), .val (.int x5), .val (.int (g i))]) rfl k) ?_
        show W (Tk13.setTop (mkF m 38 #[.val (.ref a0), .val (.int (x1 + (1 : Int32))), .val (.ref a2), .val (.int (x3 + (1 : Int32))), .val (.int (Int32.ofNat n)), .val (.int x5), .val (.int (g i))] []))
        refine stp (fun t k => XS.iinc Xk13.here hx rfl (hb hby dk1_38) rfl (l' := #[.val (.ref a0), .val (.int (x1 + (1 : Int32))), .val (.ref a2), .val (.int (x3 + (1 : Int32))), .val (.int (Int32.ofNat n)), .val (.int (x5 + (1 : Int32))), .val (.int (g i))]) rfl k) ?_
        show W (Tk13.setTop (mkF m 41 #[.val (.ref a0), .val (.int (x1 + (1 : Int32))), .val (.ref a2), .val (.int (x3 + (1 : Int32))), .val (.int (Int32.ofNat n)), .val (.int (x5 + (1 : Int32))), .val (.int (g i))] []))
        refine stp (fun t k => XS.goto Xk13.here hx rfl (pc0 := 41) (pc' := 3) rfl (hb hby dk1_41) (by decide) (by decide) k) ?_
        exact ih (i + 1) _ _ _ _ _ _ _ (by omega) (own_inc hx1 (by omega)) (own_inc hx3 (by omega)) (own_inc hx5 (by omega)) (One.val rfl) (fun j hj => (Nat.lt_succ_iff_lt_or_eq.mp hj).elim (hlat j) (fun q => by subst q; exact own_c256 hck1_2)) Xk13 ek13 Nk13 Kk13 Ok13 V_a0 V_a2
  exact LP n 0 (0 : Int32) (0 : Int32) (0 : Int32) .unset _ _ _ (by omega) rfl rfl rfl One.u (fun j hj => absurd hj (Nat.not_lt_zero j)) X0 e0 N0 (Keep.refl h0 [a2]) O0 V_a0 (by simpa using V_a2)
theorem dnl_0 : decode jdk_52_method_3_code 0 = .ok (.iload_n 0, 1) := by decide +kernel
theorem dnl_1 : decode jdk_52_method_3_code 1 = .ok (.ifCond .ge 11, 3) := by decide +kernel
theorem dnl_12 : decode jdk_52_method_3_code 12 = .ok (.iload_n 0, 1) := by decide +kernel
theorem dnl_13 : decode jdk_52_method_3_code 13 = .ok (.ldc 20, 2) := by decide +kernel
theorem dnl_15 : decode jdk_52_method_3_code 15 = .ok (.if_icmp .lt 40, 3) := by decide +kernel
theorem dnl_55 : decode jdk_52_method_3_code 55 = .ok (.iload_n 0, 1) := by decide +kernel
theorem dnl_56 : decode jdk_52_method_3_code 56 = .ok (.iconst 1, 1) := by decide +kernel
theorem dnl_57 : decode jdk_52_method_3_code 57 = .ok (.ishl, 1) := by decide +kernel
theorem dnl_58 : decode jdk_52_method_3_code 58 = .ok (.ireturn, 1) := by decide +kernel
theorem pnnl : plainName "java/lang/StringUTF16" = true := by first | (simp [plainName, overriddenIn]; done) | decide +kernel
theorem efnl (m : MethodId) (p0 : Int32) : entryFrame m #[(.int p0)] 1 = mkF m 0 #[.val (.int p0)] [] := by first | (simp [entryFrame, mkF, argsToLocals, Value.category]; done) | rfl
def fnl (p0 : Int32) : Int32 := (p0 <<< ((1 : Int32) &&& 31))
def Qnl (Z : State) (p0 : Int32) (h0 : Heap) (n0 : Nat) (v : Option Value) (h : Heap) (L : List Loc) : Prop := v = some (.int (fnl p0)) ∧ Fr n0 L ∧ h = h0
set_option maxRecDepth 65536 in
set_option maxHeartbeats 40000000 in
theorem rmnl (l : Launch) (Z : State) (aa : Array Value) (hw : ∀ d ∈ tables_1, d.before aa Z = true) (ws : List Jvm.Cond) (p0 : Int32) (h0 : Heap) (n0 : Nat) (Z0 : n0 ≤ h0.size) (hlo : ¬ p0 < (0 : Int32)) (hhi : p0 < (1073741823 : Int32)) :
    MetFree l (⟨"java/lang/StringUTF16", "newBytesLength", "(I)I"⟩ : MethodName) (head1 (Jvm.Cond.code (⟨"java/lang/StringUTF16", "newBytesLength", "(I)I"⟩ : MethodName) jdk_52_method_3_code 1 (some .int) :: ws) ({ frames := 0, cells := 0, slots := 0, locals := 0 } : Room)) (fun a U => a = #[(.int p0)] ∧ Z.Warmed39 U.vm ∧ U.heap = h0) (fun _ _ _ _ _ => True) (fun _ U o U' => ∃ v L, o = .returned v ∧ Qnl Z p0 h0 n0 v U'.heap L ∧ FrameEnd U o U' L ({ frames := 0, cells := 0, slots := 0, locals := 0 } : Room).cells ({ frames := 0, cells := 0, slots := 0, locals := 0 } : Room).slots) := by
  refine MetFree.of_bodySF (plainFor_of_name pnnl) hisR ?_
  intro p e s m args below meth c s₁ Bd hml0 hP hK
  obtain ⟨rfl, hZ, hh⟩ := hP
  have hx := Bd.exec
  have hby := Bd.bytes
  have hml : c.maxLocals = 1 := hml0
  have hown : s.vm.findClass "java/lang/StringUTF16" = some m.cls := findClass_of_methodNamed Bd.named
  have hnm := (name_of_methodNamed Bd.named Bd.method).1
  have X0 : Stand p l e ({ frames := 0, cells := 0, slots := 0, locals := 0 } : Room) s m #[(.int p0)] below meth c s₁ [] 0 0 := Stand.of_body Bd
  have e0 : s₁.heap = h0 := by rw [← hh, Bd.state]; rfl
  have N0 := Fr.nil n0
  show OwnEnd p e below s (fun v h L => Qnl Z p0 h0 n0 v h L) ({ frames := 0, cells := 0, slots := 0, locals := 0 } : Room).cells ({ frames := 0, cells := 0, slots := 0, locals := 0 } : Room).slots (s₁.setTop (entryFrame m #[(.int p0)] 1))
  rw [efnl m p0]
  generalize hW : OwnEnd p e below s (fun v h L => Qnl Z p0 h0 n0 v h L) ({ frames := 0, cells := 0, slots := 0, locals := 0 } : Room).cells ({ frames := 0, cells := 0, slots := 0, locals := 0 } : Room).slots = W
  have stp : ∀ {A B : State}, (∀ t, Steps p.tables e below B t → Steps p.tables e below A t) → W B → W A := by subst hW; exact own_step
  show W (s₁.setTop (mkF m 0 #[.val (.int p0)] []))
  refine stp (fun t k => XS.iloadN X0.here hx rfl (hb hby dnl_0) rfl k) ?_
  show W (s₁.setTop (mkF m 1 #[.val (.int p0)] [(.int p0)]))
  refine stp (fun t k => XS.ifYes X0.here hx rfl (pc0 := 1) (pc' := 12) rfl (hb hby dnl_1) rfl ((if0 _ _).trans (flt (hlo)).2.1) (by decide) (by decide) k) ?_
  show W (s₁.setTop (mkF m 12 #[.val (.int p0)] []))
  refine stp (fun t k => XS.iloadN X0.here hx rfl (hb hby dnl_12) rfl k) ?_
  show W (s₁.setTop (mkF m 13 #[.val (.int p0)] [(.int p0)]))
  refine stp (fun t k => X0.ldcInt hx hown (mvT hZ (hw _ (List.mem_of_getElem? (i := 39) rfl))) (g := (mkF m 13 #[.val (.int p0)] [(.int p0)])) rfl (hb hby dnl_13) _ k) ?_
  show W (s₁.setTop (mkF m 15 #[.val (.int p0)] [(.int (1073741823 : Int32)), (.int p0)]))
  refine stp (fun t k => XS.icmpYes X0.here hx rfl (pc0 := 15) (pc' := 55) rfl (hb hby dnl_15) rfl ((tlt (hhi)).1) (by decide) (by decide) k) ?_
  show W (s₁.setTop (mkF m 55 #[.val (.int p0)] []))
  refine stp (fun t k => XS.iloadN X0.here hx rfl (hb hby dnl_55) rfl k) ?_
  show W (s₁.setTop (mkF m 56 #[.val (.int p0)] [(.int p0)]))
  refine stp (fun t k => XS.iconst X0.here hx rfl (hb hby dnl_56) k) ?_
  show W (s₁.setTop (mkF m 57 #[.val (.int p0)] [(.int (1 : Int32)), (.int p0)]))
  refine stp (fun t k => XS.ishl X0.here hx rfl (hb hby dnl_57) rfl k) ?_
  show W (s₁.setTop (mkF m 58 #[.val (.int p0)] [(.int (p0 <<< ((1 : Int32) &&& 31)))]))
  show W (s₁.setTop (mkF m 58 #[.val (.int p0)] [(.int (p0 <<< ((1 : Int32) &&& 31)))]))
  rw [← hW]
  exact own_retI X0 hx Bd.notSynchronized Bd.returns (hb hby dnl_58) (by show Qnl Z p0 h0 n0 _ s₁.heap _; rw [e0]; exact ⟨rfl, N0, rfl⟩) (by decide) (by decide)
theorem dnf_0 : decode jdk_52_method_2_code 0 = .ok (.iload_n 0, 1) := by decide +kernel
theorem dnf_1 : decode jdk_52_method_2_code 1 = .ok (.invokestatic 11, 3) := by decide +kernel
theorem dnf_4 : decode jdk_52_method_2_code 4 = .ok (.newarray .byte, 2) := by decide +kernel
theorem dnf_6 : decode jdk_52_method_2_code 6 = .ok (.areturn, 1) := by decide +kernel
theorem pnnf : plainName "java/lang/StringUTF16" = true := by first | (simp [plainName, overriddenIn]; done) | decide +kernel
theorem pdnf_0 : parseMethodDescriptor "(I)I" = some ⟨[.int], some .int⟩ := by decide +kernel
theorem efnf (m : MethodId) (p0 : Int32) : entryFrame m #[(.int p0)] 1 = mkF m 0 #[.val (.int p0)] [] := by first | (simp [entryFrame, mkF, argsToLocals, Value.category]; done) | rfl
def Qnf (Z : State) (p0 : Int32) (wc : Int32) (sx : Value) (n : Nat) (h0 : Heap) (n0 : Nat) (v : Option Value) (h : Heap) (L : List Loc) : Prop := ∃ (b : Addr) (kb : ClassId), v = some (.ref b) ∧ Fr n0 L ∧ Keep h0 h [] ∧ h0.size ≤ b ∧ Arv Z h b kb .byte (Int32.ofNat (2 * n)) (own_vs (2 * n) fun _ => (0 : Int32)) (.int (0 : Int32))
set_option maxRecDepth 65536 in
set_option maxHeartbeats 40000000 in
theorem rmnf (l : Launch) (Z : State) (aa : Array Value) (hw : ∀ d ∈ tables_1, d.before aa Z = true) (ws : List Jvm.Cond) (p0 : Int32) (wc : Int32) (sx : Value) (n : Nat) (h0 : Heap) (n0 : Nat) (Z0 : n0 ≤ h0.size) (BW : OwnW Z wc sx) (O0 : Old Z n0 h0) (hn : n ≤ 6) (hp : p0.toInt = (n : Int)) :
    MetFree l (⟨"java/lang/StringUTF16", "newBytesFor", "(I)[B"⟩ : MethodName) (head1 (Jvm.Cond.code (⟨"java/lang/StringUTF16", "newBytesFor", "(I)[B"⟩ : MethodName) jdk_52_method_2_code 1 (some (.array .byte)) :: ws) ({ frames := 1, cells := 1, slots := 12, locals := 12 } : Room)) (fun a U => a = #[(.int p0)] ∧ Z.Warmed39 U.vm ∧ U.heap = h0) (fun _ _ _ _ _ => True) (fun _ U o U' => ∃ v L, o = .returned v ∧ Qnf Z p0 wc sx n h0 n0 v U'.heap L ∧ FrameEnd U o U' L ({ frames := 1, cells := 1, slots := 12, locals := 12 } : Room).cells ({ frames := 1, cells := 1, slots := 12, locals := 12 } : Room).slots) := by
  refine MetFree.of_bodySF (plainFor_of_name pnnf) hisR ?_
  intro p e s m args below meth c s₁ Bd hml0 hP hK
  obtain ⟨rfl, hZ, hh⟩ := hP
  have hx := Bd.exec
  have hby := Bd.bytes
  have hml : c.maxLocals = 1 := hml0
  have hown : s.vm.findClass "java/lang/StringUTF16" = some m.cls := findClass_of_methodNamed Bd.named
  have hnm := (name_of_methodNamed Bd.named Bd.method).1
  have X0 : Stand p l e ({ frames := 1, cells := 1, slots := 12, locals := 12 } : Room) s m #[(.int p0)] below meth c s₁ [] 0 0 := Stand.of_body Bd
  have e0 : s₁.heap = h0 := by rw [← hh, Bd.state]; rfl
  have N0 := Fr.nil n0
  show OwnEnd p e below s (fun v h L => Qnf Z p0 wc sx n h0 n0 v h L) ({ frames := 1, cells := 1, slots := 12, locals := 12 } : Room).cells ({ frames := 1, cells := 1, slots := 12, locals := 12 } : Room).slots (s₁.setTop (entryFrame m #[(.int p0)] 1))
  rw [efnf m p0]
  generalize hW : OwnEnd p e below s (fun v h L => Qnf Z p0 wc sx n h0 n0 v h L) ({ frames := 1, cells := 1, slots := 12, locals := 12 } : Room).cells ({ frames := 1, cells := 1, slots := 12, locals := 12 } : Room).slots = W
  have stp : ∀ {A B : State}, (∀ t, Steps p.tables e below B t → Steps p.tables e below A t) → W B → W A := by subst hW; exact own_step
  obtain ⟨S_cs, hcs, S_si, hr_sx, S_ad, S_hi, S_lo⟩ := id BW
  show W (s₁.setTop (mkF m 0 #[.val (.int p0)] []))
  refine stp (fun t k => XS.iloadN X0.here hx rfl (hb hby dnf_0) rfl k) ?_
  show W (s₁.setTop (mkF m 1 #[.val (.int p0)] [(.int p0)]))
  obtain ⟨_, _, ⟨Tnfc1, Lnfc1, knfc1, nnfc1⟩, -, Xnfc1, ⟨Lcnfc1, hQnfc1, lnfc1, ynfc1, znfc1⟩, stnfc1⟩ := Jvm.LawKit.callS X0 hx (y := (⟨"java/lang/StringUTF16", "newBytesLength", "(I)I"⟩ : MethodName)) hown (mvT hZ (hw _ (List.mem_of_getElem? (i := 36) rfl))) (mvT hZ (hw _ (List.mem_of_getElem? (i := 37) rfl))) (mvT hZ (hw _ (List.mem_of_getElem? (i := 24) rfl))) (mvT hZ (hw _ (List.mem_of_getElem? (i := 38) rfl))) (by decide) (backOf (W := 0) (rmnl l Z aa hw [] p0  h0 n0 Z0 (own_nn hp) ((own_lt32 hp (j := 1073741823) rfl).mpr (by omega))) hZ (hw _ (List.mem_of_getElem? (i := 38) rfl)) (hw _ (List.mem_of_getElem? (i := 24) rfl)) (by decide) (by decide)) (g := (mkF m 1 #[.val (.int p0)] [(.int p0)])) rfl (by rw [hml]; rfl) (argsL := [(.int p0)]) (rest := []) (lenOf pdnf_0 rfl) rfl (by show 2 * 0 + _ ≤ _; exact Nat.le_of_eq rfl) (hb hby dnf_1) (fun _ _ => ⟨rfl, e0, (by decide : 0 + 0 ≤ _), (by decide : 0 + 0 ≤ _)⟩)
  dsimp only [Pt.U, Pt.locs, Pt.cells, Pt.slots] at Xnfc1 lnfc1 ynfc1 znfc1 stnfc1 hQnfc1
  subst lnfc1 ynfc1 znfc1
  obtain ⟨rfl, Nnfc1q, enfc1⟩ := hQnfc1
  have Nnfc1 := Fr.app N0 Nnfc1q
  obtain ⟨lcnft2, Xnfc1, Nnfc1⟩ : ∃ lc, Stand p l e ({ frames := 1, cells := 1, slots := 12, locals := 12 } : Room) s m #[(.int p0)] below meth c Tnfc1 lc 0 0 ∧ Fr n0 lc := ⟨_, Xnfc1, Nnfc1⟩
  refine stp (fun t k => stnfc1 t k) ?_
  show W (Tnfc1.setTop (mkF m 4 #[.val (.int p0)] [(.int (fnl p0))]))
  rw [show (fnl p0) = (Int32.ofNat (2 * n)) from own_len2 hp (by omega)]
  show W (Tnfc1.setTop (mkF m 4 #[.val (.int p0)] [(.int (Int32.ofNat (2 * n)))]))
  obtain ⟨Tnf3, hnf3, knf3, Xnf3, enf3, Enf3, Anf3, stnf3⟩ := newP Xnfc1 hx hZ (hw _ (List.mem_of_getElem? (i := 26) rfl)) enfc1 (g := (mkF m 4 #[.val (.int p0)] [(.int (Int32.ofNat (2 * n)))])) rfl (hb hby dnf_4) rfl (own_nn (own_ofNat (n := 2 * n) (by omega))) (cap := 12) (by rw [own_clamp (own_ofNat (n := 2 * n) (by omega))]; omega) (by decide) (by decide) (by decide)
  obtain ⟨bnf3, gqnf3⟩ : ∃ z, z = h0.size := ⟨_, rfl⟩
  rw [← gqnf3] at Anf3 stnf3
  have g_bnf3 : n0 ≤ bnf3 := Nat.le_trans Z0 (Nat.le_of_eq gqnf3.symm)
  have sz_bnf3 : h0.size ≤ bnf3 := Nat.le_trans (Keep.refl h0 []).1 (Nat.le_of_eq gqnf3.symm)
  have Knf3 := (Keep.refl h0 []).ext Enf3
  have Znf3 := Nat.le_trans Z0 Enf3.1
  have Onf3 := O0.ext Enf3
  have V_bnf3 : Arv Z hnf3 bnf3 knf3 .byte (Int32.ofNat (2 * n)) (own_vs (2 * n) fun _ => (0 : Int32)) (.int (0 : Int32)) := (Arv.new Anf3 (own_nn (own_ofNat (n := 2 * n) (by omega)))).pad (own_vsPad _)
  refine stp (fun t k => stnf3 t k) ?_
  show W (Tnf3.setTop (mkF m 6 #[.val (.int p0)] [(.ref bnf3)]))
  show W (Tnf3.setTop (mkF m 6 #[.val (.int p0)] [(.ref bnf3)]))
  rw [← hW]
  exact own_retR Xnf3 hx Bd.notSynchronized Bd.returns rfl (hb hby dnf_6) (by show Qnf Z p0 wc sx n h0 n0 _ Tnf3.heap _; rw [enf3]; exact ⟨bnf3, knf3, rfl, Nnfc1, Knf3, sz_bnf3, V_bnf3⟩) (by decide) (by decide)
theorem dpc_0 : decode jdk_52_method_4_code 0 = .ok (.getstatic 44, 3) := by decide +kernel
theorem dpc_3 : decode jdk_52_method_4_code 3 = .ok (.ifCond .ne 25, 3) := by decide +kernel
theorem dpc_28 : decode jdk_52_method_4_code 28 = .ok (.iload_n 1, 1) := by decide +kernel
theorem dpc_29 : decode jdk_52_method_4_code 29 = .ok (.iconst 1, 1) := by decide +kernel
theorem dpc_30 : decode jdk_52_method_4_code 30 = .ok (.ishl, 1) := by decide +kernel
theorem dpc_31 : decode jdk_52_method_4_code 31 = .ok (.istore_n 1, 1) := by decide +kernel
theorem dpc_32 : decode jdk_52_method_4_code 32 = .ok (.aload_n 0, 1) := by decide +kernel
theorem dpc_33 : decode jdk_52_method_4_code 33 = .ok (.iload_n 1, 1) := by decide +kernel
theorem dpc_34 : decode jdk_52_method_4_code 34 = .ok (.iinc 1 1, 3) := by decide +kernel
theorem dpc_37 : decode jdk_52_method_4_code 37 = .ok (.iload_n 2, 1) := by decide +kernel
theorem dpc_38 : decode jdk_52_method_4_code 38 = .ok (.getstatic 59, 3) := by decide +kernel
theorem dpc_41 : decode jdk_52_method_4_code 41 = .ok (.ishr, 1) := by decide +kernel
theorem dpc_42 : decode jdk_52_method_4_code 42 = .ok (.i2b, 1) := by decide +kernel
theorem dpc_43 : decode jdk_52_method_4_code 43 = .ok (.bastore, 1) := by decide +kernel
theorem dpc_44 : decode jdk_52_method_4_code 44 = .ok (.aload_n 0, 1) := by decide +kernel
theorem dpc_45 : decode jdk_52_method_4_code 45 = .ok (.iload_n 1, 1) := by decide +kernel
theorem dpc_46 : decode jdk_52_method_4_code 46 = .ok (.iload_n 2, 1) := by decide +kernel
theorem dpc_47 : decode jdk_52_method_4_code 47 = .ok (.getstatic 63, 3) := by decide +kernel
theorem dpc_50 : decode jdk_52_method_4_code 50 = .ok (.ishr, 1) := by decide +kernel
theorem dpc_51 : decode jdk_52_method_4_code 51 = .ok (.i2b, 1) := by decide +kernel
theorem dpc_52 : decode jdk_52_method_4_code 52 = .ok (.bastore, 1) := by decide +kernel
theorem dpc_53 : decode jdk_52_method_4_code 53 = .ok (.return_, 1) := by decide +kernel
theorem pnpc : plainName "java/lang/StringUTF16" = true := by first | (simp [plainName, overriddenIn]; done) | decide +kernel
theorem efpc (m : MethodId) (a0 : Addr) (p1 : Int32) (p2 : Int32) : entryFrame m #[(.ref a0), (.int p1), (.int p2)] 3 = mkF m 0 #[.val (.ref a0), .val (.int p1), .val (.int p2)] [] := by first | (simp [entryFrame, mkF, argsToLocals, Value.category]; done) | rfl
def Qpc (Z : State) (a0 : Addr) (p1 : Int32) (p2 : Int32) (wc : Int32) (sx : Value) (kb : ClassId) (z : Int32) (vs : List Value) (i : Nat) (h0 : Heap) (n0 : Nat) (v : Option Value) (h : Heap) (L : List Loc) : Prop := v = none ∧ Fr n0 L ∧ Keep h0 h [a0] ∧ Arv Z h a0 kb .byte z ((vs.set (2 * i) (.int (own_lo p2))).set (2 * i + 1) (.int (own_hi p2))) (.int (0 : Int32))
set_option maxRecDepth 65536 in
set_option maxHeartbeats 40000000 in
theorem rmpc (l : Launch) (Z : State) (aa : Array Value) (hw : ∀ d ∈ tables_1, d.before aa Z = true) (ws : List Jvm.Cond) (a0 : Addr) (p1 : Int32) (p2 : Int32) (wc : Int32) (sx : Value) (kb : ClassId) (z : Int32) (vs : List Value) (i : Nat) (h0 : Heap) (n0 : Nat) (Z0 : n0 ≤ h0.size) (BW : OwnW Z wc sx) (O0 : Old Z n0 h0) (V_a0 : Arv Z h0 a0 kb .byte z vs (.int (0 : Int32))) (g_a0 : n0 ≤ a0) (hi : p1.toInt = (i : Int)) (hib : i ≤ 4000) (hz : z.toInt = (vs.length : Int)) (hil : 2 * i + 1 < vs.length) :
    MetFree l (⟨"java/lang/StringUTF16", "putChar", "([BII)V"⟩ : MethodName) (head1 (Jvm.Cond.code (⟨"java/lang/StringUTF16", "putChar", "([BII)V"⟩ : MethodName) jdk_52_method_4_code 3 none :: ws) ({ frames := 0, cells := 0, slots := 0, locals := 0 } : Room)) (fun a U => a = #[(.ref a0), (.int p1), (.int p2)] ∧ Z.Warmed39 U.vm ∧ U.heap = h0) (fun _ _ _ _ _ => True) (fun _ U o U' => ∃ v L, o = .returned v ∧ Qpc Z a0 p1 p2 wc sx kb z vs i h0 n0 v U'.heap L ∧ FrameEnd U o U' L ({ frames := 0, cells := 0, slots := 0, locals := 0 } : Room).cells ({ frames := 0, cells := 0, slots := 0, locals := 0 } : Room).slots) := by
  refine MetFree.of_bodySF (plainFor_of_name pnpc) hisR ?_
  intro p e s m args below meth c s₁ Bd hml0 hP hK
  obtain ⟨rfl, hZ, hh⟩ := hP
  have hx := Bd.exec
  have hby := Bd.bytes
  have hml : c.maxLocals = 3 := hml0
  have hown : s.vm.findClass "java/lang/StringUTF16" = some m.cls := findClass_of_methodNamed Bd.named
  have hnm := (name_of_methodNamed Bd.named Bd.method).1
  have X0 : Stand p l e ({ frames := 0, cells := 0, slots := 0, locals := 0 } : Room) s m #[(.ref a0), (.int p1), (.int p2)] below meth c s₁ [] 0 0 := Stand.of_body Bd
  have e0 : s₁.heap = h0 := by rw [← hh, Bd.state]; rfl
  have N0 := Fr.nil n0
  show OwnEnd p e below s (fun v h L => Qpc Z a0 p1 p2 wc sx kb z vs i h0 n0 v h L) ({ frames := 0, cells := 0, slots := 0, locals := 0 } : Room).cells ({ frames := 0, cells := 0, slots := 0, locals := 0 } : Room).slots (s₁.setTop (entryFrame m #[(.ref a0), (.int p1), (.int p2)] 3))
  rw [efpc m a0 p1 p2]
  generalize hW : OwnEnd p e below s (fun v h L => Qpc Z a0 p1 p2 wc sx kb z vs i h0 n0 v h L) ({ frames := 0, cells := 0, slots := 0, locals := 0 } : Room).cells ({ frames := 0, cells := 0, slots := 0, locals := 0 } : Room).slots = W
  have stp : ∀ {A B : State}, (∀ t, Steps p.tables e below B t → Steps p.tables e below A t) → W B → W A := by subst hW; exact own_step
  obtain ⟨S_cs, hcs, S_si, hr_sx, S_ad, S_hi, S_lo⟩ := id BW
  have d0 := own_shl1 hi (by omega)
  have d1 := own_inc d0 (by omega)
  show W (s₁.setTop (mkF m 0 #[.val (.ref a0), .val (.int p1), .val (.int p2)] []))
  obtain ⟨Tpc1, Xpc1, epc1, stpc1⟩ := getS2 X0 hx hZ hown (host := "") (Or.inl (hw _ (List.mem_of_getElem? (i := 43) rfl))) Via.refl e0 (S_ad.ext O0.2) (g := (mkF m 0 #[.val (.ref a0), .val (.int p1), .val (.int p2)] [])) rfl (hb hby dpc_0)
  refine stp (fun t k => stpc1 t k) ?_
  show W (Tpc1.setTop (mkF m 3 #[.val (.ref a0), .val (.int p1), .val (.int p2)] [(.int (1 : Int32))]))
  refine stp (fun t k => XS.ifYes Xpc1.here hx rfl (pc0 := 3) (pc' := 28) rfl (hb hby dpc_3) rfl ((if0 _ _).trans (feq (by decide)).2) (by decide) (by decide) k) ?_
  show W (Tpc1.setTop (mkF m 28 #[.val (.ref a0), .val (.int p1), .val (.int p2)] []))
  refine stp (fun t k => XS.iloadN Xpc1.here hx rfl (hb hby dpc_28) rfl k) ?_
  show W (Tpc1.setTop (mkF m 29 #[.val (.ref a0), .val (.int p1), .val (.int p2)] [(.int p1)]))
  refine stp (fun t k => XS.iconst Xpc1.here hx rfl (hb hby dpc_29) k) ?_
  show W (Tpc1.setTop (mkF m 30 #[.val (.ref a0), .val (.int p1), .val (.int p2)] [(.int (1 : Int32)), (.int p1)]))
  refine stp (fun t k => XS.ishl Xpc1.here hx rfl (hb hby dpc_30) rfl k) ?_
  show W (Tpc1.setTop (mkF m 31 #[.val (.ref a0), .val (.int p1), .val (.int p2)] [(.int (p1 <<< ((1 : Int32) &&& 31)))]))
  refine stp (fun t k => XS.istoreN Xpc1.here hx rfl (hb hby dpc_31) rfl (l' := #[.val (.ref a0), .val (.int (p1 <<< ((1 : Int32) &&& 31))), .val (.int p2)]) rfl k) ?_
  show W (Tpc1.setTop (mkF m 32 #[.val (.ref a0), .val (.int (p1 <<< ((1 : Int32) &&& 31))), .val (.int p2)] []))
  refine stp (fun t k => XS.aloadN Xpc1.here hx rfl (hb hby dpc_32) rfl rfl k) ?_
  show W (Tpc1.setTop (mkF m 33 #[.val (.ref a0), .val (.int (p1 <<< ((1 : Int32) &&& 31))), .val (.int p2)] [(.ref a0)]))
  refine stp (fun t k => XS.iloadN Xpc1.here hx rfl (hb hby dpc_33) rfl k) ?_
  show W (Tpc1.setTop (mkF m 34 #[.val (.ref a0), .val (.int (p1 <<< ((1 : Int32) &&& 31))), .val (.int p2)] [(.int (p1 <<< ((1 : Int32) &&& 31))), (.ref a0)]))
  refine stp (fun t k => XS.iinc Xpc1.here hx rfl (hb hby dpc_34) rfl (l' := #[.val (.ref a0), .val (.int ((p1 <<< ((1 : Int32) &&& 31)) + (1 : Int32))), .val (.int p2)]) rfl k) ?_
  show W (Tpc1.setTop (mkF m 37 #[.val (.ref a0), .val (.int ((p1 <<< ((1 : Int32) &&& 31)) + (1 : Int32))), .val (.int p2)] [(.int (p1 <<< ((1 : Int32) &&& 31))), (.ref a0)]))
  refine stp (fun t k => XS.iloadN Xpc1.here hx rfl (hb hby dpc_37) rfl k) ?_
  show W (Tpc1.setTop (mkF m 38 #[.val (.ref a0), .val (.int ((p1 <<< ((1 : Int32) &&& 31)) + (1 : Int32))), .val (.int p2)] [(.int p2), (.int (p1 <<< ((1 : Int32) &&& 31))), (.ref a0)]))
  obtain ⟨Tpc2, Xpc2, epc2, stpc2⟩ := getS2 Xpc1 hx hZ hown (host := "") (Or.inl (hw _ (List.mem_of_getElem? (i := 44) rfl))) Via.refl epc1 (S_hi.ext O0.2) (g := (mkF m 38 #[.val (.ref a0), .val (.int ((p1 <<< ((1 : Int32) &&& 31)) + (1 : Int32))), .val (.int p2)] [(.int p2), (.int (p1 <<< ((1 : Int32) &&& 31))), (.ref a0)])) rfl (hb hby dpc_38)
  refine stp (fun t k => stpc2 t k) ?_
  show W (Tpc2.setTop (mkF m 41 #[.val (.ref a0), .val (.int ((p1 <<< ((1 : Int32) &&& 31)) + (1 : Int32))), .val (.int p2)] [(.int (0 : Int32)), (.int p2), (.int (p1 <<< ((1 : Int32) &&& 31))), (.ref a0)]))
  refine stp (fun t k => XS.ishr Xpc2.here hx rfl (hb hby dpc_41) rfl k) ?_
  show W (Tpc2.setTop (mkF m 42 #[.val (.ref a0), .val (.int ((p1 <<< ((1 : Int32) &&& 31)) + (1 : Int32))), .val (.int p2)] [(.int (p2 >>> ((0 : Int32) &&& 31))), (.int (p1 <<< ((1 : Int32) &&& 31))), (.ref a0)]))
  refine stp (fun t k => XS.i2b Xpc2.here hx rfl (hb hby dpc_42) rfl k) ?_
  show W (Tpc2.setTop (mkF m 43 #[.val (.ref a0), .val (.int ((p1 <<< ((1 : Int32) &&& 31)) + (1 : Int32))), .val (.int p2)] [(.int ((p2 >>> ((0 : Int32) &&& 31)).toInt8.toInt32)), (.int (p1 <<< ((1 : Int32) &&& 31))), (.ref a0)]))
  obtain ⟨clpc3, Arpc3, qkpc3, qspc3, qnpc3, qhpc3, qgpc3⟩ := id V_a0
  have hinpc3 : ¬ ((p1 <<< ((1 : Int32) &&& 31)) < 0 ∨ clpc3.slots.size ≤ ((p1 <<< ((1 : Int32) &&& 31))).toNatClampNeg) := inb_of qspc3 ⟨own_nn d0, (own_lt32 d0 hz).mpr (by omega)⟩
  obtain ⟨Tpc3, hpc3, Xpc3, epc3, Wpc3, stpc3⟩ := stB Xpc2 hx hZ epc2 Arpc3 (j := (p1 <<< ((1 : Int32) &&& 31))) hinpc3 (g := (mkF m 43 #[.val (.ref a0), .val (.int ((p1 <<< ((1 : Int32) &&& 31)) + (1 : Int32))), .val (.int p2)] [(.int ((p2 >>> ((0 : Int32) &&& 31)).toInt8.toInt32)), (.int (p1 <<< ((1 : Int32) &&& 31))), (.ref a0)])) rfl rfl (hb hby dpc_43)
  have V_a0x := Arv.set Arpc3 qkpc3 qspc3 qnpc3 qhpc3 qgpc3 (fits_nar_byte _) Wpc3 (2 * i) (own_clamp d0) (by omega)
  have Npc3 := Fr.snoc Xpc3 N0 g_a0
  obtain ⟨lcpct4, Xpc3, Npc3⟩ : ∃ lc, Stand p l e ({ frames := 0, cells := 0, slots := 0, locals := 0 } : Room) s m #[(.ref a0), (.int p1), (.int p2)] below meth c Tpc3 lc 0 0 ∧ Fr n0 lc := ⟨_, Xpc3, Npc3⟩
  have Kpc3 := (Keep.refl h0 [a0]).wr Wpc3 (Or.inl (List.mem_of_getElem? (i := 0) rfl))
  have Zpc3 := Nat.le_trans Z0 (Keep.of_wr Wpc3).1
  have Opc3 := O0.wr Wpc3 g_a0
  replace V_a0 : Arv Z hpc3 a0 kb .byte z (vs.set (2 * i) (.int (own_lo p2))) (.int (0 : Int32)) := own_arvEq (rfl) V_a0x
  refine stp (fun t k => stpc3 t k) ?_
  show W (Tpc3.setTop (mkF m 44 #[.val (.ref a0), .val (.int ((p1 <<< ((1 : Int32) &&& 31)) + (1 : Int32))), .val (.int p2)] []))
  refine stp (fun t k => XS.aloadN Xpc3.here hx rfl (hb hby dpc_44) rfl rfl k) ?_
  show W (Tpc3.setTop (mkF m 45 #[.val (.ref a0), .val (.int ((p1 <<< ((1 : Int32) &&& 31)) + (1 : Int32))), .val (.int p2)] [(.ref a0)]))
  refine stp (fun t k => XS.iloadN Xpc3.here hx rfl (hb hby dpc_45) rfl k) ?_
  show W (Tpc3.setTop (mkF m 46 #[.val (.ref a0), .val (.int ((p1 <<< ((1 : Int32) &&& 31)) + (1 : Int32))), .val (.int p2)] [(.int ((p1 <<< ((1 : Int32) &&& 31)) + (1 : Int32))), (.ref a0)]))
  refine stp (fun t k => XS.iloadN Xpc3.here hx rfl (hb hby dpc_46) rfl k) ?_
  show W (Tpc3.setTop (mkF m 47 #[.val (.ref a0), .val (.int ((p1 <<< ((1 : Int32) &&& 31)) + (1 : Int32))), .val (.int p2)] [(.int p2), (.int ((p1 <<< ((1 : Int32) &&& 31)) + (1 : Int32))), (.ref a0)]))
  obtain ⟨Tpc5, Xpc5, epc5, stpc5⟩ := getS2 Xpc3 hx hZ hown (host := "") (Or.inl (hw _ (List.mem_of_getElem? (i := 45) rfl))) Via.refl epc3 (S_lo.ext Opc3.2) (g := (mkF m 47 #[.val (.ref a0), .val (.int ((p1 <<< ((1 : Int32) &&& 31)) + (1 : Int32))), .val (.int p2)] [(.int p2), (.int ((p1 <<< ((1 : Int32) &&& 31)) + (1 : Int32))), (.ref a0)])) rfl (hb hby dpc_47)
  refine stp (fun t k => stpc5 t k) ?_
  show W (Tpc5.setTop (mkF m 50 #[.val (.ref a0), .val (.int ((p1 <<< ((1 : Int32) &&& 31)) + (1 : Int32))), .val (.int p2)] [(.int (8 : Int32)), (.int p2), (.int ((p1 <<< ((1 : Int32) &&& 31)) + (1 : Int32))), (.ref a0)]))
  refine stp (fun t k => XS.ishr Xpc5.here hx rfl (hb hby dpc_50) rfl k) ?_
  show W (Tpc5.setTop (mkF m 51 #[.val (.ref a0), .val (.int ((p1 <<< ((1 : Int32) &&& 31)) + (1 : Int32))), .val (.int p2)] [(.int (p2 >>> ((8 : Int32) &&& 31))), (.int ((p1 <<< ((1 : Int32) &&& 31)) + (1 : Int32))), (.ref a0)]))
  refine stp (fun t k => XS.i2b Xpc5.here hx rfl (hb hby dpc_51) rfl k) ?_
  show W (Tpc5.setTop (mkF m 52 #[.val (.ref a0), .val (.int ((p1 <<< ((1 : Int32) &&& 31)) + (1 : Int32))), .val (.int p2)] [(.int ((p2 >>> ((8 : Int32) &&& 31)).toInt8.toInt32)), (.int ((p1 <<< ((1 : Int32) &&& 31)) + (1 : Int32))), (.ref a0)]))
  obtain ⟨clpc6, Arpc6, qkpc6, qspc6, qnpc6, qhpc6, qgpc6⟩ := id V_a0
  have hinpc6 : ¬ (((p1 <<< ((1 : Int32) &&& 31)) + (1 : Int32)) < 0 ∨ clpc6.slots.size ≤ (((p1 <<< ((1 : Int32) &&& 31)) + (1 : Int32))).toNatClampNeg) := inb_of qspc6 ⟨own_nn d1, (own_lt32 d1 hz).mpr (by omega)⟩
  obtain ⟨Tpc6, hpc6, Xpc6, epc6, Wpc6, stpc6⟩ := stB Xpc5 hx hZ epc5 Arpc6 (j := ((p1 <<< ((1 : Int32) &&& 31)) + (1 : Int32))) hinpc6 (g := (mkF m 52 #[.val (.ref a0), .val (.int ((p1 <<< ((1 : Int32) &&& 31)) + (1 : Int32))), .val (.int p2)] [(.int ((p2 >>> ((8 : Int32) &&& 31)).toInt8.toInt32)), (.int ((p1 <<< ((1 : Int32) &&& 31)) + (1 : Int32))), (.ref a0)])) rfl rfl (hb hby dpc_52)
  have V_a0x := Arv.set Arpc6 qkpc6 qspc6 qnpc6 qhpc6 qgpc6 (fits_nar_byte _) Wpc6 (2 * i + 1) (own_clamp d1) (by simp only [List.length_set]; omega)
  have Npc6 := Fr.snoc Xpc6 Npc3 g_a0
  obtain ⟨lcpct7, Xpc6, Npc6⟩ : ∃ lc, Stand p l e ({ frames := 0, cells := 0, slots := 0, locals := 0 } : Room) s m #[(.ref a0), (.int p1), (.int p2)] below meth c Tpc6 lc 0 0 ∧ Fr n0 lc := ⟨_, Xpc6, Npc6⟩
  have Kpc6 := Kpc3.wr Wpc6 (Or.inl (List.mem_of_getElem? (i := 0) rfl))
  have Zpc6 := Nat.le_trans Zpc3 (Keep.of_wr Wpc6).1
  have Opc6 := Opc3.wr Wpc6 g_a0
  replace V_a0 : Arv Z hpc6 a0 kb .byte z ((vs.set (2 * i) (.int (own_lo p2))).set (2 * i + 1) (.int (own_hi p2))) (.int (0 : Int32)) := own_arvEq (rfl) V_a0x
  refine stp (fun t k => stpc6 t k) ?_
  show W (Tpc6.setTop (mkF m 53 #[.val (.ref a0), .val (.int ((p1 <<< ((1 : Int32) &&& 31)) + (1 : Int32))), .val (.int p2)] []))
  show W (Tpc6.setTop (mkF m 53 #[.val (.ref a0), .val (.int ((p1 <<< ((1 : Int32) &&& 31)) + (1 : Int32))), .val (.int p2)] []))
  rw [← hW]
  exact own_ret0 Xpc6 hx Bd.notSynchronized Bd.returns (hb hby dpc_53) (by show Qpc Z a0 p1 p2 wc sx kb z vs i h0 n0 _ Tpc6.heap _; rw [epc6]; exact ⟨rfl, Npc6, Kpc6, V_a0⟩) (by decide) (by decide)
theorem own_step2 (n i : Nat) (g : Nat → Int32) : ((own_vs (2 * n) fun j => if j < 2 * i then own_u g j else (0 : Int32)).set (2 * i) (.int (own_lo (g i)))).set (2 * i + 1) (.int (own_hi (g i))) = own_vs (2 * n) fun j => if j < 2 * (i + 1) then own_u g j else (0 : Int32) := by
  rw [own_vsSet, own_vsSet]
  apply own_vsCongr
  intro j _
  by_cases h : j = 2 * i + 1
  · subst h; simp [own_u1, show 2 * i + 1 < 2 * (i + 1) from by omega]
  · by_cases h2 : j = 2 * i
    · subst h2; simp [h, own_u0, show 2 * i < 2 * (i + 1) from by omega]
    · by_cases h3 : j < 2 * i
      · simp [h, h2, h3, show j < 2 * (i + 1) from by omega]
      · simp [h, h2, h3, show ¬ j < 2 * (i + 1) from by omega]
theorem dtb_0 : decode jdk_52_method_14_code 0 = .ok (.iload_n 2, 1) := by decide +kernel
theorem dtb_1 : decode jdk_52_method_14_code 1 = .ok (.invokestatic 107, 3) := by decide +kernel
theorem dtb_4 : decode jdk_52_method_14_code 4 = .ok (.astore_n 3, 1) := by decide +kernel
theorem dtb_5 : decode jdk_52_method_14_code 5 = .ok (.iconst 0, 1) := by decide +kernel
theorem dtb_6 : decode jdk_52_method_14_code 6 = .ok (.istore 4, 2) := by decide +kernel
theorem dtb_8 : decode jdk_52_method_14_code 8 = .ok (.iload 4, 2) := by decide +kernel
theorem dtb_10 : decode jdk_52_method_14_code 10 = .ok (.iload_n 2, 1) := by decide +kernel
theorem dtb_11 : decode jdk_52_method_14_code 11 = .ok (.if_icmp .ge 21, 3) := by decide +kernel
theorem dtb_14 : decode jdk_52_method_14_code 14 = .ok (.aload_n 3, 1) := by decide +kernel
theorem dtb_15 : decode jdk_52_method_14_code 15 = .ok (.iload 4, 2) := by decide +kernel
theorem dtb_17 : decode jdk_52_method_14_code 17 = .ok (.aload_n 0, 1) := by decide +kernel
theorem dtb_18 : decode jdk_52_method_14_code 18 = .ok (.iload_n 1, 1) := by decide +kernel
theorem dtb_19 : decode jdk_52_method_14_code 19 = .ok (.caload, 1) := by decide +kernel
theorem dtb_20 : decode jdk_52_method_14_code 20 = .ok (.invokestatic 111, 3) := by decide +kernel
theorem dtb_23 : decode jdk_52_method_14_code 23 = .ok (.iinc 1 1, 3) := by decide +kernel
theorem dtb_26 : decode jdk_52_method_14_code 26 = .ok (.iinc 4 1, 3) := by decide +kernel
theorem dtb_29 : decode jdk_52_method_14_code 29 = .ok (.goto (-21), 3) := by decide +kernel
theorem dtb_32 : decode jdk_52_method_14_code 32 = .ok (.aload_n 3, 1) := by decide +kernel
theorem dtb_33 : decode jdk_52_method_14_code 33 = .ok (.areturn, 1) := by decide +kernel
theorem pntb : plainName "java/lang/StringUTF16" = true := by first | (simp [plainName, overriddenIn]; done) | decide +kernel
theorem pdtb_0 : parseMethodDescriptor "(I)[B" = some ⟨[.int], some (.array .byte)⟩ := by decide +kernel
theorem pdtb_1 : parseMethodDescriptor "([BII)V" = some ⟨[(.array .byte), .int, .int], none⟩ := by decide +kernel
theorem eftb (m : MethodId) (a0 : Addr) (p1 : Int32) (p2 : Int32) : entryFrame m #[(.ref a0), (.int p1), (.int p2)] 5 = mkF m 0 #[.val (.ref a0), .val (.int p1), .val (.int p2), .unset, .unset] [] := by first | (simp [entryFrame, mkF, argsToLocals, Value.category]; done) | rfl
def Qtb (Z : State) (a0 : Addr) (p1 : Int32) (p2 : Int32) (wc : Int32) (sx : Value) (n : Nat) (g : Nat → Int32) (ka : ClassId) (h0 : Heap) (n0 : Nat) (v : Option Value) (h : Heap) (L : List Loc) : Prop := ∃ (b : Addr) (kb : ClassId), v = some (.ref b) ∧ Fr n0 L ∧ Keep h0 h [] ∧ h0.size ≤ b ∧ Arv Z h b kb .byte (Int32.ofNat (2 * n)) (own_vs (2 * n) (own_u g)) (.int (0 : Int32))
set_option maxRecDepth 65536 in
set_option maxHeartbeats 40000000 in
theorem rmtb (l : Launch) (Z : State) (aa : Array Value) (hw : ∀ d ∈ tables_1, d.before aa Z = true) (ws : List Jvm.Cond) (a0 : Addr) (p1 : Int32) (p2 : Int32) (wc : Int32) (sx : Value) (n : Nat) (g : Nat → Int32) (ka : ClassId) (h0 : Heap) (n0 : Nat) (Z0 : n0 ≤ h0.size) (BW : OwnW Z wc sx) (O0 : Old Z n0 h0) (hn : n ≤ 6) (hch : ∀ j, j < n → 0 ≤ (g j).toInt ∧ (g j).toInt < 65536) (V_a0 : Arv Z h0 a0 ka .char (Int32.ofNat n) (own_vs n g) (.int (0 : Int32))) (hp1 : p1 = (0 : Int32)) (hp2 : p2 = (Int32.ofNat n)) :
    MetFree l (⟨"java/lang/StringUTF16", "toBytes", "([CII)[B"⟩ : MethodName) (head1 (Jvm.Cond.code (⟨"java/lang/StringUTF16", "toBytes", "([CII)[B"⟩ : MethodName) jdk_52_method_14_code 5 (some (.array .byte)) :: ws) ({ frames := 2, cells := 1, slots := 12, locals := 24 } : Room)) (fun a U => a = #[(.ref a0), (.int p1), (.int p2)] ∧ Z.Warmed39 U.vm ∧ U.heap = h0) (fun _ _ _ _ _ => True) (fun _ U o U' => ∃ v L, o = .returned v ∧ Qtb Z a0 p1 p2 wc sx n g ka h0 n0 v U'.heap L ∧ FrameEnd U o U' L ({ frames := 2, cells := 1, slots := 12, locals := 24 } : Room).cells ({ frames := 2, cells := 1, slots := 12, locals := 24 } : Room).slots) := by
  refine MetFree.of_bodySF (plainFor_of_name pntb) hisR ?_
  intro p e s m args below meth c s₁ Bd hml0 hP hK
  obtain ⟨rfl, hZ, hh⟩ := hP
  have hx := Bd.exec
  have hby := Bd.bytes
  have hml : c.maxLocals = 5 := hml0
  have hown : s.vm.findClass "java/lang/StringUTF16" = some m.cls := findClass_of_methodNamed Bd.named
  have hnm := (name_of_methodNamed Bd.named Bd.method).1
  have X0 : Stand p l e ({ frames := 2, cells := 1, slots := 12, locals := 24 } : Room) s m #[(.ref a0), (.int p1), (.int p2)] below meth c s₁ [] 0 0 := Stand.of_body Bd
  have e0 : s₁.heap = h0 := by rw [← hh, Bd.state]; rfl
  have N0 := Fr.nil n0
  show OwnEnd p e below s (fun v h L => Qtb Z a0 p1 p2 wc sx n g ka h0 n0 v h L) ({ frames := 2, cells := 1, slots := 12, locals := 24 } : Room).cells ({ frames := 2, cells := 1, slots := 12, locals := 24 } : Room).slots (s₁.setTop (entryFrame m #[(.ref a0), (.int p1), (.int p2)] 5))
  rw [eftb m a0 p1 p2]
  generalize hW : OwnEnd p e below s (fun v h L => Qtb Z a0 p1 p2 wc sx n g ka h0 n0 v h L) ({ frames := 2, cells := 1, slots := 12, locals := 24 } : Room).cells ({ frames := 2, cells := 1, slots := 12, locals := 24 } : Room).slots = W
  have stp : ∀ {A B : State}, (∀ t, Steps p.tables e below B t → Steps p.tables e below A t) → W B → W A := by subst hW; exact own_step
  obtain ⟨S_cs, hcs, S_si, hr_sx, S_ad, S_hi, S_lo⟩ := id BW
  have hz := own_ofNat (n := n) (by omega)
  have hz2 := own_ofNat (n := 2 * n) (by omega)
  subst hp1 hp2
  show W (s₁.setTop (mkF m 0 #[.val (.ref a0), .val (.int (0 : Int32)), .val (.int (Int32.ofNat n)), .unset, .unset] []))
  refine stp (fun t k => XS.iloadN X0.here hx rfl (hb hby dtb_0) rfl k) ?_
  show W (s₁.setTop (mkF m 1 #[.val (.ref a0), .val (.int (0 : Int32)), .val (.int (Int32.ofNat n)), .unset, .unset] [(.int (Int32.ofNat n))]))
  obtain ⟨_, _, ⟨Ttbc1, Ltbc1, ktbc1, ntbc1⟩, -, Xtbc1, ⟨Lctbc1, hQtbc1, ltbc1, ytbc1, ztbc1⟩, sttbc1⟩ := Jvm.LawKit.callS X0 hx (y := (⟨"java/lang/StringUTF16", "newBytesFor", "(I)[B"⟩ : MethodName)) hown (mvT hZ (hw _ (List.mem_of_getElem? (i := 33) rfl))) (mvT hZ (hw _ (List.mem_of_getElem? (i := 34) rfl))) (mvT hZ (hw _ (List.mem_of_getElem? (i := 24) rfl))) (mvT hZ (hw _ (List.mem_of_getElem? (i := 35) rfl))) (by decide) (backOf (W := 0) (rmnf l Z aa hw [] (Int32.ofNat n) wc sx n h0 n0 Z0 BW O0 hn hz) hZ (hw _ (List.mem_of_getElem? (i := 35) rfl)) (hw _ (List.mem_of_getElem? (i := 24) rfl)) (by decide) (by decide)) (g := (mkF m 1 #[.val (.ref a0), .val (.int (0 : Int32)), .val (.int (Int32.ofNat n)), .unset, .unset] [(.int (Int32.ofNat n))])) rfl (by rw [hml]; rfl) (argsL := [(.int (Int32.ofNat n))]) (rest := []) (lenOf pdtb_0 rfl) rfl (by show 2 * 0 + _ ≤ _; exact Nat.le_of_eq rfl) (hb hby dtb_1) (fun _ _ => ⟨rfl, e0, (by decide : 0 + 1 ≤ _), (by decide : 0 + 12 ≤ _)⟩)
  dsimp only [Pt.U, Pt.locs, Pt.cells, Pt.slots] at Xtbc1 ltbc1 ytbc1 ztbc1 sttbc1 hQtbc1
  subst ltbc1 ytbc1 ztbc1
  obtain ⟨btbc1, kbtbc1, rfl, Ntbc1q, Kqtbc1, sz_btbc1, V_btbc1⟩ := hQtbc1
  have Ntbc1 := Fr.app N0 Ntbc1q
  obtain ⟨lctbt2, Xtbc1, Ntbc1⟩ : ∃ lc, Stand p l e ({ frames := 2, cells := 1, slots := 12, locals := 24 } : Room) s m #[(.ref a0), (.int (0 : Int32)), (.int (Int32.ofNat n))] below meth c Ttbc1 lc 1 12 ∧ Fr n0 lc := ⟨_, Xtbc1, Ntbc1⟩
  obtain ⟨htbc1, etbc1⟩ : ∃ h, Ttbc1.heap = h := ⟨_, rfl⟩
  rw [etbc1] at Kqtbc1 V_btbc1
  have ne_a0_btbc1 : a0 ≠ btbc1 := Nat.ne_of_lt (Nat.lt_of_lt_of_le V_a0.lt sz_btbc1)
  have g_btbc1 : n0 ≤ btbc1 := Nat.le_trans Z0 sz_btbc1
  have sz_btbc1 : h0.size ≤ btbc1 := Nat.le_trans (Keep.refl h0 []).1 sz_btbc1
  replace V_a0 := V_a0.keep Kqtbc1 nin0
  have KKtbc1 := Keep.trans (Keep.refl h0 []) Kqtbc1 all0
  have Ztbc1 := Nat.le_trans Z0 Kqtbc1.1
  have Otbc1 := O0.keep Kqtbc1 all0
  refine stp (fun t k => sttbc1 t k) ?_
  show W (Ttbc1.setTop (mkF m 4 #[.val (.ref a0), .val (.int (0 : Int32)), .val (.int (Int32.ofNat n)), .unset, .unset] [(.ref btbc1)]))
  refine stp (fun t k => XS.astoreN Xtbc1.here hx rfl (hb hby dtb_4) rfl rfl (l' := #[.val (.ref a0), .val (.int (0 : Int32)), .val (.int (Int32.ofNat n)), .val (.ref btbc1), .unset]) rfl k) ?_
  show W (Ttbc1.setTop (mkF m 5 #[.val (.ref a0), .val (.int (0 : Int32)), .val (.int (Int32.ofNat n)), .val (.ref btbc1), .unset] []))
  refine stp (fun t k => XS.iconst Xtbc1.here hx rfl (hb hby dtb_5) k) ?_
  show W (Ttbc1.setTop (mkF m 6 #[.val (.ref a0), .val (.int (0 : Int32)), .val (.int (Int32.ofNat n)), .val (.ref btbc1), .unset] [(.int (0 : Int32))]))
  refine stp (fun t k => XS.istore Xtbc1.here hx rfl (hb hby dtb_6) rfl (l' := #[.val (.ref a0), .val (.int (0 : Int32)), .val (.int (Int32.ofNat n)), .val (.ref btbc1), .val (.int (0 : Int32))]) rfl k) ?_
  have LP : ∀ (r i : Nat) (x1 : Int32) (x4 : Int32) (T' : State) (lc : List Loc) (h' : Heap) (hir : i + r = n) (hx1 : x1.toInt = (i : Int)) (hx4 : x4.toInt = (i : Int)) (XL : Stand p l e ({ frames := 2, cells := 1, slots := 12, locals := 24 } : Room) s m #[(.ref a0), (.int (0 : Int32)), (.int (Int32.ofNat n))] below meth c T' lc 1 12) (eL : T'.heap = h') (NL : Fr n0 lc) (KL : Keep h0 h' []) (OL : Old Z n0 h') (V_a0 : Arv Z h' a0 ka .char (Int32.ofNat n) (own_vs n g) (.int (0 : Int32))) (V_btbc1 : Arv Z h' btbc1 kbtbc1 .byte (Int32.ofNat (2 * n)) (own_vs (2 * n) fun j => if j < 2 * i then own_u g j else (0 : Int32)) (.int (0 : Int32))), W (T'.setTop (mkF m 8 #[.val (.ref a0), .val (.int x1), .val (.int (Int32.ofNat n)), .val (.ref btbc1), .val (.int x4)] [])) := by
    intro r
    induction r with
    | zero =>
      intro i x1 x4 T' lc h' hir hx1 hx4 XL eL NL KL OL V_a0 V_btbc1
      have ZL : n0 ≤ h'.size := Nat.le_trans Z0 KL.1
      show W (T'.setTop (mkF m 8 #[.val (.ref a0), .val (.int x1), .val (.int (Int32.ofNat n)), .val (.ref btbc1), .val (.int x4)] []))
      refine stp (fun t k => XS.iload XL.here hx rfl (hb hby dtb_8) rfl k) ?_
      show W (T'.setTop (mkF m 10 #[.val (.ref a0), .val (.int x1), .val (.int (Int32.ofNat n)), .val (.ref btbc1), .val (.int x4)] [(.int x4)]))
      refine stp (fun t k => XS.iloadN XL.here hx rfl (hb hby dtb_10) rfl k) ?_
      show W (T'.setTop (mkF m 11 #[.val (.ref a0), .val (.int x1), .val (.int (Int32.ofNat n)), .val (.ref btbc1), .val (.int x4)] [(.int (Int32.ofNat n)), (.int x4)]))
      refine stp (fun t k => XS.icmpYes XL.here hx rfl (pc0 := 11) (pc' := 32) rfl (hb hby dtb_11) rfl ((flt (fun q => by have := (own_lt32 hx4 hz).mp q; omega)).2.1) (by decide) (by decide) k) ?_
      show W (T'.setTop (mkF m 32 #[.val (.ref a0), .val (.int x1), .val (.int (Int32.ofNat n)), .val (.ref btbc1), .val (.int x4)] []))
      refine stp (fun t k => XS.aloadN XL.here hx rfl (hb hby dtb_32) rfl rfl k) ?_
      show W (T'.setTop (mkF m 33 #[.val (.ref a0), .val (.int x1), .val (.int (Int32.ofNat n)), .val (.ref btbc1), .val (.int x4)] [(.ref btbc1)]))
      show W (T'.setTop (mkF m 33 #[.val (.ref a0), .val (.int x1), .val (.int (Int32.ofNat n)), .val (.ref btbc1), .val (.int x4)] [(.ref btbc1)]))
      rw [← hW]
      exact own_retR XL hx Bd.notSynchronized Bd.returns rfl (hb hby dtb_33) (by show Qtb Z a0 (0 : Int32) (Int32.ofNat n) wc sx n g ka h0 n0 _ T'.heap _; rw [eL]; exact ⟨btbc1, kbtbc1, rfl, NL, KL, sz_btbc1, (by obtain rfl : i = n := (by omega); exact own_arvEq (own_vsCongr (fun j hj => if_pos hj)) V_btbc1)⟩) (by decide) (by decide)
    | succ r ih =>
      intro i x1 x4 T' lc h' hir hx1 hx4 XL eL NL KL OL V_a0 V_btbc1
      have ZL : n0 ≤ h'.size := Nat.le_trans Z0 KL.1
      show W (T'.setTop (mkF m 8 #[.val (.ref a0), .val (.int x1), .val (.int (Int32.ofNat n)), .val (.ref btbc1), .val (.int x4)] []))
      refine stp (fun t k => XS.iload XL.here hx rfl (hb hby dtb_8) rfl k) ?_
      show W (T'.setTop (mkF m 10 #[.val (.ref a0), .val (.int x1), .val (.int (Int32.ofNat n)), .val (.ref btbc1), .val (.int x4)] [(.int x4)]))
      refine stp (fun t k => XS.iloadN XL.here hx rfl (hb hby dtb_10) rfl k) ?_
      show W (T'.setTop (mkF m 11 #[.val (.ref a0), .val (.int x1), .val (.int (Int32.ofNat n)), .val (.ref btbc1), .val (.int x4)] [(.int (Int32.ofNat n)), (.int x4)]))
      refine stp (fun t k => XS.icmpNo XL.here hx rfl (hb hby dtb_11) rfl ((tlt ((own_lt32 hx4 hz).mpr (by omega))).2.1) k) ?_
      show W (T'.setTop (mkF m 14 #[.val (.ref a0), .val (.int x1), .val (.int (Int32.ofNat n)), .val (.ref btbc1), .val (.int x4)] []))
      refine stp (fun t k => XS.aloadN XL.here hx rfl (hb hby dtb_14) rfl rfl k) ?_
      show W (T'.setTop (mkF m 15 #[.val (.ref a0), .val (.int x1), .val (.int (Int32.ofNat n)), .val (.ref btbc1), .val (.int x4)] [(.ref btbc1)]))
      refine stp (fun t k => XS.iload XL.here hx rfl (hb hby dtb_15) rfl k) ?_
      show W (T'.setTop (mkF m 17 #[.val (.ref a0), .val (.int x1), .val (.int (Int32.ofNat n)), .val (.ref btbc1), .val (.int x4)] [(.int x4), (.ref btbc1)]))
      refine stp (fun t k => XS.aloadN XL.here hx rfl (hb hby dtb_17) rfl rfl k) ?_
      show W (T'.setTop (mkF m 18 #[.val (.ref a0), .val (.int x1), .val (.int (Int32.ofNat n)), .val (.ref btbc1), .val (.int x4)] [(.ref a0), (.int x4), (.ref btbc1)]))
      refine stp (fun t k => XS.iloadN XL.here hx rfl (hb hby dtb_18) rfl k) ?_
      show W (T'.setTop (mkF m 19 #[.val (.ref a0), .val (.int x1), .val (.int (Int32.ofNat n)), .val (.ref btbc1), .val (.int x4)] [(.int x1), (.ref a0), (.int x4), (.ref btbc1)]))
      obtain ⟨cltb3, Artb3, qktb3, qstb3, qntb3, qhtb3, qgtb3⟩ := id V_a0
      have hintb3 : ¬ (x1 < 0 ∨ cltb3.slots.size ≤ (x1).toNatClampNeg) := inb_of qstb3 ⟨own_nn hx1, (own_lt32 hx1 hz).mpr (by omega)⟩
      have hattb3 : cltb3.slots[(x1).toNatClampNeg]? = some (.int (g i)) := qhtb3.at hintb3 (by rw [own_clamp hx1, own_vsGet (by omega)])
      refine stp (fun t k => XL.caload hx (j := x1) (v := (.int (g i))) (by rw [eL]; exact Artb3.1) (State.isArrayOf_alike hZ.alike Artb3.2.1) Artb3.2.2 hintb3 hattb3 (g := (mkF m 19 #[.val (.ref a0), .val (.int x1), .val (.int (Int32.ofNat n)), .val (.ref btbc1), .val (.int x4)] [(.int x1), (.ref a0), (.int x4), (.ref btbc1)])) rfl rfl (hb hby dtb_19) _ k) ?_
      show W (T'.setTop (mkF m 20 #[.val (.ref a0), .val (.int x1), .val (.int (Int32.ofNat n)), .val (.ref btbc1), .val (.int x4)] [(.int (g i)), (.int x4), (.ref btbc1)]))
      obtain ⟨_, _, ⟨Ttbc4, Ltbc4, ktbc4, ntbc4⟩, -, Xtbc4, ⟨Lctbc4, hQtbc4, ltbc4, ytbc4, ztbc4⟩, sttbc4⟩ := Jvm.LawKit.callS XL hx (y := (⟨"java/lang/StringUTF16", "putChar", "([BII)V"⟩ : MethodName)) hown (mvT hZ (hw _ (List.mem_of_getElem? (i := 40) rfl))) (mvT hZ (hw _ (List.mem_of_getElem? (i := 41) rfl))) (mvT hZ (hw _ (List.mem_of_getElem? (i := 24) rfl))) (mvT hZ (hw _ (List.mem_of_getElem? (i := 42) rfl))) (by decide) (backOf (W := 0) (rmpc l Z aa hw [] btbc1 x4 (g i) wc sx kbtbc1 (Int32.ofNat (2 * n)) (own_vs (2 * n) fun j => if j < 2 * i then own_u g j else (0 : Int32)) i h' n0 ZL BW OL V_btbc1 g_btbc1 hx4 (by omega) (by rw [own_vsLen]; exact hz2) (by rw [own_vsLen]; omega)) hZ (hw _ (List.mem_of_getElem? (i := 42) rfl)) (hw _ (List.mem_of_getElem? (i := 24) rfl)) (by decide) (by decide)) (g := (mkF m 20 #[.val (.ref a0), .val (.int x1), .val (.int (Int32.ofNat n)), .val (.ref btbc1), .val (.int x4)] [(.int (g i)), (.int x4), (.ref btbc1)])) rfl (by rw [hml]; rfl) (argsL := [(.ref btbc1), (.int x4), (.int (g i))]) (rest := []) (lenOf pdtb_1 rfl) rfl (by show 2 * 0 + _ ≤ _; exact Nat.le_of_eq rfl) (hb hby dtb_20) (fun _ _ => ⟨rfl, eL, (by decide : 1 + 0 ≤ _), (by decide : 12 + 0 ≤ _)⟩)
      dsimp only [Pt.U, Pt.locs, Pt.cells, Pt.slots] at Xtbc4 ltbc4 ytbc4 ztbc4 sttbc4 hQtbc4
      subst ltbc4 ytbc4 ztbc4
      obtain ⟨rfl, Ntbc4q, Kqtbc4, Vtbc4⟩ := hQtbc4
      have Ntbc4 := Fr.app NL Ntbc4q
      obtain ⟨lctbt5, Xtbc4, Ntbc4⟩ : ∃ lc, Stand p l e ({ frames := 2, cells := 1, slots := 12, locals := 24 } : Room) s m #[(.ref a0), (.int (0 : Int32)), (.int (Int32.ofNat n))] below meth c Ttbc4 lc 1 12 ∧ Fr n0 lc := ⟨_, Xtbc4, Ntbc4⟩
      obtain ⟨htbc4, etbc4⟩ : ∃ h, Ttbc4.heap = h := ⟨_, rfl⟩
      rw [etbc4] at Kqtbc4 Vtbc4
      replace V_a0 := V_a0.keep Kqtbc4 (ninS ne_a0_btbc1 nin0)
      have KKtbc4 := Keep.trans KL Kqtbc4 (allS (Or.inr sz_btbc1) all0)
      have Ztbc4 := Nat.le_trans ZL Kqtbc4.1
      have Otbc4 := OL.keep Kqtbc4 (allS g_btbc1 all0)
      have V_btbc1 : Arv Z htbc4 btbc1 kbtbc1 .byte (Int32.ofNat (2 * n)) (own_vs (2 * n) fun j => if j < 2 * (i + 1) then own_u g j else (0 : Int32)) (.int (0 : Int32)) := own_arvEq (own_step2 n i g) Vtbc4
      refine stp (fun t k => sttbc4 t k) ?_
      show W (Ttbc4.setTop (mkF m 23 #[.val (.ref a0), .val (.int x1), .val (.int (Int32.ofNat n)), .val (.ref btbc1), .val (.int x4)] []))
      refine stp (fun t k => XS.iinc Xtbc4.here hx rfl (hb hby dtb_23) rfl (l' := #[.val (.ref a0), .val (.int (x1 + (1 : Int32))), .val (.int (Int32.ofNat n)), .val (.ref btbc1), .val (.int x4)]) rfl k) ?_
      show W (Ttbc4.setTop (mkF m 26 #[.val (.ref a0), .val (.int (x1 + (1 : Int32))), .val (.int (Int32.ofNat n)), .val (.ref btbc1), .val (.int x4)] []))
      refine stp (fun t k => XS.iinc Xtbc4.here hx rfl (hb hby dtb_26) rfl (l' := #[.val (.ref a0), .val (.int (x1 + (1 : Int32))), .val (.int (Int32.ofNat n)), .val (.ref btbc1), .val (.int (x4 + (1 : Int32)))]) rfl k) ?_
      show W (Ttbc4.setTop (mkF m 29 #[.val (.ref a0), .val (.int (x1 + (1 : Int32))), .val (.int (Int32.ofNat n)), .val (.ref btbc1), .val (.int (x4 + (1 : Int32)))] []))
      refine stp (fun t k => XS.goto Xtbc4.here hx rfl (pc0 := 29) (pc' := 8) rfl (hb hby dtb_29) (by decide) (by decide) k) ?_
      exact ih (i + 1) _ _ _ _ _ (by omega) (own_inc hx1 (by omega)) (own_inc hx4 (by omega)) Xtbc4 etbc4 Ntbc4 KKtbc4 Otbc4 V_a0 V_btbc1
  exact LP n 0 (0 : Int32) (0 : Int32) _ _ _ (by omega) rfl rfl Xtbc1 etbc1 Ntbc1 KKtbc1 Otbc1 V_a0 (by simpa using V_btbc1)
theorem own_gt255 {c : Int32} (h : 256 ≤ c.toInt) : (255 : Int32) < c := by
  rw [Int32.lt_iff_toInt_lt, show (255 : Int32).toInt = 255 from by decide]; omega
theorem dk2_0 : decode jdk_52_method_16_code 0 = .ok (.iload_n 2, 1) := by decide +kernel
theorem dk2_1 : decode jdk_52_method_16_code 1 = .ok (.newarray .byte, 2) := by decide +kernel
theorem dk2_3 : decode jdk_52_method_16_code 3 = .ok (.astore_n 3, 1) := by decide +kernel
theorem dk2_4 : decode jdk_52_method_16_code 4 = .ok (.aload_n 0, 1) := by decide +kernel
theorem dk2_5 : decode jdk_52_method_16_code 5 = .ok (.iload_n 1, 1) := by decide +kernel
theorem dk2_6 : decode jdk_52_method_16_code 6 = .ok (.aload_n 3, 1) := by decide +kernel
theorem dk2_7 : decode jdk_52_method_16_code 7 = .ok (.iconst 0, 1) := by decide +kernel
theorem dk2_8 : decode jdk_52_method_16_code 8 = .ok (.iload_n 2, 1) := by decide +kernel
theorem dk2_9 : decode jdk_52_method_16_code 9 = .ok (.invokestatic 115, 3) := by decide +kernel
theorem dk2_12 : decode jdk_52_method_16_code 12 = .ok (.istore 4, 2) := by decide +kernel
theorem dk2_14 : decode jdk_52_method_16_code 14 = .ok (.iload 4, 2) := by decide +kernel
theorem dk2_16 : decode jdk_52_method_16_code 16 = .ok (.iload_n 2, 1) := by decide +kernel
theorem dk2_17 : decode jdk_52_method_16_code 17 = .ok (.if_icmp .eq 40, 3) := by decide +kernel
theorem dk2_20 : decode jdk_52_method_16_code 20 = .ok (.aload_n 0, 1) := by decide +kernel
theorem dk2_21 : decode jdk_52_method_16_code 21 = .ok (.iload_n 1, 1) := by decide +kernel
theorem dk2_22 : decode jdk_52_method_16_code 22 = .ok (.iload_n 2, 1) := by decide +kernel
theorem dk2_23 : decode jdk_52_method_16_code 23 = .ok (.invokestatic 119, 3) := by decide +kernel
theorem dk2_26 : decode jdk_52_method_16_code 26 = .ok (.astore 5, 2) := by decide +kernel
theorem dk2_28 : decode jdk_52_method_16_code 28 = .ok (.aload 5, 2) := by decide +kernel
theorem dk2_30 : decode jdk_52_method_16_code 30 = .ok (.iload 4, 2) := by decide +kernel
theorem dk2_32 : decode jdk_52_method_16_code 32 = .ok (.invokestatic 71, 3) := by decide +kernel
theorem dk2_35 : decode jdk_52_method_16_code 35 = .ok (.sipush 255, 3) := by decide +kernel
theorem dk2_38 : decode jdk_52_method_16_code 38 = .ok (.if_icmp .gt 16, 3) := by decide +kernel
theorem dk2_54 : decode jdk_52_method_16_code 54 = .ok (.aload 5, 2) := by decide +kernel
theorem dk2_56 : decode jdk_52_method_16_code 56 = .ok (.areturn, 1) := by decide +kernel
theorem dk2_57 : decode jdk_52_method_16_code 57 = .ok (.aload_n 3, 1) := by decide +kernel
theorem dk2_58 : decode jdk_52_method_16_code 58 = .ok (.areturn, 1) := by decide +kernel
theorem pnk2 : plainName "java/lang/StringUTF16" = true := by first | (simp [plainName, overriddenIn]; done) | decide +kernel
theorem pdk2_0 : parseMethodDescriptor "([CI[BII)I" = some ⟨[(.array .char), .int, (.array .byte), .int, .int], some .int⟩ := by decide +kernel
theorem pdk2_1 : parseMethodDescriptor "([CII)[B" = some ⟨[(.array .char), .int, .int], some (.array .byte)⟩ := by decide +kernel
theorem pdk2_2 : parseMethodDescriptor "([BI)C" = some ⟨[(.array .byte), .int], some .char⟩ := by decide +kernel
theorem efk2 (m : MethodId) (a0 : Addr) (p1 : Int32) (p2 : Int32) : entryFrame m #[(.ref a0), (.int p1), (.int p2)] 6 = mkF m 0 #[.val (.ref a0), .val (.int p1), .val (.int p2), .unset, .unset, .unset] [] := by first | (simp [entryFrame, mkF, argsToLocals, Value.category]; done) | rfl
def Qk2 (Z : State) (a0 : Addr) (p1 : Int32) (p2 : Int32) (wc : Int32) (sx : Value) (n : Nat) (g : Nat → Int32) (ka : ClassId) (h0 : Heap) (n0 : Nat) (v : Option Value) (h : Heap) (L : List Loc) : Prop := ∃ (b : Addr) (kb : ClassId), v = some (.ref b) ∧ Fr n0 L ∧ Keep h0 h [] ∧ h0.size ≤ b ∧ (((∀ j, j < n → (g j).toInt < 256) ∧ Arv Z h b kb .byte (Int32.ofNat n) (own_vs n fun j => own_b (g j)) (.int (0 : Int32))) ∨ ((∃ j, j < n ∧ 256 ≤ (g j).toInt) ∧ Arv Z h b kb .byte (Int32.ofNat (2 * n)) (own_vs (2 * n) (own_u g)) (.int (0 : Int32))))
set_option maxRecDepth 65536 in
set_option maxHeartbeats 40000000 in
theorem rmk2 (l : Launch) (Z : State) (aa : Array Value) (hw : ∀ d ∈ tables_1, d.before aa Z = true) (ws : List Jvm.Cond) (a0 : Addr) (p1 : Int32) (p2 : Int32) (wc : Int32) (sx : Value) (n : Nat) (g : Nat → Int32) (ka : ClassId) (h0 : Heap) (n0 : Nat) (Z0 : n0 ≤ h0.size) (BW : OwnW Z wc sx) (O0 : Old Z n0 h0) (hn : n ≤ 6) (hch : ∀ j, j < n → 0 ≤ (g j).toInt ∧ (g j).toInt < 65536) (V_a0 : Arv Z h0 a0 ka .char (Int32.ofNat n) (own_vs n g) (.int (0 : Int32))) (hp1 : p1 = (0 : Int32)) (hp2 : p2 = (Int32.ofNat n)) :
    MetFree l (⟨"java/lang/StringUTF16", "compress", "([CII)[B"⟩ : MethodName) (head1 (Jvm.Cond.code (⟨"java/lang/StringUTF16", "compress", "([CII)[B"⟩ : MethodName) jdk_52_method_16_code 6 (some (.array .byte)) :: ws) ({ frames := 3, cells := 2, slots := 18, locals := 40 } : Room)) (fun a U => a = #[(.ref a0), (.int p1), (.int p2)] ∧ Z.Warmed39 U.vm ∧ U.heap = h0) (fun _ _ _ _ _ => True) (fun _ U o U' => ∃ v L, o = .returned v ∧ Qk2 Z a0 p1 p2 wc sx n g ka h0 n0 v U'.heap L ∧ FrameEnd U o U' L ({ frames := 3, cells := 2, slots := 18, locals := 40 } : Room).cells ({ frames := 3, cells := 2, slots := 18, locals := 40 } : Room).slots) := by
  refine MetFree.of_bodySF (plainFor_of_name pnk2) hisR ?_
  intro p e s m args below meth c s₁ Bd hml0 hP hK
  obtain ⟨rfl, hZ, hh⟩ := hP
  have hx := Bd.exec
  have hby := Bd.bytes
  have hml : c.maxLocals = 6 := hml0
  have hown : s.vm.findClass "java/lang/StringUTF16" = some m.cls := findClass_of_methodNamed Bd.named
  have hnm := (name_of_methodNamed Bd.named Bd.method).1
  have X0 : Stand p l e ({ frames := 3, cells := 2, slots := 18, locals := 40 } : Room) s m #[(.ref a0), (.int p1), (.int p2)] below meth c s₁ [] 0 0 := Stand.of_body Bd
  have e0 : s₁.heap = h0 := by rw [← hh, Bd.state]; rfl
  have N0 := Fr.nil n0
  show OwnEnd p e below s (fun v h L => Qk2 Z a0 p1 p2 wc sx n g ka h0 n0 v h L) ({ frames := 3, cells := 2, slots := 18, locals := 40 } : Room).cells ({ frames := 3, cells := 2, slots := 18, locals := 40 } : Room).slots (s₁.setTop (entryFrame m #[(.ref a0), (.int p1), (.int p2)] 6))
  rw [efk2 m a0 p1 p2]
  generalize hW : OwnEnd p e below s (fun v h L => Qk2 Z a0 p1 p2 wc sx n g ka h0 n0 v h L) ({ frames := 3, cells := 2, slots := 18, locals := 40 } : Room).cells ({ frames := 3, cells := 2, slots := 18, locals := 40 } : Room).slots = W
  have stp : ∀ {A B : State}, (∀ t, Steps p.tables e below B t → Steps p.tables e below A t) → W B → W A := by subst hW; exact own_step
  obtain ⟨S_cs, hcs, S_si, hr_sx, S_ad, S_hi, S_lo⟩ := id BW
  have hz := own_ofNat (n := n) (by omega)
  have hz2 := own_ofNat (n := 2 * n) (by omega)
  subst hp1 hp2
  show W (s₁.setTop (mkF m 0 #[.val (.ref a0), .val (.int (0 : Int32)), .val (.int (Int32.ofNat n)), .unset, .unset, .unset] []))
  refine stp (fun t k => XS.iloadN X0.here hx rfl (hb hby dk2_0) rfl k) ?_
  show W (s₁.setTop (mkF m 1 #[.val (.ref a0), .val (.int (0 : Int32)), .val (.int (Int32.ofNat n)), .unset, .unset, .unset] [(.int (Int32.ofNat n))]))
  obtain ⟨Tk21, hk21, kk21, Xk21, ek21, Ek21, Ak21, stk21⟩ := newP X0 hx hZ (hw _ (List.mem_of_getElem? (i := 26) rfl)) e0 (g := (mkF m 1 #[.val (.ref a0), .val (.int (0 : Int32)), .val (.int (Int32.ofNat n)), .unset, .unset, .unset] [(.int (Int32.ofNat n))])) rfl (hb hby dk2_1) rfl (own_nn hz) (cap := 6) (by rw [own_clamp hz]; exact hn) (by decide) (by decide) (by decide)
  obtain ⟨bk21, gqk21⟩ : ∃ z, z = h0.size := ⟨_, rfl⟩
  rw [← gqk21] at Ak21 stk21
  have ne_a0_bk21 : a0 ≠ bk21 := Nat.ne_of_lt (Nat.lt_of_lt_of_le V_a0.lt (Nat.le_of_eq gqk21.symm))
  have g_bk21 : n0 ≤ bk21 := Nat.le_trans Z0 (Nat.le_of_eq gqk21.symm)
  have sz_bk21 : h0.size ≤ bk21 := Nat.le_trans (Keep.refl h0 []).1 (Nat.le_of_eq gqk21.symm)
  replace V_a0 := V_a0.ext Ek21
  have Kk21 := (Keep.refl h0 []).ext Ek21
  have Zk21 := Nat.le_trans Z0 Ek21.1
  have Ok21 := O0.ext Ek21
  have V_bk21 : Arv Z hk21 bk21 kk21 .byte (Int32.ofNat n) (own_vs n fun _ => (0 : Int32)) (.int (0 : Int32)) := (Arv.new Ak21 (own_nn hz)).pad (own_vsPad _)
  refine stp (fun t k => stk21 t k) ?_
  show W (Tk21.setTop (mkF m 3 #[.val (.ref a0), .val (.int (0 : Int32)), .val (.int (Int32.ofNat n)), .unset, .unset, .unset] [(.ref bk21)]))
  refine stp (fun t k => XS.astoreN Xk21.here hx rfl (hb hby dk2_3) rfl rfl (l' := #[.val (.ref a0), .val (.int (0 : Int32)), .val (.int (Int32.ofNat n)), .val (.ref bk21), .unset, .unset]) rfl k) ?_
  show W (Tk21.setTop (mkF m 4 #[.val (.ref a0), .val (.int (0 : Int32)), .val (.int (Int32.ofNat n)), .val (.ref bk21), .unset, .unset] []))
  refine stp (fun t k => XS.aloadN Xk21.here hx rfl (hb hby dk2_4) rfl rfl k) ?_
  show W (Tk21.setTop (mkF m 5 #[.val (.ref a0), .val (.int (0 : Int32)), .val (.int (Int32.ofNat n)), .val (.ref bk21), .unset, .unset] [(.ref a0)]))
  refine stp (fun t k => XS.iloadN Xk21.here hx rfl (hb hby dk2_5) rfl k) ?_
  show W (Tk21.setTop (mkF m 6 #[.val (.ref a0), .val (.int (0 : Int32)), .val (.int (Int32.ofNat n)), .val (.ref bk21), .unset, .unset] [(.int (0 : Int32)), (.ref a0)]))
  refine stp (fun t k => XS.aloadN Xk21.here hx rfl (hb hby dk2_6) rfl rfl k) ?_
  show W (Tk21.setTop (mkF m 7 #[.val (.ref a0), .val (.int (0 : Int32)), .val (.int (Int32.ofNat n)), .val (.ref bk21), .unset, .unset] [(.ref bk21), (.int (0 : Int32)), (.ref a0)]))
  refine stp (fun t k => XS.iconst Xk21.here hx rfl (hb hby dk2_7) k) ?_
  show W (Tk21.setTop (mkF m 8 #[.val (.ref a0), .val (.int (0 : Int32)), .val (.int (Int32.ofNat n)), .val (.ref bk21), .unset, .unset] [(.int (0 : Int32)), (.ref bk21), (.int (0 : Int32)), (.ref a0)]))
  refine stp (fun t k => XS.iloadN Xk21.here hx rfl (hb hby dk2_8) rfl k) ?_
  show W (Tk21.setTop (mkF m 9 #[.val (.ref a0), .val (.int (0 : Int32)), .val (.int (Int32.ofNat n)), .val (.ref bk21), .unset, .unset] [(.int (Int32.ofNat n)), (.int (0 : Int32)), (.ref bk21), (.int (0 : Int32)), (.ref a0)]))
  obtain ⟨_, _, ⟨Tk2c2, Lk2c2, kk2c2, nk2c2⟩, -, Xk2c2, ⟨Lck2c2, hQk2c2, lk2c2, yk2c2, zk2c2⟩, stk2c2⟩ := Jvm.LawKit.callS Xk21 hx (y := (⟨"java/lang/StringUTF16", "compress", "([CI[BII)I"⟩ : MethodName)) hown (mvT hZ (hw _ (List.mem_of_getElem? (i := 27) rfl))) (mvT hZ (hw _ (List.mem_of_getElem? (i := 28) rfl))) (mvT hZ (hw _ (List.mem_of_getElem? (i := 24) rfl))) (mvT hZ (hw _ (List.mem_of_getElem? (i := 29) rfl))) (by decide) (backOf (W := 0) (rmk1 l Z aa hw [] a0 (0 : Int32) bk21 (0 : Int32) (Int32.ofNat n) wc sx n g ka kk21 hk21 n0 Zk21 BW Ok21 hn hch V_a0 V_bk21 ne_a0_bk21 g_bk21 rfl rfl rfl) hZ (hw _ (List.mem_of_getElem? (i := 29) rfl)) (hw _ (List.mem_of_getElem? (i := 24) rfl)) (by decide) (by decide)) (g := (mkF m 9 #[.val (.ref a0), .val (.int (0 : Int32)), .val (.int (Int32.ofNat n)), .val (.ref bk21), .unset, .unset] [(.int (Int32.ofNat n)), (.int (0 : Int32)), (.ref bk21), (.int (0 : Int32)), (.ref a0)])) rfl (by rw [hml]; rfl) (argsL := [(.ref a0), (.int (0 : Int32)), (.ref bk21), (.int (0 : Int32)), (.int (Int32.ofNat n))]) (rest := []) (lenOf pdk2_0 rfl) rfl (by show 2 * 0 + _ ≤ _; exact Nat.le_of_eq rfl) (hb hby dk2_9) (fun _ _ => ⟨rfl, ek21, (by decide : 1 + 0 ≤ _), (by decide : 6 + 0 ≤ _)⟩)
  dsimp only [Pt.U, Pt.locs, Pt.cells, Pt.slots] at Xk2c2 lk2c2 yk2c2 zk2c2 stk2c2 hQk2c2
  subst lk2c2 yk2c2 zk2c2
  obtain ⟨rk2c2, rfl, Nk2c2q, Kqk2c2, Ck2c2⟩ := hQk2c2
  have Nk2c2 := Fr.app N0 Nk2c2q
  obtain ⟨lck2t3, Xk2c2, Nk2c2⟩ : ∃ lc, Stand p l e ({ frames := 3, cells := 2, slots := 18, locals := 40 } : Room) s m #[(.ref a0), (.int (0 : Int32)), (.int (Int32.ofNat n))] below meth c Tk2c2 lc 1 6 ∧ Fr n0 lc := ⟨_, Xk2c2, Nk2c2⟩
  obtain ⟨hk2c2, ek2c2⟩ : ∃ h, Tk2c2.heap = h := ⟨_, rfl⟩
  rw [ek2c2] at Kqk2c2 Ck2c2
  replace V_a0 := V_a0.keep Kqk2c2 (ninS ne_a0_bk21 nin0)
  have KKk2c2 := Keep.trans Kk21 Kqk2c2 (allS (Or.inr sz_bk21) all0)
  have Zk2c2 := Nat.le_trans Zk21 Kqk2c2.1
  have Ok2c2 := Ok21.keep Kqk2c2 (allS g_bk21 all0)
  refine stp (fun t k => stk2c2 t k) ?_
  show W (Tk2c2.setTop (mkF m 12 #[.val (.ref a0), .val (.int (0 : Int32)), .val (.int (Int32.ofNat n)), .val (.ref bk21), .unset, .unset] [(.int rk2c2)]))
  refine stp (fun t k => XS.istore Xk2c2.here hx rfl (hb hby dk2_12) rfl (l' := #[.val (.ref a0), .val (.int (0 : Int32)), .val (.int (Int32.ofNat n)), .val (.ref bk21), .val (.int rk2c2), .unset]) rfl k) ?_
  show W (Tk2c2.setTop (mkF m 14 #[.val (.ref a0), .val (.int (0 : Int32)), .val (.int (Int32.ofNat n)), .val (.ref bk21), .val (.int rk2c2), .unset] []))
  refine stp (fun t k => XS.iload Xk2c2.here hx rfl (hb hby dk2_14) rfl k) ?_
  show W (Tk2c2.setTop (mkF m 16 #[.val (.ref a0), .val (.int (0 : Int32)), .val (.int (Int32.ofNat n)), .val (.ref bk21), .val (.int rk2c2), .unset] [(.int rk2c2)]))
  refine stp (fun t k => XS.iloadN Xk2c2.here hx rfl (hb hby dk2_16) rfl k) ?_
  show W (Tk2c2.setTop (mkF m 17 #[.val (.ref a0), .val (.int (0 : Int32)), .val (.int (Int32.ofNat n)), .val (.ref bk21), .val (.int rk2c2), .unset] [(.int (Int32.ofNat n)), (.int rk2c2)]))
  rcases Ck2c2 with Ck2c2 | Ck2c2
  · obtain ⟨rfl, hlat, V_bk21⟩ := Ck2c2
    show W (Tk2c2.setTop (mkF m 17 #[.val (.ref a0), .val (.int (0 : Int32)), .val (.int (Int32.ofNat n)), .val (.ref bk21), .val (.int (Int32.ofNat n)), .unset] [(.int (Int32.ofNat n)), (.int (Int32.ofNat n))]))
    refine stp (fun t k => XS.icmpYes Xk2c2.here hx rfl (pc0 := 17) (pc' := 57) rfl (hb hby dk2_17) rfl ((teq (rfl)).1) (by decide) (by decide) k) ?_
    show W (Tk2c2.setTop (mkF m 57 #[.val (.ref a0), .val (.int (0 : Int32)), .val (.int (Int32.ofNat n)), .val (.ref bk21), .val (.int (Int32.ofNat n)), .unset] []))
    refine stp (fun t k => XS.aloadN Xk2c2.here hx rfl (hb hby dk2_57) rfl rfl k) ?_
    show W (Tk2c2.setTop (mkF m 58 #[.val (.ref a0), .val (.int (0 : Int32)), .val (.int (Int32.ofNat n)), .val (.ref bk21), .val (.int (Int32.ofNat n)), .unset] [(.ref bk21)]))
    show W (Tk2c2.setTop (mkF m 58 #[.val (.ref a0), .val (.int (0 : Int32)), .val (.int (Int32.ofNat n)), .val (.ref bk21), .val (.int (Int32.ofNat n)), .unset] [(.ref bk21)]))
    rw [← hW]
    exact own_retR Xk2c2 hx Bd.notSynchronized Bd.returns rfl (hb hby dk2_58) (by show Qk2 Z a0 (0 : Int32) (Int32.ofNat n) wc sx n g ka h0 n0 _ Tk2c2.heap _; rw [ek2c2]; exact ⟨bk21, kk21, rfl, Nk2c2, KKk2c2, sz_bk21, Or.inl ⟨hlat, V_bk21⟩⟩) (by decide) (by decide)
  · obtain ⟨i, hi, hr, hbig⟩ := Ck2c2
    show W (Tk2c2.setTop (mkF m 17 #[.val (.ref a0), .val (.int (0 : Int32)), .val (.int (Int32.ofNat n)), .val (.ref bk21), .val (.int rk2c2), .unset] [(.int (Int32.ofNat n)), (.int rk2c2)]))
    refine stp (fun t k => XS.icmpNo Xk2c2.here hx rfl (hb hby dk2_17) rfl ((feq (fun q => by rw [q, hz] at hr; omega)).1) k) ?_
    show W (Tk2c2.setTop (mkF m 20 #[.val (.ref a0), .val (.int (0 : Int32)), .val (.int (Int32.ofNat n)), .val (.ref bk21), .val (.int rk2c2), .unset] []))
    refine stp (fun t k => XS.aloadN Xk2c2.here hx rfl (hb hby dk2_20) rfl rfl k) ?_
    show W (Tk2c2.setTop (mkF m 21 #[.val (.ref a0), .val (.int (0 : Int32)), .val (.int (Int32.ofNat n)), .val (.ref bk21), .val (.int rk2c2), .unset] [(.ref a0)]))
    refine stp (fun t k => XS.iloadN Xk2c2.here hx rfl (hb hby dk2_21) rfl k) ?_
    show W (Tk2c2.setTop (mkF m 22 #[.val (.ref a0), .val (.int (0 : Int32)), .val (.int (Int32.ofNat n)), .val (.ref bk21), .val (.int rk2c2), .unset] [(.int (0 : Int32)), (.ref a0)]))
    refine stp (fun t k => XS.iloadN Xk2c2.here hx rfl (hb hby dk2_22) rfl k) ?_
    show W (Tk2c2.setTop (mkF m 23 #[.val (.ref a0), .val (.int (0 : Int32)), .val (.int (Int32.ofNat n)), .val (.ref bk21), .val (.int rk2c2), .unset] [(.int (Int32.ofNat n)), (.int (0 : Int32)), (.ref a0)]))
    obtain ⟨_, _, ⟨Tk2c4, Lk2c4, kk2c4, nk2c4⟩, -, Xk2c4, ⟨Lck2c4, hQk2c4, lk2c4, yk2c4, zk2c4⟩, stk2c4⟩ := Jvm.LawKit.callS Xk2c2 hx (y := (⟨"java/lang/StringUTF16", "toBytes", "([CII)[B"⟩ : MethodName)) hown (mvT hZ (hw _ (List.mem_of_getElem? (i := 30) rfl))) (mvT hZ (hw _ (List.mem_of_getElem? (i := 31) rfl))) (mvT hZ (hw _ (List.mem_of_getElem? (i := 24) rfl))) (mvT hZ (hw _ (List.mem_of_getElem? (i := 32) rfl))) (by decide) (backOf (W := 0) (rmtb l Z aa hw [] a0 (0 : Int32) (Int32.ofNat n) wc sx n g ka hk2c2 n0 Zk2c2 BW Ok2c2 hn hch V_a0 rfl rfl) hZ (hw _ (List.mem_of_getElem? (i := 32) rfl)) (hw _ (List.mem_of_getElem? (i := 24) rfl)) (by decide) (by decide)) (g := (mkF m 23 #[.val (.ref a0), .val (.int (0 : Int32)), .val (.int (Int32.ofNat n)), .val (.ref bk21), .val (.int rk2c2), .unset] [(.int (Int32.ofNat n)), (.int (0 : Int32)), (.ref a0)])) rfl (by rw [hml]; rfl) (argsL := [(.ref a0), (.int (0 : Int32)), (.int (Int32.ofNat n))]) (rest := []) (lenOf pdk2_1 rfl) rfl (by show 2 * 0 + _ ≤ _; exact Nat.le_of_eq rfl) (hb hby dk2_23) (fun _ _ => ⟨rfl, ek2c2, (by decide : 1 + 1 ≤ _), (by decide : 6 + 12 ≤ _)⟩)
    dsimp only [Pt.U, Pt.locs, Pt.cells, Pt.slots] at Xk2c4 lk2c4 yk2c4 zk2c4 stk2c4 hQk2c4
    subst lk2c4 yk2c4 zk2c4
    obtain ⟨bk2c4, kbk2c4, rfl, Nk2c4q, Kqk2c4, sz_bk2c4, V_bk2c4⟩ := hQk2c4
    have Nk2c4 := Fr.app Nk2c2 Nk2c4q
    obtain ⟨lck2t5, Xk2c4, Nk2c4⟩ : ∃ lc, Stand p l e ({ frames := 3, cells := 2, slots := 18, locals := 40 } : Room) s m #[(.ref a0), (.int (0 : Int32)), (.int (Int32.ofNat n))] below meth c Tk2c4 lc 2 18 ∧ Fr n0 lc := ⟨_, Xk2c4, Nk2c4⟩
    obtain ⟨hk2c4, ek2c4⟩ : ∃ h, Tk2c4.heap = h := ⟨_, rfl⟩
    rw [ek2c4] at Kqk2c4 V_bk2c4
    have ne_a0_bk2c4 : a0 ≠ bk2c4 := Nat.ne_of_lt (Nat.lt_of_lt_of_le V_a0.lt sz_bk2c4)
    have g_bk2c4 : n0 ≤ bk2c4 := Nat.le_trans Zk2c2 sz_bk2c4
    have sz_bk2c4 : h0.size ≤ bk2c4 := Nat.le_trans KKk2c2.1 sz_bk2c4
    replace V_a0 := V_a0.keep Kqk2c4 nin0
    have KKk2c4 := Keep.trans KKk2c2 Kqk2c4 all0
    have Zk2c4 := Nat.le_trans Zk2c2 Kqk2c4.1
    have Ok2c4 := Ok2c2.keep Kqk2c4 all0
    refine stp (fun t k => stk2c4 t k) ?_
    show W (Tk2c4.setTop (mkF m 26 #[.val (.ref a0), .val (.int (0 : Int32)), .val (.int (Int32.ofNat n)), .val (.ref bk21), .val (.int rk2c2), .unset] [(.ref bk2c4)]))
    refine stp (fun t k => XS.astore Xk2c4.here hx rfl (hb hby dk2_26) rfl rfl (l' := #[.val (.ref a0), .val (.int (0 : Int32)), .val (.int (Int32.ofNat n)), .val (.ref bk21), .val (.int rk2c2), .val (.ref bk2c4)]) rfl k) ?_
    show W (Tk2c4.setTop (mkF m 28 #[.val (.ref a0), .val (.int (0 : Int32)), .val (.int (Int32.ofNat n)), .val (.ref bk21), .val (.int rk2c2), .val (.ref bk2c4)] []))
    refine stp (fun t k => XS.aload Xk2c4.here hx rfl (hb hby dk2_28) rfl rfl k) ?_
    show W (Tk2c4.setTop (mkF m 30 #[.val (.ref a0), .val (.int (0 : Int32)), .val (.int (Int32.ofNat n)), .val (.ref bk21), .val (.int rk2c2), .val (.ref bk2c4)] [(.ref bk2c4)]))
    refine stp (fun t k => XS.iload Xk2c4.here hx rfl (hb hby dk2_30) rfl k) ?_
    show W (Tk2c4.setTop (mkF m 32 #[.val (.ref a0), .val (.int (0 : Int32)), .val (.int (Int32.ofNat n)), .val (.ref bk21), .val (.int rk2c2), .val (.ref bk2c4)] [(.int rk2c2), (.ref bk2c4)]))
    have d0_ := own_shl1 hr (by omega)
    have d1_ := own_inc d0_ (by omega)
    obtain ⟨_, _, ⟨Tk2c6, Lk2c6, kk2c6, nk2c6⟩, -, Xk2c6, ⟨Lck2c6, hQk2c6, lk2c6, yk2c6, zk2c6⟩, stk2c6⟩ := Jvm.LawKit.callS Xk2c4 hx (y := (⟨"java/lang/StringUTF16", "getChar", "([BI)C"⟩ : MethodName)) hown (mvT hZ (hw _ (List.mem_of_getElem? (i := 46) rfl))) (mvT hZ (hw _ (List.mem_of_getElem? (i := 47) rfl))) (mvT hZ (hw _ (List.mem_of_getElem? (i := 24) rfl))) (mvT hZ (hw _ (List.mem_of_getElem? (i := 48) rfl))) (by decide) (backOf (W := 0) (rmgc l Z aa hw [] bk2c4 rk2c2 wc sx kbk2c4 (Int32.ofNat (2 * n)) (own_vs (2 * n) (own_u g)) (own_lo (g i)) (own_hi (g i)) hk2c4 n0 Zk2c4 BW Ok2c4 V_bk2c4 ⟨own_nn d0_, (own_lt32 d0_ hz2).mpr (by omega)⟩ ⟨own_nn d1_, (own_lt32 d1_ hz2).mpr (by omega)⟩ (by rw [own_clamp d0_, own_vsGet (by omega), own_u0]) (by rw [own_clamp d1_, own_vsGet (by omega), own_u1])) hZ (hw _ (List.mem_of_getElem? (i := 48) rfl)) (hw _ (List.mem_of_getElem? (i := 24) rfl)) (by decide) (by decide)) (g := (mkF m 32 #[.val (.ref a0), .val (.int (0 : Int32)), .val (.int (Int32.ofNat n)), .val (.ref bk21), .val (.int rk2c2), .val (.ref bk2c4)] [(.int rk2c2), (.ref bk2c4)])) rfl (by rw [hml]; rfl) (argsL := [(.ref bk2c4), (.int rk2c2)]) (rest := []) (lenOf pdk2_2 rfl) rfl (by show 2 * 0 + _ ≤ _; exact Nat.le_of_eq rfl) (hb hby dk2_32) (fun _ _ => ⟨rfl, ek2c4, (by decide : 2 + 0 ≤ _), (by decide : 18 + 0 ≤ _)⟩)
    dsimp only [Pt.U, Pt.locs, Pt.cells, Pt.slots] at Xk2c6 lk2c6 yk2c6 zk2c6 stk2c6 hQk2c6
    subst lk2c6 yk2c6 zk2c6
    obtain ⟨rfl, Nk2c6q, ek2c6⟩ := hQk2c6
    have Nk2c6 := Fr.app Nk2c4 Nk2c6q
    obtain ⟨lck2t7, Xk2c6, Nk2c6⟩ : ∃ lc, Stand p l e ({ frames := 3, cells := 2, slots := 18, locals := 40 } : Room) s m #[(.ref a0), (.int (0 : Int32)), (.int (Int32.ofNat n))] below meth c Tk2c6 lc 2 18 ∧ Fr n0 lc := ⟨_, Xk2c6, Nk2c6⟩
    refine stp (fun t k => stk2c6 t k) ?_
    show W (Tk2c6.setTop (mkF m 35 #[.val (.ref a0), .val (.int (0 : Int32)), .val (.int (Int32.ofNat n)), .val (.ref bk21), .val (.int rk2c2), .val (.ref bk2c4)] [(.int (fgc (own_lo (g i)) (own_hi (g i))))]))
    refine stp (fun t k => XS.sipush Xk2c6.here hx rfl (hb hby dk2_35) k) ?_
    show W (Tk2c6.setTop (mkF m 38 #[.val (.ref a0), .val (.int (0 : Int32)), .val (.int (Int32.ofNat n)), .val (.ref bk21), .val (.int rk2c2), .val (.ref bk2c4)] [(.int (255 : Int32)), (.int (fgc (own_lo (g i)) (own_hi (g i))))]))
    refine stp (fun t k => XS.icmpYes Xk2c6.here hx rfl (pc0 := 38) (pc' := 54) rfl (hb hby dk2_38) rfl ((tlt (own_gt255 (by rw [own_fgc (hch i hi).1 (hch i hi).2]; exact hbig))).2.2.1) (by decide) (by decide) k) ?_
    show W (Tk2c6.setTop (mkF m 54 #[.val (.ref a0), .val (.int (0 : Int32)), .val (.int (Int32.ofNat n)), .val (.ref bk21), .val (.int rk2c2), .val (.ref bk2c4)] []))
    refine stp (fun t k => XS.aload Xk2c6.here hx rfl (hb hby dk2_54) rfl rfl k) ?_
    show W (Tk2c6.setTop (mkF m 56 #[.val (.ref a0), .val (.int (0 : Int32)), .val (.int (Int32.ofNat n)), .val (.ref bk21), .val (.int rk2c2), .val (.ref bk2c4)] [(.ref bk2c4)]))
    show W (Tk2c6.setTop (mkF m 56 #[.val (.ref a0), .val (.int (0 : Int32)), .val (.int (Int32.ofNat n)), .val (.ref bk21), .val (.int rk2c2), .val (.ref bk2c4)] [(.ref bk2c4)]))
    rw [← hW]
    exact own_retR Xk2c6 hx Bd.notSynchronized Bd.returns rfl (hb hby dk2_56) (by show Qk2 Z a0 (0 : Int32) (Int32.ofNat n) wc sx n g ka h0 n0 _ Tk2c6.heap _; rw [ek2c6]; exact ⟨bk2c4, kbk2c4, rfl, Nk2c6, KKk2c4, sz_bk2c4, Or.inr ⟨⟨i, hi, hbig⟩, V_bk2c4⟩⟩) (by decide) (by decide)
theorem dca_0 : decode jdk_52_method_15_code 0 = .ok (.iload_n 1, 1) := by decide +kernel
theorem dca_1 : decode jdk_52_method_15_code 1 = .ok (.aload_n 0, 1) := by decide +kernel
theorem dca_2 : decode jdk_52_method_15_code 2 = .ok (.arraylength, 1) := by decide +kernel
theorem dca_3 : decode jdk_52_method_15_code 3 = .ok (.isub, 1) := by decide +kernel
theorem dca_4 : decode jdk_52_method_15_code 4 = .ok (.bipush 31, 2) := by decide +kernel
theorem dca_6 : decode jdk_52_method_15_code 6 = .ok (.iushr, 1) := by decide +kernel
theorem dca_7 : decode jdk_52_method_15_code 7 = .ok (.i2b, 1) := by decide +kernel
theorem dca_8 : decode jdk_52_method_15_code 8 = .ok (.ireturn, 1) := by decide +kernel
theorem pnca : plainName "java/lang/StringUTF16" = true := by first | (simp [plainName, overriddenIn]; done) | decide +kernel
theorem efca (m : MethodId) (a0 : Addr) (p1 : Int32) : entryFrame m #[(.ref a0), (.int p1)] 2 = mkF m 0 #[.val (.ref a0), .val (.int p1)] [] := by first | (simp [entryFrame, mkF, argsToLocals, Value.category]; done) | rfl
def fca (p1 : Int32) (z : Int32) : Int32 := (nar .byte ((((p1 - z).toUInt32 >>> ((31 : Int32) &&& 31).toUInt32).toInt32).toInt8.toInt32))
def Qca (Z : State) (a0 : Addr) (p1 : Int32) (wc : Int32) (sx : Value) (kb : ClassId) (z : Int32) (vs : List Value) (h0 : Heap) (n0 : Nat) (v : Option Value) (h : Heap) (L : List Loc) : Prop := v = some (.int (fca p1 z)) ∧ Fr n0 L ∧ h = h0
set_option maxRecDepth 65536 in
set_option maxHeartbeats 40000000 in
theorem rmca (l : Launch) (Z : State) (aa : Array Value) (hw : ∀ d ∈ tables_1, d.before aa Z = true) (ws : List Jvm.Cond) (a0 : Addr) (p1 : Int32) (wc : Int32) (sx : Value) (kb : ClassId) (z : Int32) (vs : List Value) (h0 : Heap) (n0 : Nat) (Z0 : n0 ≤ h0.size) (BW : OwnW Z wc sx) (O0 : Old Z n0 h0) (V_a0 : Arv Z h0 a0 kb .byte z vs (.int (0 : Int32))) :
    MetFree l (⟨"java/lang/StringUTF16", "coderFromArrayLen", "([BI)B"⟩ : MethodName) (head1 (Jvm.Cond.code (⟨"java/lang/StringUTF16", "coderFromArrayLen", "([BI)B"⟩ : MethodName) jdk_52_method_15_code 2 (some .byte) :: ws) ({ frames := 0, cells := 0, slots := 0, locals := 0 } : Room)) (fun a U => a = #[(.ref a0), (.int p1)] ∧ Z.Warmed39 U.vm ∧ U.heap = h0) (fun _ _ _ _ _ => True) (fun _ U o U' => ∃ v L, o = .returned v ∧ Qca Z a0 p1 wc sx kb z vs h0 n0 v U'.heap L ∧ FrameEnd U o U' L ({ frames := 0, cells := 0, slots := 0, locals := 0 } : Room).cells ({ frames := 0, cells := 0, slots := 0, locals := 0 } : Room).slots) := by
  refine MetFree.of_bodySF (plainFor_of_name pnca) hisR ?_
  intro p e s m args below meth c s₁ Bd hml0 hP hK
  obtain ⟨rfl, hZ, hh⟩ := hP
  have hx := Bd.exec
  have hby := Bd.bytes
  have hml : c.maxLocals = 2 := hml0
  have hown : s.vm.findClass "java/lang/StringUTF16" = some m.cls := findClass_of_methodNamed Bd.named
  have hnm := (name_of_methodNamed Bd.named Bd.method).1
  have X0 : Stand p l e ({ frames := 0, cells := 0, slots := 0, locals := 0 } : Room) s m #[(.ref a0), (.int p1)] below meth c s₁ [] 0 0 := Stand.of_body Bd
  have e0 : s₁.heap = h0 := by rw [← hh, Bd.state]; rfl
  have N0 := Fr.nil n0
  show OwnEnd p e below s (fun v h L => Qca Z a0 p1 wc sx kb z vs h0 n0 v h L) ({ frames := 0, cells := 0, slots := 0, locals := 0 } : Room).cells ({ frames := 0, cells := 0, slots := 0, locals := 0 } : Room).slots (s₁.setTop (entryFrame m #[(.ref a0), (.int p1)] 2))
  rw [efca m a0 p1]
  generalize hW : OwnEnd p e below s (fun v h L => Qca Z a0 p1 wc sx kb z vs h0 n0 v h L) ({ frames := 0, cells := 0, slots := 0, locals := 0 } : Room).cells ({ frames := 0, cells := 0, slots := 0, locals := 0 } : Room).slots = W
  have stp : ∀ {A B : State}, (∀ t, Steps p.tables e below B t → Steps p.tables e below A t) → W B → W A := by subst hW; exact own_step
  obtain ⟨S_cs, hcs, S_si, hr_sx, S_ad, S_hi, S_lo⟩ := id BW
  show W (s₁.setTop (mkF m 0 #[.val (.ref a0), .val (.int p1)] []))
  refine stp (fun t k => XS.iloadN X0.here hx rfl (hb hby dca_0) rfl k) ?_
  show W (s₁.setTop (mkF m 1 #[.val (.ref a0), .val (.int p1)] [(.int p1)]))
  refine stp (fun t k => XS.aloadN X0.here hx rfl (hb hby dca_1) rfl rfl k) ?_
  show W (s₁.setTop (mkF m 2 #[.val (.ref a0), .val (.int p1)] [(.ref a0), (.int p1)]))
  obtain ⟨clca1, Arca1, qkca1, qsca1, qnca1, qhca1, qgca1⟩ := id V_a0
  refine stp (fun t k => X0.arraylength hx (by rw [e0]; exact Arca1.1) (State.isArrayOf_alike hZ.alike Arca1.2.1) (g := (mkF m 2 #[.val (.ref a0), .val (.int p1)] [(.ref a0), (.int p1)])) rfl rfl (hb hby dca_2) _ k) ?_
  rw [len_of qsca1 qnca1]
  show W (s₁.setTop (mkF m 3 #[.val (.ref a0), .val (.int p1)] [(.int z), (.int p1)]))
  refine stp (fun t k => XS.isub X0.here hx rfl (hb hby dca_3) rfl k) ?_
  show W (s₁.setTop (mkF m 4 #[.val (.ref a0), .val (.int p1)] [(.int (p1 - z))]))
  refine stp (fun t k => XS.bipush X0.here hx rfl (hb hby dca_4) k) ?_
  show W (s₁.setTop (mkF m 6 #[.val (.ref a0), .val (.int p1)] [(.int (31 : Int32)), (.int (p1 - z))]))
  refine stp (fun t k => XS.iushr X0.here hx rfl (hb hby dca_6) rfl k) ?_
  show W (s₁.setTop (mkF m 7 #[.val (.ref a0), .val (.int p1)] [(.int (((p1 - z).toUInt32 >>> ((31 : Int32) &&& 31).toUInt32).toInt32))]))
  refine stp (fun t k => XS.i2b X0.here hx rfl (hb hby dca_7) rfl k) ?_
  show W (s₁.setTop (mkF m 8 #[.val (.ref a0), .val (.int p1)] [(.int ((((p1 - z).toUInt32 >>> ((31 : Int32) &&& 31).toUInt32).toInt32).toInt8.toInt32))]))
  show W (s₁.setTop (mkF m 8 #[.val (.ref a0), .val (.int p1)] [(.int ((((p1 - z).toUInt32 >>> ((31 : Int32) &&& 31).toUInt32).toInt32).toInt8.toInt32))]))
  rw [← hW]
  exact own_retN X0 hx Bd.notSynchronized Bd.returns (w := (nar .byte ((((p1 - z).toUInt32 >>> ((31 : Int32) &&& 31).toUInt32).toInt32).toInt8.toInt32))) (by simp) (hb hby dca_8) rfl (by show Qca Z a0 p1 wc sx kb z vs h0 n0 _ s₁.heap _; rw [e0]; exact ⟨rfl, N0, rfl⟩) (by decide) (by decide)
theorem own_fca0 (z : Int32) : nar .byte (fca z z) = (0 : Int32) := by
  have e : z - z = 0 := by
    apply Int32.toInt_inj.mp
    have h1 := c_isub z z
    have h2 := rng32 (z - z)
    have h3 : (0 : Int32).toInt = 0 := by decide
    omega
  unfold fca
  rw [e]
  decide
theorem own_fca1 {n : Nat} (h1 : 1 ≤ n) (hn : n ≤ 1000000) : nar .byte (fca (Int32.ofNat n) (Int32.ofNat (2 * n))) = (1 : Int32) := by
  have a1 := own_ofNat (n := n) (by omega)
  have a2 := own_ofNat (n := 2 * n) (by omega)
  have b1 := c_isub (Int32.ofNat n) (Int32.ofNat (2 * n))
  have b2 := rng32 (Int32.ofNat n - Int32.ofNat (2 * n))
  have b3 := c_iushr (Int32.ofNat n - Int32.ofNat (2 * n)) 31 31 (by decide) (by decide)
  have e : ((Int32.ofNat n - Int32.ofNat (2 * n)).toUInt32 >>> ((31 : Int32) &&& 31).toUInt32).toInt32 = 1 := by
    apply Int32.toInt_inj.mp
    rw [b3, show (1 : Int32).toInt = 1 from by decide]
    omega
  unfold fca
  rw [e]
  decide
theorem di2_0 : decode jdk_42_method_149_code 0 = .ok (.aload_n 0, 1) := by decide +kernel
theorem di2_1 : decode jdk_42_method_149_code 1 = .ok (.invokespecial 1, 3) := by decide +kernel
theorem di2_4 : decode jdk_42_method_149_code 4 = .ok (.iload_n 3, 1) := by decide +kernel
theorem di2_5 : decode jdk_42_method_149_code 5 = .ok (.ifCond .ne 22, 3) := by decide +kernel
theorem di2_27 : decode jdk_42_method_149_code 27 = .ok (.getstatic 38, 3) := by decide +kernel
theorem di2_30 : decode jdk_42_method_149_code 30 = .ok (.ifCond .eq 28, 3) := by decide +kernel
theorem di2_33 : decode jdk_42_method_149_code 33 = .ok (.aload_n 1, 1) := by decide +kernel
theorem di2_34 : decode jdk_42_method_149_code 34 = .ok (.iload_n 2, 1) := by decide +kernel
theorem di2_35 : decode jdk_42_method_149_code 35 = .ok (.iload_n 3, 1) := by decide +kernel
theorem di2_36 : decode jdk_42_method_149_code 36 = .ok (.invokestatic 177, 3) := by decide +kernel
theorem di2_39 : decode jdk_42_method_149_code 39 = .ok (.astore 5, 2) := by decide +kernel
theorem di2_41 : decode jdk_42_method_149_code 41 = .ok (.aload_n 0, 1) := by decide +kernel
theorem di2_42 : decode jdk_42_method_149_code 42 = .ok (.aload 5, 2) := by decide +kernel
theorem di2_44 : decode jdk_42_method_149_code 44 = .ok (.iload_n 3, 1) := by decide +kernel
theorem di2_45 : decode jdk_42_method_149_code 45 = .ok (.invokestatic 47, 3) := by decide +kernel
theorem di2_48 : decode jdk_42_method_149_code 48 = .ok (.putfield 15, 3) := by decide +kernel
theorem di2_51 : decode jdk_42_method_149_code 51 = .ok (.aload_n 0, 1) := by decide +kernel
theorem di2_52 : decode jdk_42_method_149_code 52 = .ok (.aload 5, 2) := by decide +kernel
theorem di2_54 : decode jdk_42_method_149_code 54 = .ok (.putfield 9, 3) := by decide +kernel
theorem di2_57 : decode jdk_42_method_149_code 57 = .ok (.return_, 1) := by decide +kernel
theorem pni2 : plainName "java/lang/String" = true := by first | (simp [plainName, overriddenIn]; done) | decide +kernel
theorem pdi2_0 : parseMethodDescriptor "([CII)[B" = some ⟨[(.array .char), .int, .int], some (.array .byte)⟩ := by decide +kernel
theorem pdi2_1 : parseMethodDescriptor "([BI)B" = some ⟨[(.array .byte), .int], some .byte⟩ := by decide +kernel
theorem efi2 (m : MethodId) (a0 : Addr) (a1 : Addr) (p2 : Int32) (p3 : Int32) : entryFrame m #[(.ref a0), (.ref a1), (.int p2), (.int p3), .null] 6 = mkF m 0 #[.val (.ref a0), .val (.ref a1), .val (.int p2), .val (.int p3), .val .null, .unset] [] := by first | (simp [entryFrame, mkF, argsToLocals, Value.category]; done) | rfl
def Qi2 (Z : State) (a0 : Addr) (a1 : Addr) (p2 : Int32) (p3 : Int32) (wc : Int32) (sx : Value) (n : Nat) (g : Nat → Int32) (ka : ClassId) (h0 : Heap) (n0 : Nat) (v : Option Value) (h : Heap) (L : List Loc) : Prop := v = none ∧ Fr n0 L ∧ Keep h0 h [a0] ∧ ∃ b : Addr, h0.size ≤ b ∧ OwnStr Z h a0 b n g
set_option maxRecDepth 65536 in
set_option maxHeartbeats 40000000 in
theorem rmi2 (l : Launch) (Z : State) (aa : Array Value) (hw : ∀ d ∈ tables_1, d.before aa Z = true) (ws : List Jvm.Cond) (a0 : Addr) (a1 : Addr) (p2 : Int32) (p3 : Int32) (wc : Int32) (sx : Value) (n : Nat) (g : Nat → Int32) (ka : ClassId) (h0 : Heap) (n0 : Nat) (Z0 : n0 ≤ h0.size) (BW : OwnW Z wc sx) (O0 : Old Z n0 h0) (hn : n ≤ 6) (hch : ∀ j, j < n → 0 ≤ (g j).toInt ∧ (g j).toInt < 65536) (E_a0 : Exa Z h0 a0 "java/lang/String") (F_value_a0 : Fld Z h0 a0 "java/lang/String" "value" "[B" .null) (F_coder_a0 : Fld Z h0 a0 "java/lang/String" "coder" "B" (.int (0 : Int32))) (g_a0 : n0 ≤ a0) (V_a1 : Arv Z h0 a1 ka .char (Int32.ofNat n) (own_vs n g) (.int (0 : Int32))) (ne_a0_a1 : a0 ≠ a1) (h1 : 1 ≤ n) (hp2 : p2 = (0 : Int32)) (hp3 : p3 = (Int32.ofNat n)) :
    MetFree l (⟨"java/lang/String", "<init>", "([CIILjava/lang/Void;)V"⟩ : MethodName) (head1 (Jvm.Cond.code (⟨"java/lang/String", "<init>", "([CIILjava/lang/Void;)V"⟩ : MethodName) jdk_42_method_149_code 6 none :: ws) ({ frames := 4, cells := 2, slots := 18, locals := 57 } : Room)) (fun a U => a = #[(.ref a0), (.ref a1), (.int p2), (.int p3), .null] ∧ Z.Warmed39 U.vm ∧ U.heap = h0) (fun _ _ _ _ _ => True) (fun _ U o U' => ∃ v L, o = .returned v ∧ Qi2 Z a0 a1 p2 p3 wc sx n g ka h0 n0 v U'.heap L ∧ FrameEnd U o U' L ({ frames := 4, cells := 2, slots := 18, locals := 57 } : Room).cells ({ frames := 4, cells := 2, slots := 18, locals := 57 } : Room).slots) := by
  refine MetFree.of_bodySF (plainFor_of_name pni2) hisR ?_
  intro p e s m args below meth c s₁ Bd hml0 hP hK
  obtain ⟨rfl, hZ, hh⟩ := hP
  have hx := Bd.exec
  have hby := Bd.bytes
  have hml : c.maxLocals = 6 := hml0
  have hown : s.vm.findClass "java/lang/String" = some m.cls := findClass_of_methodNamed Bd.named
  have hnm := (name_of_methodNamed Bd.named Bd.method).1
  have X0 : Stand p l e ({ frames := 4, cells := 2, slots := 18, locals := 57 } : Room) s m #[(.ref a0), (.ref a1), (.int p2), (.int p3), .null] below meth c s₁ [] 0 0 := Stand.of_body Bd
  have e0 : s₁.heap = h0 := by rw [← hh, Bd.state]; rfl
  have N0 := Fr.nil n0
  show OwnEnd p e below s (fun v h L => Qi2 Z a0 a1 p2 p3 wc sx n g ka h0 n0 v h L) ({ frames := 4, cells := 2, slots := 18, locals := 57 } : Room).cells ({ frames := 4, cells := 2, slots := 18, locals := 57 } : Room).slots (s₁.setTop (entryFrame m #[(.ref a0), (.ref a1), (.int p2), (.int p3), .null] 6))
  rw [efi2 m a0 a1 p2 p3]
  generalize hW : OwnEnd p e below s (fun v h L => Qi2 Z a0 a1 p2 p3 wc sx n g ka h0 n0 v h L) ({ frames := 4, cells := 2, slots := 18, locals := 57 } : Room).cells ({ frames := 4, cells := 2, slots := 18, locals := 57 } : Room).slots = W
  have stp : ∀ {A B : State}, (∀ t, Steps p.tables e below B t → Steps p.tables e below A t) → W B → W A := by subst hW; exact own_step
  obtain ⟨S_cs, hcs, S_si, hr_sx, S_ad, S_hi, S_lo⟩ := id BW
  have hz := own_ofNat (n := n) (by omega)
  subst hp2 hp3
  have E0lt := E_a0.lt
  have V1lt := V_a1.lt
  show W (s₁.setTop (mkF m 0 #[.val (.ref a0), .val (.ref a1), .val (.int (0 : Int32)), .val (.int (Int32.ofNat n)), .val .null, .unset] []))
  refine stp (fun t k => XS.aloadN X0.here hx rfl (hb hby di2_0) rfl rfl k) ?_
  show W (s₁.setTop (mkF m 1 #[.val (.ref a0), .val (.ref a1), .val (.int (0 : Int32)), .val (.int (Int32.ofNat n)), .val .null, .unset] [(.ref a0)]))
  obtain ⟨T1, X1, e1, st1⟩ := initO X0 hx hZ hown (hw _ (List.mem_of_getElem? (i := 18) rfl)) (hw _ (List.mem_of_getElem? (i := 19) rfl)) (hw _ (List.mem_of_getElem? (i := 20) rfl)) e0 (g := (mkF m 1 #[.val (.ref a0), .val (.ref a1), .val (.int (0 : Int32)), .val (.int (Int32.ofNat n)), .val .null, .unset] [(.ref a0)])) rfl (by rw [hml]; rfl) rfl (hb hby di2_1) (by decide) (W := 0) (by show 2 * 0 + _ ≤ _; exact Nat.le_of_eq rfl) (by decide)
  refine stp (fun t k => st1 t k) ?_
  show W (T1.setTop (mkF m 4 #[.val (.ref a0), .val (.ref a1), .val (.int (0 : Int32)), .val (.int (Int32.ofNat n)), .val .null, .unset] []))
  refine stp (fun t k => XS.iloadN X1.here hx rfl (hb hby di2_4) rfl k) ?_
  show W (T1.setTop (mkF m 5 #[.val (.ref a0), .val (.ref a1), .val (.int (0 : Int32)), .val (.int (Int32.ofNat n)), .val .null, .unset] [(.int (Int32.ofNat n))]))
  refine stp (fun t k => XS.ifYes X1.here hx rfl (pc0 := 5) (pc' := 27) rfl (hb hby di2_5) rfl ((if0 _ _).trans (feq (fun q => by rw [q, show (0 : Int32).toInt = 0 from by decide] at hz; omega)).2) (by decide) (by decide) k) ?_
  show W (T1.setTop (mkF m 27 #[.val (.ref a0), .val (.ref a1), .val (.int (0 : Int32)), .val (.int (Int32.ofNat n)), .val .null, .unset] []))
  obtain ⟨Ti22, Xi22, ei22, sti22⟩ := getS2 X1 hx hZ hown (host := "") (Or.inl (hw _ (List.mem_of_getElem? (i := 21) rfl))) Via.refl e1 (S_cs.ext O0.2) (g := (mkF m 27 #[.val (.ref a0), .val (.ref a1), .val (.int (0 : Int32)), .val (.int (Int32.ofNat n)), .val .null, .unset] [])) rfl (hb hby di2_27)
  refine stp (fun t k => sti22 t k) ?_
  show W (Ti22.setTop (mkF m 30 #[.val (.ref a0), .val (.ref a1), .val (.int (0 : Int32)), .val (.int (Int32.ofNat n)), .val .null, .unset] [(.int wc)]))
  refine stp (fun t k => XS.ifNo Xi22.here hx rfl (hb hby di2_30) rfl ((if0 _ _).trans (feq (hcs)).1) k) ?_
  show W (Ti22.setTop (mkF m 33 #[.val (.ref a0), .val (.ref a1), .val (.int (0 : Int32)), .val (.int (Int32.ofNat n)), .val .null, .unset] []))
  refine stp (fun t k => XS.aloadN Xi22.here hx rfl (hb hby di2_33) rfl rfl k) ?_
  show W (Ti22.setTop (mkF m 34 #[.val (.ref a0), .val (.ref a1), .val (.int (0 : Int32)), .val (.int (Int32.ofNat n)), .val .null, .unset] [(.ref a1)]))
  refine stp (fun t k => XS.iloadN Xi22.here hx rfl (hb hby di2_34) rfl k) ?_
  show W (Ti22.setTop (mkF m 35 #[.val (.ref a0), .val (.ref a1), .val (.int (0 : Int32)), .val (.int (Int32.ofNat n)), .val .null, .unset] [(.int (0 : Int32)), (.ref a1)]))
  refine stp (fun t k => XS.iloadN Xi22.here hx rfl (hb hby di2_35) rfl k) ?_
  show W (Ti22.setTop (mkF m 36 #[.val (.ref a0), .val (.ref a1), .val (.int (0 : Int32)), .val (.int (Int32.ofNat n)), .val .null, .unset] [(.int (Int32.ofNat n)), (.int (0 : Int32)), (.ref a1)]))
  obtain ⟨_, _, ⟨Ti2c3, Li2c3, ki2c3, ni2c3⟩, -, Xi2c3, ⟨Lci2c3, hQi2c3, li2c3, yi2c3, zi2c3⟩, sti2c3⟩ := Jvm.LawKit.callS Xi22 hx (y := (⟨"java/lang/StringUTF16", "compress", "([CII)[B"⟩ : MethodName)) hown (mvT hZ (hw _ (List.mem_of_getElem? (i := 22) rfl))) (mvT hZ (hw _ (List.mem_of_getElem? (i := 23) rfl))) (mvT hZ (hw _ (List.mem_of_getElem? (i := 24) rfl))) (mvT hZ (hw _ (List.mem_of_getElem? (i := 25) rfl))) (by decide) (backOf (W := 0) (rmk2 l Z aa hw [] a1 (0 : Int32) (Int32.ofNat n) wc sx n g ka h0 n0 Z0 BW O0 hn hch V_a1 rfl rfl) hZ (hw _ (List.mem_of_getElem? (i := 25) rfl)) (hw _ (List.mem_of_getElem? (i := 24) rfl)) (by decide) (by decide)) (g := (mkF m 36 #[.val (.ref a0), .val (.ref a1), .val (.int (0 : Int32)), .val (.int (Int32.ofNat n)), .val .null, .unset] [(.int (Int32.ofNat n)), (.int (0 : Int32)), (.ref a1)])) rfl (by rw [hml]; rfl) (argsL := [(.ref a1), (.int (0 : Int32)), (.int (Int32.ofNat n))]) (rest := []) (lenOf pdi2_0 rfl) rfl (by show 2 * 0 + _ ≤ _; exact Nat.le_of_eq rfl) (hb hby di2_36) (fun _ _ => ⟨rfl, ei22, (by decide : 0 + 2 ≤ _), (by decide : 0 + 18 ≤ _)⟩)
  dsimp only [Pt.U, Pt.locs, Pt.cells, Pt.slots] at Xi2c3 li2c3 yi2c3 zi2c3 sti2c3 hQi2c3
  subst li2c3 yi2c3 zi2c3
  obtain ⟨bi2c3, kbi2c3, rfl, Ni2c3q, Kqi2c3, sz_bi2c3, Ci2c3⟩ := hQi2c3
  have Ni2c3 := Fr.app N0 Ni2c3q
  obtain ⟨lci2t4, Xi2c3, Ni2c3⟩ : ∃ lc, Stand p l e ({ frames := 4, cells := 2, slots := 18, locals := 57 } : Room) s m #[(.ref a0), (.ref a1), (.int (0 : Int32)), (.int (Int32.ofNat n)), .null] below meth c Ti2c3 lc 2 18 ∧ Fr n0 lc := ⟨_, Xi2c3, Ni2c3⟩
  obtain ⟨hi2c3, ei2c3⟩ : ∃ h, Ti2c3.heap = h := ⟨_, rfl⟩
  rw [ei2c3] at Kqi2c3 Ci2c3
  have ne_a0_bi2c3 : a0 ≠ bi2c3 := Nat.ne_of_lt (Nat.lt_of_lt_of_le E_a0.lt sz_bi2c3)
  have ne_a1_bi2c3 : a1 ≠ bi2c3 := Nat.ne_of_lt (Nat.lt_of_lt_of_le V_a1.lt sz_bi2c3)
  have g_bi2c3 : n0 ≤ bi2c3 := Nat.le_trans Z0 sz_bi2c3
  have sz_bi2c3 : h0.size ≤ bi2c3 := Nat.le_trans (Keep.refl h0 [a0]).1 sz_bi2c3
  replace E_a0 := E_a0.keep Kqi2c3
  replace F_value_a0 := F_value_a0.keep Kqi2c3 nin0
  replace F_coder_a0 := F_coder_a0.keep Kqi2c3 nin0
  replace V_a1 := V_a1.keep Kqi2c3 nin0
  have KKi2c3 := Keep.trans (Keep.refl h0 [a0]) Kqi2c3 all0
  have Zi2c3 := Nat.le_trans Z0 Kqi2c3.1
  have Oi2c3 := O0.keep Kqi2c3 all0
  refine stp (fun t k => sti2c3 t k) ?_
  show W (Ti2c3.setTop (mkF m 39 #[.val (.ref a0), .val (.ref a1), .val (.int (0 : Int32)), .val (.int (Int32.ofNat n)), .val .null, .unset] [(.ref bi2c3)]))
  refine stp (fun t k => XS.astore Xi2c3.here hx rfl (hb hby di2_39) rfl rfl (l' := #[.val (.ref a0), .val (.ref a1), .val (.int (0 : Int32)), .val (.int (Int32.ofNat n)), .val .null, .val (.ref bi2c3)]) rfl k) ?_
  rcases Ci2c3 with Ci2c3 | Ci2c3
  · obtain ⟨hki2c3, V_bi2c3⟩ := Ci2c3
    have ne_a0_bi2c3 : a0 ≠ bi2c3 := Nat.ne_of_lt (Nat.lt_of_lt_of_le E0lt sz_bi2c3)
    have ne_a1_bi2c3 : a1 ≠ bi2c3 := Nat.ne_of_lt (Nat.lt_of_lt_of_le V1lt sz_bi2c3)
    show W (Ti2c3.setTop (mkF m 41 #[.val (.ref a0), .val (.ref a1), .val (.int (0 : Int32)), .val (.int (Int32.ofNat n)), .val .null, .val (.ref bi2c3)] []))
    refine stp (fun t k => XS.aloadN Xi2c3.here hx rfl (hb hby di2_41) rfl rfl k) ?_
    show W (Ti2c3.setTop (mkF m 42 #[.val (.ref a0), .val (.ref a1), .val (.int (0 : Int32)), .val (.int (Int32.ofNat n)), .val .null, .val (.ref bi2c3)] [(.ref a0)]))
    refine stp (fun t k => XS.aload Xi2c3.here hx rfl (hb hby di2_42) rfl rfl k) ?_
    show W (Ti2c3.setTop (mkF m 44 #[.val (.ref a0), .val (.ref a1), .val (.int (0 : Int32)), .val (.int (Int32.ofNat n)), .val .null, .val (.ref bi2c3)] [(.ref bi2c3), (.ref a0)]))
    refine stp (fun t k => XS.iloadN Xi2c3.here hx rfl (hb hby di2_44) rfl k) ?_
    show W (Ti2c3.setTop (mkF m 45 #[.val (.ref a0), .val (.ref a1), .val (.int (0 : Int32)), .val (.int (Int32.ofNat n)), .val .null, .val (.ref bi2c3)] [(.int (Int32.ofNat n)), (.ref bi2c3), (.ref a0)]))
    obtain ⟨_, _, ⟨Ti2c5, Li2c5, ki2c5, ni2c5⟩, -, Xi2c5, ⟨Lci2c5, hQi2c5, li2c5, yi2c5, zi2c5⟩, sti2c5⟩ := Jvm.LawKit.callS Xi2c3 hx (y := (⟨"java/lang/StringUTF16", "coderFromArrayLen", "([BI)B"⟩ : MethodName)) hown (mvT hZ (hw _ (List.mem_of_getElem? (i := 49) rfl))) (mvT hZ (hw _ (List.mem_of_getElem? (i := 50) rfl))) (mvT hZ (hw _ (List.mem_of_getElem? (i := 24) rfl))) (mvT hZ (hw _ (List.mem_of_getElem? (i := 51) rfl))) (by decide) (backOf (W := 1) (rmca l Z aa hw [] bi2c3 (Int32.ofNat n) wc sx kbi2c3 (Int32.ofNat n) (own_vs n fun j => own_b (g j)) hi2c3 n0 Zi2c3 BW Oi2c3 V_bi2c3) hZ (hw _ (List.mem_of_getElem? (i := 51) rfl)) (hw _ (List.mem_of_getElem? (i := 24) rfl)) (by decide) (by decide)) (g := (mkF m 45 #[.val (.ref a0), .val (.ref a1), .val (.int (0 : Int32)), .val (.int (Int32.ofNat n)), .val .null, .val (.ref bi2c3)] [(.int (Int32.ofNat n)), (.ref bi2c3), (.ref a0)])) rfl (by rw [hml]; rfl) (argsL := [(.ref bi2c3), (.int (Int32.ofNat n))]) (rest := [(.ref a0)]) (lenOf pdi2_1 rfl) rfl (by show 2 * 0 + _ ≤ _; exact Nat.le_of_eq rfl) (hb hby di2_45) (fun _ _ => ⟨rfl, ei2c3, (by decide : 2 + 0 ≤ _), (by decide : 18 + 0 ≤ _)⟩)
    dsimp only [Pt.U, Pt.locs, Pt.cells, Pt.slots] at Xi2c5 li2c5 yi2c5 zi2c5 sti2c5 hQi2c5
    subst li2c5 yi2c5 zi2c5
    obtain ⟨rfl, Ni2c5q, ei2c5⟩ := hQi2c5
    have Ni2c5 := Fr.app Ni2c3 Ni2c5q
    obtain ⟨lci2t6, Xi2c5, Ni2c5⟩ : ∃ lc, Stand p l e ({ frames := 4, cells := 2, slots := 18, locals := 57 } : Room) s m #[(.ref a0), (.ref a1), (.int (0 : Int32)), (.int (Int32.ofNat n)), .null] below meth c Ti2c5 lc 2 18 ∧ Fr n0 lc := ⟨_, Xi2c5, Ni2c5⟩
    refine stp (fun t k => sti2c5 t k) ?_
    show W (Ti2c5.setTop (mkF m 48 #[.val (.ref a0), .val (.ref a1), .val (.int (0 : Int32)), .val (.int (Int32.ofNat n)), .val .null, .val (.ref bi2c3)] [(.int (fca (Int32.ofNat n) (Int32.ofNat n))), (.ref a0)]))
    obtain ⟨Ti27, hi27, Xi27, ei27, Wi27, sti27⟩ := putFN Xi2c5 hx hZ hown (hw _ (List.mem_of_getElem? (i := 52) rfl)) Via.refl ei2c5 F_coder_a0 E_a0 (Or.inr ⟨(hw _ (List.mem_of_getElem? (i := 53) rfl)), rfl, hnm⟩) (hw _ (List.mem_of_getElem? (i := 9) rfl)) (ty := .byte) (v' := (.int (nar .byte (fca (Int32.ofNat n) (Int32.ofNat n))))) (by decide) rfl (fits_nar_byte _) (g := (mkF m 48 #[.val (.ref a0), .val (.ref a1), .val (.int (0 : Int32)), .val (.int (Int32.ofNat n)), .val .null, .val (.ref bi2c3)] [(.int (fca (Int32.ofNat n) (Int32.ofNat n))), (.ref a0)])) rfl rfl (hb hby di2_48)
    have Ni27 := Fr.snoc Xi27 Ni2c5 g_a0
    have F_coder_a0x := F_coder_a0.same Wi27
    obtain ⟨lci2t8, Xi27, Ni27⟩ : ∃ lc, Stand p l e ({ frames := 4, cells := 2, slots := 18, locals := 57 } : Room) s m #[(.ref a0), (.ref a1), (.int (0 : Int32)), (.int (Int32.ofNat n)), .null] below meth c Ti27 lc 2 18 ∧ Fr n0 lc := ⟨_, Xi27, Ni27⟩
    replace E_a0 := E_a0.wr Wi27
    replace F_value_a0 := F_value_a0.other Wi27 (Or.inr (slot_ne (Or.inr (hw _ (List.mem_of_getElem? (i := 55) rfl))) (Or.inr (hw _ (List.mem_of_getElem? (i := 53) rfl))) (by decide) (t := (.array .byte)) (t' := .byte) (by decide) (by decide)))
    replace V_a1 := V_a1.other Wi27 (Ne.symm ne_a0_a1)
    replace V_bi2c3 := V_bi2c3.other Wi27 (Ne.symm ne_a0_bi2c3)
    have Ki27 := KKi2c3.wr Wi27 (Or.inl (List.mem_of_getElem? (i := 0) rfl))
    have Zi27 := Nat.le_trans Zi2c3 (Keep.of_wr Wi27).1
    have Oi27 := Oi2c3.wr Wi27 g_a0
    replace F_coder_a0 := F_coder_a0x
    clear F_coder_a0x
    refine stp (fun t k => sti27 t k) ?_
    show W (Ti27.setTop (mkF m 51 #[.val (.ref a0), .val (.ref a1), .val (.int (0 : Int32)), .val (.int (Int32.ofNat n)), .val .null, .val (.ref bi2c3)] []))
    refine stp (fun t k => XS.aloadN Xi27.here hx rfl (hb hby di2_51) rfl rfl k) ?_
    show W (Ti27.setTop (mkF m 52 #[.val (.ref a0), .val (.ref a1), .val (.int (0 : Int32)), .val (.int (Int32.ofNat n)), .val .null, .val (.ref bi2c3)] [(.ref a0)]))
    refine stp (fun t k => XS.aload Xi27.here hx rfl (hb hby di2_52) rfl rfl k) ?_
    show W (Ti27.setTop (mkF m 54 #[.val (.ref a0), .val (.ref a1), .val (.int (0 : Int32)), .val (.int (Int32.ofNat n)), .val .null, .val (.ref bi2c3)] [(.ref bi2c3), (.ref a0)]))
    obtain ⟨Ti29, hi29, Xi29, ei29, Wi29, sti29⟩ := putF Xi27 hx hZ hown (host := "") (Or.inl (hw _ (List.mem_of_getElem? (i := 54) rfl))) Via.refl ei27 F_value_a0 E_a0 (Or.inr ⟨(hw _ (List.mem_of_getElem? (i := 55) rfl)), rfl, hnm⟩) (hw _ (List.mem_of_getElem? (i := 9) rfl)) (ty := (.array .byte)) (by decide) rfl rfl (g := (mkF m 54 #[.val (.ref a0), .val (.ref a1), .val (.int (0 : Int32)), .val (.int (Int32.ofNat n)), .val .null, .val (.ref bi2c3)] [(.ref bi2c3), (.ref a0)])) rfl rfl (hb hby di2_54)
    have Ni29 := Fr.snoc Xi29 Ni27 g_a0
    have F_value_a0x := F_value_a0.same Wi29
    obtain ⟨lci2t10, Xi29, Ni29⟩ : ∃ lc, Stand p l e ({ frames := 4, cells := 2, slots := 18, locals := 57 } : Room) s m #[(.ref a0), (.ref a1), (.int (0 : Int32)), (.int (Int32.ofNat n)), .null] below meth c Ti29 lc 2 18 ∧ Fr n0 lc := ⟨_, Xi29, Ni29⟩
    replace E_a0 := E_a0.wr Wi29
    replace F_coder_a0 := F_coder_a0.other Wi29 (Or.inr (slot_ne (Or.inr (hw _ (List.mem_of_getElem? (i := 53) rfl))) (Or.inr (hw _ (List.mem_of_getElem? (i := 55) rfl))) (by decide) (t := .byte) (t' := (.array .byte)) (by decide) (by decide)))
    replace V_a1 := V_a1.other Wi29 (Ne.symm ne_a0_a1)
    replace V_bi2c3 := V_bi2c3.other Wi29 (Ne.symm ne_a0_bi2c3)
    have Ki29 := Ki27.wr Wi29 (Or.inl (List.mem_of_getElem? (i := 0) rfl))
    have Zi29 := Nat.le_trans Zi27 (Keep.of_wr Wi29).1
    have Oi29 := Oi27.wr Wi29 g_a0
    replace F_value_a0 := F_value_a0x
    clear F_value_a0x
    refine stp (fun t k => sti29 t k) ?_
    show W (Ti29.setTop (mkF m 57 #[.val (.ref a0), .val (.ref a1), .val (.int (0 : Int32)), .val (.int (Int32.ofNat n)), .val .null, .val (.ref bi2c3)] []))
    show W (Ti29.setTop (mkF m 57 #[.val (.ref a0), .val (.ref a1), .val (.int (0 : Int32)), .val (.int (Int32.ofNat n)), .val .null, .val (.ref bi2c3)] []))
    rw [← hW]
    exact own_ret0 Xi29 hx Bd.notSynchronized Bd.returns (hb hby di2_57) (by show Qi2 Z a0 a1 (0 : Int32) (Int32.ofNat n) wc sx n g ka h0 n0 _ Ti29.heap _; rw [ei29]; exact ⟨rfl, Ni29, Ki29, bi2c3, sz_bi2c3, E_a0, F_value_a0, Or.inl ⟨own_fldEq (own_fca0 (Int32.ofNat n)) F_coder_a0, hki2c3, _, V_bi2c3⟩⟩) (by decide) (by decide)
  · obtain ⟨hki2c3, V_bi2c3⟩ := Ci2c3
    have ne_a0_bi2c3 : a0 ≠ bi2c3 := Nat.ne_of_lt (Nat.lt_of_lt_of_le E0lt sz_bi2c3)
    have ne_a1_bi2c3 : a1 ≠ bi2c3 := Nat.ne_of_lt (Nat.lt_of_lt_of_le V1lt sz_bi2c3)
    show W (Ti2c3.setTop (mkF m 41 #[.val (.ref a0), .val (.ref a1), .val (.int (0 : Int32)), .val (.int (Int32.ofNat n)), .val .null, .val (.ref bi2c3)] []))
    refine stp (fun t k => XS.aloadN Xi2c3.here hx rfl (hb hby di2_41) rfl rfl k) ?_
    show W (Ti2c3.setTop (mkF m 42 #[.val (.ref a0), .val (.ref a1), .val (.int (0 : Int32)), .val (.int (Int32.ofNat n)), .val .null, .val (.ref bi2c3)] [(.ref a0)]))
    refine stp (fun t k => XS.aload Xi2c3.here hx rfl (hb hby di2_42) rfl rfl k) ?_
    show W (Ti2c3.setTop (mkF m 44 #[.val (.ref a0), .val (.ref a1), .val (.int (0 : Int32)), .val (.int (Int32.ofNat n)), .val .null, .val (.ref bi2c3)] [(.ref bi2c3), (.ref a0)]))
    refine stp (fun t k => XS.iloadN Xi2c3.here hx rfl (hb hby di2_44) rfl k) ?_
    show W (Ti2c3.setTop (mkF m 45 #[.val (.ref a0), .val (.ref a1), .val (.int (0 : Int32)), .val (.int (Int32.ofNat n)), .val .null, .val (.ref bi2c3)] [(.int (Int32.ofNat n)), (.ref bi2c3), (.ref a0)]))
    obtain ⟨_, _, ⟨Ti2c11, Li2c11, ki2c11, ni2c11⟩, -, Xi2c11, ⟨Lci2c11, hQi2c11, li2c11, yi2c11, zi2c11⟩, sti2c11⟩ := Jvm.LawKit.callS Xi2c3 hx (y := (⟨"java/lang/StringUTF16", "coderFromArrayLen", "([BI)B"⟩ : MethodName)) hown (mvT hZ (hw _ (List.mem_of_getElem? (i := 49) rfl))) (mvT hZ (hw _ (List.mem_of_getElem? (i := 50) rfl))) (mvT hZ (hw _ (List.mem_of_getElem? (i := 24) rfl))) (mvT hZ (hw _ (List.mem_of_getElem? (i := 51) rfl))) (by decide) (backOf (W := 1) (rmca l Z aa hw [] bi2c3 (Int32.ofNat n) wc sx kbi2c3 (Int32.ofNat (2 * n)) (own_vs (2 * n) (own_u g)) hi2c3 n0 Zi2c3 BW Oi2c3 V_bi2c3) hZ (hw _ (List.mem_of_getElem? (i := 51) rfl)) (hw _ (List.mem_of_getElem? (i := 24) rfl)) (by decide) (by decide)) (g := (mkF m 45 #[.val (.ref a0), .val (.ref a1), .val (.int (0 : Int32)), .val (.int (Int32.ofNat n)), .val .null, .val (.ref bi2c3)] [(.int (Int32.ofNat n)), (.ref bi2c3), (.ref a0)])) rfl (by rw [hml]; rfl) (argsL := [(.ref bi2c3), (.int (Int32.ofNat n))]) (rest := [(.ref a0)]) (lenOf pdi2_1 rfl) rfl (by show 2 * 0 + _ ≤ _; exact Nat.le_of_eq rfl) (hb hby di2_45) (fun _ _ => ⟨rfl, ei2c3, (by decide : 2 + 0 ≤ _), (by decide : 18 + 0 ≤ _)⟩)
    dsimp only [Pt.U, Pt.locs, Pt.cells, Pt.slots] at Xi2c11 li2c11 yi2c11 zi2c11 sti2c11 hQi2c11
    subst li2c11 yi2c11 zi2c11
    obtain ⟨rfl, Ni2c11q, ei2c11⟩ := hQi2c11
    have Ni2c11 := Fr.app Ni2c3 Ni2c11q
    obtain ⟨lci2t12, Xi2c11, Ni2c11⟩ : ∃ lc, Stand p l e ({ frames := 4, cells := 2, slots := 18, locals := 57 } : Room) s m #[(.ref a0), (.ref a1), (.int (0 : Int32)), (.int (Int32.ofNat n)), .null] below meth c Ti2c11 lc 2 18 ∧ Fr n0 lc := ⟨_, Xi2c11, Ni2c11⟩
    refine stp (fun t k => sti2c11 t k) ?_
    show W (Ti2c11.setTop (mkF m 48 #[.val (.ref a0), .val (.ref a1), .val (.int (0 : Int32)), .val (.int (Int32.ofNat n)), .val .null, .val (.ref bi2c3)] [(.int (fca (Int32.ofNat n) (Int32.ofNat (2 * n)))), (.ref a0)]))
    obtain ⟨Ti213, hi213, Xi213, ei213, Wi213, sti213⟩ := putFN Xi2c11 hx hZ hown (hw _ (List.mem_of_getElem? (i := 52) rfl)) Via.refl ei2c11 F_coder_a0 E_a0 (Or.inr ⟨(hw _ (List.mem_of_getElem? (i := 53) rfl)), rfl, hnm⟩) (hw _ (List.mem_of_getElem? (i := 9) rfl)) (ty := .byte) (v' := (.int (nar .byte (fca (Int32.ofNat n) (Int32.ofNat (2 * n)))))) (by decide) rfl (fits_nar_byte _) (g := (mkF m 48 #[.val (.ref a0), .val (.ref a1), .val (.int (0 : Int32)), .val (.int (Int32.ofNat n)), .val .null, .val (.ref bi2c3)] [(.int (fca (Int32.ofNat n) (Int32.ofNat (2 * n)))), (.ref a0)])) rfl rfl (hb hby di2_48)
    have Ni213 := Fr.snoc Xi213 Ni2c11 g_a0
    have F_coder_a0x := F_coder_a0.same Wi213
    obtain ⟨lci2t14, Xi213, Ni213⟩ : ∃ lc, Stand p l e ({ frames := 4, cells := 2, slots := 18, locals := 57 } : Room) s m #[(.ref a0), (.ref a1), (.int (0 : Int32)), (.int (Int32.ofNat n)), .null] below meth c Ti213 lc 2 18 ∧ Fr n0 lc := ⟨_, Xi213, Ni213⟩
    replace E_a0 := E_a0.wr Wi213
    replace F_value_a0 := F_value_a0.other Wi213 (Or.inr (slot_ne (Or.inr (hw _ (List.mem_of_getElem? (i := 55) rfl))) (Or.inr (hw _ (List.mem_of_getElem? (i := 53) rfl))) (by decide) (t := (.array .byte)) (t' := .byte) (by decide) (by decide)))
    replace V_a1 := V_a1.other Wi213 (Ne.symm ne_a0_a1)
    replace V_bi2c3 := V_bi2c3.other Wi213 (Ne.symm ne_a0_bi2c3)
    have Ki213 := KKi2c3.wr Wi213 (Or.inl (List.mem_of_getElem? (i := 0) rfl))
    have Zi213 := Nat.le_trans Zi2c3 (Keep.of_wr Wi213).1
    have Oi213 := Oi2c3.wr Wi213 g_a0
    replace F_coder_a0 := F_coder_a0x
    clear F_coder_a0x
    refine stp (fun t k => sti213 t k) ?_
    show W (Ti213.setTop (mkF m 51 #[.val (.ref a0), .val (.ref a1), .val (.int (0 : Int32)), .val (.int (Int32.ofNat n)), .val .null, .val (.ref bi2c3)] []))
    refine stp (fun t k => XS.aloadN Xi213.here hx rfl (hb hby di2_51) rfl rfl k) ?_
    show W (Ti213.setTop (mkF m 52 #[.val (.ref a0), .val (.ref a1), .val (.int (0 : Int32)), .val (.int (Int32.ofNat n)), .val .null, .val (.ref bi2c3)] [(.ref a0)]))
    refine stp (fun t k => XS.aload Xi213.here hx rfl (hb hby di2_52) rfl rfl k) ?_
    show W (Ti213.setTop (mkF m 54 #[.val (.ref a0), .val (.ref a1), .val (.int (0 : Int32)), .val (.int (Int32.ofNat n)), .val .null, .val (.ref bi2c3)] [(.ref bi2c3), (.ref a0)]))
    obtain ⟨Ti215, hi215, Xi215, ei215, Wi215, sti215⟩ := putF Xi213 hx hZ hown (host := "") (Or.inl (hw _ (List.mem_of_getElem? (i := 54) rfl))) Via.refl ei213 F_value_a0 E_a0 (Or.inr ⟨(hw _ (List.mem_of_getElem? (i := 55) rfl)), rfl, hnm⟩) (hw _ (List.mem_of_getElem? (i := 9) rfl)) (ty := (.array .byte)) (by decide) rfl rfl (g := (mkF m 54 #[.val (.ref a0), .val (.ref a1), .val (.int (0 : Int32)), .val (.int (Int32.ofNat n)), .val .null, .val (.ref bi2c3)] [(.ref bi2c3), (.ref a0)])) rfl rfl (hb hby di2_54)
    have Ni215 := Fr.snoc Xi215 Ni213 g_a0
    have F_value_a0x := F_value_a0.same Wi215
    obtain ⟨lci2t16, Xi215, Ni215⟩ : ∃ lc, Stand p l e ({ frames := 4, cells := 2, slots := 18, locals := 57 } : Room) s m #[(.ref a0), (.ref a1), (.int (0 : Int32)), (.int (Int32.ofNat n)), .null] below meth c Ti215 lc 2 18 ∧ Fr n0 lc := ⟨_, Xi215, Ni215⟩
    replace E_a0 := E_a0.wr Wi215
    replace F_coder_a0 := F_coder_a0.other Wi215 (Or.inr (slot_ne (Or.inr (hw _ (List.mem_of_getElem? (i := 53) rfl))) (Or.inr (hw _ (List.mem_of_getElem? (i := 55) rfl))) (by decide) (t := .byte) (t' := (.array .byte)) (by decide) (by decide)))
    replace V_a1 := V_a1.other Wi215 (Ne.symm ne_a0_a1)
    replace V_bi2c3 := V_bi2c3.other Wi215 (Ne.symm ne_a0_bi2c3)
    have Ki215 := Ki213.wr Wi215 (Or.inl (List.mem_of_getElem? (i := 0) rfl))
    have Zi215 := Nat.le_trans Zi213 (Keep.of_wr Wi215).1
    have Oi215 := Oi213.wr Wi215 g_a0
    replace F_value_a0 := F_value_a0x
    clear F_value_a0x
    refine stp (fun t k => sti215 t k) ?_
    show W (Ti215.setTop (mkF m 57 #[.val (.ref a0), .val (.ref a1), .val (.int (0 : Int32)), .val (.int (Int32.ofNat n)), .val .null, .val (.ref bi2c3)] []))
    show W (Ti215.setTop (mkF m 57 #[.val (.ref a0), .val (.ref a1), .val (.int (0 : Int32)), .val (.int (Int32.ofNat n)), .val .null, .val (.ref bi2c3)] []))
    rw [← hW]
    exact own_ret0 Xi215 hx Bd.notSynchronized Bd.returns (hb hby di2_57) (by show Qi2 Z a0 a1 (0 : Int32) (Int32.ofNat n) wc sx n g ka h0 n0 _ Ti215.heap _; rw [ei215]; exact ⟨rfl, Ni215, Ki215, bi2c3, sz_bi2c3, E_a0, F_value_a0, Or.inr ⟨own_fldEq (own_fca1 h1 (by omega)) F_coder_a0, _, V_bi2c3⟩⟩) (by decide) (by decide)
theorem di1_0 : decode jdk_42_method_3_code 0 = .ok (.aload_n 0, 1) := by decide +kernel
theorem di1_1 : decode jdk_42_method_3_code 1 = .ok (.aload_n 1, 1) := by decide +kernel
theorem di1_2 : decode jdk_42_method_3_code 2 = .ok (.iconst 0, 1) := by decide +kernel
theorem di1_3 : decode jdk_42_method_3_code 3 = .ok (.aload_n 1, 1) := by decide +kernel
theorem di1_4 : decode jdk_42_method_3_code 4 = .ok (.arraylength, 1) := by decide +kernel
theorem di1_5 : decode jdk_42_method_3_code 5 = .ok (.aconst_null, 1) := by decide +kernel
theorem di1_6 : decode jdk_42_method_3_code 6 = .ok (.invokespecial 27, 3) := by decide +kernel
theorem di1_9 : decode jdk_42_method_3_code 9 = .ok (.return_, 1) := by decide +kernel
theorem pni1 : plainName "java/lang/String" = true := by first | (simp [plainName, overriddenIn]; done) | decide +kernel
theorem pdi1_0 : parseMethodDescriptor "([CIILjava/lang/Void;)V" = some ⟨[(.array .char), .int, .int, (.object "java/lang/Void")], none⟩ := by decide +kernel
theorem efi1 (m : MethodId) (a0 : Addr) (a1 : Addr) : entryFrame m #[(.ref a0), (.ref a1)] 2 = mkF m 0 #[.val (.ref a0), .val (.ref a1)] [] := by first | (simp [entryFrame, mkF, argsToLocals, Value.category]; done) | rfl
def Qi1 (Z : State) (a0 : Addr) (a1 : Addr) (wc : Int32) (sx : Value) (n : Nat) (g : Nat → Int32) (ka : ClassId) (h0 : Heap) (n0 : Nat) (v : Option Value) (h : Heap) (L : List Loc) : Prop := v = none ∧ Fr n0 L ∧ Keep h0 h [a0] ∧ ∃ b : Addr, h0.size ≤ b ∧ OwnStr Z h a0 b n g
set_option maxRecDepth 65536 in
set_option maxHeartbeats 40000000 in
theorem rmi1 (l : Launch) (Z : State) (aa : Array Value) (hw : ∀ d ∈ tables_1, d.before aa Z = true) (ws : List Jvm.Cond) (a0 : Addr) (a1 : Addr) (wc : Int32) (sx : Value) (n : Nat) (g : Nat → Int32) (ka : ClassId) (h0 : Heap) (n0 : Nat) (Z0 : n0 ≤ h0.size) (BW : OwnW Z wc sx) (O0 : Old Z n0 h0) (hn : n ≤ 6) (hch : ∀ j, j < n → 0 ≤ (g j).toInt ∧ (g j).toInt < 65536) (E_a0 : Exa Z h0 a0 "java/lang/String") (F_value_a0 : Fld Z h0 a0 "java/lang/String" "value" "[B" .null) (F_coder_a0 : Fld Z h0 a0 "java/lang/String" "coder" "B" (.int (0 : Int32))) (g_a0 : n0 ≤ a0) (V_a1 : Arv Z h0 a1 ka .char (Int32.ofNat n) (own_vs n g) (.int (0 : Int32))) (ne_a0_a1 : a0 ≠ a1) (h1 : 1 ≤ n) :
    MetFree l (⟨"java/lang/String", "<init>", "([C)V"⟩ : MethodName) (head1 (Jvm.Cond.code (⟨"java/lang/String", "<init>", "([C)V"⟩ : MethodName) jdk_42_method_3_code 2 none :: ws) ({ frames := 5, cells := 2, slots := 18, locals := 74 } : Room)) (fun a U => a = #[(.ref a0), (.ref a1)] ∧ Z.Warmed39 U.vm ∧ U.heap = h0) (fun _ _ _ _ _ => True) (fun _ U o U' => ∃ v L, o = .returned v ∧ Qi1 Z a0 a1 wc sx n g ka h0 n0 v U'.heap L ∧ FrameEnd U o U' L ({ frames := 5, cells := 2, slots := 18, locals := 74 } : Room).cells ({ frames := 5, cells := 2, slots := 18, locals := 74 } : Room).slots) := by
  refine MetFree.of_bodySF (plainFor_of_name pni1) hisR ?_
  intro p e s m args below meth c s₁ Bd hml0 hP hK
  obtain ⟨rfl, hZ, hh⟩ := hP
  have hx := Bd.exec
  have hby := Bd.bytes
  have hml : c.maxLocals = 2 := hml0
  have hown : s.vm.findClass "java/lang/String" = some m.cls := findClass_of_methodNamed Bd.named
  have hnm := (name_of_methodNamed Bd.named Bd.method).1
  have X0 : Stand p l e ({ frames := 5, cells := 2, slots := 18, locals := 74 } : Room) s m #[(.ref a0), (.ref a1)] below meth c s₁ [] 0 0 := Stand.of_body Bd
  have e0 : s₁.heap = h0 := by rw [← hh, Bd.state]; rfl
  have N0 := Fr.nil n0
  show OwnEnd p e below s (fun v h L => Qi1 Z a0 a1 wc sx n g ka h0 n0 v h L) ({ frames := 5, cells := 2, slots := 18, locals := 74 } : Room).cells ({ frames := 5, cells := 2, slots := 18, locals := 74 } : Room).slots (s₁.setTop (entryFrame m #[(.ref a0), (.ref a1)] 2))
  rw [efi1 m a0 a1]
  generalize hW : OwnEnd p e below s (fun v h L => Qi1 Z a0 a1 wc sx n g ka h0 n0 v h L) ({ frames := 5, cells := 2, slots := 18, locals := 74 } : Room).cells ({ frames := 5, cells := 2, slots := 18, locals := 74 } : Room).slots = W
  have stp : ∀ {A B : State}, (∀ t, Steps p.tables e below B t → Steps p.tables e below A t) → W B → W A := by subst hW; exact own_step
  obtain ⟨S_cs, hcs, S_si, hr_sx, S_ad, S_hi, S_lo⟩ := id BW
  show W (s₁.setTop (mkF m 0 #[.val (.ref a0), .val (.ref a1)] []))
  refine stp (fun t k => XS.aloadN X0.here hx rfl (hb hby di1_0) rfl rfl k) ?_
  show W (s₁.setTop (mkF m 1 #[.val (.ref a0), .val (.ref a1)] [(.ref a0)]))
  refine stp (fun t k => XS.aloadN X0.here hx rfl (hb hby di1_1) rfl rfl k) ?_
  show W (s₁.setTop (mkF m 2 #[.val (.ref a0), .val (.ref a1)] [(.ref a1), (.ref a0)]))
  refine stp (fun t k => XS.iconst X0.here hx rfl (hb hby di1_2) k) ?_
  show W (s₁.setTop (mkF m 3 #[.val (.ref a0), .val (.ref a1)] [(.int (0 : Int32)), (.ref a1), (.ref a0)]))
  refine stp (fun t k => XS.aloadN X0.here hx rfl (hb hby di1_3) rfl rfl k) ?_
  show W (s₁.setTop (mkF m 4 #[.val (.ref a0), .val (.ref a1)] [(.ref a1), (.int (0 : Int32)), (.ref a1), (.ref a0)]))
  obtain ⟨cli11, Ari11, qki11, qsi11, qni11, qhi11, qgi11⟩ := id V_a1
  refine stp (fun t k => X0.arraylength hx (by rw [e0]; exact Ari11.1) (State.isArrayOf_alike hZ.alike Ari11.2.1) (g := (mkF m 4 #[.val (.ref a0), .val (.ref a1)] [(.ref a1), (.int (0 : Int32)), (.ref a1), (.ref a0)])) rfl rfl (hb hby di1_4) _ k) ?_
  rw [len_of qsi11 qni11]
  show W (s₁.setTop (mkF m 5 #[.val (.ref a0), .val (.ref a1)] [(.int (Int32.ofNat n)), (.int (0 : Int32)), (.ref a1), (.ref a0)]))
  refine stp (fun t k => XS.aconstNull X0.here hx rfl (hb hby di1_5) k) ?_
  show W (s₁.setTop (mkF m 6 #[.val (.ref a0), .val (.ref a1)] [.null, (.int (Int32.ofNat n)), (.int (0 : Int32)), (.ref a1), (.ref a0)]))
  obtain ⟨_, _, ⟨Ti1c2, Li1c2, ki1c2, ni1c2⟩, -, Xi1c2, ⟨Lci1c2, hQi1c2, li1c2, yi1c2, zi1c2⟩, sti1c2⟩ := X0.specialBack hx (y := (⟨"java/lang/String", "<init>", "([CIILjava/lang/Void;)V"⟩ : MethodName)) rfl hown (mvT hZ (hw _ (List.mem_of_getElem? (i := 14) rfl))) (mvT hZ (hw _ (List.mem_of_getElem? (i := 15) rfl))) (mvT hZ (hw _ (List.mem_of_getElem? (i := 17) rfl))) (by decide) (backOf (W := 0) (rmi2 l Z aa hw [] a0 a1 (0 : Int32) (Int32.ofNat n) wc sx n g ka h0 n0 Z0 BW O0 hn hch E_a0 F_value_a0 F_coder_a0 g_a0 V_a1 ne_a0_a1 h1 rfl rfl) hZ (hw _ (List.mem_of_getElem? (i := 17) rfl)) (hw _ (List.mem_of_getElem? (i := 10) rfl)) (by decide) (by decide)) (g := (mkF m 6 #[.val (.ref a0), .val (.ref a1)] [.null, (.int (Int32.ofNat n)), (.int (0 : Int32)), (.ref a1), (.ref a0)])) rfl (by rw [hml]; rfl) (Steps.refl _) (a := a0) (argsL := [(.ref a1), (.int (0 : Int32)), (.int (Int32.ofNat n)), .null]) (rest := []) (lenOf pdi1_0 rfl) rfl (by show 2 * 0 + _ ≤ _; exact Nat.le_of_eq rfl) (hb hby di1_6) (fun _ _ => ⟨rfl, e0, (by decide : 0 + 2 ≤ _), (by decide : 0 + 18 ≤ _)⟩)
  dsimp only [Pt.U, Pt.locs, Pt.cells, Pt.slots] at Xi1c2 li1c2 yi1c2 zi1c2 sti1c2 hQi1c2
  subst li1c2 yi1c2 zi1c2
  obtain ⟨rfl, Ni1c2q, Kqi1c2, Gi1c2⟩ := hQi1c2
  have Ni1c2 := Fr.app N0 Ni1c2q
  obtain ⟨lci1t3, Xi1c2, Ni1c2⟩ : ∃ lc, Stand p l e ({ frames := 5, cells := 2, slots := 18, locals := 74 } : Room) s m #[(.ref a0), (.ref a1)] below meth c Ti1c2 lc 2 18 ∧ Fr n0 lc := ⟨_, Xi1c2, Ni1c2⟩
  refine stp (fun t k => sti1c2.trans k) ?_
  obtain ⟨hi1c2, ei1c2⟩ : ∃ h, Ti1c2.heap = h := ⟨_, rfl⟩
  rw [ei1c2] at Kqi1c2 Gi1c2
  show W (Ti1c2.setTop (mkF m 9 #[.val (.ref a0), .val (.ref a1)] []))
  show W (Ti1c2.setTop (mkF m 9 #[.val (.ref a0), .val (.ref a1)] []))
  rw [← hW]
  exact own_ret0 Xi1c2 hx Bd.notSynchronized Bd.returns (hb hby di1_9) (by show Qi1 Z a0 a1 wc sx n g ka h0 n0 _ Ti1c2.heap _; rw [ei1c2]; exact ⟨rfl, Ni1c2, Kqi1c2, Gi1c2⟩) (by decide) (by decide)
theorem dch_0 : decode method_2_code 0 = .ok (.lload_n 0, 1) := by decide +kernel
theorem dch_1 : decode method_2_code 1 = .ok (.iload_n 2, 1) := by decide +kernel
theorem dch_2 : decode method_2_code 2 = .ok (.lushr, 1) := by decide +kernel
theorem dch_3 : decode method_2_code 3 = .ok (.lstore_n 3, 1) := by decide +kernel
theorem dch_4 : decode method_2_code 4 = .ok (.lload_n 3, 1) := by decide +kernel
theorem dch_5 : decode method_2_code 5 = .ok (.ldc2_w 7, 3) := by decide +kernel
theorem dch_8 : decode method_2_code 8 = .ok (.land, 1) := by decide +kernel
theorem dch_9 : decode method_2_code 9 = .ok (.lconst 0, 1) := by decide +kernel
theorem dch_10 : decode method_2_code 10 = .ok (.lcmp, 1) := by decide +kernel
theorem dch_11 : decode method_2_code 11 = .ok (.ifCond .eq 6, 3) := by decide +kernel
theorem dch_14 : decode method_2_code 14 = .ok (.bipush 34, 2) := by decide +kernel
theorem dch_16 : decode method_2_code 16 = .ok (.ireturn, 1) := by decide +kernel
theorem dch_17 : decode method_2_code 17 = .ok (.lload_n 3, 1) := by decide +kernel
theorem dch_18 : decode method_2_code 18 = .ok (.ldc2_w 9, 3) := by decide +kernel
theorem dch_21 : decode method_2_code 21 = .ok (.land, 1) := by decide +kernel
theorem dch_22 : decode method_2_code 22 = .ok (.l2i, 1) := by decide +kernel
theorem dch_23 : decode method_2_code 23 = .ok (.i2c, 1) := by decide +kernel
theorem dch_24 : decode method_2_code 24 = .ok (.ireturn, 1) := by decide +kernel
theorem pnch : plainName "com/example/grant3/grant3/IdentifierEndOfQuotedPinLaw" = true := by first | (simp [plainName, overriddenIn]; done) | decide +kernel
theorem efch (m : MethodId) (q0 : Int64) (p1 : Int32) : entryFrame m #[(.long q0), (.int p1)] 5 = mkF m 0 #[.val (.long q0), .second, .val (.int p1), .unset, .unset] [] := by first | (simp [entryFrame, mkF, argsToLocals, Value.category]; done) | rfl
def fch (q0 : Int64) (p1 : Int32) : Int32 := (if (((q0.toUInt64 >>> (p1 &&& 0x3f).toInt64.toUInt64).toInt64) &&& (65536 : Int64)) = (0 : Int64) then (nar .char (((((q0.toUInt64 >>> (p1 &&& 0x3f).toInt64.toUInt64).toInt64) &&& (65535 : Int64)).toInt32).toUInt32.toUInt16.toUInt32.toInt32)) else (nar .char (34 : Int32)))
def Qch (Z : State) (q0 : Int64) (p1 : Int32) (h0 : Heap) (n0 : Nat) (v : Option Value) (h : Heap) (L : List Loc) : Prop := v = some (.int (fch q0 p1)) ∧ Fr n0 L ∧ h = h0
set_option maxRecDepth 65536 in
set_option maxHeartbeats 40000000 in
theorem rmch (l : Launch) (Z : State) (aa : Array Value) (hw : ∀ d ∈ tables_1, d.before aa Z = true) (ws : List Jvm.Cond) (q0 : Int64) (p1 : Int32) (h0 : Heap) (n0 : Nat) (Z0 : n0 ≤ h0.size) :
    MetFree l (⟨"com/example/grant3/grant3/IdentifierEndOfQuotedPinLaw", "ch", "(JI)C"⟩ : MethodName) (head1 (Jvm.Cond.code (⟨"com/example/grant3/grant3/IdentifierEndOfQuotedPinLaw", "ch", "(JI)C"⟩ : MethodName) method_2_code 5 (some .char) :: ws) ({ frames := 0, cells := 0, slots := 0, locals := 0 } : Room)) (fun a U => a = #[(.long q0), (.int p1)] ∧ Z.Warmed39 U.vm ∧ U.heap = h0) (fun _ _ _ _ _ => True) (fun _ U o U' => ∃ v L, o = .returned v ∧ Qch Z q0 p1 h0 n0 v U'.heap L ∧ FrameEnd U o U' L ({ frames := 0, cells := 0, slots := 0, locals := 0 } : Room).cells ({ frames := 0, cells := 0, slots := 0, locals := 0 } : Room).slots) := by
  refine MetFree.of_bodySF (plainFor_of_name pnch) hisR ?_
  intro p e s m args below meth c s₁ Bd hml0 hP hK
  obtain ⟨rfl, hZ, hh⟩ := hP
  have hx := Bd.exec
  have hby := Bd.bytes
  have hml : c.maxLocals = 5 := hml0
  have hown : s.vm.findClass "com/example/grant3/grant3/IdentifierEndOfQuotedPinLaw" = some m.cls := findClass_of_methodNamed Bd.named
  have hnm := (name_of_methodNamed Bd.named Bd.method).1
  have X0 : Stand p l e ({ frames := 0, cells := 0, slots := 0, locals := 0 } : Room) s m #[(.long q0), (.int p1)] below meth c s₁ [] 0 0 := Stand.of_body Bd
  have e0 : s₁.heap = h0 := by rw [← hh, Bd.state]; rfl
  have N0 := Fr.nil n0
  show OwnEnd p e below s (fun v h L => Qch Z q0 p1 h0 n0 v h L) ({ frames := 0, cells := 0, slots := 0, locals := 0 } : Room).cells ({ frames := 0, cells := 0, slots := 0, locals := 0 } : Room).slots (s₁.setTop (entryFrame m #[(.long q0), (.int p1)] 5))
  rw [efch m q0 p1]
  generalize hW : OwnEnd p e below s (fun v h L => Qch Z q0 p1 h0 n0 v h L) ({ frames := 0, cells := 0, slots := 0, locals := 0 } : Room).cells ({ frames := 0, cells := 0, slots := 0, locals := 0 } : Room).slots = W
  have stp : ∀ {A B : State}, (∀ t, Steps p.tables e below B t → Steps p.tables e below A t) → W B → W A := by subst hW; exact own_step
  show W (s₁.setTop (mkF m 0 #[.val (.long q0), .second, .val (.int p1), .unset, .unset] []))
  refine stp (fun t k => XS.lloadN X0.here hx rfl (hb hby dch_0) rfl k) ?_
  show W (s₁.setTop (mkF m 1 #[.val (.long q0), .second, .val (.int p1), .unset, .unset] [(.long q0)]))
  refine stp (fun t k => XS.iloadN X0.here hx rfl (hb hby dch_1) rfl k) ?_
  show W (s₁.setTop (mkF m 2 #[.val (.long q0), .second, .val (.int p1), .unset, .unset] [(.int p1), (.long q0)]))
  refine stp (fun t k => XS.lushr X0.here hx rfl (hb hby dch_2) rfl k) ?_
  show W (s₁.setTop (mkF m 3 #[.val (.long q0), .second, .val (.int p1), .unset, .unset] [(.long ((q0.toUInt64 >>> (p1 &&& 0x3f).toInt64.toUInt64).toInt64))]))
  refine stp (fun t k => XS.lstoreN X0.here hx rfl (hb hby dch_3) rfl (l' := #[.val (.long q0), .second, .val (.int p1), .val (.long ((q0.toUInt64 >>> (p1 &&& 0x3f).toInt64.toUInt64).toInt64)), .second]) rfl k) ?_
  show W (s₁.setTop (mkF m 4 #[.val (.long q0), .second, .val (.int p1), .val (.long ((q0.toUInt64 >>> (p1 &&& 0x3f).toInt64.toUInt64).toInt64)), .second] []))
  refine stp (fun t k => XS.lloadN X0.here hx rfl (hb hby dch_4) rfl k) ?_
  show W (s₁.setTop (mkF m 5 #[.val (.long q0), .second, .val (.int p1), .val (.long ((q0.toUInt64 >>> (p1 &&& 0x3f).toInt64.toUInt64).toInt64)), .second] [(.long ((q0.toUInt64 >>> (p1 &&& 0x3f).toInt64.toUInt64).toInt64))]))
  refine stp (fun t k => X0.ldc2Long hx hown (mvT hZ (hw _ (List.mem_of_getElem? (i := 5) rfl))) (g := (mkF m 5 #[.val (.long q0), .second, .val (.int p1), .val (.long ((q0.toUInt64 >>> (p1 &&& 0x3f).toInt64.toUInt64).toInt64)), .second] [(.long ((q0.toUInt64 >>> (p1 &&& 0x3f).toInt64.toUInt64).toInt64))])) rfl (hb hby dch_5) _ k) ?_
  show W (s₁.setTop (mkF m 8 #[.val (.long q0), .second, .val (.int p1), .val (.long ((q0.toUInt64 >>> (p1 &&& 0x3f).toInt64.toUInt64).toInt64)), .second] [(.long (65536 : Int64)), (.long ((q0.toUInt64 >>> (p1 &&& 0x3f).toInt64.toUInt64).toInt64))]))
  refine stp (fun t k => XS.land X0.here hx rfl (hb hby dch_8) rfl k) ?_
  show W (s₁.setTop (mkF m 9 #[.val (.long q0), .second, .val (.int p1), .val (.long ((q0.toUInt64 >>> (p1 &&& 0x3f).toInt64.toUInt64).toInt64)), .second] [(.long (((q0.toUInt64 >>> (p1 &&& 0x3f).toInt64.toUInt64).toInt64) &&& (65536 : Int64)))]))
  refine stp (fun t k => XS.lconst X0.here hx rfl (hb hby dch_9) k) ?_
  show W (s₁.setTop (mkF m 10 #[.val (.long q0), .second, .val (.int p1), .val (.long ((q0.toUInt64 >>> (p1 &&& 0x3f).toInt64.toUInt64).toInt64)), .second] [(.long (0 : Int64)), (.long (((q0.toUInt64 >>> (p1 &&& 0x3f).toInt64.toUInt64).toInt64) &&& (65536 : Int64)))]))
  refine stp (fun t k => XS.lcmp X0.here hx rfl (hb hby dch_10) rfl k) ?_
  show W (s₁.setTop (mkF m 11 #[.val (.long q0), .second, .val (.int p1), .val (.long ((q0.toUInt64 >>> (p1 &&& 0x3f).toInt64.toUInt64).toInt64)), .second] [(.int (lcmpW (((q0.toUInt64 >>> (p1 &&& 0x3f).toInt64.toUInt64).toInt64) &&& (65536 : Int64)) (0 : Int64)))]))
  by_cases hcch_1 : (((q0.toUInt64 >>> (p1 &&& 0x3f).toInt64.toUInt64).toInt64) &&& (65536 : Int64)) = (0 : Int64)
  · refine stp (fun t k => XS.ifYes X0.here hx rfl (pc0 := 11) (pc' := 17) rfl (hb hby dch_11) rfl ((if0 _ _).trans (teq ((lw_eq (((q0.toUInt64 >>> (p1 &&& 0x3f).toInt64.toUInt64).toInt64) &&& (65536 : Int64)) (0 : Int64)).mpr hcch_1)).1) (by decide) (by decide) k) ?_
    show W (s₁.setTop (mkF m 17 #[.val (.long q0), .second, .val (.int p1), .val (.long ((q0.toUInt64 >>> (p1 &&& 0x3f).toInt64.toUInt64).toInt64)), .second] []))
    refine stp (fun t k => XS.lloadN X0.here hx rfl (hb hby dch_17) rfl k) ?_
    show W (s₁.setTop (mkF m 18 #[.val (.long q0), .second, .val (.int p1), .val (.long ((q0.toUInt64 >>> (p1 &&& 0x3f).toInt64.toUInt64).toInt64)), .second] [(.long ((q0.toUInt64 >>> (p1 &&& 0x3f).toInt64.toUInt64).toInt64))]))
    refine stp (fun t k => X0.ldc2Long hx hown (mvT hZ (hw _ (List.mem_of_getElem? (i := 6) rfl))) (g := (mkF m 18 #[.val (.long q0), .second, .val (.int p1), .val (.long ((q0.toUInt64 >>> (p1 &&& 0x3f).toInt64.toUInt64).toInt64)), .second] [(.long ((q0.toUInt64 >>> (p1 &&& 0x3f).toInt64.toUInt64).toInt64))])) rfl (hb hby dch_18) _ k) ?_
    show W (s₁.setTop (mkF m 21 #[.val (.long q0), .second, .val (.int p1), .val (.long ((q0.toUInt64 >>> (p1 &&& 0x3f).toInt64.toUInt64).toInt64)), .second] [(.long (65535 : Int64)), (.long ((q0.toUInt64 >>> (p1 &&& 0x3f).toInt64.toUInt64).toInt64))]))
    refine stp (fun t k => XS.land X0.here hx rfl (hb hby dch_21) rfl k) ?_
    show W (s₁.setTop (mkF m 22 #[.val (.long q0), .second, .val (.int p1), .val (.long ((q0.toUInt64 >>> (p1 &&& 0x3f).toInt64.toUInt64).toInt64)), .second] [(.long (((q0.toUInt64 >>> (p1 &&& 0x3f).toInt64.toUInt64).toInt64) &&& (65535 : Int64)))]))
    refine stp (fun t k => XS.l2i X0.here hx rfl (hb hby dch_22) rfl k) ?_
    show W (s₁.setTop (mkF m 23 #[.val (.long q0), .second, .val (.int p1), .val (.long ((q0.toUInt64 >>> (p1 &&& 0x3f).toInt64.toUInt64).toInt64)), .second] [(.int ((((q0.toUInt64 >>> (p1 &&& 0x3f).toInt64.toUInt64).toInt64) &&& (65535 : Int64)).toInt32))]))
    refine stp (fun t k => XS.i2c X0.here hx rfl (hb hby dch_23) rfl k) ?_
    show W (s₁.setTop (mkF m 24 #[.val (.long q0), .second, .val (.int p1), .val (.long ((q0.toUInt64 >>> (p1 &&& 0x3f).toInt64.toUInt64).toInt64)), .second] [(.int (((((q0.toUInt64 >>> (p1 &&& 0x3f).toInt64.toUInt64).toInt64) &&& (65535 : Int64)).toInt32).toUInt32.toUInt16.toUInt32.toInt32))]))
    show W (s₁.setTop (mkF m 24 #[.val (.long q0), .second, .val (.int p1), .val (.long ((q0.toUInt64 >>> (p1 &&& 0x3f).toInt64.toUInt64).toInt64)), .second] [(.int (((((q0.toUInt64 >>> (p1 &&& 0x3f).toInt64.toUInt64).toInt64) &&& (65535 : Int64)).toInt32).toUInt32.toUInt16.toUInt32.toInt32))]))
    rw [← hW]
    exact own_retN X0 hx Bd.notSynchronized Bd.returns (w := (nar .char (((((q0.toUInt64 >>> (p1 &&& 0x3f).toInt64.toUInt64).toInt64) &&& (65535 : Int64)).toInt32).toUInt32.toUInt16.toUInt32.toInt32))) (by simp) (hb hby dch_24) rfl (by show Qch Z q0 p1 h0 n0 _ s₁.heap _; rw [e0]; exact ⟨(by rw [fch, if_pos hcch_1]), N0, rfl⟩) (by decide) (by decide)
  · refine stp (fun t k => XS.ifNo X0.here hx rfl (hb hby dch_11) rfl ((if0 _ _).trans (feq (fun q => hcch_1 ((lw_eq (((q0.toUInt64 >>> (p1 &&& 0x3f).toInt64.toUInt64).toInt64) &&& (65536 : Int64)) (0 : Int64)).mp q))).1) k) ?_
    show W (s₁.setTop (mkF m 14 #[.val (.long q0), .second, .val (.int p1), .val (.long ((q0.toUInt64 >>> (p1 &&& 0x3f).toInt64.toUInt64).toInt64)), .second] []))
    refine stp (fun t k => XS.bipush X0.here hx rfl (hb hby dch_14) k) ?_
    show W (s₁.setTop (mkF m 16 #[.val (.long q0), .second, .val (.int p1), .val (.long ((q0.toUInt64 >>> (p1 &&& 0x3f).toInt64.toUInt64).toInt64)), .second] [(.int (34 : Int32))]))
    show W (s₁.setTop (mkF m 16 #[.val (.long q0), .second, .val (.int p1), .val (.long ((q0.toUInt64 >>> (p1 &&& 0x3f).toInt64.toUInt64).toInt64)), .second] [(.int (34 : Int32))]))
    rw [← hW]
    exact own_retN X0 hx Bd.notSynchronized Bd.returns (w := (nar .char (34 : Int32))) (by simp) (hb hby dch_16) rfl (by show Qch Z q0 p1 h0 n0 _ s₁.heap _; rw [e0]; exact ⟨(by rw [fch, if_neg hcch_1]), N0, rfl⟩) (by decide) (by decide)
def own_E (g : Nat → Int32) (n i : Nat) : Int32 :=
  if i < n then
    if g i = (34 : Int32) then
      if i + 1 < n ∧ g (i + 1) = (34 : Int32) then own_E g n (i + 2) else Int32.ofNat (i + 1)
    else own_E g n (i + 1)
  else (-1 : Int32)
termination_by n - i
theorem own_E0 {g : Nat → Int32} {n i : Nat} (h : ¬ i < n) : own_E g n i = (-1 : Int32) := by rw [own_E, if_neg h]
theorem own_E1 {g : Nat → Int32} {n i : Nat} (h : i < n) (h1 : ¬ (g i = (34 : Int32))) : own_E g n i = own_E g n (i + 1) := by rw [own_E, if_pos h, if_neg h1]
theorem own_E2 {g : Nat → Int32} {n i : Nat} (h : i < n) (h1 : g i = (34 : Int32)) (h2 : i + 1 < n) (h3 : g (i + 1) = (34 : Int32)) : own_E g n i = own_E g n (i + 2) := by rw [own_E, if_pos h, if_pos h1, if_pos ⟨h2, h3⟩]
theorem own_E3 {g : Nat → Int32} {n i : Nat} (h : i < n) (h1 : g i = (34 : Int32)) (h2 : ¬ (i + 1 < n ∧ g (i + 1) = (34 : Int32))) : own_E g n i = Int32.ofNat (i + 1) := by rw [own_E, if_pos h, if_pos h1, if_neg h2]
theorem own_inc2 {p : Int32} {i : Nat} (h : p.toInt = i) (hi : i < 2147483600) : (p + 2).toInt = ((i + 2 : Nat) : Int) := by
  have h1 := c_iadd p 2
  have h2 := rng32 (p + 2)
  have h3 : (2 : Int32).toInt = 2 := by decide
  omega
theorem own_eqOf {p : Int32} {i : Nat} (h : p.toInt = (i : Int)) (hi : i < 2147483648) : Int32.ofNat i = p := by
  apply Int32.toInt_inj.mp
  rw [own_ofNat hi, h]
/-! a list with one place turned into a quote -/
def own_up (g : Nat → Int32) (i j : Nat) : Int32 := if j = i then (nar .char (34 : Int32)) else g j
theorem own_upSet {n i : Nat} {g : Nat → Int32} : (own_vs n g).set i (.int (nar .char (34 : Int32))) = own_vs n (own_up g i) := own_vsSet
theorem own_ch (c : Int32) : 0 ≤ (nar .char c).toInt ∧ (nar .char c).toInt < 65536 := by
  have h := c_i2c c
  exact h.2
theorem own_upC {g : Nat → Int32} (h : ∀ j, j < 6 → 0 ≤ (g j).toInt ∧ (g j).toInt < 65536) (i : Nat) : ∀ j, j < 6 → 0 ≤ (own_up g i j).toInt ∧ (own_up g i j).toInt < 65536 := by
  intro j hj
  unfold own_up
  split
  · exact own_ch _
  · exact h j hj
theorem own_narc {c : Int32} (h0 : 0 ≤ c.toInt) (h1 : c.toInt < 65536) : nar .char c = c := own_i2c h0 h1
theorem own_cp {g : Nat → Int32} (h : ∀ j, j < 6 → 0 ≤ (g j).toInt ∧ (g j).toInt < 65536) : ([.int (nar .char (g 0)), .int (nar .char (g 1)), .int (nar .char (g 2)), .int (nar .char (g 3)), .int (nar .char (g 4)), .int (nar .char (g 5))] : List Value) = own_vs 6 g := by
  rw [own_narc (h 0 (by decide)).1 (h 0 (by decide)).2, own_narc (h 1 (by decide)).1 (h 1 (by decide)).2, own_narc (h 2 (by decide)).1 (h 2 (by decide)).2, own_narc (h 3 (by decide)).1 (h 3 (by decide)).2, own_narc (h 4 (by decide)).1 (h 4 (by decide)).2, own_narc (h 5 (by decide)).1 (h 5 (by decide)).2]
  rfl
theorem own_s (p0 : Int32) : ∃ i : Nat, ((p0 &&& (2147483647 : Int32)) % (6 : Int32)).toInt = (i : Int) ∧ i < 6 := by
  have h1 := c_mask p0 2147483647 31 (by decide) (by decide)
  have h2 := (c_iremV (p0 &&& 2147483647) 6).1 (by omega) (by decide)
  have h3 : (6 : Int32).toInt = 6 := by decide
  exact ⟨((p0 &&& 2147483647) % 6).toInt.toNat, by omega, by omega⟩
theorem own_Ecg {g g' : Nat → Int32} {n : Nat} : ∀ (r i : Nat), n ≤ i + r → (∀ j, i ≤ j → g j = g' j) → own_E g n i = own_E g' n i := by
  intro r
  induction r with
  | zero => intro i h _; rw [own_E0 (by omega), own_E0 (by omega)]
  | succ r ih =>
    intro i h hg
    by_cases h0 : i < n
    · by_cases h1 : g i = (34 : Int32)
      · have h1' : g' i = (34 : Int32) := by rw [← hg i (Nat.le_refl i)]; exact h1
        by_cases h2 : i + 1 < n ∧ g (i + 1) = (34 : Int32)
        · rw [own_E2 h0 h1 h2.1 h2.2, own_E2 h0 h1' h2.1 (by rw [← hg (i + 1) (by omega)]; exact h2.2)]
          exact ih (i + 2) (by omega) (fun j hj => hg j (by omega))
        · rw [own_E3 h0 h1 h2, own_E3 h0 h1' (by rw [← hg (i + 1) (by omega)]; exact h2)]
      · rw [own_E1 h0 h1, own_E1 h0 (by rw [← hg i (Nat.le_refl i)]; exact h1)]
        exact ih (i + 1) (by omega) (fun j hj => hg j (by omega))
    · rw [own_E0 h0, own_E0 h0]
theorem own_lawA {g : Nat → Int32} {i : Nat} (h : i + 1 < 6) (h1 : ¬ (g (i + 1) = (34 : Int32))) : own_E g 6 (i + 1) = own_E (own_up g (i + 1)) 6 (i + 1 + 1) := by
  rw [own_E1 h h1]
  refine own_Ecg 6 _ (by omega) (fun j hj => ?_)
  unfold own_up
  rw [if_neg (by omega)]
theorem own_lawB {g : Nat → Int32} {i : Nat} (h : i + 1 < 6) (h1 : g (i + 1) = (34 : Int32)) (h2 : i + 2 < 6) (h3 : g (i + 2) = (34 : Int32)) : own_E g 6 (i + 1) = own_E g 6 (i + 2 + 1) := own_E2 h h1 h2 h3
theorem own_lawC {g : Nat → Int32} {i : Nat} {x : Int32} (h : i + 1 < 6) (h1 : g (i + 1) = (34 : Int32)) (h2 : ¬ (i + 2 < 6 ∧ g (i + 2) = (34 : Int32))) (hx : x.toInt = ((i + 2 : Nat) : Int)) : own_E g 6 (i + 1) = x := by
  rw [own_E3 h h1 h2]
  exact own_eqOf hx (by omega)
theorem deq_0 : decode prog_31_method_6_code 0 = .ok (.iload_n 1, 1) := by decide +kernel
theorem deq_1 : decode prog_31_method_6_code 1 = .ok (.iconst 1, 1) := by decide +kernel
theorem deq_2 : decode prog_31_method_6_code 2 = .ok (.iadd, 1) := by decide +kernel
theorem deq_3 : decode prog_31_method_6_code 3 = .ok (.istore_n 2, 1) := by decide +kernel
theorem deq_4 : decode prog_31_method_6_code 4 = .ok (.iload_n 2, 1) := by decide +kernel
theorem deq_5 : decode prog_31_method_6_code 5 = .ok (.aload_n 0, 1) := by decide +kernel
theorem deq_6 : decode prog_31_method_6_code 6 = .ok (.invokevirtual 28, 3) := by decide +kernel
theorem deq_9 : decode prog_31_method_6_code 9 = .ok (.if_icmp .ge 51, 3) := by decide +kernel
theorem deq_12 : decode prog_31_method_6_code 12 = .ok (.aload_n 0, 1) := by decide +kernel
theorem deq_13 : decode prog_31_method_6_code 13 = .ok (.iload_n 2, 1) := by decide +kernel
theorem deq_14 : decode prog_31_method_6_code 14 = .ok (.invokevirtual 47, 3) := by decide +kernel
theorem deq_17 : decode prog_31_method_6_code 17 = .ok (.bipush 34, 2) := by decide +kernel
theorem deq_19 : decode prog_31_method_6_code 19 = .ok (.if_icmp .eq 9, 3) := by decide +kernel
theorem deq_22 : decode prog_31_method_6_code 22 = .ok (.iinc 2 1, 3) := by decide +kernel
theorem deq_25 : decode prog_31_method_6_code 25 = .ok (.goto (-21), 3) := by decide +kernel
theorem deq_28 : decode prog_31_method_6_code 28 = .ok (.iload_n 2, 1) := by decide +kernel
theorem deq_29 : decode prog_31_method_6_code 29 = .ok (.iconst 1, 1) := by decide +kernel
theorem deq_30 : decode prog_31_method_6_code 30 = .ok (.iadd, 1) := by decide +kernel
theorem deq_31 : decode prog_31_method_6_code 31 = .ok (.aload_n 0, 1) := by decide +kernel
theorem deq_32 : decode prog_31_method_6_code 32 = .ok (.invokevirtual 28, 3) := by decide +kernel
theorem deq_35 : decode prog_31_method_6_code 35 = .ok (.if_icmp .ge 21, 3) := by decide +kernel
theorem deq_38 : decode prog_31_method_6_code 38 = .ok (.aload_n 0, 1) := by decide +kernel
theorem deq_39 : decode prog_31_method_6_code 39 = .ok (.iload_n 2, 1) := by decide +kernel
theorem deq_40 : decode prog_31_method_6_code 40 = .ok (.iconst 1, 1) := by decide +kernel
theorem deq_41 : decode prog_31_method_6_code 41 = .ok (.iadd, 1) := by decide +kernel
theorem deq_42 : decode prog_31_method_6_code 42 = .ok (.invokevirtual 47, 3) := by decide +kernel
theorem deq_45 : decode prog_31_method_6_code 45 = .ok (.bipush 34, 2) := by decide +kernel
theorem deq_47 : decode prog_31_method_6_code 47 = .ok (.if_icmp .ne 9, 3) := by decide +kernel
theorem deq_50 : decode prog_31_method_6_code 50 = .ok (.iinc 2 2, 3) := by decide +kernel
theorem deq_53 : decode prog_31_method_6_code 53 = .ok (.goto (-49), 3) := by decide +kernel
theorem deq_56 : decode prog_31_method_6_code 56 = .ok (.iload_n 2, 1) := by decide +kernel
theorem deq_57 : decode prog_31_method_6_code 57 = .ok (.iconst 1, 1) := by decide +kernel
theorem deq_58 : decode prog_31_method_6_code 58 = .ok (.iadd, 1) := by decide +kernel
theorem deq_59 : decode prog_31_method_6_code 59 = .ok (.ireturn, 1) := by decide +kernel
theorem deq_60 : decode prog_31_method_6_code 60 = .ok (.iconst (-1), 1) := by decide +kernel
theorem deq_61 : decode prog_31_method_6_code 61 = .ok (.ireturn, 1) := by decide +kernel
theorem pneq : plainName "com/example/grant3/grant3/Identifier" = true := by first | (simp [plainName, overriddenIn]; done) | decide +kernel
theorem pdeq_0 : parseMethodDescriptor "()I" = some ⟨[], some .int⟩ := by decide +kernel
theorem pdeq_1 : parseMethodDescriptor "(I)C" = some ⟨[.int], some .char⟩ := by decide +kernel
theorem efeq (m : MethodId) (a0 : Addr) (p1 : Int32) : entryFrame m #[(.ref a0), (.int p1)] 3 = mkF m 0 #[.val (.ref a0), .val (.int p1), .unset] [] := by first | (simp [entryFrame, mkF, argsToLocals, Value.category]; done) | rfl
def Qeq (Z : State) (a0 : Addr) (p1 : Int32) (wc : Int32) (sx : Value) (b : Addr) (n : Nat) (g : Nat → Int32) (i0 : Nat) (h0 : Heap) (n0 : Nat) (v : Option Value) (h : Heap) (L : List Loc) : Prop := v = some (.int (own_E g n (i0 + 1))) ∧ Fr n0 L ∧ h = h0
set_option maxRecDepth 65536 in
set_option maxHeartbeats 40000000 in
theorem rmeq (l : Launch) (Z : State) (aa : Array Value) (hw : ∀ d ∈ tables_1, d.before aa Z = true) (ws : List Jvm.Cond) (a0 : Addr) (p1 : Int32) (wc : Int32) (sx : Value) (b : Addr) (n : Nat) (g : Nat → Int32) (i0 : Nat) (h0 : Heap) (n0 : Nat) (Z0 : n0 ≤ h0.size) (BW : OwnW Z wc sx) (O0 : Old Z n0 h0) (S_a0 : OwnStr Z h0 a0 b n g) (hn : n ≤ 4000) (hch : ∀ j, j < n → 0 ≤ (g j).toInt ∧ (g j).toInt < 65536) (hp1 : p1.toInt = (i0 : Int)) (hi0 : i0 ≤ 4000) :
    MetFree l (⟨"com/example/grant3/grant3/Identifier", "endOfQuoted", "(Ljava/lang/String;I)I"⟩ : MethodName) (head1 (Jvm.Cond.code (⟨"com/example/grant3/grant3/Identifier", "endOfQuoted", "(Ljava/lang/String;I)I"⟩ : MethodName) prog_31_method_6_code 3 (some .int) :: ws) ({ frames := 5, cells := 0, slots := 0, locals := 66 } : Room)) (fun a U => a = #[(.ref a0), (.int p1)] ∧ Z.Warmed39 U.vm ∧ U.heap = h0) (fun _ _ _ _ _ => True) (fun _ U o U' => ∃ v L, o = .returned v ∧ Qeq Z a0 p1 wc sx b n g i0 h0 n0 v U'.heap L ∧ FrameEnd U o U' L ({ frames := 5, cells := 0, slots := 0, locals := 66 } : Room).cells ({ frames := 5, cells := 0, slots := 0, locals := 66 } : Room).slots) := by
  refine MetFree.of_bodySF (plainFor_of_name pneq) hisR ?_
  intro p e s m args below meth c s₁ Bd hml0 hP hK
  obtain ⟨rfl, hZ, hh⟩ := hP
  have hx := Bd.exec
  have hby := Bd.bytes
  have hml : c.maxLocals = 3 := hml0
  have hown : s.vm.findClass "com/example/grant3/grant3/Identifier" = some m.cls := findClass_of_methodNamed Bd.named
  have hnm := (name_of_methodNamed Bd.named Bd.method).1
  have X0 : Stand p l e ({ frames := 5, cells := 0, slots := 0, locals := 66 } : Room) s m #[(.ref a0), (.int p1)] below meth c s₁ [] 0 0 := Stand.of_body Bd
  have e0 : s₁.heap = h0 := by rw [← hh, Bd.state]; rfl
  have N0 := Fr.nil n0
  show OwnEnd p e below s (fun v h L => Qeq Z a0 p1 wc sx b n g i0 h0 n0 v h L) ({ frames := 5, cells := 0, slots := 0, locals := 66 } : Room).cells ({ frames := 5, cells := 0, slots := 0, locals := 66 } : Room).slots (s₁.setTop (entryFrame m #[(.ref a0), (.int p1)] 3))
  rw [efeq m a0 p1]
  generalize hW : OwnEnd p e below s (fun v h L => Qeq Z a0 p1 wc sx b n g i0 h0 n0 v h L) ({ frames := 5, cells := 0, slots := 0, locals := 66 } : Room).cells ({ frames := 5, cells := 0, slots := 0, locals := 66 } : Room).slots = W
  have stp : ∀ {A B : State}, (∀ t, Steps p.tables e below B t → Steps p.tables e below A t) → W B → W A := by subst hW; exact own_step
  obtain ⟨S_cs, hcs, S_si, hr_sx, S_ad, S_hi, S_lo⟩ := id BW
  have hz := own_ofNat (n := n) (by omega)
  show W (s₁.setTop (mkF m 0 #[.val (.ref a0), .val (.int p1), .unset] []))
  refine stp (fun t k => XS.iloadN X0.here hx rfl (hb hby deq_0) rfl k) ?_
  show W (s₁.setTop (mkF m 1 #[.val (.ref a0), .val (.int p1), .unset] [(.int p1)]))
  refine stp (fun t k => XS.iconst X0.here hx rfl (hb hby deq_1) k) ?_
  show W (s₁.setTop (mkF m 2 #[.val (.ref a0), .val (.int p1), .unset] [(.int (1 : Int32)), (.int p1)]))
  refine stp (fun t k => XS.iadd X0.here hx rfl (hb hby deq_2) rfl k) ?_
  show W (s₁.setTop (mkF m 3 #[.val (.ref a0), .val (.int p1), .unset] [(.int (p1 + (1 : Int32)))]))
  refine stp (fun t k => XS.istoreN X0.here hx rfl (hb hby deq_3) rfl (l' := #[.val (.ref a0), .val (.int p1), .val (.int (p1 + (1 : Int32)))]) rfl k) ?_
  have LP : ∀ (r i : Nat) (x : Int32) (T' : State) (lc : List Loc) (h' : Heap) (hir : n ≤ i + r) (hx2 : x.toInt = (i : Int)) (hE : own_E g n i = own_E g n (i0 + 1)) (hib : i ≤ 4002) (hh : h' = h0) (XL : Stand p l e ({ frames := 5, cells := 0, slots := 0, locals := 66 } : Room) s m #[(.ref a0), (.int p1)] below meth c T' lc 0 0) (eL : T'.heap = h') (NL : Fr n0 lc) (KL : Keep h0 h' []) (OL : Old Z n0 h') (S_a0 : OwnStr Z h' a0 b n g), W (T'.setTop (mkF m 4 #[.val (.ref a0), .val (.int p1), .val (.int x)] [])) := by
    intro r
    induction r with
    | zero =>
      intro i x T' lc h' hir hx2 hE hib hh XL eL NL KL OL S_a0
      have ZL : n0 ≤ h'.size := Nat.le_trans Z0 KL.1
      show W (T'.setTop (mkF m 4 #[.val (.ref a0), .val (.int p1), .val (.int x)] []))
      refine stp (fun t k => XS.iloadN XL.here hx rfl (hb hby deq_4) rfl k) ?_
      show W (T'.setTop (mkF m 5 #[.val (.ref a0), .val (.int p1), .val (.int x)] [(.int x)]))
      refine stp (fun t k => XS.aloadN XL.here hx rfl (hb hby deq_5) rfl rfl k) ?_
      show W (T'.setTop (mkF m 6 #[.val (.ref a0), .val (.int p1), .val (.int x)] [(.ref a0), (.int x)]))
      obtain ⟨cqeqc1, kqeqc1, qeqc1a, qeqc1b, qeqc1c⟩ := isOf hZ eL S_a0.1
      obtain ⟨_, _, ⟨Teqc1, Leqc1, keqc1, neqc1⟩, -, Xeqc1, ⟨Lceqc1, hQeqc1, leqc1, yeqc1, zeqc1⟩, steqc1⟩ := XL.virtualBack hx (y := (⟨"java/lang/String", "length", "()I"⟩ : MethodName)) (z := (⟨"java/lang/String", "length", "()I"⟩ : MethodName)) hown (mvT hZ (hw _ (List.mem_of_getElem? (i := 60) rfl))) (mvT hZ (hw _ (List.mem_of_getElem? (i := 61) rfl))) (notFace_of_selects (args := #[]) (mvT hZ (hw _ (List.mem_of_getElem? (i := 63) rfl)))) (mvT hZ (hw _ (List.mem_of_getElem? (i := 63) rfl))) (mvT hZ (hw _ (List.mem_of_getElem? (i := 62) rfl))) (by decide) (backOf (W := 1) (rmlA l Z aa hw [] a0 wc sx b n g h' n0 ZL BW OL S_a0 hn) hZ (hw _ (List.mem_of_getElem? (i := 64) rfl)) (hw _ (List.mem_of_getElem? (i := 10) rfl)) (by decide) (by decide)) qeqc1a qeqc1c (g := (mkF m 6 #[.val (.ref a0), .val (.int p1), .val (.int x)] [(.ref a0), (.int x)])) rfl (by rw [hml]; rfl) (Steps.refl _) (argsL := []) (rest := [(.int x)]) (lenOf pdeq_0 rfl) rfl (by show 2 * 0 + _ ≤ _; exact Nat.le_of_eq rfl) (hb hby deq_6) (fun _ _ => ⟨rfl, eL, (by decide : 0 + 0 ≤ _), (by decide : 0 + 0 ≤ _)⟩)
      dsimp only [Pt.U, Pt.locs, Pt.cells, Pt.slots] at Xeqc1 leqc1 yeqc1 zeqc1 steqc1 hQeqc1
      subst leqc1 yeqc1 zeqc1
      obtain ⟨rfl, Neqc1q, eeqc1⟩ := hQeqc1
      have Neqc1 := Fr.app NL Neqc1q
      obtain ⟨lceqt2, Xeqc1, Neqc1⟩ : ∃ lc, Stand p l e ({ frames := 5, cells := 0, slots := 0, locals := 66 } : Room) s m #[(.ref a0), (.int p1)] below meth c Teqc1 lc 0 0 ∧ Fr n0 lc := ⟨_, Xeqc1, Neqc1⟩
      refine stp (fun t k => steqc1.trans k) ?_
      show W (Teqc1.setTop (mkF m 9 #[.val (.ref a0), .val (.int p1), .val (.int x)] [(.int (Int32.ofNat n)), (.int x)]))
      refine stp (fun t k => XS.icmpYes Xeqc1.here hx rfl (pc0 := 9) (pc' := 60) rfl (hb hby deq_9) rfl ((flt (fun q => by have := (own_lt32 hx2 hz).mp q; omega)).2.1) (by decide) (by decide) k) ?_
      show W (Teqc1.setTop (mkF m 60 #[.val (.ref a0), .val (.int p1), .val (.int x)] []))
      refine stp (fun t k => XS.iconst Xeqc1.here hx rfl (hb hby deq_60) k) ?_
      show W (Teqc1.setTop (mkF m 61 #[.val (.ref a0), .val (.int p1), .val (.int x)] [(.int (-1 : Int32))]))
      show W (Teqc1.setTop (mkF m 61 #[.val (.ref a0), .val (.int p1), .val (.int x)] [(.int (-1 : Int32))]))
      rw [← hW]
      exact own_retI Xeqc1 hx Bd.notSynchronized Bd.returns (hb hby deq_61) (by show Qeq Z a0 p1 wc sx b n g i0 h0 n0 _ Teqc1.heap _; rw [eeqc1]; exact ⟨by rw [← hE, own_E0 (by omega)], Neqc1, hh⟩) (by decide) (by decide)
    | succ r ih =>
      intro i x T' lc h' hir hx2 hE hib hh XL eL NL KL OL S_a0
      have ZL : n0 ≤ h'.size := Nat.le_trans Z0 KL.1
      show W (T'.setTop (mkF m 4 #[.val (.ref a0), .val (.int p1), .val (.int x)] []))
      refine stp (fun t k => XS.iloadN XL.here hx rfl (hb hby deq_4) rfl k) ?_
      show W (T'.setTop (mkF m 5 #[.val (.ref a0), .val (.int p1), .val (.int x)] [(.int x)]))
      refine stp (fun t k => XS.aloadN XL.here hx rfl (hb hby deq_5) rfl rfl k) ?_
      show W (T'.setTop (mkF m 6 #[.val (.ref a0), .val (.int p1), .val (.int x)] [(.ref a0), (.int x)]))
      obtain ⟨cqeqc3, kqeqc3, qeqc3a, qeqc3b, qeqc3c⟩ := isOf hZ eL S_a0.1
      obtain ⟨_, _, ⟨Teqc3, Leqc3, keqc3, neqc3⟩, -, Xeqc3, ⟨Lceqc3, hQeqc3, leqc3, yeqc3, zeqc3⟩, steqc3⟩ := XL.virtualBack hx (y := (⟨"java/lang/String", "length", "()I"⟩ : MethodName)) (z := (⟨"java/lang/String", "length", "()I"⟩ : MethodName)) hown (mvT hZ (hw _ (List.mem_of_getElem? (i := 60) rfl))) (mvT hZ (hw _ (List.mem_of_getElem? (i := 61) rfl))) (notFace_of_selects (args := #[]) (mvT hZ (hw _ (List.mem_of_getElem? (i := 63) rfl)))) (mvT hZ (hw _ (List.mem_of_getElem? (i := 63) rfl))) (mvT hZ (hw _ (List.mem_of_getElem? (i := 62) rfl))) (by decide) (backOf (W := 1) (rmlA l Z aa hw [] a0 wc sx b n g h' n0 ZL BW OL S_a0 hn) hZ (hw _ (List.mem_of_getElem? (i := 64) rfl)) (hw _ (List.mem_of_getElem? (i := 10) rfl)) (by decide) (by decide)) qeqc3a qeqc3c (g := (mkF m 6 #[.val (.ref a0), .val (.int p1), .val (.int x)] [(.ref a0), (.int x)])) rfl (by rw [hml]; rfl) (Steps.refl _) (argsL := []) (rest := [(.int x)]) (lenOf pdeq_0 rfl) rfl (by show 2 * 0 + _ ≤ _; exact Nat.le_of_eq rfl) (hb hby deq_6) (fun _ _ => ⟨rfl, eL, (by decide : 0 + 0 ≤ _), (by decide : 0 + 0 ≤ _)⟩)
      dsimp only [Pt.U, Pt.locs, Pt.cells, Pt.slots] at Xeqc3 leqc3 yeqc3 zeqc3 steqc3 hQeqc3
      subst leqc3 yeqc3 zeqc3
      obtain ⟨rfl, Neqc3q, eeqc3⟩ := hQeqc3
      have Neqc3 := Fr.app NL Neqc3q
      obtain ⟨lceqt4, Xeqc3, Neqc3⟩ : ∃ lc, Stand p l e ({ frames := 5, cells := 0, slots := 0, locals := 66 } : Room) s m #[(.ref a0), (.int p1)] below meth c Teqc3 lc 0 0 ∧ Fr n0 lc := ⟨_, Xeqc3, Neqc3⟩
      refine stp (fun t k => steqc3.trans k) ?_
      show W (Teqc3.setTop (mkF m 9 #[.val (.ref a0), .val (.int p1), .val (.int x)] [(.int (Int32.ofNat n)), (.int x)]))
      by_cases hceq_5 : x < (Int32.ofNat n)
      · refine stp (fun t k => XS.icmpNo Xeqc3.here hx rfl (hb hby deq_9) rfl ((tlt hceq_5).2.1) k) ?_
        show W (Teqc3.setTop (mkF m 12 #[.val (.ref a0), .val (.int p1), .val (.int x)] []))
        refine stp (fun t k => XS.aloadN Xeqc3.here hx rfl (hb hby deq_12) rfl rfl k) ?_
        show W (Teqc3.setTop (mkF m 13 #[.val (.ref a0), .val (.int p1), .val (.int x)] [(.ref a0)]))
        refine stp (fun t k => XS.iloadN Xeqc3.here hx rfl (hb hby deq_13) rfl k) ?_
        show W (Teqc3.setTop (mkF m 14 #[.val (.ref a0), .val (.int p1), .val (.int x)] [(.int x), (.ref a0)]))
        obtain ⟨cqeqc6, kqeqc6, qeqc6a, qeqc6b, qeqc6c⟩ := isOf hZ eeqc3 S_a0.1
        obtain ⟨_, _, ⟨Teqc6, Leqc6, keqc6, neqc6⟩, -, Xeqc6, ⟨Lceqc6, hQeqc6, leqc6, yeqc6, zeqc6⟩, steqc6⟩ := Xeqc3.virtualBack hx (y := (⟨"java/lang/String", "charAt", "(I)C"⟩ : MethodName)) (z := (⟨"java/lang/String", "charAt", "(I)C"⟩ : MethodName)) hown (mvT hZ (hw _ (List.mem_of_getElem? (i := 70) rfl))) (mvT hZ (hw _ (List.mem_of_getElem? (i := 71) rfl))) (notFace_of_selects (args := #[]) (mvT hZ (hw _ (List.mem_of_getElem? (i := 73) rfl)))) (mvT hZ (hw _ (List.mem_of_getElem? (i := 73) rfl))) (mvT hZ (hw _ (List.mem_of_getElem? (i := 72) rfl))) (by decide) (backOf (W := 0) (rmcA l Z aa hw [] a0 x wc sx b n g i h' n0 ZL BW OL S_a0 hn hch hx2 ((own_lt32 hx2 hz).mp hceq_5)) hZ (hw _ (List.mem_of_getElem? (i := 74) rfl)) (hw _ (List.mem_of_getElem? (i := 10) rfl)) (by decide) (by decide)) qeqc6a qeqc6c (g := (mkF m 14 #[.val (.ref a0), .val (.int p1), .val (.int x)] [(.int x), (.ref a0)])) rfl (by rw [hml]; rfl) (Steps.refl _) (argsL := [(.int x)]) (rest := []) (lenOf pdeq_1 rfl) rfl (by show 2 * 0 + _ ≤ _; exact Nat.le_of_eq rfl) (hb hby deq_14) (fun _ _ => ⟨rfl, eeqc3, (by decide : 0 + 0 ≤ _), (by decide : 0 + 0 ≤ _)⟩)
        dsimp only [Pt.U, Pt.locs, Pt.cells, Pt.slots] at Xeqc6 leqc6 yeqc6 zeqc6 steqc6 hQeqc6
        subst leqc6 yeqc6 zeqc6
        obtain ⟨rfl, Neqc6q, eeqc6⟩ := hQeqc6
        have Neqc6 := Fr.app Neqc3 Neqc6q
        obtain ⟨lceqt7, Xeqc6, Neqc6⟩ : ∃ lc, Stand p l e ({ frames := 5, cells := 0, slots := 0, locals := 66 } : Room) s m #[(.ref a0), (.int p1)] below meth c Teqc6 lc 0 0 ∧ Fr n0 lc := ⟨_, Xeqc6, Neqc6⟩
        refine stp (fun t k => steqc6.trans k) ?_
        show W (Teqc6.setTop (mkF m 17 #[.val (.ref a0), .val (.int p1), .val (.int x)] [(.int (g i))]))
        refine stp (fun t k => XS.bipush Xeqc6.here hx rfl (hb hby deq_17) k) ?_
        show W (Teqc6.setTop (mkF m 19 #[.val (.ref a0), .val (.int p1), .val (.int x)] [(.int (34 : Int32)), (.int (g i))]))
        by_cases hceq_8 : (g i) = (34 : Int32)
        · refine stp (fun t k => XS.icmpYes Xeqc6.here hx rfl (pc0 := 19) (pc' := 28) rfl (hb hby deq_19) rfl ((teq hceq_8).1) (by decide) (by decide) k) ?_
          show W (Teqc6.setTop (mkF m 28 #[.val (.ref a0), .val (.int p1), .val (.int x)] []))
          refine stp (fun t k => XS.iloadN Xeqc6.here hx rfl (hb hby deq_28) rfl k) ?_
          show W (Teqc6.setTop (mkF m 29 #[.val (.ref a0), .val (.int p1), .val (.int x)] [(.int x)]))
          refine stp (fun t k => XS.iconst Xeqc6.here hx rfl (hb hby deq_29) k) ?_
          show W (Teqc6.setTop (mkF m 30 #[.val (.ref a0), .val (.int p1), .val (.int x)] [(.int (1 : Int32)), (.int x)]))
          refine stp (fun t k => XS.iadd Xeqc6.here hx rfl (hb hby deq_30) rfl k) ?_
          show W (Teqc6.setTop (mkF m 31 #[.val (.ref a0), .val (.int p1), .val (.int x)] [(.int (x + (1 : Int32)))]))
          refine stp (fun t k => XS.aloadN Xeqc6.here hx rfl (hb hby deq_31) rfl rfl k) ?_
          show W (Teqc6.setTop (mkF m 32 #[.val (.ref a0), .val (.int p1), .val (.int x)] [(.ref a0), (.int (x + (1 : Int32)))]))
          obtain ⟨cqeqc9, kqeqc9, qeqc9a, qeqc9b, qeqc9c⟩ := isOf hZ eeqc6 S_a0.1
          obtain ⟨_, _, ⟨Teqc9, Leqc9, keqc9, neqc9⟩, -, Xeqc9, ⟨Lceqc9, hQeqc9, leqc9, yeqc9, zeqc9⟩, steqc9⟩ := Xeqc6.virtualBack hx (y := (⟨"java/lang/String", "length", "()I"⟩ : MethodName)) (z := (⟨"java/lang/String", "length", "()I"⟩ : MethodName)) hown (mvT hZ (hw _ (List.mem_of_getElem? (i := 60) rfl))) (mvT hZ (hw _ (List.mem_of_getElem? (i := 61) rfl))) (notFace_of_selects (args := #[]) (mvT hZ (hw _ (List.mem_of_getElem? (i := 63) rfl)))) (mvT hZ (hw _ (List.mem_of_getElem? (i := 63) rfl))) (mvT hZ (hw _ (List.mem_of_getElem? (i := 62) rfl))) (by decide) (backOf (W := 1) (rmlA l Z aa hw [] a0 wc sx b n g h' n0 ZL BW OL S_a0 hn) hZ (hw _ (List.mem_of_getElem? (i := 64) rfl)) (hw _ (List.mem_of_getElem? (i := 10) rfl)) (by decide) (by decide)) qeqc9a qeqc9c (g := (mkF m 32 #[.val (.ref a0), .val (.int p1), .val (.int x)] [(.ref a0), (.int (x + (1 : Int32)))])) rfl (by rw [hml]; rfl) (Steps.refl _) (argsL := []) (rest := [(.int (x + (1 : Int32)))]) (lenOf pdeq_0 rfl) rfl (by show 2 * 0 + _ ≤ _; exact Nat.le_of_eq rfl) (hb hby deq_32) (fun _ _ => ⟨rfl, eeqc6, (by decide : 0 + 0 ≤ _), (by decide : 0 + 0 ≤ _)⟩)
          dsimp only [Pt.U, Pt.locs, Pt.cells, Pt.slots] at Xeqc9 leqc9 yeqc9 zeqc9 steqc9 hQeqc9
          subst leqc9 yeqc9 zeqc9
          obtain ⟨rfl, Neqc9q, eeqc9⟩ := hQeqc9
          have Neqc9 := Fr.app Neqc6 Neqc9q
          obtain ⟨lceqt10, Xeqc9, Neqc9⟩ : ∃ lc, Stand p l e ({ frames := 5, cells := 0, slots := 0, locals := 66 } : Room) s m #[(.ref a0), (.int p1)] below meth c Teqc9 lc 0 0 ∧ Fr n0 lc := ⟨_, Xeqc9, Neqc9⟩
          refine stp (fun t k => steqc9.trans k) ?_
          show W (Teqc9.setTop (mkF m 35 #[.val (.ref a0), .val (.int p1), .val (.int x)] [(.int (Int32.ofNat n)), (.int (x + (1 : Int32)))]))
          by_cases hceq_11 : (x + (1 : Int32)) < (Int32.ofNat n)
          · refine stp (fun t k => XS.icmpNo Xeqc9.here hx rfl (hb hby deq_35) rfl ((tlt hceq_11).2.1) k) ?_
            show W (Teqc9.setTop (mkF m 38 #[.val (.ref a0), .val (.int p1), .val (.int x)] []))
            refine stp (fun t k => XS.aloadN Xeqc9.here hx rfl (hb hby deq_38) rfl rfl k) ?_
            show W (Teqc9.setTop (mkF m 39 #[.val (.ref a0), .val (.int p1), .val (.int x)] [(.ref a0)]))
            refine stp (fun t k => XS.iloadN Xeqc9.here hx rfl (hb hby deq_39) rfl k) ?_
            show W (Teqc9.setTop (mkF m 40 #[.val (.ref a0), .val (.int p1), .val (.int x)] [(.int x), (.ref a0)]))
            refine stp (fun t k => XS.iconst Xeqc9.here hx rfl (hb hby deq_40) k) ?_
            show W (Teqc9.setTop (mkF m 41 #[.val (.ref a0), .val (.int p1), .val (.int x)] [(.int (1 : Int32)), (.int x), (.ref a0)]))
            refine stp (fun t k => XS.iadd Xeqc9.here hx rfl (hb hby deq_41) rfl k) ?_
            show W (Teqc9.setTop (mkF m 42 #[.val (.ref a0), .val (.int p1), .val (.int x)] [(.int (x + (1 : Int32))), (.ref a0)]))
            obtain ⟨cqeqc12, kqeqc12, qeqc12a, qeqc12b, qeqc12c⟩ := isOf hZ eeqc9 S_a0.1
            obtain ⟨_, _, ⟨Teqc12, Leqc12, keqc12, neqc12⟩, -, Xeqc12, ⟨Lceqc12, hQeqc12, leqc12, yeqc12, zeqc12⟩, steqc12⟩ := Xeqc9.virtualBack hx (y := (⟨"java/lang/String", "charAt", "(I)C"⟩ : MethodName)) (z := (⟨"java/lang/String", "charAt", "(I)C"⟩ : MethodName)) hown (mvT hZ (hw _ (List.mem_of_getElem? (i := 70) rfl))) (mvT hZ (hw _ (List.mem_of_getElem? (i := 71) rfl))) (notFace_of_selects (args := #[]) (mvT hZ (hw _ (List.mem_of_getElem? (i := 73) rfl)))) (mvT hZ (hw _ (List.mem_of_getElem? (i := 73) rfl))) (mvT hZ (hw _ (List.mem_of_getElem? (i := 72) rfl))) (by decide) (backOf (W := 0) (rmcA l Z aa hw [] a0 (x + (1 : Int32)) wc sx b n g (i + 1) h' n0 ZL BW OL S_a0 hn hch (own_inc hx2 (by have := ((own_lt32 hx2 hz).mp hceq_5); omega)) ((own_lt32 (own_inc hx2 (by have := ((own_lt32 hx2 hz).mp hceq_5); omega)) hz).mp hceq_11)) hZ (hw _ (List.mem_of_getElem? (i := 74) rfl)) (hw _ (List.mem_of_getElem? (i := 10) rfl)) (by decide) (by decide)) qeqc12a qeqc12c (g := (mkF m 42 #[.val (.ref a0), .val (.int p1), .val (.int x)] [(.int (x + (1 : Int32))), (.ref a0)])) rfl (by rw [hml]; rfl) (Steps.refl _) (argsL := [(.int (x + (1 : Int32)))]) (rest := []) (lenOf pdeq_1 rfl) rfl (by show 2 * 0 + _ ≤ _; exact Nat.le_of_eq rfl) (hb hby deq_42) (fun _ _ => ⟨rfl, eeqc9, (by decide : 0 + 0 ≤ _), (by decide : 0 + 0 ≤ _)⟩)
            dsimp only [Pt.U, Pt.locs, Pt.cells, Pt.slots] at Xeqc12 leqc12 yeqc12 zeqc12 steqc12 hQeqc12
            subst leqc12 yeqc12 zeqc12
            obtain ⟨rfl, Neqc12q, eeqc12⟩ := hQeqc12
            have Neqc12 := Fr.app Neqc9 Neqc12q
            obtain ⟨lceqt13, Xeqc12, Neqc12⟩ : ∃ lc, Stand p l e ({ frames := 5, cells := 0, slots := 0, locals := 66 } : Room) s m #[(.ref a0), (.int p1)] below meth c Teqc12 lc 0 0 ∧ Fr n0 lc := ⟨_, Xeqc12, Neqc12⟩
            refine stp (fun t k => steqc12.trans k) ?_
            show W (Teqc12.setTop (mkF m 45 #[.val (.ref a0), .val (.int p1), .val (.int x)] [(.int (g (i + 1)))]))
            refine stp (fun t k => XS.bipush Xeqc12.here hx rfl (hb hby deq_45) k) ?_
            show W (Teqc12.setTop (mkF m 47 #[.val (.ref a0), .val (.int p1), .val (.int x)] [(.int (34 : Int32)), (.int (g (i + 1)))]))
            by_cases hceq_14 : (g (i + 1)) = (34 : Int32)
            · refine stp (fun t k => XS.icmpNo Xeqc12.here hx rfl (hb hby deq_47) rfl ((teq hceq_14).2) k) ?_
              show W (Teqc12.setTop (mkF m 50 #[.val (.ref a0), .val (.int p1), .val (.int x)] []))
              refine stp (fun t k => XS.iinc Xeqc12.here hx rfl (hb hby deq_50) rfl (l' := #[.val (.ref a0), .val (.int p1), .val (.int (x + (2 : Int32)))]) rfl k) ?_
              show W (Teqc12.setTop (mkF m 53 #[.val (.ref a0), .val (.int p1), .val (.int (x + (2 : Int32)))] []))
              refine stp (fun t k => XS.goto Xeqc12.here hx rfl (pc0 := 53) (pc' := 4) rfl (hb hby deq_53) (by decide) (by decide) k) ?_
              exact ih (i + 2) _ _ _ _ (by omega) (own_inc2 hx2 (by have := (own_lt32 hx2 hz).mp hceq_5; omega)) (by rw [← hE, own_E2 ((own_lt32 hx2 hz).mp hceq_5) hceq_8 ((own_lt32 (own_inc hx2 (by have := (own_lt32 hx2 hz).mp hceq_5; omega)) hz).mp hceq_11) hceq_14]) (by have := (own_lt32 hx2 hz).mp hceq_5; omega) hh Xeqc12 eeqc12 Neqc12 KL OL S_a0
            · refine stp (fun t k => XS.icmpYes Xeqc12.here hx rfl (pc0 := 47) (pc' := 56) rfl (hb hby deq_47) rfl ((feq hceq_14).2) (by decide) (by decide) k) ?_
              show W (Teqc12.setTop (mkF m 56 #[.val (.ref a0), .val (.int p1), .val (.int x)] []))
              refine stp (fun t k => XS.iloadN Xeqc12.here hx rfl (hb hby deq_56) rfl k) ?_
              show W (Teqc12.setTop (mkF m 57 #[.val (.ref a0), .val (.int p1), .val (.int x)] [(.int x)]))
              refine stp (fun t k => XS.iconst Xeqc12.here hx rfl (hb hby deq_57) k) ?_
              show W (Teqc12.setTop (mkF m 58 #[.val (.ref a0), .val (.int p1), .val (.int x)] [(.int (1 : Int32)), (.int x)]))
              refine stp (fun t k => XS.iadd Xeqc12.here hx rfl (hb hby deq_58) rfl k) ?_
              show W (Teqc12.setTop (mkF m 59 #[.val (.ref a0), .val (.int p1), .val (.int x)] [(.int (x + (1 : Int32)))]))
              show W (Teqc12.setTop (mkF m 59 #[.val (.ref a0), .val (.int p1), .val (.int x)] [(.int (x + (1 : Int32)))]))
              rw [← hW]
              exact own_retI Xeqc12 hx Bd.notSynchronized Bd.returns (hb hby deq_59) (by show Qeq Z a0 p1 wc sx b n g i0 h0 n0 _ Teqc12.heap _; rw [eeqc12]; exact ⟨by rw [← hE, own_E3 ((own_lt32 hx2 hz).mp hceq_5) hceq_8 (fun q => hceq_14 q.2), own_eqOf (own_inc hx2 (by have := ((own_lt32 hx2 hz).mp hceq_5); omega)) (by omega)], Neqc12, hh⟩) (by decide) (by decide)
          · refine stp (fun t k => XS.icmpYes Xeqc9.here hx rfl (pc0 := 35) (pc' := 56) rfl (hb hby deq_35) rfl ((flt hceq_11).2.1) (by decide) (by decide) k) ?_
            show W (Teqc9.setTop (mkF m 56 #[.val (.ref a0), .val (.int p1), .val (.int x)] []))
            refine stp (fun t k => XS.iloadN Xeqc9.here hx rfl (hb hby deq_56) rfl k) ?_
            show W (Teqc9.setTop (mkF m 57 #[.val (.ref a0), .val (.int p1), .val (.int x)] [(.int x)]))
            refine stp (fun t k => XS.iconst Xeqc9.here hx rfl (hb hby deq_57) k) ?_
            show W (Teqc9.setTop (mkF m 58 #[.val (.ref a0), .val (.int p1), .val (.int x)] [(.int (1 : Int32)), (.int x)]))
            refine stp (fun t k => XS.iadd Xeqc9.here hx rfl (hb hby deq_58) rfl k) ?_
            show W (Teqc9.setTop (mkF m 59 #[.val (.ref a0), .val (.int p1), .val (.int x)] [(.int (x + (1 : Int32)))]))
            show W (Teqc9.setTop (mkF m 59 #[.val (.ref a0), .val (.int p1), .val (.int x)] [(.int (x + (1 : Int32)))]))
            rw [← hW]
            exact own_retI Xeqc9 hx Bd.notSynchronized Bd.returns (hb hby deq_59) (by show Qeq Z a0 p1 wc sx b n g i0 h0 n0 _ Teqc9.heap _; rw [eeqc9]; exact ⟨by rw [← hE, own_E3 ((own_lt32 hx2 hz).mp hceq_5) hceq_8 (fun q => hceq_11 ((own_lt32 (own_inc hx2 (by have := ((own_lt32 hx2 hz).mp hceq_5); omega)) hz).mpr q.1)), own_eqOf (own_inc hx2 (by have := ((own_lt32 hx2 hz).mp hceq_5); omega)) (by omega)], Neqc9, hh⟩) (by decide) (by decide)
        · refine stp (fun t k => XS.icmpNo Xeqc6.here hx rfl (hb hby deq_19) rfl ((feq hceq_8).1) k) ?_
          show W (Teqc6.setTop (mkF m 22 #[.val (.ref a0), .val (.int p1), .val (.int x)] []))
          refine stp (fun t k => XS.iinc Xeqc6.here hx rfl (hb hby deq_22) rfl (l' := #[.val (.ref a0), .val (.int p1), .val (.int (x + (1 : Int32)))]) rfl k) ?_
          show W (Teqc6.setTop (mkF m 25 #[.val (.ref a0), .val (.int p1), .val (.int (x + (1 : Int32)))] []))
          refine stp (fun t k => XS.goto Xeqc6.here hx rfl (pc0 := 25) (pc' := 4) rfl (hb hby deq_25) (by decide) (by decide) k) ?_
          exact ih (i + 1) _ _ _ _ (by omega) (own_inc hx2 (by have := (own_lt32 hx2 hz).mp hceq_5; omega)) (by rw [← hE, own_E1 ((own_lt32 hx2 hz).mp hceq_5) hceq_8]) (by have := (own_lt32 hx2 hz).mp hceq_5; omega) hh Xeqc6 eeqc6 Neqc6 KL OL S_a0
      · refine stp (fun t k => XS.icmpYes Xeqc3.here hx rfl (pc0 := 9) (pc' := 60) rfl (hb hby deq_9) rfl ((flt hceq_5).2.1) (by decide) (by decide) k) ?_
        show W (Teqc3.setTop (mkF m 60 #[.val (.ref a0), .val (.int p1), .val (.int x)] []))
        refine stp (fun t k => XS.iconst Xeqc3.here hx rfl (hb hby deq_60) k) ?_
        show W (Teqc3.setTop (mkF m 61 #[.val (.ref a0), .val (.int p1), .val (.int x)] [(.int (-1 : Int32))]))
        show W (Teqc3.setTop (mkF m 61 #[.val (.ref a0), .val (.int p1), .val (.int x)] [(.int (-1 : Int32))]))
        rw [← hW]
        exact own_retI Xeqc3 hx Bd.notSynchronized Bd.returns (hb hby deq_61) (by show Qeq Z a0 p1 wc sx b n g i0 h0 n0 _ Teqc3.heap _; rw [eeqc3]; exact ⟨by rw [← hE, own_E0 (fun q => hceq_5 ((own_lt32 hx2 hz).mpr q))], Neqc3, hh⟩) (by decide) (by decide)
  exact LP n (i0 + 1) _ _ _ _ (by omega) (own_inc hp1 (by omega)) rfl (by omega) rfl X0 e0 N0 (Keep.refl h0 []) O0 S_a0
theorem pn0 : plainName "com/example/grant3/grant3/IdentifierEndOfQuotedPinLaw" = true := by first | (simp [plainName, overriddenIn]; done) | decide +kernel
theorem pd0_0 : parseMethodDescriptor "(JI)C" = some ⟨[.long, .int], some .char⟩ := by decide +kernel
theorem pd0_1 : parseMethodDescriptor "([C)V" = some ⟨[(.array .char)], none⟩ := by decide +kernel
theorem pd0_2 : parseMethodDescriptor "(Ljava/lang/String;I)I" = some ⟨[(.object "java/lang/String"), .int], some .int⟩ := by decide +kernel
theorem ef0 (m : MethodId) (p0 : Int32) (q1 : Int64) (q2 : Int64) : entryFrame m #[(.int p0), (.long q1), (.long q2)] maxLocals = mkF m 0 #[.val (.int p0), .val (.long q1), .second, .val (.long q2), .second, .unset, .unset, .unset, .unset, .unset, .unset, .unset] [] := by first | (simp [entryFrame, mkF, argsToLocals, Value.category, maxLocals]; done) | rfl
def Q0 (Z : State) (p0 : Int32) (q1 : Int64) (q2 : Int64) (wc : Int32) (sx : Value) (h0 : Heap) (n0 : Nat) (v : Option Value) (h : Heap) (L : List Loc) : Prop := v = some (.int (1 : Int32)) ∧ Fr n0 L
set_option maxRecDepth 65536 in
set_option maxHeartbeats 40000000 in
theorem rm0 (l : Launch) (Z : State) (aa : Array Value) (hw : ∀ d ∈ tables_1, d.before aa Z = true) (ws : List Jvm.Cond) (p0 : Int32) (q1 : Int64) (q2 : Int64) (wc : Int32) (sx : Value) (h0 : Heap) (n0 : Nat) (Z0 : n0 ≤ h0.size) (BW : OwnW Z wc sx) (O0 : Old Z n0 h0) :
    MetFree l x (head1 (Jvm.Cond.code x code maxLocals ret :: ws) room_1) (fun a U => a = #[(.int p0), (.long q1), (.long q2)] ∧ Z.Warmed39 U.vm ∧ U.heap = h0) (fun _ _ _ _ _ => True) (fun _ U o U' => ∃ v L, o = .returned v ∧ Q0 Z p0 q1 q2 wc sx h0 n0 v U'.heap L ∧ FrameEnd U o U' L room_1.cells room_1.slots) := by
  refine MetFree.of_bodySF (plainFor_of_name pn0) hisR ?_
  intro p e s m args below meth c s₁ Bd hml0 hP hK
  obtain ⟨rfl, hZ, hh⟩ := hP
  have hx := Bd.exec
  have hby := Bd.bytes
  have hml : c.maxLocals = 12 := hml0
  have hown : s.vm.findClass "com/example/grant3/grant3/IdentifierEndOfQuotedPinLaw" = some m.cls := findClass_of_methodNamed Bd.named
  have hnm := (name_of_methodNamed Bd.named Bd.method).1
  have X0 : Stand p l e room_1 s m #[(.int p0), (.long q1), (.long q2)] below meth c s₁ [] 0 0 := Stand.of_body Bd
  have e0 : s₁.heap = h0 := by rw [← hh, Bd.state]; rfl
  have N0 := Fr.nil n0
  show OwnEnd p e below s (fun v h L => Q0 Z p0 q1 q2 wc sx h0 n0 v h L) room_1.cells room_1.slots (s₁.setTop (entryFrame m #[(.int p0), (.long q1), (.long q2)] maxLocals))
  rw [ef0 m p0 q1 q2]
  generalize hW : OwnEnd p e below s (fun v h L => Q0 Z p0 q1 q2 wc sx h0 n0 v h L) room_1.cells room_1.slots = W
  have stp : ∀ {A B : State}, (∀ t, Steps p.tables e below B t → Steps p.tables e below A t) → W B → W A := by subst hW; exact own_step
  obtain ⟨S_cs, hcs, S_si, hr_sx, S_ad, S_hi, S_lo⟩ := id BW
  show W (s₁.setTop (mkF m 0 #[.val (.int p0), .val (.long q1), .second, .val (.long q2), .second, .unset, .unset, .unset, .unset, .unset, .unset, .unset] []))
  refine stp (fun t k => XS.bipush X0.here hx rfl (hb hby at_0) k) ?_
  show W (s₁.setTop (mkF m 2 #[.val (.int p0), .val (.long q1), .second, .val (.long q2), .second, .unset, .unset, .unset, .unset, .unset, .unset, .unset] [(.int (6 : Int32))]))
  obtain ⟨T01, h01, k01, X01, e01, E01, A01, st01⟩ := newP X0 hx hZ (hw _ (List.mem_of_getElem? (i := 0) rfl)) e0 (g := (mkF m 2 #[.val (.int p0), .val (.long q1), .second, .val (.long q2), .second, .unset, .unset, .unset, .unset, .unset, .unset, .unset] [(.int (6 : Int32))])) rfl (hb hby at_2) rfl (by decide) (cap := 6) (by decide) (by decide) (by decide) (by decide)
  obtain ⟨b01, gq01⟩ : ∃ z, z = h0.size := ⟨_, rfl⟩
  rw [← gq01] at A01 st01
  have g_b01 : n0 ≤ b01 := Nat.le_trans Z0 (Nat.le_of_eq gq01.symm)
  have sz_b01 : h0.size ≤ b01 := Nat.le_trans (Keep.refl h0 []).1 (Nat.le_of_eq gq01.symm)
  have K01 := (Keep.refl h0 []).ext E01
  have Z01 := Nat.le_trans Z0 E01.1
  have O01 := O0.ext E01
  have V_b01 : Arv Z h01 b01 k01 .char (6 : Int32) [(.int (0 : Int32)), (.int (0 : Int32)), (.int (0 : Int32)), (.int (0 : Int32)), (.int (0 : Int32)), (.int (0 : Int32))] (.int (0 : Int32)) := (Arv.new A01 (by decide)).pad (pad_rep [] (.int (0 : Int32)) 6)
  refine stp (fun t k => st01 t k) ?_
  show W (T01.setTop (mkF m 4 #[.val (.int p0), .val (.long q1), .second, .val (.long q2), .second, .unset, .unset, .unset, .unset, .unset, .unset, .unset] [(.ref b01)]))
  refine stp (fun t k => XS.astore X01.here hx rfl (hb hby at_4) rfl rfl (l' := #[.val (.int p0), .val (.long q1), .second, .val (.long q2), .second, .val (.ref b01), .unset, .unset, .unset, .unset, .unset, .unset]) rfl k) ?_
  show W (T01.setTop (mkF m 6 #[.val (.int p0), .val (.long q1), .second, .val (.long q2), .second, .val (.ref b01), .unset, .unset, .unset, .unset, .unset, .unset] []))
  refine stp (fun t k => XS.aload X01.here hx rfl (hb hby at_6) rfl rfl k) ?_
  show W (T01.setTop (mkF m 8 #[.val (.int p0), .val (.long q1), .second, .val (.long q2), .second, .val (.ref b01), .unset, .unset, .unset, .unset, .unset, .unset] [(.ref b01)]))
  refine stp (fun t k => XS.iconst X01.here hx rfl (hb hby at_8) k) ?_
  show W (T01.setTop (mkF m 9 #[.val (.int p0), .val (.long q1), .second, .val (.long q2), .second, .val (.ref b01), .unset, .unset, .unset, .unset, .unset, .unset] [(.int (0 : Int32)), (.ref b01)]))
  refine stp (fun t k => XS.lloadN X01.here hx rfl (hb hby at_9) rfl k) ?_
  show W (T01.setTop (mkF m 10 #[.val (.int p0), .val (.long q1), .second, .val (.long q2), .second, .val (.ref b01), .unset, .unset, .unset, .unset, .unset, .unset] [(.long q1), (.int (0 : Int32)), (.ref b01)]))
  refine stp (fun t k => XS.iconst X01.here hx rfl (hb hby at_10) k) ?_
  show W (T01.setTop (mkF m 11 #[.val (.int p0), .val (.long q1), .second, .val (.long q2), .second, .val (.ref b01), .unset, .unset, .unset, .unset, .unset, .unset] [(.int (0 : Int32)), (.long q1), (.int (0 : Int32)), (.ref b01)]))
  obtain ⟨_, _, ⟨T0c2, L0c2, k0c2, n0c2⟩, -, X0c2, ⟨Lc0c2, hQ0c2, l0c2, y0c2, z0c2⟩, st0c2⟩ := Jvm.LawKit.callS X01 hx (y := (⟨"com/example/grant3/grant3/IdentifierEndOfQuotedPinLaw", "ch", "(JI)C"⟩ : MethodName)) hown (mvT hZ (hw _ (List.mem_of_getElem? (i := 1) rfl))) (mvT hZ (hw _ (List.mem_of_getElem? (i := 2) rfl))) (mvT hZ (hw _ (List.mem_of_getElem? (i := 3) rfl))) (mvT hZ (hw _ (List.mem_of_getElem? (i := 4) rfl))) (by decide) (backOf (W := 2) (rmch l Z aa hw [] q1 (0 : Int32)  h01 n0 Z01 ) hZ (hw _ (List.mem_of_getElem? (i := 4) rfl)) (hw _ (List.mem_of_getElem? (i := 3) rfl)) (by decide) (by decide)) (g := (mkF m 11 #[.val (.int p0), .val (.long q1), .second, .val (.long q2), .second, .val (.ref b01), .unset, .unset, .unset, .unset, .unset, .unset] [(.int (0 : Int32)), (.long q1), (.int (0 : Int32)), (.ref b01)])) rfl (by rw [hml]; rfl) (argsL := [(.long q1), (.int (0 : Int32))]) (rest := [(.int (0 : Int32)), (.ref b01)]) (lenOf pd0_0 rfl) rfl (by show 2 * 0 + _ ≤ _; exact Nat.le_of_eq rfl) (hb hby at_11) (fun _ _ => ⟨rfl, e01, (by decide : 1 + 0 ≤ _), (by decide : 6 + 0 ≤ _)⟩)
  dsimp only [Pt.U, Pt.locs, Pt.cells, Pt.slots] at X0c2 l0c2 y0c2 z0c2 st0c2 hQ0c2
  subst l0c2 y0c2 z0c2
  obtain ⟨rfl, N0c2q, e0c2⟩ := hQ0c2
  have N0c2 := Fr.app N0 N0c2q
  obtain ⟨lc0t3, X0c2, N0c2⟩ : ∃ lc, Stand p l e room_1 s m #[(.int p0), (.long q1), (.long q2)] below meth c T0c2 lc 1 6 ∧ Fr n0 lc := ⟨_, X0c2, N0c2⟩
  refine stp (fun t k => st0c2 t k) ?_
  show W (T0c2.setTop (mkF m 14 #[.val (.int p0), .val (.long q1), .second, .val (.long q2), .second, .val (.ref b01), .unset, .unset, .unset, .unset, .unset, .unset] [(.int (fch q1 (0 : Int32))), (.int (0 : Int32)), (.ref b01)]))
  obtain ⟨cl04, Ar04, qk04, qs04, qn04, qh04, qg04⟩ := id V_b01
  have hin04 : ¬ ((0 : Int32) < 0 ∨ cl04.slots.size ≤ ((0 : Int32)).toNatClampNeg) := inb_of qs04 ⟨by decide, by decide⟩
  obtain ⟨T04, h04, X04, e04, W04, st04⟩ := stC X0c2 hx hZ e0c2 Ar04 (j := (0 : Int32)) hin04 (g := (mkF m 14 #[.val (.int p0), .val (.long q1), .second, .val (.long q2), .second, .val (.ref b01), .unset, .unset, .unset, .unset, .unset, .unset] [(.int (fch q1 (0 : Int32))), (.int (0 : Int32)), (.ref b01)])) rfl rfl (hb hby at_14)
  have V_b01x := Arv.set Ar04 qk04 qs04 qn04 qh04 qg04 (fits_nar_char _) W04 0 rfl (Nat.le_of_ble_eq_true rfl)
  have N04 := Fr.snoc X04 N0c2 g_b01
  obtain ⟨lc0t5, X04, N04⟩ : ∃ lc, Stand p l e room_1 s m #[(.int p0), (.long q1), (.long q2)] below meth c T04 lc 1 6 ∧ Fr n0 lc := ⟨_, X04, N04⟩
  have K04 := K01.wr W04 (Or.inr sz_b01)
  have Z04 := Nat.le_trans Z01 (Keep.of_wr W04).1
  have O04 := O01.wr W04 g_b01
  replace V_b01 : Arv Z h04 b01 k01 .char (6 : Int32) [(.int (nar .char (fch q1 (0 : Int32)))), (.int (0 : Int32)), (.int (0 : Int32)), (.int (0 : Int32)), (.int (0 : Int32)), (.int (0 : Int32))] (.int (0 : Int32)) := V_b01x
  refine stp (fun t k => st04 t k) ?_
  show W (T04.setTop (mkF m 15 #[.val (.int p0), .val (.long q1), .second, .val (.long q2), .second, .val (.ref b01), .unset, .unset, .unset, .unset, .unset, .unset] []))
  refine stp (fun t k => XS.aload X04.here hx rfl (hb hby at_15) rfl rfl k) ?_
  show W (T04.setTop (mkF m 17 #[.val (.int p0), .val (.long q1), .second, .val (.long q2), .second, .val (.ref b01), .unset, .unset, .unset, .unset, .unset, .unset] [(.ref b01)]))
  refine stp (fun t k => XS.iconst X04.here hx rfl (hb hby at_17) k) ?_
  show W (T04.setTop (mkF m 18 #[.val (.int p0), .val (.long q1), .second, .val (.long q2), .second, .val (.ref b01), .unset, .unset, .unset, .unset, .unset, .unset] [(.int (1 : Int32)), (.ref b01)]))
  refine stp (fun t k => XS.lloadN X04.here hx rfl (hb hby at_18) rfl k) ?_
  show W (T04.setTop (mkF m 19 #[.val (.int p0), .val (.long q1), .second, .val (.long q2), .second, .val (.ref b01), .unset, .unset, .unset, .unset, .unset, .unset] [(.long q1), (.int (1 : Int32)), (.ref b01)]))
  refine stp (fun t k => XS.bipush X04.here hx rfl (hb hby at_19) k) ?_
  show W (T04.setTop (mkF m 21 #[.val (.int p0), .val (.long q1), .second, .val (.long q2), .second, .val (.ref b01), .unset, .unset, .unset, .unset, .unset, .unset] [(.int (17 : Int32)), (.long q1), (.int (1 : Int32)), (.ref b01)]))
  obtain ⟨_, _, ⟨T0c6, L0c6, k0c6, n0c6⟩, -, X0c6, ⟨Lc0c6, hQ0c6, l0c6, y0c6, z0c6⟩, st0c6⟩ := Jvm.LawKit.callS X04 hx (y := (⟨"com/example/grant3/grant3/IdentifierEndOfQuotedPinLaw", "ch", "(JI)C"⟩ : MethodName)) hown (mvT hZ (hw _ (List.mem_of_getElem? (i := 1) rfl))) (mvT hZ (hw _ (List.mem_of_getElem? (i := 2) rfl))) (mvT hZ (hw _ (List.mem_of_getElem? (i := 3) rfl))) (mvT hZ (hw _ (List.mem_of_getElem? (i := 4) rfl))) (by decide) (backOf (W := 2) (rmch l Z aa hw [] q1 (17 : Int32)  h04 n0 Z04 ) hZ (hw _ (List.mem_of_getElem? (i := 4) rfl)) (hw _ (List.mem_of_getElem? (i := 3) rfl)) (by decide) (by decide)) (g := (mkF m 21 #[.val (.int p0), .val (.long q1), .second, .val (.long q2), .second, .val (.ref b01), .unset, .unset, .unset, .unset, .unset, .unset] [(.int (17 : Int32)), (.long q1), (.int (1 : Int32)), (.ref b01)])) rfl (by rw [hml]; rfl) (argsL := [(.long q1), (.int (17 : Int32))]) (rest := [(.int (1 : Int32)), (.ref b01)]) (lenOf pd0_0 rfl) rfl (by show 2 * 0 + _ ≤ _; exact Nat.le_of_eq rfl) (hb hby at_21) (fun _ _ => ⟨rfl, e04, (by decide : 1 + 0 ≤ _), (by decide : 6 + 0 ≤ _)⟩)
  dsimp only [Pt.U, Pt.locs, Pt.cells, Pt.slots] at X0c6 l0c6 y0c6 z0c6 st0c6 hQ0c6
  subst l0c6 y0c6 z0c6
  obtain ⟨rfl, N0c6q, e0c6⟩ := hQ0c6
  have N0c6 := Fr.app N04 N0c6q
  obtain ⟨lc0t7, X0c6, N0c6⟩ : ∃ lc, Stand p l e room_1 s m #[(.int p0), (.long q1), (.long q2)] below meth c T0c6 lc 1 6 ∧ Fr n0 lc := ⟨_, X0c6, N0c6⟩
  refine stp (fun t k => st0c6 t k) ?_
  show W (T0c6.setTop (mkF m 24 #[.val (.int p0), .val (.long q1), .second, .val (.long q2), .second, .val (.ref b01), .unset, .unset, .unset, .unset, .unset, .unset] [(.int (fch q1 (17 : Int32))), (.int (1 : Int32)), (.ref b01)]))
  obtain ⟨cl08, Ar08, qk08, qs08, qn08, qh08, qg08⟩ := id V_b01
  have hin08 : ¬ ((1 : Int32) < 0 ∨ cl08.slots.size ≤ ((1 : Int32)).toNatClampNeg) := inb_of qs08 ⟨by decide, by decide⟩
  obtain ⟨T08, h08, X08, e08, W08, st08⟩ := stC X0c6 hx hZ e0c6 Ar08 (j := (1 : Int32)) hin08 (g := (mkF m 24 #[.val (.int p0), .val (.long q1), .second, .val (.long q2), .second, .val (.ref b01), .unset, .unset, .unset, .unset, .unset, .unset] [(.int (fch q1 (17 : Int32))), (.int (1 : Int32)), (.ref b01)])) rfl rfl (hb hby at_24)
  have V_b01x := Arv.set Ar08 qk08 qs08 qn08 qh08 qg08 (fits_nar_char _) W08 1 rfl (Nat.le_of_ble_eq_true rfl)
  have N08 := Fr.snoc X08 N0c6 g_b01
  obtain ⟨lc0t9, X08, N08⟩ : ∃ lc, Stand p l e room_1 s m #[(.int p0), (.long q1), (.long q2)] below meth c T08 lc 1 6 ∧ Fr n0 lc := ⟨_, X08, N08⟩
  have K08 := K04.wr W08 (Or.inr sz_b01)
  have Z08 := Nat.le_trans Z04 (Keep.of_wr W08).1
  have O08 := O04.wr W08 g_b01
  replace V_b01 : Arv Z h08 b01 k01 .char (6 : Int32) [(.int (nar .char (fch q1 (0 : Int32)))), (.int (nar .char (fch q1 (17 : Int32)))), (.int (0 : Int32)), (.int (0 : Int32)), (.int (0 : Int32)), (.int (0 : Int32))] (.int (0 : Int32)) := V_b01x
  refine stp (fun t k => st08 t k) ?_
  show W (T08.setTop (mkF m 25 #[.val (.int p0), .val (.long q1), .second, .val (.long q2), .second, .val (.ref b01), .unset, .unset, .unset, .unset, .unset, .unset] []))
  refine stp (fun t k => XS.aload X08.here hx rfl (hb hby at_25) rfl rfl k) ?_
  show W (T08.setTop (mkF m 27 #[.val (.int p0), .val (.long q1), .second, .val (.long q2), .second, .val (.ref b01), .unset, .unset, .unset, .unset, .unset, .unset] [(.ref b01)]))
  refine stp (fun t k => XS.iconst X08.here hx rfl (hb hby at_27) k) ?_
  show W (T08.setTop (mkF m 28 #[.val (.int p0), .val (.long q1), .second, .val (.long q2), .second, .val (.ref b01), .unset, .unset, .unset, .unset, .unset, .unset] [(.int (2 : Int32)), (.ref b01)]))
  refine stp (fun t k => XS.lloadN X08.here hx rfl (hb hby at_28) rfl k) ?_
  show W (T08.setTop (mkF m 29 #[.val (.int p0), .val (.long q1), .second, .val (.long q2), .second, .val (.ref b01), .unset, .unset, .unset, .unset, .unset, .unset] [(.long q1), (.int (2 : Int32)), (.ref b01)]))
  refine stp (fun t k => XS.bipush X08.here hx rfl (hb hby at_29) k) ?_
  show W (T08.setTop (mkF m 31 #[.val (.int p0), .val (.long q1), .second, .val (.long q2), .second, .val (.ref b01), .unset, .unset, .unset, .unset, .unset, .unset] [(.int (34 : Int32)), (.long q1), (.int (2 : Int32)), (.ref b01)]))
  obtain ⟨_, _, ⟨T0c10, L0c10, k0c10, n0c10⟩, -, X0c10, ⟨Lc0c10, hQ0c10, l0c10, y0c10, z0c10⟩, st0c10⟩ := Jvm.LawKit.callS X08 hx (y := (⟨"com/example/grant3/grant3/IdentifierEndOfQuotedPinLaw", "ch", "(JI)C"⟩ : MethodName)) hown (mvT hZ (hw _ (List.mem_of_getElem? (i := 1) rfl))) (mvT hZ (hw _ (List.mem_of_getElem? (i := 2) rfl))) (mvT hZ (hw _ (List.mem_of_getElem? (i := 3) rfl))) (mvT hZ (hw _ (List.mem_of_getElem? (i := 4) rfl))) (by decide) (backOf (W := 2) (rmch l Z aa hw [] q1 (34 : Int32)  h08 n0 Z08 ) hZ (hw _ (List.mem_of_getElem? (i := 4) rfl)) (hw _ (List.mem_of_getElem? (i := 3) rfl)) (by decide) (by decide)) (g := (mkF m 31 #[.val (.int p0), .val (.long q1), .second, .val (.long q2), .second, .val (.ref b01), .unset, .unset, .unset, .unset, .unset, .unset] [(.int (34 : Int32)), (.long q1), (.int (2 : Int32)), (.ref b01)])) rfl (by rw [hml]; rfl) (argsL := [(.long q1), (.int (34 : Int32))]) (rest := [(.int (2 : Int32)), (.ref b01)]) (lenOf pd0_0 rfl) rfl (by show 2 * 0 + _ ≤ _; exact Nat.le_of_eq rfl) (hb hby at_31) (fun _ _ => ⟨rfl, e08, (by decide : 1 + 0 ≤ _), (by decide : 6 + 0 ≤ _)⟩)
  dsimp only [Pt.U, Pt.locs, Pt.cells, Pt.slots] at X0c10 l0c10 y0c10 z0c10 st0c10 hQ0c10
  subst l0c10 y0c10 z0c10
  obtain ⟨rfl, N0c10q, e0c10⟩ := hQ0c10
  have N0c10 := Fr.app N08 N0c10q
  obtain ⟨lc0t11, X0c10, N0c10⟩ : ∃ lc, Stand p l e room_1 s m #[(.int p0), (.long q1), (.long q2)] below meth c T0c10 lc 1 6 ∧ Fr n0 lc := ⟨_, X0c10, N0c10⟩
  refine stp (fun t k => st0c10 t k) ?_
  show W (T0c10.setTop (mkF m 34 #[.val (.int p0), .val (.long q1), .second, .val (.long q2), .second, .val (.ref b01), .unset, .unset, .unset, .unset, .unset, .unset] [(.int (fch q1 (34 : Int32))), (.int (2 : Int32)), (.ref b01)]))
  obtain ⟨cl012, Ar012, qk012, qs012, qn012, qh012, qg012⟩ := id V_b01
  have hin012 : ¬ ((2 : Int32) < 0 ∨ cl012.slots.size ≤ ((2 : Int32)).toNatClampNeg) := inb_of qs012 ⟨by decide, by decide⟩
  obtain ⟨T012, h012, X012, e012, W012, st012⟩ := stC X0c10 hx hZ e0c10 Ar012 (j := (2 : Int32)) hin012 (g := (mkF m 34 #[.val (.int p0), .val (.long q1), .second, .val (.long q2), .second, .val (.ref b01), .unset, .unset, .unset, .unset, .unset, .unset] [(.int (fch q1 (34 : Int32))), (.int (2 : Int32)), (.ref b01)])) rfl rfl (hb hby at_34)
  have V_b01x := Arv.set Ar012 qk012 qs012 qn012 qh012 qg012 (fits_nar_char _) W012 2 rfl (Nat.le_of_ble_eq_true rfl)
  have N012 := Fr.snoc X012 N0c10 g_b01
  obtain ⟨lc0t13, X012, N012⟩ : ∃ lc, Stand p l e room_1 s m #[(.int p0), (.long q1), (.long q2)] below meth c T012 lc 1 6 ∧ Fr n0 lc := ⟨_, X012, N012⟩
  have K012 := K08.wr W012 (Or.inr sz_b01)
  have Z012 := Nat.le_trans Z08 (Keep.of_wr W012).1
  have O012 := O08.wr W012 g_b01
  replace V_b01 : Arv Z h012 b01 k01 .char (6 : Int32) [(.int (nar .char (fch q1 (0 : Int32)))), (.int (nar .char (fch q1 (17 : Int32)))), (.int (nar .char (fch q1 (34 : Int32)))), (.int (0 : Int32)), (.int (0 : Int32)), (.int (0 : Int32))] (.int (0 : Int32)) := V_b01x
  refine stp (fun t k => st012 t k) ?_
  show W (T012.setTop (mkF m 35 #[.val (.int p0), .val (.long q1), .second, .val (.long q2), .second, .val (.ref b01), .unset, .unset, .unset, .unset, .unset, .unset] []))
  refine stp (fun t k => XS.aload X012.here hx rfl (hb hby at_35) rfl rfl k) ?_
  show W (T012.setTop (mkF m 37 #[.val (.int p0), .val (.long q1), .second, .val (.long q2), .second, .val (.ref b01), .unset, .unset, .unset, .unset, .unset, .unset] [(.ref b01)]))
  refine stp (fun t k => XS.iconst X012.here hx rfl (hb hby at_37) k) ?_
  show W (T012.setTop (mkF m 38 #[.val (.int p0), .val (.long q1), .second, .val (.long q2), .second, .val (.ref b01), .unset, .unset, .unset, .unset, .unset, .unset] [(.int (3 : Int32)), (.ref b01)]))
  refine stp (fun t k => XS.lloadN X012.here hx rfl (hb hby at_38) rfl k) ?_
  show W (T012.setTop (mkF m 39 #[.val (.int p0), .val (.long q1), .second, .val (.long q2), .second, .val (.ref b01), .unset, .unset, .unset, .unset, .unset, .unset] [(.long q2), (.int (3 : Int32)), (.ref b01)]))
  refine stp (fun t k => XS.iconst X012.here hx rfl (hb hby at_39) k) ?_
  show W (T012.setTop (mkF m 40 #[.val (.int p0), .val (.long q1), .second, .val (.long q2), .second, .val (.ref b01), .unset, .unset, .unset, .unset, .unset, .unset] [(.int (0 : Int32)), (.long q2), (.int (3 : Int32)), (.ref b01)]))
  obtain ⟨_, _, ⟨T0c14, L0c14, k0c14, n0c14⟩, -, X0c14, ⟨Lc0c14, hQ0c14, l0c14, y0c14, z0c14⟩, st0c14⟩ := Jvm.LawKit.callS X012 hx (y := (⟨"com/example/grant3/grant3/IdentifierEndOfQuotedPinLaw", "ch", "(JI)C"⟩ : MethodName)) hown (mvT hZ (hw _ (List.mem_of_getElem? (i := 1) rfl))) (mvT hZ (hw _ (List.mem_of_getElem? (i := 2) rfl))) (mvT hZ (hw _ (List.mem_of_getElem? (i := 3) rfl))) (mvT hZ (hw _ (List.mem_of_getElem? (i := 4) rfl))) (by decide) (backOf (W := 2) (rmch l Z aa hw [] q2 (0 : Int32)  h012 n0 Z012 ) hZ (hw _ (List.mem_of_getElem? (i := 4) rfl)) (hw _ (List.mem_of_getElem? (i := 3) rfl)) (by decide) (by decide)) (g := (mkF m 40 #[.val (.int p0), .val (.long q1), .second, .val (.long q2), .second, .val (.ref b01), .unset, .unset, .unset, .unset, .unset, .unset] [(.int (0 : Int32)), (.long q2), (.int (3 : Int32)), (.ref b01)])) rfl (by rw [hml]; rfl) (argsL := [(.long q2), (.int (0 : Int32))]) (rest := [(.int (3 : Int32)), (.ref b01)]) (lenOf pd0_0 rfl) rfl (by show 2 * 0 + _ ≤ _; exact Nat.le_of_eq rfl) (hb hby at_40) (fun _ _ => ⟨rfl, e012, (by decide : 1 + 0 ≤ _), (by decide : 6 + 0 ≤ _)⟩)
  dsimp only [Pt.U, Pt.locs, Pt.cells, Pt.slots] at X0c14 l0c14 y0c14 z0c14 st0c14 hQ0c14
  subst l0c14 y0c14 z0c14
  obtain ⟨rfl, N0c14q, e0c14⟩ := hQ0c14
  have N0c14 := Fr.app N012 N0c14q
  obtain ⟨lc0t15, X0c14, N0c14⟩ : ∃ lc, Stand p l e room_1 s m #[(.int p0), (.long q1), (.long q2)] below meth c T0c14 lc 1 6 ∧ Fr n0 lc := ⟨_, X0c14, N0c14⟩
  refine stp (fun t k => st0c14 t k) ?_
  show W (T0c14.setTop (mkF m 43 #[.val (.int p0), .val (.long q1), .second, .val (.long q2), .second, .val (.ref b01), .unset, .unset, .unset, .unset, .unset, .unset] [(.int (fch q2 (0 : Int32))), (.int (3 : Int32)), (.ref b01)]))
  obtain ⟨cl016, Ar016, qk016, qs016, qn016, qh016, qg016⟩ := id V_b01
  have hin016 : ¬ ((3 : Int32) < 0 ∨ cl016.slots.size ≤ ((3 : Int32)).toNatClampNeg) := inb_of qs016 ⟨by decide, by decide⟩
  obtain ⟨T016, h016, X016, e016, W016, st016⟩ := stC X0c14 hx hZ e0c14 Ar016 (j := (3 : Int32)) hin016 (g := (mkF m 43 #[.val (.int p0), .val (.long q1), .second, .val (.long q2), .second, .val (.ref b01), .unset, .unset, .unset, .unset, .unset, .unset] [(.int (fch q2 (0 : Int32))), (.int (3 : Int32)), (.ref b01)])) rfl rfl (hb hby at_43)
  have V_b01x := Arv.set Ar016 qk016 qs016 qn016 qh016 qg016 (fits_nar_char _) W016 3 rfl (Nat.le_of_ble_eq_true rfl)
  have N016 := Fr.snoc X016 N0c14 g_b01
  obtain ⟨lc0t17, X016, N016⟩ : ∃ lc, Stand p l e room_1 s m #[(.int p0), (.long q1), (.long q2)] below meth c T016 lc 1 6 ∧ Fr n0 lc := ⟨_, X016, N016⟩
  have K016 := K012.wr W016 (Or.inr sz_b01)
  have Z016 := Nat.le_trans Z012 (Keep.of_wr W016).1
  have O016 := O012.wr W016 g_b01
  replace V_b01 : Arv Z h016 b01 k01 .char (6 : Int32) [(.int (nar .char (fch q1 (0 : Int32)))), (.int (nar .char (fch q1 (17 : Int32)))), (.int (nar .char (fch q1 (34 : Int32)))), (.int (nar .char (fch q2 (0 : Int32)))), (.int (0 : Int32)), (.int (0 : Int32))] (.int (0 : Int32)) := V_b01x
  refine stp (fun t k => st016 t k) ?_
  show W (T016.setTop (mkF m 44 #[.val (.int p0), .val (.long q1), .second, .val (.long q2), .second, .val (.ref b01), .unset, .unset, .unset, .unset, .unset, .unset] []))
  refine stp (fun t k => XS.aload X016.here hx rfl (hb hby at_44) rfl rfl k) ?_
  show W (T016.setTop (mkF m 46 #[.val (.int p0), .val (.long q1), .second, .val (.long q2), .second, .val (.ref b01), .unset, .unset, .unset, .unset, .unset, .unset] [(.ref b01)]))
  refine stp (fun t k => XS.iconst X016.here hx rfl (hb hby at_46) k) ?_
  show W (T016.setTop (mkF m 47 #[.val (.int p0), .val (.long q1), .second, .val (.long q2), .second, .val (.ref b01), .unset, .unset, .unset, .unset, .unset, .unset] [(.int (4 : Int32)), (.ref b01)]))
  refine stp (fun t k => XS.lloadN X016.here hx rfl (hb hby at_47) rfl k) ?_
  show W (T016.setTop (mkF m 48 #[.val (.int p0), .val (.long q1), .second, .val (.long q2), .second, .val (.ref b01), .unset, .unset, .unset, .unset, .unset, .unset] [(.long q2), (.int (4 : Int32)), (.ref b01)]))
  refine stp (fun t k => XS.bipush X016.here hx rfl (hb hby at_48) k) ?_
  show W (T016.setTop (mkF m 50 #[.val (.int p0), .val (.long q1), .second, .val (.long q2), .second, .val (.ref b01), .unset, .unset, .unset, .unset, .unset, .unset] [(.int (17 : Int32)), (.long q2), (.int (4 : Int32)), (.ref b01)]))
  obtain ⟨_, _, ⟨T0c18, L0c18, k0c18, n0c18⟩, -, X0c18, ⟨Lc0c18, hQ0c18, l0c18, y0c18, z0c18⟩, st0c18⟩ := Jvm.LawKit.callS X016 hx (y := (⟨"com/example/grant3/grant3/IdentifierEndOfQuotedPinLaw", "ch", "(JI)C"⟩ : MethodName)) hown (mvT hZ (hw _ (List.mem_of_getElem? (i := 1) rfl))) (mvT hZ (hw _ (List.mem_of_getElem? (i := 2) rfl))) (mvT hZ (hw _ (List.mem_of_getElem? (i := 3) rfl))) (mvT hZ (hw _ (List.mem_of_getElem? (i := 4) rfl))) (by decide) (backOf (W := 2) (rmch l Z aa hw [] q2 (17 : Int32)  h016 n0 Z016 ) hZ (hw _ (List.mem_of_getElem? (i := 4) rfl)) (hw _ (List.mem_of_getElem? (i := 3) rfl)) (by decide) (by decide)) (g := (mkF m 50 #[.val (.int p0), .val (.long q1), .second, .val (.long q2), .second, .val (.ref b01), .unset, .unset, .unset, .unset, .unset, .unset] [(.int (17 : Int32)), (.long q2), (.int (4 : Int32)), (.ref b01)])) rfl (by rw [hml]; rfl) (argsL := [(.long q2), (.int (17 : Int32))]) (rest := [(.int (4 : Int32)), (.ref b01)]) (lenOf pd0_0 rfl) rfl (by show 2 * 0 + _ ≤ _; exact Nat.le_of_eq rfl) (hb hby at_50) (fun _ _ => ⟨rfl, e016, (by decide : 1 + 0 ≤ _), (by decide : 6 + 0 ≤ _)⟩)
  dsimp only [Pt.U, Pt.locs, Pt.cells, Pt.slots] at X0c18 l0c18 y0c18 z0c18 st0c18 hQ0c18
  subst l0c18 y0c18 z0c18
  obtain ⟨rfl, N0c18q, e0c18⟩ := hQ0c18
  have N0c18 := Fr.app N016 N0c18q
  obtain ⟨lc0t19, X0c18, N0c18⟩ : ∃ lc, Stand p l e room_1 s m #[(.int p0), (.long q1), (.long q2)] below meth c T0c18 lc 1 6 ∧ Fr n0 lc := ⟨_, X0c18, N0c18⟩
  refine stp (fun t k => st0c18 t k) ?_
  show W (T0c18.setTop (mkF m 53 #[.val (.int p0), .val (.long q1), .second, .val (.long q2), .second, .val (.ref b01), .unset, .unset, .unset, .unset, .unset, .unset] [(.int (fch q2 (17 : Int32))), (.int (4 : Int32)), (.ref b01)]))
  obtain ⟨cl020, Ar020, qk020, qs020, qn020, qh020, qg020⟩ := id V_b01
  have hin020 : ¬ ((4 : Int32) < 0 ∨ cl020.slots.size ≤ ((4 : Int32)).toNatClampNeg) := inb_of qs020 ⟨by decide, by decide⟩
  obtain ⟨T020, h020, X020, e020, W020, st020⟩ := stC X0c18 hx hZ e0c18 Ar020 (j := (4 : Int32)) hin020 (g := (mkF m 53 #[.val (.int p0), .val (.long q1), .second, .val (.long q2), .second, .val (.ref b01), .unset, .unset, .unset, .unset, .unset, .unset] [(.int (fch q2 (17 : Int32))), (.int (4 : Int32)), (.ref b01)])) rfl rfl (hb hby at_53)
  have V_b01x := Arv.set Ar020 qk020 qs020 qn020 qh020 qg020 (fits_nar_char _) W020 4 rfl (Nat.le_of_ble_eq_true rfl)
  have N020 := Fr.snoc X020 N0c18 g_b01
  obtain ⟨lc0t21, X020, N020⟩ : ∃ lc, Stand p l e room_1 s m #[(.int p0), (.long q1), (.long q2)] below meth c T020 lc 1 6 ∧ Fr n0 lc := ⟨_, X020, N020⟩
  have K020 := K016.wr W020 (Or.inr sz_b01)
  have Z020 := Nat.le_trans Z016 (Keep.of_wr W020).1
  have O020 := O016.wr W020 g_b01
  replace V_b01 : Arv Z h020 b01 k01 .char (6 : Int32) [(.int (nar .char (fch q1 (0 : Int32)))), (.int (nar .char (fch q1 (17 : Int32)))), (.int (nar .char (fch q1 (34 : Int32)))), (.int (nar .char (fch q2 (0 : Int32)))), (.int (nar .char (fch q2 (17 : Int32)))), (.int (0 : Int32))] (.int (0 : Int32)) := V_b01x
  refine stp (fun t k => st020 t k) ?_
  show W (T020.setTop (mkF m 54 #[.val (.int p0), .val (.long q1), .second, .val (.long q2), .second, .val (.ref b01), .unset, .unset, .unset, .unset, .unset, .unset] []))
  refine stp (fun t k => XS.aload X020.here hx rfl (hb hby at_54) rfl rfl k) ?_
  show W (T020.setTop (mkF m 56 #[.val (.int p0), .val (.long q1), .second, .val (.long q2), .second, .val (.ref b01), .unset, .unset, .unset, .unset, .unset, .unset] [(.ref b01)]))
  refine stp (fun t k => XS.iconst X020.here hx rfl (hb hby at_56) k) ?_
  show W (T020.setTop (mkF m 57 #[.val (.int p0), .val (.long q1), .second, .val (.long q2), .second, .val (.ref b01), .unset, .unset, .unset, .unset, .unset, .unset] [(.int (5 : Int32)), (.ref b01)]))
  refine stp (fun t k => XS.lloadN X020.here hx rfl (hb hby at_57) rfl k) ?_
  show W (T020.setTop (mkF m 58 #[.val (.int p0), .val (.long q1), .second, .val (.long q2), .second, .val (.ref b01), .unset, .unset, .unset, .unset, .unset, .unset] [(.long q2), (.int (5 : Int32)), (.ref b01)]))
  refine stp (fun t k => XS.bipush X020.here hx rfl (hb hby at_58) k) ?_
  show W (T020.setTop (mkF m 60 #[.val (.int p0), .val (.long q1), .second, .val (.long q2), .second, .val (.ref b01), .unset, .unset, .unset, .unset, .unset, .unset] [(.int (34 : Int32)), (.long q2), (.int (5 : Int32)), (.ref b01)]))
  obtain ⟨_, _, ⟨T0c22, L0c22, k0c22, n0c22⟩, -, X0c22, ⟨Lc0c22, hQ0c22, l0c22, y0c22, z0c22⟩, st0c22⟩ := Jvm.LawKit.callS X020 hx (y := (⟨"com/example/grant3/grant3/IdentifierEndOfQuotedPinLaw", "ch", "(JI)C"⟩ : MethodName)) hown (mvT hZ (hw _ (List.mem_of_getElem? (i := 1) rfl))) (mvT hZ (hw _ (List.mem_of_getElem? (i := 2) rfl))) (mvT hZ (hw _ (List.mem_of_getElem? (i := 3) rfl))) (mvT hZ (hw _ (List.mem_of_getElem? (i := 4) rfl))) (by decide) (backOf (W := 2) (rmch l Z aa hw [] q2 (34 : Int32)  h020 n0 Z020 ) hZ (hw _ (List.mem_of_getElem? (i := 4) rfl)) (hw _ (List.mem_of_getElem? (i := 3) rfl)) (by decide) (by decide)) (g := (mkF m 60 #[.val (.int p0), .val (.long q1), .second, .val (.long q2), .second, .val (.ref b01), .unset, .unset, .unset, .unset, .unset, .unset] [(.int (34 : Int32)), (.long q2), (.int (5 : Int32)), (.ref b01)])) rfl (by rw [hml]; rfl) (argsL := [(.long q2), (.int (34 : Int32))]) (rest := [(.int (5 : Int32)), (.ref b01)]) (lenOf pd0_0 rfl) rfl (by show 2 * 0 + _ ≤ _; exact Nat.le_of_eq rfl) (hb hby at_60) (fun _ _ => ⟨rfl, e020, (by decide : 1 + 0 ≤ _), (by decide : 6 + 0 ≤ _)⟩)
  dsimp only [Pt.U, Pt.locs, Pt.cells, Pt.slots] at X0c22 l0c22 y0c22 z0c22 st0c22 hQ0c22
  subst l0c22 y0c22 z0c22
  obtain ⟨rfl, N0c22q, e0c22⟩ := hQ0c22
  have N0c22 := Fr.app N020 N0c22q
  obtain ⟨lc0t23, X0c22, N0c22⟩ : ∃ lc, Stand p l e room_1 s m #[(.int p0), (.long q1), (.long q2)] below meth c T0c22 lc 1 6 ∧ Fr n0 lc := ⟨_, X0c22, N0c22⟩
  refine stp (fun t k => st0c22 t k) ?_
  show W (T0c22.setTop (mkF m 63 #[.val (.int p0), .val (.long q1), .second, .val (.long q2), .second, .val (.ref b01), .unset, .unset, .unset, .unset, .unset, .unset] [(.int (fch q2 (34 : Int32))), (.int (5 : Int32)), (.ref b01)]))
  obtain ⟨cl024, Ar024, qk024, qs024, qn024, qh024, qg024⟩ := id V_b01
  have hin024 : ¬ ((5 : Int32) < 0 ∨ cl024.slots.size ≤ ((5 : Int32)).toNatClampNeg) := inb_of qs024 ⟨by decide, by decide⟩
  obtain ⟨T024, h024, X024, e024, W024, st024⟩ := stC X0c22 hx hZ e0c22 Ar024 (j := (5 : Int32)) hin024 (g := (mkF m 63 #[.val (.int p0), .val (.long q1), .second, .val (.long q2), .second, .val (.ref b01), .unset, .unset, .unset, .unset, .unset, .unset] [(.int (fch q2 (34 : Int32))), (.int (5 : Int32)), (.ref b01)])) rfl rfl (hb hby at_63)
  have V_b01x := Arv.set Ar024 qk024 qs024 qn024 qh024 qg024 (fits_nar_char _) W024 5 rfl (Nat.le_of_ble_eq_true rfl)
  have N024 := Fr.snoc X024 N0c22 g_b01
  obtain ⟨lc0t25, X024, N024⟩ : ∃ lc, Stand p l e room_1 s m #[(.int p0), (.long q1), (.long q2)] below meth c T024 lc 1 6 ∧ Fr n0 lc := ⟨_, X024, N024⟩
  have K024 := K020.wr W024 (Or.inr sz_b01)
  have Z024 := Nat.le_trans Z020 (Keep.of_wr W024).1
  have O024 := O020.wr W024 g_b01
  replace V_b01 : Arv Z h024 b01 k01 .char (6 : Int32) [(.int (nar .char (fch q1 (0 : Int32)))), (.int (nar .char (fch q1 (17 : Int32)))), (.int (nar .char (fch q1 (34 : Int32)))), (.int (nar .char (fch q2 (0 : Int32)))), (.int (nar .char (fch q2 (17 : Int32)))), (.int (nar .char (fch q2 (34 : Int32))))] (.int (0 : Int32)) := V_b01x
  refine stp (fun t k => st024 t k) ?_
  show W (T024.setTop (mkF m 64 #[.val (.int p0), .val (.long q1), .second, .val (.long q2), .second, .val (.ref b01), .unset, .unset, .unset, .unset, .unset, .unset] []))
  refine stp (fun t k => XS.bipush X024.here hx rfl (hb hby at_64) k) ?_
  show W (T024.setTop (mkF m 66 #[.val (.int p0), .val (.long q1), .second, .val (.long q2), .second, .val (.ref b01), .unset, .unset, .unset, .unset, .unset, .unset] [(.int (6 : Int32))]))
  refine stp (fun t k => XS.istore X024.here hx rfl (hb hby at_66) rfl (l' := #[.val (.int p0), .val (.long q1), .second, .val (.long q2), .second, .val (.ref b01), .val (.int (6 : Int32)), .unset, .unset, .unset, .unset, .unset]) rfl k) ?_
  show W (T024.setTop (mkF m 68 #[.val (.int p0), .val (.long q1), .second, .val (.long q2), .second, .val (.ref b01), .val (.int (6 : Int32)), .unset, .unset, .unset, .unset, .unset] []))
  refine stp (fun t k => XS.iloadN X024.here hx rfl (hb hby at_68) rfl k) ?_
  show W (T024.setTop (mkF m 69 #[.val (.int p0), .val (.long q1), .second, .val (.long q2), .second, .val (.ref b01), .val (.int (6 : Int32)), .unset, .unset, .unset, .unset, .unset] [(.int p0)]))
  refine stp (fun t k => X024.ldcInt hx hown (mvT hZ (hw _ (List.mem_of_getElem? (i := 7) rfl))) (g := (mkF m 69 #[.val (.int p0), .val (.long q1), .second, .val (.long q2), .second, .val (.ref b01), .val (.int (6 : Int32)), .unset, .unset, .unset, .unset, .unset] [(.int p0)])) rfl (hb hby at_69) _ k) ?_
  show W (T024.setTop (mkF m 71 #[.val (.int p0), .val (.long q1), .second, .val (.long q2), .second, .val (.ref b01), .val (.int (6 : Int32)), .unset, .unset, .unset, .unset, .unset] [(.int (2147483647 : Int32)), (.int p0)]))
  refine stp (fun t k => XS.iand X024.here hx rfl (hb hby at_71) rfl k) ?_
  show W (T024.setTop (mkF m 72 #[.val (.int p0), .val (.long q1), .second, .val (.long q2), .second, .val (.ref b01), .val (.int (6 : Int32)), .unset, .unset, .unset, .unset, .unset] [(.int (p0 &&& (2147483647 : Int32)))]))
  refine stp (fun t k => XS.bipush X024.here hx rfl (hb hby at_72) k) ?_
  show W (T024.setTop (mkF m 74 #[.val (.int p0), .val (.long q1), .second, .val (.long q2), .second, .val (.ref b01), .val (.int (6 : Int32)), .unset, .unset, .unset, .unset, .unset] [(.int (6 : Int32)), (.int (p0 &&& (2147483647 : Int32)))]))
  refine stp (fun t k => iremM X024 hx rfl (hb hby at_74) rfl (by decide) k) ?_
  show W (T024.setTop (mkF m 75 #[.val (.int p0), .val (.long q1), .second, .val (.long q2), .second, .val (.ref b01), .val (.int (6 : Int32)), .unset, .unset, .unset, .unset, .unset] [(.int ((p0 &&& (2147483647 : Int32)) % (6 : Int32)))]))
  refine stp (fun t k => XS.istore X024.here hx rfl (hb hby at_75) rfl (l' := #[.val (.int p0), .val (.long q1), .second, .val (.long q2), .second, .val (.ref b01), .val (.int (6 : Int32)), .val (.int ((p0 &&& (2147483647 : Int32)) % (6 : Int32))), .unset, .unset, .unset, .unset]) rfl k) ?_
  show W (T024.setTop (mkF m 77 #[.val (.int p0), .val (.long q1), .second, .val (.long q2), .second, .val (.ref b01), .val (.int (6 : Int32)), .val (.int ((p0 &&& (2147483647 : Int32)) % (6 : Int32))), .unset, .unset, .unset, .unset] []))
  generalize hu0_26 : ((p0 &&& (2147483647 : Int32)) % (6 : Int32)) = u0_26
  show W (T024.setTop (mkF m 77 #[.val (.int p0), .val (.long q1), .second, .val (.long q2), .second, .val (.ref b01), .val (.int (6 : Int32)), .val (.int u0_26), .unset, .unset, .unset, .unset] []))
  obtain ⟨ga, hga⟩ : ∃ f : Nat → Int32, f = fun j => ([(nar .char (fch q1 (0 : Int32))), (nar .char (fch q1 (17 : Int32))), (nar .char (fch q1 (34 : Int32))), (nar .char (fch q2 (0 : Int32))), (nar .char (fch q2 (17 : Int32))), (nar .char (fch q2 (34 : Int32)))] : List Int32).getD j 0 := ⟨_, rfl⟩
  have V_b01 : Arv Z h024 b01 k01 .char (6 : Int32) (own_vs 6 ga) (.int (0 : Int32)) := by subst hga; exact V_b01
  have hca : ∀ j, j < 6 → 0 ≤ (ga j).toInt ∧ (ga j).toInt < 65536 := by
    subst hga
    intro j hj
    match j, hj with
    | 0, _ => exact own_ch _
    | 1, _ => exact own_ch _
    | 2, _ => exact own_ch _
    | 3, _ => exact own_ch _
    | 4, _ => exact own_ch _
    | 5, _ => exact own_ch _
  obtain ⟨i, hi, hi6⟩ : ∃ i : Nat, u0_26.toInt = (i : Int) ∧ i < 6 := by subst hu0_26; exact own_s p0
  have hi1 := own_inc hi (Nat.lt_trans hi6 (by decide))
  have hi2 := own_inc2 hi (Nat.lt_trans hi6 (by decide))
  have hb0 : i ≤ 4000 := Nat.le_trans (Nat.le_of_lt hi6) (by decide)
  have hb1 : i + 1 ≤ 4000 := Nat.le_trans hi6 (by decide)
  have hb2 : i + 2 ≤ 4000 := Nat.le_trans (Nat.succ_le_succ hi6) (by decide)
  show W (T024.setTop (mkF m 77 #[.val (.int p0), .val (.long q1), .second, .val (.long q2), .second, .val (.ref b01), .val (.int (6 : Int32)), .val (.int u0_26), .unset, .unset, .unset, .unset] []))
  refine stp (fun t k => XS.aload X024.here hx rfl (hb hby at_77) rfl rfl k) ?_
  show W (T024.setTop (mkF m 79 #[.val (.int p0), .val (.long q1), .second, .val (.long q2), .second, .val (.ref b01), .val (.int (6 : Int32)), .val (.int u0_26), .unset, .unset, .unset, .unset] [(.ref b01)]))
  refine stp (fun t k => XS.iload X024.here hx rfl (hb hby at_79) rfl k) ?_
  show W (T024.setTop (mkF m 81 #[.val (.int p0), .val (.long q1), .second, .val (.long q2), .second, .val (.ref b01), .val (.int (6 : Int32)), .val (.int u0_26), .unset, .unset, .unset, .unset] [(.int u0_26), (.ref b01)]))
  refine stp (fun t k => XS.bipush X024.here hx rfl (hb hby at_81) k) ?_
  show W (T024.setTop (mkF m 83 #[.val (.int p0), .val (.long q1), .second, .val (.long q2), .second, .val (.ref b01), .val (.int (6 : Int32)), .val (.int u0_26), .unset, .unset, .unset, .unset] [(.int (34 : Int32)), (.int u0_26), (.ref b01)]))
  obtain ⟨cl027, Ar027, qk027, qs027, qn027, qh027, qg027⟩ := id V_b01
  have hin027 : ¬ (u0_26 < 0 ∨ cl027.slots.size ≤ (u0_26).toNatClampNeg) := inb_of qs027 ⟨own_nn hi, (own_lt32 hi (j := 6) rfl).mpr hi6⟩
  obtain ⟨T027, h027, X027, e027, W027, st027⟩ := stC X024 hx hZ e024 Ar027 (j := u0_26) hin027 (g := (mkF m 83 #[.val (.int p0), .val (.long q1), .second, .val (.long q2), .second, .val (.ref b01), .val (.int (6 : Int32)), .val (.int u0_26), .unset, .unset, .unset, .unset] [(.int (34 : Int32)), (.int u0_26), (.ref b01)])) rfl rfl (hb hby at_83)
  have V_b01x := Arv.set Ar027 qk027 qs027 qn027 qh027 qg027 (fits_nar_char _) W027 i (own_clamp hi) (by rw [own_vsLen]; exact hi6)
  have N027 := Fr.snoc X027 N024 g_b01
  obtain ⟨lc0t28, X027, N027⟩ : ∃ lc, Stand p l e room_1 s m #[(.int p0), (.long q1), (.long q2)] below meth c T027 lc 1 6 ∧ Fr n0 lc := ⟨_, X027, N027⟩
  have K027 := K024.wr W027 (Or.inr sz_b01)
  have Z027 := Nat.le_trans Z024 (Keep.of_wr W027).1
  have O027 := O024.wr W027 g_b01
  replace V_b01 : Arv Z h027 b01 k01 .char (6 : Int32) (own_vs 6 (own_up ga i)) (.int (0 : Int32)) := own_arvEq (own_upSet) V_b01x
  refine stp (fun t k => st027 t k) ?_
  show W (T027.setTop (mkF m 84 #[.val (.int p0), .val (.long q1), .second, .val (.long q2), .second, .val (.ref b01), .val (.int (6 : Int32)), .val (.int u0_26), .unset, .unset, .unset, .unset] []))
  refine stp (fun t k => XS.bipush X027.here hx rfl (hb hby at_84) k) ?_
  show W (T027.setTop (mkF m 86 #[.val (.int p0), .val (.long q1), .second, .val (.long q2), .second, .val (.ref b01), .val (.int (6 : Int32)), .val (.int u0_26), .unset, .unset, .unset, .unset] [(.int (6 : Int32))]))
  obtain ⟨T029, h029, k029, X029, e029, E029, A029, st029⟩ := newP X027 hx hZ (hw _ (List.mem_of_getElem? (i := 0) rfl)) e027 (g := (mkF m 86 #[.val (.int p0), .val (.long q1), .second, .val (.long q2), .second, .val (.ref b01), .val (.int (6 : Int32)), .val (.int u0_26), .unset, .unset, .unset, .unset] [(.int (6 : Int32))])) rfl (hb hby at_86) rfl (by decide) (cap := 6) (by decide) (by decide) (by decide) (by decide)
  obtain ⟨b029, gq029⟩ : ∃ z, z = h027.size := ⟨_, rfl⟩
  rw [← gq029] at A029 st029
  have ne_b01_b029 : b01 ≠ b029 := Nat.ne_of_lt (Nat.lt_of_lt_of_le V_b01.lt (Nat.le_of_eq gq029.symm))
  have g_b029 : n0 ≤ b029 := Nat.le_trans Z027 (Nat.le_of_eq gq029.symm)
  have sz_b029 : h0.size ≤ b029 := Nat.le_trans K027.1 (Nat.le_of_eq gq029.symm)
  replace V_b01 := V_b01.ext E029
  have K029 := K027.ext E029
  have Z029 := Nat.le_trans Z027 E029.1
  have O029 := O027.ext E029
  have V_b029 : Arv Z h029 b029 k029 .char (6 : Int32) [(.int (0 : Int32)), (.int (0 : Int32)), (.int (0 : Int32)), (.int (0 : Int32)), (.int (0 : Int32)), (.int (0 : Int32))] (.int (0 : Int32)) := (Arv.new A029 (by decide)).pad (pad_rep [] (.int (0 : Int32)) 6)
  refine stp (fun t k => st029 t k) ?_
  show W (T029.setTop (mkF m 88 #[.val (.int p0), .val (.long q1), .second, .val (.long q2), .second, .val (.ref b01), .val (.int (6 : Int32)), .val (.int u0_26), .unset, .unset, .unset, .unset] [(.ref b029)]))
  refine stp (fun t k => XS.astore X029.here hx rfl (hb hby at_88) rfl rfl (l' := #[.val (.int p0), .val (.long q1), .second, .val (.long q2), .second, .val (.ref b01), .val (.int (6 : Int32)), .val (.int u0_26), .val (.ref b029), .unset, .unset, .unset]) rfl k) ?_
  show W (T029.setTop (mkF m 90 #[.val (.int p0), .val (.long q1), .second, .val (.long q2), .second, .val (.ref b01), .val (.int (6 : Int32)), .val (.int u0_26), .val (.ref b029), .unset, .unset, .unset] []))
  refine stp (fun t k => XS.aload X029.here hx rfl (hb hby at_90) rfl rfl k) ?_
  show W (T029.setTop (mkF m 92 #[.val (.int p0), .val (.long q1), .second, .val (.long q2), .second, .val (.ref b01), .val (.int (6 : Int32)), .val (.int u0_26), .val (.ref b029), .unset, .unset, .unset] [(.ref b029)]))
  refine stp (fun t k => XS.iconst X029.here hx rfl (hb hby at_92) k) ?_
  show W (T029.setTop (mkF m 93 #[.val (.int p0), .val (.long q1), .second, .val (.long q2), .second, .val (.ref b01), .val (.int (6 : Int32)), .val (.int u0_26), .val (.ref b029), .unset, .unset, .unset] [(.int (0 : Int32)), (.ref b029)]))
  refine stp (fun t k => XS.aload X029.here hx rfl (hb hby at_93) rfl rfl k) ?_
  show W (T029.setTop (mkF m 95 #[.val (.int p0), .val (.long q1), .second, .val (.long q2), .second, .val (.ref b01), .val (.int (6 : Int32)), .val (.int u0_26), .val (.ref b029), .unset, .unset, .unset] [(.ref b01), (.int (0 : Int32)), (.ref b029)]))
  refine stp (fun t k => XS.iconst X029.here hx rfl (hb hby at_95) k) ?_
  show W (T029.setTop (mkF m 96 #[.val (.int p0), .val (.long q1), .second, .val (.long q2), .second, .val (.ref b01), .val (.int (6 : Int32)), .val (.int u0_26), .val (.ref b029), .unset, .unset, .unset] [(.int (0 : Int32)), (.ref b01), (.int (0 : Int32)), (.ref b029)]))
  obtain ⟨cl030, Ar030, qk030, qs030, qn030, qh030, qg030⟩ := id V_b01
  have hin030 : ¬ ((0 : Int32) < 0 ∨ cl030.slots.size ≤ ((0 : Int32)).toNatClampNeg) := inb_of qs030 ⟨by decide, by decide⟩
  have hat030 : cl030.slots[((0 : Int32)).toNatClampNeg]? = some (.int ((own_up ga i) 0)) := qh030.at hin030 (own_vsGet (by decide))
  refine stp (fun t k => X029.caload hx (j := (0 : Int32)) (v := (.int ((own_up ga i) 0))) (by rw [e029]; exact Ar030.1) (State.isArrayOf_alike hZ.alike Ar030.2.1) Ar030.2.2 hin030 hat030 (g := (mkF m 96 #[.val (.int p0), .val (.long q1), .second, .val (.long q2), .second, .val (.ref b01), .val (.int (6 : Int32)), .val (.int u0_26), .val (.ref b029), .unset, .unset, .unset] [(.int (0 : Int32)), (.ref b01), (.int (0 : Int32)), (.ref b029)])) rfl rfl (hb hby at_96) _ k) ?_
  show W (T029.setTop (mkF m 97 #[.val (.int p0), .val (.long q1), .second, .val (.long q2), .second, .val (.ref b01), .val (.int (6 : Int32)), .val (.int u0_26), .val (.ref b029), .unset, .unset, .unset] [(.int ((own_up ga i) 0)), (.int (0 : Int32)), (.ref b029)]))
  obtain ⟨cl031, Ar031, qk031, qs031, qn031, qh031, qg031⟩ := id V_b029
  have hin031 : ¬ ((0 : Int32) < 0 ∨ cl031.slots.size ≤ ((0 : Int32)).toNatClampNeg) := inb_of qs031 ⟨by decide, by decide⟩
  obtain ⟨T031, h031, X031, e031, W031, st031⟩ := stC X029 hx hZ e029 Ar031 (j := (0 : Int32)) hin031 (g := (mkF m 97 #[.val (.int p0), .val (.long q1), .second, .val (.long q2), .second, .val (.ref b01), .val (.int (6 : Int32)), .val (.int u0_26), .val (.ref b029), .unset, .unset, .unset] [(.int ((own_up ga i) 0)), (.int (0 : Int32)), (.ref b029)])) rfl rfl (hb hby at_97)
  have V_b029x := Arv.set Ar031 qk031 qs031 qn031 qh031 qg031 (fits_nar_char _) W031 0 rfl (Nat.le_of_ble_eq_true rfl)
  have N031 := Fr.snoc X031 N027 g_b029
  obtain ⟨lc0t32, X031, N031⟩ : ∃ lc, Stand p l e room_1 s m #[(.int p0), (.long q1), (.long q2)] below meth c T031 lc 2 12 ∧ Fr n0 lc := ⟨_, X031, N031⟩
  replace V_b01 := V_b01.other W031 ne_b01_b029
  have K031 := K029.wr W031 (Or.inr sz_b029)
  have Z031 := Nat.le_trans Z029 (Keep.of_wr W031).1
  have O031 := O029.wr W031 g_b029
  replace V_b029 : Arv Z h031 b029 k029 .char (6 : Int32) [(.int (nar .char ((own_up ga i) 0))), (.int (0 : Int32)), (.int (0 : Int32)), (.int (0 : Int32)), (.int (0 : Int32)), (.int (0 : Int32))] (.int (0 : Int32)) := V_b029x
  refine stp (fun t k => st031 t k) ?_
  show W (T031.setTop (mkF m 98 #[.val (.int p0), .val (.long q1), .second, .val (.long q2), .second, .val (.ref b01), .val (.int (6 : Int32)), .val (.int u0_26), .val (.ref b029), .unset, .unset, .unset] []))
  refine stp (fun t k => XS.aload X031.here hx rfl (hb hby at_98) rfl rfl k) ?_
  show W (T031.setTop (mkF m 100 #[.val (.int p0), .val (.long q1), .second, .val (.long q2), .second, .val (.ref b01), .val (.int (6 : Int32)), .val (.int u0_26), .val (.ref b029), .unset, .unset, .unset] [(.ref b029)]))
  refine stp (fun t k => XS.iconst X031.here hx rfl (hb hby at_100) k) ?_
  show W (T031.setTop (mkF m 101 #[.val (.int p0), .val (.long q1), .second, .val (.long q2), .second, .val (.ref b01), .val (.int (6 : Int32)), .val (.int u0_26), .val (.ref b029), .unset, .unset, .unset] [(.int (1 : Int32)), (.ref b029)]))
  refine stp (fun t k => XS.aload X031.here hx rfl (hb hby at_101) rfl rfl k) ?_
  show W (T031.setTop (mkF m 103 #[.val (.int p0), .val (.long q1), .second, .val (.long q2), .second, .val (.ref b01), .val (.int (6 : Int32)), .val (.int u0_26), .val (.ref b029), .unset, .unset, .unset] [(.ref b01), (.int (1 : Int32)), (.ref b029)]))
  refine stp (fun t k => XS.iconst X031.here hx rfl (hb hby at_103) k) ?_
  show W (T031.setTop (mkF m 104 #[.val (.int p0), .val (.long q1), .second, .val (.long q2), .second, .val (.ref b01), .val (.int (6 : Int32)), .val (.int u0_26), .val (.ref b029), .unset, .unset, .unset] [(.int (1 : Int32)), (.ref b01), (.int (1 : Int32)), (.ref b029)]))
  obtain ⟨cl033, Ar033, qk033, qs033, qn033, qh033, qg033⟩ := id V_b01
  have hin033 : ¬ ((1 : Int32) < 0 ∨ cl033.slots.size ≤ ((1 : Int32)).toNatClampNeg) := inb_of qs033 ⟨by decide, by decide⟩
  have hat033 : cl033.slots[((1 : Int32)).toNatClampNeg]? = some (.int ((own_up ga i) 1)) := qh033.at hin033 (own_vsGet (by decide))
  refine stp (fun t k => X031.caload hx (j := (1 : Int32)) (v := (.int ((own_up ga i) 1))) (by rw [e031]; exact Ar033.1) (State.isArrayOf_alike hZ.alike Ar033.2.1) Ar033.2.2 hin033 hat033 (g := (mkF m 104 #[.val (.int p0), .val (.long q1), .second, .val (.long q2), .second, .val (.ref b01), .val (.int (6 : Int32)), .val (.int u0_26), .val (.ref b029), .unset, .unset, .unset] [(.int (1 : Int32)), (.ref b01), (.int (1 : Int32)), (.ref b029)])) rfl rfl (hb hby at_104) _ k) ?_
  show W (T031.setTop (mkF m 105 #[.val (.int p0), .val (.long q1), .second, .val (.long q2), .second, .val (.ref b01), .val (.int (6 : Int32)), .val (.int u0_26), .val (.ref b029), .unset, .unset, .unset] [(.int ((own_up ga i) 1)), (.int (1 : Int32)), (.ref b029)]))
  obtain ⟨cl034, Ar034, qk034, qs034, qn034, qh034, qg034⟩ := id V_b029
  have hin034 : ¬ ((1 : Int32) < 0 ∨ cl034.slots.size ≤ ((1 : Int32)).toNatClampNeg) := inb_of qs034 ⟨by decide, by decide⟩
  obtain ⟨T034, h034, X034, e034, W034, st034⟩ := stC X031 hx hZ e031 Ar034 (j := (1 : Int32)) hin034 (g := (mkF m 105 #[.val (.int p0), .val (.long q1), .second, .val (.long q2), .second, .val (.ref b01), .val (.int (6 : Int32)), .val (.int u0_26), .val (.ref b029), .unset, .unset, .unset] [(.int ((own_up ga i) 1)), (.int (1 : Int32)), (.ref b029)])) rfl rfl (hb hby at_105)
  have V_b029x := Arv.set Ar034 qk034 qs034 qn034 qh034 qg034 (fits_nar_char _) W034 1 rfl (Nat.le_of_ble_eq_true rfl)
  have N034 := Fr.snoc X034 N031 g_b029
  obtain ⟨lc0t35, X034, N034⟩ : ∃ lc, Stand p l e room_1 s m #[(.int p0), (.long q1), (.long q2)] below meth c T034 lc 2 12 ∧ Fr n0 lc := ⟨_, X034, N034⟩
  replace V_b01 := V_b01.other W034 ne_b01_b029
  have K034 := K031.wr W034 (Or.inr sz_b029)
  have Z034 := Nat.le_trans Z031 (Keep.of_wr W034).1
  have O034 := O031.wr W034 g_b029
  replace V_b029 : Arv Z h034 b029 k029 .char (6 : Int32) [(.int (nar .char ((own_up ga i) 0))), (.int (nar .char ((own_up ga i) 1))), (.int (0 : Int32)), (.int (0 : Int32)), (.int (0 : Int32)), (.int (0 : Int32))] (.int (0 : Int32)) := V_b029x
  refine stp (fun t k => st034 t k) ?_
  show W (T034.setTop (mkF m 106 #[.val (.int p0), .val (.long q1), .second, .val (.long q2), .second, .val (.ref b01), .val (.int (6 : Int32)), .val (.int u0_26), .val (.ref b029), .unset, .unset, .unset] []))
  refine stp (fun t k => XS.aload X034.here hx rfl (hb hby at_106) rfl rfl k) ?_
  show W (T034.setTop (mkF m 108 #[.val (.int p0), .val (.long q1), .second, .val (.long q2), .second, .val (.ref b01), .val (.int (6 : Int32)), .val (.int u0_26), .val (.ref b029), .unset, .unset, .unset] [(.ref b029)]))
  refine stp (fun t k => XS.iconst X034.here hx rfl (hb hby at_108) k) ?_
  show W (T034.setTop (mkF m 109 #[.val (.int p0), .val (.long q1), .second, .val (.long q2), .second, .val (.ref b01), .val (.int (6 : Int32)), .val (.int u0_26), .val (.ref b029), .unset, .unset, .unset] [(.int (2 : Int32)), (.ref b029)]))
  refine stp (fun t k => XS.aload X034.here hx rfl (hb hby at_109) rfl rfl k) ?_
  show W (T034.setTop (mkF m 111 #[.val (.int p0), .val (.long q1), .second, .val (.long q2), .second, .val (.ref b01), .val (.int (6 : Int32)), .val (.int u0_26), .val (.ref b029), .unset, .unset, .unset] [(.ref b01), (.int (2 : Int32)), (.ref b029)]))
  refine stp (fun t k => XS.iconst X034.here hx rfl (hb hby at_111) k) ?_
  show W (T034.setTop (mkF m 112 #[.val (.int p0), .val (.long q1), .second, .val (.long q2), .second, .val (.ref b01), .val (.int (6 : Int32)), .val (.int u0_26), .val (.ref b029), .unset, .unset, .unset] [(.int (2 : Int32)), (.ref b01), (.int (2 : Int32)), (.ref b029)]))
  obtain ⟨cl036, Ar036, qk036, qs036, qn036, qh036, qg036⟩ := id V_b01
  have hin036 : ¬ ((2 : Int32) < 0 ∨ cl036.slots.size ≤ ((2 : Int32)).toNatClampNeg) := inb_of qs036 ⟨by decide, by decide⟩
  have hat036 : cl036.slots[((2 : Int32)).toNatClampNeg]? = some (.int ((own_up ga i) 2)) := qh036.at hin036 (own_vsGet (by decide))
  refine stp (fun t k => X034.caload hx (j := (2 : Int32)) (v := (.int ((own_up ga i) 2))) (by rw [e034]; exact Ar036.1) (State.isArrayOf_alike hZ.alike Ar036.2.1) Ar036.2.2 hin036 hat036 (g := (mkF m 112 #[.val (.int p0), .val (.long q1), .second, .val (.long q2), .second, .val (.ref b01), .val (.int (6 : Int32)), .val (.int u0_26), .val (.ref b029), .unset, .unset, .unset] [(.int (2 : Int32)), (.ref b01), (.int (2 : Int32)), (.ref b029)])) rfl rfl (hb hby at_112) _ k) ?_
  show W (T034.setTop (mkF m 113 #[.val (.int p0), .val (.long q1), .second, .val (.long q2), .second, .val (.ref b01), .val (.int (6 : Int32)), .val (.int u0_26), .val (.ref b029), .unset, .unset, .unset] [(.int ((own_up ga i) 2)), (.int (2 : Int32)), (.ref b029)]))
  obtain ⟨cl037, Ar037, qk037, qs037, qn037, qh037, qg037⟩ := id V_b029
  have hin037 : ¬ ((2 : Int32) < 0 ∨ cl037.slots.size ≤ ((2 : Int32)).toNatClampNeg) := inb_of qs037 ⟨by decide, by decide⟩
  obtain ⟨T037, h037, X037, e037, W037, st037⟩ := stC X034 hx hZ e034 Ar037 (j := (2 : Int32)) hin037 (g := (mkF m 113 #[.val (.int p0), .val (.long q1), .second, .val (.long q2), .second, .val (.ref b01), .val (.int (6 : Int32)), .val (.int u0_26), .val (.ref b029), .unset, .unset, .unset] [(.int ((own_up ga i) 2)), (.int (2 : Int32)), (.ref b029)])) rfl rfl (hb hby at_113)
  have V_b029x := Arv.set Ar037 qk037 qs037 qn037 qh037 qg037 (fits_nar_char _) W037 2 rfl (Nat.le_of_ble_eq_true rfl)
  have N037 := Fr.snoc X037 N034 g_b029
  obtain ⟨lc0t38, X037, N037⟩ : ∃ lc, Stand p l e room_1 s m #[(.int p0), (.long q1), (.long q2)] below meth c T037 lc 2 12 ∧ Fr n0 lc := ⟨_, X037, N037⟩
  replace V_b01 := V_b01.other W037 ne_b01_b029
  have K037 := K034.wr W037 (Or.inr sz_b029)
  have Z037 := Nat.le_trans Z034 (Keep.of_wr W037).1
  have O037 := O034.wr W037 g_b029
  replace V_b029 : Arv Z h037 b029 k029 .char (6 : Int32) [(.int (nar .char ((own_up ga i) 0))), (.int (nar .char ((own_up ga i) 1))), (.int (nar .char ((own_up ga i) 2))), (.int (0 : Int32)), (.int (0 : Int32)), (.int (0 : Int32))] (.int (0 : Int32)) := V_b029x
  refine stp (fun t k => st037 t k) ?_
  show W (T037.setTop (mkF m 114 #[.val (.int p0), .val (.long q1), .second, .val (.long q2), .second, .val (.ref b01), .val (.int (6 : Int32)), .val (.int u0_26), .val (.ref b029), .unset, .unset, .unset] []))
  refine stp (fun t k => XS.aload X037.here hx rfl (hb hby at_114) rfl rfl k) ?_
  show W (T037.setTop (mkF m 116 #[.val (.int p0), .val (.long q1), .second, .val (.long q2), .second, .val (.ref b01), .val (.int (6 : Int32)), .val (.int u0_26), .val (.ref b029), .unset, .unset, .unset] [(.ref b029)]))
  refine stp (fun t k => XS.iconst X037.here hx rfl (hb hby at_116) k) ?_
  show W (T037.setTop (mkF m 117 #[.val (.int p0), .val (.long q1), .second, .val (.long q2), .second, .val (.ref b01), .val (.int (6 : Int32)), .val (.int u0_26), .val (.ref b029), .unset, .unset, .unset] [(.int (3 : Int32)), (.ref b029)]))
  refine stp (fun t k => XS.aload X037.here hx rfl (hb hby at_117) rfl rfl k) ?_
  show W (T037.setTop (mkF m 119 #[.val (.int p0), .val (.long q1), .second, .val (.long q2), .second, .val (.ref b01), .val (.int (6 : Int32)), .val (.int u0_26), .val (.ref b029), .unset, .unset, .unset] [(.ref b01), (.int (3 : Int32)), (.ref b029)]))
  refine stp (fun t k => XS.iconst X037.here hx rfl (hb hby at_119) k) ?_
  show W (T037.setTop (mkF m 120 #[.val (.int p0), .val (.long q1), .second, .val (.long q2), .second, .val (.ref b01), .val (.int (6 : Int32)), .val (.int u0_26), .val (.ref b029), .unset, .unset, .unset] [(.int (3 : Int32)), (.ref b01), (.int (3 : Int32)), (.ref b029)]))
  obtain ⟨cl039, Ar039, qk039, qs039, qn039, qh039, qg039⟩ := id V_b01
  have hin039 : ¬ ((3 : Int32) < 0 ∨ cl039.slots.size ≤ ((3 : Int32)).toNatClampNeg) := inb_of qs039 ⟨by decide, by decide⟩
  have hat039 : cl039.slots[((3 : Int32)).toNatClampNeg]? = some (.int ((own_up ga i) 3)) := qh039.at hin039 (own_vsGet (by decide))
  refine stp (fun t k => X037.caload hx (j := (3 : Int32)) (v := (.int ((own_up ga i) 3))) (by rw [e037]; exact Ar039.1) (State.isArrayOf_alike hZ.alike Ar039.2.1) Ar039.2.2 hin039 hat039 (g := (mkF m 120 #[.val (.int p0), .val (.long q1), .second, .val (.long q2), .second, .val (.ref b01), .val (.int (6 : Int32)), .val (.int u0_26), .val (.ref b029), .unset, .unset, .unset] [(.int (3 : Int32)), (.ref b01), (.int (3 : Int32)), (.ref b029)])) rfl rfl (hb hby at_120) _ k) ?_
  show W (T037.setTop (mkF m 121 #[.val (.int p0), .val (.long q1), .second, .val (.long q2), .second, .val (.ref b01), .val (.int (6 : Int32)), .val (.int u0_26), .val (.ref b029), .unset, .unset, .unset] [(.int ((own_up ga i) 3)), (.int (3 : Int32)), (.ref b029)]))
  obtain ⟨cl040, Ar040, qk040, qs040, qn040, qh040, qg040⟩ := id V_b029
  have hin040 : ¬ ((3 : Int32) < 0 ∨ cl040.slots.size ≤ ((3 : Int32)).toNatClampNeg) := inb_of qs040 ⟨by decide, by decide⟩
  obtain ⟨T040, h040, X040, e040, W040, st040⟩ := stC X037 hx hZ e037 Ar040 (j := (3 : Int32)) hin040 (g := (mkF m 121 #[.val (.int p0), .val (.long q1), .second, .val (.long q2), .second, .val (.ref b01), .val (.int (6 : Int32)), .val (.int u0_26), .val (.ref b029), .unset, .unset, .unset] [(.int ((own_up ga i) 3)), (.int (3 : Int32)), (.ref b029)])) rfl rfl (hb hby at_121)
  have V_b029x := Arv.set Ar040 qk040 qs040 qn040 qh040 qg040 (fits_nar_char _) W040 3 rfl (Nat.le_of_ble_eq_true rfl)
  have N040 := Fr.snoc X040 N037 g_b029
  obtain ⟨lc0t41, X040, N040⟩ : ∃ lc, Stand p l e room_1 s m #[(.int p0), (.long q1), (.long q2)] below meth c T040 lc 2 12 ∧ Fr n0 lc := ⟨_, X040, N040⟩
  replace V_b01 := V_b01.other W040 ne_b01_b029
  have K040 := K037.wr W040 (Or.inr sz_b029)
  have Z040 := Nat.le_trans Z037 (Keep.of_wr W040).1
  have O040 := O037.wr W040 g_b029
  replace V_b029 : Arv Z h040 b029 k029 .char (6 : Int32) [(.int (nar .char ((own_up ga i) 0))), (.int (nar .char ((own_up ga i) 1))), (.int (nar .char ((own_up ga i) 2))), (.int (nar .char ((own_up ga i) 3))), (.int (0 : Int32)), (.int (0 : Int32))] (.int (0 : Int32)) := V_b029x
  refine stp (fun t k => st040 t k) ?_
  show W (T040.setTop (mkF m 122 #[.val (.int p0), .val (.long q1), .second, .val (.long q2), .second, .val (.ref b01), .val (.int (6 : Int32)), .val (.int u0_26), .val (.ref b029), .unset, .unset, .unset] []))
  refine stp (fun t k => XS.aload X040.here hx rfl (hb hby at_122) rfl rfl k) ?_
  show W (T040.setTop (mkF m 124 #[.val (.int p0), .val (.long q1), .second, .val (.long q2), .second, .val (.ref b01), .val (.int (6 : Int32)), .val (.int u0_26), .val (.ref b029), .unset, .unset, .unset] [(.ref b029)]))
  refine stp (fun t k => XS.iconst X040.here hx rfl (hb hby at_124) k) ?_
  show W (T040.setTop (mkF m 125 #[.val (.int p0), .val (.long q1), .second, .val (.long q2), .second, .val (.ref b01), .val (.int (6 : Int32)), .val (.int u0_26), .val (.ref b029), .unset, .unset, .unset] [(.int (4 : Int32)), (.ref b029)]))
  refine stp (fun t k => XS.aload X040.here hx rfl (hb hby at_125) rfl rfl k) ?_
  show W (T040.setTop (mkF m 127 #[.val (.int p0), .val (.long q1), .second, .val (.long q2), .second, .val (.ref b01), .val (.int (6 : Int32)), .val (.int u0_26), .val (.ref b029), .unset, .unset, .unset] [(.ref b01), (.int (4 : Int32)), (.ref b029)]))
  refine stp (fun t k => XS.iconst X040.here hx rfl (hb hby at_127) k) ?_
  show W (T040.setTop (mkF m 128 #[.val (.int p0), .val (.long q1), .second, .val (.long q2), .second, .val (.ref b01), .val (.int (6 : Int32)), .val (.int u0_26), .val (.ref b029), .unset, .unset, .unset] [(.int (4 : Int32)), (.ref b01), (.int (4 : Int32)), (.ref b029)]))
  obtain ⟨cl042, Ar042, qk042, qs042, qn042, qh042, qg042⟩ := id V_b01
  have hin042 : ¬ ((4 : Int32) < 0 ∨ cl042.slots.size ≤ ((4 : Int32)).toNatClampNeg) := inb_of qs042 ⟨by decide, by decide⟩
  have hat042 : cl042.slots[((4 : Int32)).toNatClampNeg]? = some (.int ((own_up ga i) 4)) := qh042.at hin042 (own_vsGet (by decide))
  refine stp (fun t k => X040.caload hx (j := (4 : Int32)) (v := (.int ((own_up ga i) 4))) (by rw [e040]; exact Ar042.1) (State.isArrayOf_alike hZ.alike Ar042.2.1) Ar042.2.2 hin042 hat042 (g := (mkF m 128 #[.val (.int p0), .val (.long q1), .second, .val (.long q2), .second, .val (.ref b01), .val (.int (6 : Int32)), .val (.int u0_26), .val (.ref b029), .unset, .unset, .unset] [(.int (4 : Int32)), (.ref b01), (.int (4 : Int32)), (.ref b029)])) rfl rfl (hb hby at_128) _ k) ?_
  show W (T040.setTop (mkF m 129 #[.val (.int p0), .val (.long q1), .second, .val (.long q2), .second, .val (.ref b01), .val (.int (6 : Int32)), .val (.int u0_26), .val (.ref b029), .unset, .unset, .unset] [(.int ((own_up ga i) 4)), (.int (4 : Int32)), (.ref b029)]))
  obtain ⟨cl043, Ar043, qk043, qs043, qn043, qh043, qg043⟩ := id V_b029
  have hin043 : ¬ ((4 : Int32) < 0 ∨ cl043.slots.size ≤ ((4 : Int32)).toNatClampNeg) := inb_of qs043 ⟨by decide, by decide⟩
  obtain ⟨T043, h043, X043, e043, W043, st043⟩ := stC X040 hx hZ e040 Ar043 (j := (4 : Int32)) hin043 (g := (mkF m 129 #[.val (.int p0), .val (.long q1), .second, .val (.long q2), .second, .val (.ref b01), .val (.int (6 : Int32)), .val (.int u0_26), .val (.ref b029), .unset, .unset, .unset] [(.int ((own_up ga i) 4)), (.int (4 : Int32)), (.ref b029)])) rfl rfl (hb hby at_129)
  have V_b029x := Arv.set Ar043 qk043 qs043 qn043 qh043 qg043 (fits_nar_char _) W043 4 rfl (Nat.le_of_ble_eq_true rfl)
  have N043 := Fr.snoc X043 N040 g_b029
  obtain ⟨lc0t44, X043, N043⟩ : ∃ lc, Stand p l e room_1 s m #[(.int p0), (.long q1), (.long q2)] below meth c T043 lc 2 12 ∧ Fr n0 lc := ⟨_, X043, N043⟩
  replace V_b01 := V_b01.other W043 ne_b01_b029
  have K043 := K040.wr W043 (Or.inr sz_b029)
  have Z043 := Nat.le_trans Z040 (Keep.of_wr W043).1
  have O043 := O040.wr W043 g_b029
  replace V_b029 : Arv Z h043 b029 k029 .char (6 : Int32) [(.int (nar .char ((own_up ga i) 0))), (.int (nar .char ((own_up ga i) 1))), (.int (nar .char ((own_up ga i) 2))), (.int (nar .char ((own_up ga i) 3))), (.int (nar .char ((own_up ga i) 4))), (.int (0 : Int32))] (.int (0 : Int32)) := V_b029x
  refine stp (fun t k => st043 t k) ?_
  show W (T043.setTop (mkF m 130 #[.val (.int p0), .val (.long q1), .second, .val (.long q2), .second, .val (.ref b01), .val (.int (6 : Int32)), .val (.int u0_26), .val (.ref b029), .unset, .unset, .unset] []))
  refine stp (fun t k => XS.aload X043.here hx rfl (hb hby at_130) rfl rfl k) ?_
  show W (T043.setTop (mkF m 132 #[.val (.int p0), .val (.long q1), .second, .val (.long q2), .second, .val (.ref b01), .val (.int (6 : Int32)), .val (.int u0_26), .val (.ref b029), .unset, .unset, .unset] [(.ref b029)]))
  refine stp (fun t k => XS.iconst X043.here hx rfl (hb hby at_132) k) ?_
  show W (T043.setTop (mkF m 133 #[.val (.int p0), .val (.long q1), .second, .val (.long q2), .second, .val (.ref b01), .val (.int (6 : Int32)), .val (.int u0_26), .val (.ref b029), .unset, .unset, .unset] [(.int (5 : Int32)), (.ref b029)]))
  refine stp (fun t k => XS.aload X043.here hx rfl (hb hby at_133) rfl rfl k) ?_
  show W (T043.setTop (mkF m 135 #[.val (.int p0), .val (.long q1), .second, .val (.long q2), .second, .val (.ref b01), .val (.int (6 : Int32)), .val (.int u0_26), .val (.ref b029), .unset, .unset, .unset] [(.ref b01), (.int (5 : Int32)), (.ref b029)]))
  refine stp (fun t k => XS.iconst X043.here hx rfl (hb hby at_135) k) ?_
  show W (T043.setTop (mkF m 136 #[.val (.int p0), .val (.long q1), .second, .val (.long q2), .second, .val (.ref b01), .val (.int (6 : Int32)), .val (.int u0_26), .val (.ref b029), .unset, .unset, .unset] [(.int (5 : Int32)), (.ref b01), (.int (5 : Int32)), (.ref b029)]))
  obtain ⟨cl045, Ar045, qk045, qs045, qn045, qh045, qg045⟩ := id V_b01
  have hin045 : ¬ ((5 : Int32) < 0 ∨ cl045.slots.size ≤ ((5 : Int32)).toNatClampNeg) := inb_of qs045 ⟨by decide, by decide⟩
  have hat045 : cl045.slots[((5 : Int32)).toNatClampNeg]? = some (.int ((own_up ga i) 5)) := qh045.at hin045 (own_vsGet (by decide))
  refine stp (fun t k => X043.caload hx (j := (5 : Int32)) (v := (.int ((own_up ga i) 5))) (by rw [e043]; exact Ar045.1) (State.isArrayOf_alike hZ.alike Ar045.2.1) Ar045.2.2 hin045 hat045 (g := (mkF m 136 #[.val (.int p0), .val (.long q1), .second, .val (.long q2), .second, .val (.ref b01), .val (.int (6 : Int32)), .val (.int u0_26), .val (.ref b029), .unset, .unset, .unset] [(.int (5 : Int32)), (.ref b01), (.int (5 : Int32)), (.ref b029)])) rfl rfl (hb hby at_136) _ k) ?_
  show W (T043.setTop (mkF m 137 #[.val (.int p0), .val (.long q1), .second, .val (.long q2), .second, .val (.ref b01), .val (.int (6 : Int32)), .val (.int u0_26), .val (.ref b029), .unset, .unset, .unset] [(.int ((own_up ga i) 5)), (.int (5 : Int32)), (.ref b029)]))
  obtain ⟨cl046, Ar046, qk046, qs046, qn046, qh046, qg046⟩ := id V_b029
  have hin046 : ¬ ((5 : Int32) < 0 ∨ cl046.slots.size ≤ ((5 : Int32)).toNatClampNeg) := inb_of qs046 ⟨by decide, by decide⟩
  obtain ⟨T046, h046, X046, e046, W046, st046⟩ := stC X043 hx hZ e043 Ar046 (j := (5 : Int32)) hin046 (g := (mkF m 137 #[.val (.int p0), .val (.long q1), .second, .val (.long q2), .second, .val (.ref b01), .val (.int (6 : Int32)), .val (.int u0_26), .val (.ref b029), .unset, .unset, .unset] [(.int ((own_up ga i) 5)), (.int (5 : Int32)), (.ref b029)])) rfl rfl (hb hby at_137)
  have V_b029x := Arv.set Ar046 qk046 qs046 qn046 qh046 qg046 (fits_nar_char _) W046 5 rfl (Nat.le_of_ble_eq_true rfl)
  have N046 := Fr.snoc X046 N043 g_b029
  obtain ⟨lc0t47, X046, N046⟩ : ∃ lc, Stand p l e room_1 s m #[(.int p0), (.long q1), (.long q2)] below meth c T046 lc 2 12 ∧ Fr n0 lc := ⟨_, X046, N046⟩
  replace V_b01 := V_b01.other W046 ne_b01_b029
  have K046 := K043.wr W046 (Or.inr sz_b029)
  have Z046 := Nat.le_trans Z043 (Keep.of_wr W046).1
  have O046 := O043.wr W046 g_b029
  replace V_b029 : Arv Z h046 b029 k029 .char (6 : Int32) [(.int (nar .char ((own_up ga i) 0))), (.int (nar .char ((own_up ga i) 1))), (.int (nar .char ((own_up ga i) 2))), (.int (nar .char ((own_up ga i) 3))), (.int (nar .char ((own_up ga i) 4))), (.int (nar .char ((own_up ga i) 5)))] (.int (0 : Int32)) := V_b029x
  refine stp (fun t k => st046 t k) ?_
  show W (T046.setTop (mkF m 138 #[.val (.int p0), .val (.long q1), .second, .val (.long q2), .second, .val (.ref b01), .val (.int (6 : Int32)), .val (.int u0_26), .val (.ref b029), .unset, .unset, .unset] []))
  have hc1 := own_upC hca i
  have V_b029 : Arv Z h046 b029 k029 .char (6 : Int32) (own_vs 6 (own_up ga i)) (.int (0 : Int32)) := own_arvEq (own_cp hc1) V_b029
  show W (T046.setTop (mkF m 138 #[.val (.int p0), .val (.long q1), .second, .val (.long q2), .second, .val (.ref b01), .val (.int (6 : Int32)), .val (.int u0_26), .val (.ref b029), .unset, .unset, .unset] []))
  refine stp (fun t k => XS.iload X046.here hx rfl (hb hby at_138) rfl k) ?_
  show W (T046.setTop (mkF m 140 #[.val (.int p0), .val (.long q1), .second, .val (.long q2), .second, .val (.ref b01), .val (.int (6 : Int32)), .val (.int u0_26), .val (.ref b029), .unset, .unset, .unset] [(.int u0_26)]))
  refine stp (fun t k => XS.iconst X046.here hx rfl (hb hby at_140) k) ?_
  show W (T046.setTop (mkF m 141 #[.val (.int p0), .val (.long q1), .second, .val (.long q2), .second, .val (.ref b01), .val (.int (6 : Int32)), .val (.int u0_26), .val (.ref b029), .unset, .unset, .unset] [(.int (1 : Int32)), (.int u0_26)]))
  refine stp (fun t k => XS.iadd X046.here hx rfl (hb hby at_141) rfl k) ?_
  show W (T046.setTop (mkF m 142 #[.val (.int p0), .val (.long q1), .second, .val (.long q2), .second, .val (.ref b01), .val (.int (6 : Int32)), .val (.int u0_26), .val (.ref b029), .unset, .unset, .unset] [(.int (u0_26 + (1 : Int32)))]))
  refine stp (fun t k => XS.iload X046.here hx rfl (hb hby at_142) rfl k) ?_
  show W (T046.setTop (mkF m 144 #[.val (.int p0), .val (.long q1), .second, .val (.long q2), .second, .val (.ref b01), .val (.int (6 : Int32)), .val (.int u0_26), .val (.ref b029), .unset, .unset, .unset] [(.int (6 : Int32)), (.int (u0_26 + (1 : Int32)))]))
  by_cases hc0_48 : (u0_26 + (1 : Int32)) < (6 : Int32)
  · refine stp (fun t k => XS.icmpNo X046.here hx rfl (hb hby at_144) rfl ((tlt hc0_48).2.1) k) ?_
    show W (T046.setTop (mkF m 147 #[.val (.int p0), .val (.long q1), .second, .val (.long q2), .second, .val (.ref b01), .val (.int (6 : Int32)), .val (.int u0_26), .val (.ref b029), .unset, .unset, .unset] []))
    refine stp (fun t k => XS.aload X046.here hx rfl (hb hby at_147) rfl rfl k) ?_
    show W (T046.setTop (mkF m 149 #[.val (.int p0), .val (.long q1), .second, .val (.long q2), .second, .val (.ref b01), .val (.int (6 : Int32)), .val (.int u0_26), .val (.ref b029), .unset, .unset, .unset] [(.ref b029)]))
    refine stp (fun t k => XS.iload X046.here hx rfl (hb hby at_149) rfl k) ?_
    show W (T046.setTop (mkF m 151 #[.val (.int p0), .val (.long q1), .second, .val (.long q2), .second, .val (.ref b01), .val (.int (6 : Int32)), .val (.int u0_26), .val (.ref b029), .unset, .unset, .unset] [(.int u0_26), (.ref b029)]))
    refine stp (fun t k => XS.iconst X046.here hx rfl (hb hby at_151) k) ?_
    show W (T046.setTop (mkF m 152 #[.val (.int p0), .val (.long q1), .second, .val (.long q2), .second, .val (.ref b01), .val (.int (6 : Int32)), .val (.int u0_26), .val (.ref b029), .unset, .unset, .unset] [(.int (1 : Int32)), (.int u0_26), (.ref b029)]))
    refine stp (fun t k => XS.iadd X046.here hx rfl (hb hby at_152) rfl k) ?_
    show W (T046.setTop (mkF m 153 #[.val (.int p0), .val (.long q1), .second, .val (.long q2), .second, .val (.ref b01), .val (.int (6 : Int32)), .val (.int u0_26), .val (.ref b029), .unset, .unset, .unset] [(.int (u0_26 + (1 : Int32))), (.ref b029)]))
    refine stp (fun t k => XS.bipush X046.here hx rfl (hb hby at_153) k) ?_
    show W (T046.setTop (mkF m 155 #[.val (.int p0), .val (.long q1), .second, .val (.long q2), .second, .val (.ref b01), .val (.int (6 : Int32)), .val (.int u0_26), .val (.ref b029), .unset, .unset, .unset] [(.int (34 : Int32)), (.int (u0_26 + (1 : Int32))), (.ref b029)]))
    obtain ⟨cl049, Ar049, qk049, qs049, qn049, qh049, qg049⟩ := id V_b029
    have hin049 : ¬ ((u0_26 + (1 : Int32)) < 0 ∨ cl049.slots.size ≤ ((u0_26 + (1 : Int32))).toNatClampNeg) := inb_of qs049 ⟨own_nn hi1, hc0_48⟩
    obtain ⟨T049, h049, X049, e049, W049, st049⟩ := stC X046 hx hZ e046 Ar049 (j := (u0_26 + (1 : Int32))) hin049 (g := (mkF m 155 #[.val (.int p0), .val (.long q1), .second, .val (.long q2), .second, .val (.ref b01), .val (.int (6 : Int32)), .val (.int u0_26), .val (.ref b029), .unset, .unset, .unset] [(.int (34 : Int32)), (.int (u0_26 + (1 : Int32))), (.ref b029)])) rfl rfl (hb hby at_155)
    have V_b029x := Arv.set Ar049 qk049 qs049 qn049 qh049 qg049 (fits_nar_char _) W049 (i + 1) (own_clamp hi1) (by rw [own_vsLen]; exact (own_lt32 hi1 (j := 6) rfl).mp hc0_48)
    have N049 := Fr.snoc X049 N046 g_b029
    obtain ⟨lc0t50, X049, N049⟩ : ∃ lc, Stand p l e room_1 s m #[(.int p0), (.long q1), (.long q2)] below meth c T049 lc 2 12 ∧ Fr n0 lc := ⟨_, X049, N049⟩
    replace V_b01 := V_b01.other W049 ne_b01_b029
    have K049 := K046.wr W049 (Or.inr sz_b029)
    have Z049 := Nat.le_trans Z046 (Keep.of_wr W049).1
    have O049 := O046.wr W049 g_b029
    replace V_b029 : Arv Z h049 b029 k029 .char (6 : Int32) (own_vs 6 (own_up (own_up ga i) (i + 1))) (.int (0 : Int32)) := own_arvEq (own_upSet) V_b029x
    refine stp (fun t k => st049 t k) ?_
    show W (T049.setTop (mkF m 156 #[.val (.int p0), .val (.long q1), .second, .val (.long q2), .second, .val (.ref b01), .val (.int (6 : Int32)), .val (.int u0_26), .val (.ref b029), .unset, .unset, .unset] []))
    obtain ⟨T051, h051, X051, e051, E051, A051, D051, -, st051⟩ := newO X049 hx hZ hown (hw _ (List.mem_of_getElem? (i := 8) rfl)) (hw _ (List.mem_of_getElem? (i := 9) rfl)) (hw _ (List.mem_of_getElem? (i := 10) rfl)) e049 (g := (mkF m 156 #[.val (.int p0), .val (.long q1), .second, .val (.long q2), .second, .val (.ref b01), .val (.int (6 : Int32)), .val (.int u0_26), .val (.ref b029), .unset, .unset, .unset] [])) rfl (hb hby at_156) (by decide) (by decide)
    obtain ⟨b051, gq051⟩ : ∃ z, z = h049.size := ⟨_, rfl⟩
    rw [← gq051] at A051 D051 st051
    have ne_b01_b051 : b01 ≠ b051 := Nat.ne_of_lt (Nat.lt_of_lt_of_le V_b01.lt (Nat.le_of_eq gq051.symm))
    have ne_b029_b051 : b029 ≠ b051 := Nat.ne_of_lt (Nat.lt_of_lt_of_le V_b029.lt (Nat.le_of_eq gq051.symm))
    have g_b051 : n0 ≤ b051 := Nat.le_trans Z049 (Nat.le_of_eq gq051.symm)
    have sz_b051 : h0.size ≤ b051 := Nat.le_trans K049.1 (Nat.le_of_eq gq051.symm)
    replace V_b01 := V_b01.ext E051
    replace V_b029 := V_b029.ext E051
    have K051 := K049.ext E051
    have Z051 := Nat.le_trans Z049 E051.1
    have O051 := O049.ext E051
    have E_b051 := A051
    have F_coder_b051 : Fld Z h051 b051 "java/lang/String" "coder" "B" (.int (0 : Int32)) := D051 (Or.inr (hw _ (List.mem_of_getElem? (i := 53) rfl))) (ty := .byte) (by decide)
    have F_value_b051 : Fld Z h051 b051 "java/lang/String" "value" "[B" .null := D051 (Or.inr (hw _ (List.mem_of_getElem? (i := 55) rfl))) (ty := (.array .byte)) (by decide)
    refine stp (fun t k => st051 t k) ?_
    show W (T051.setTop (mkF m 159 #[.val (.int p0), .val (.long q1), .second, .val (.long q2), .second, .val (.ref b01), .val (.int (6 : Int32)), .val (.int u0_26), .val (.ref b029), .unset, .unset, .unset] [(.ref b051)]))
    refine stp (fun t k => XS.dup X051.here hx rfl (hb hby at_159) rfl rfl k) ?_
    show W (T051.setTop (mkF m 160 #[.val (.int p0), .val (.long q1), .second, .val (.long q2), .second, .val (.ref b01), .val (.int (6 : Int32)), .val (.int u0_26), .val (.ref b029), .unset, .unset, .unset] [(.ref b051), (.ref b051)]))
    refine stp (fun t k => XS.aload X051.here hx rfl (hb hby at_160) rfl rfl k) ?_
    show W (T051.setTop (mkF m 162 #[.val (.int p0), .val (.long q1), .second, .val (.long q2), .second, .val (.ref b01), .val (.int (6 : Int32)), .val (.int u0_26), .val (.ref b029), .unset, .unset, .unset] [(.ref b01), (.ref b051), (.ref b051)]))
    have V1_b01 : Arv Z h051 b01 k01 .char (Int32.ofNat 6) (own_vs 6 (own_up ga i)) (.int (0 : Int32)) := V_b01
    obtain ⟨_, _, ⟨T0c52, L0c52, k0c52, n0c52⟩, -, X0c52, ⟨Lc0c52, hQ0c52, l0c52, y0c52, z0c52⟩, st0c52⟩ := X051.specialBack hx (y := (⟨"java/lang/String", "<init>", "([C)V"⟩ : MethodName)) rfl hown (mvT hZ (hw _ (List.mem_of_getElem? (i := 11) rfl))) (mvT hZ (hw _ (List.mem_of_getElem? (i := 12) rfl))) (mvT hZ (hw _ (List.mem_of_getElem? (i := 13) rfl))) (by decide) (backOf (W := 1) (rmi1 l Z aa hw [] b051 b01 wc sx 6 (own_up ga i) k01 h051 n0 Z051 BW O051 (by decide) hc1 E_b051 F_value_b051 F_coder_b051 g_b051 V1_b01 (Ne.symm ne_b01_b051) (by decide)) hZ (hw _ (List.mem_of_getElem? (i := 13) rfl)) (hw _ (List.mem_of_getElem? (i := 10) rfl)) (by decide) (by decide)) (g := (mkF m 162 #[.val (.int p0), .val (.long q1), .second, .val (.long q2), .second, .val (.ref b01), .val (.int (6 : Int32)), .val (.int u0_26), .val (.ref b029), .unset, .unset, .unset] [(.ref b01), (.ref b051), (.ref b051)])) rfl (by rw [hml]; rfl) (Steps.refl _) (a := b051) (argsL := [(.ref b01)]) (rest := [(.ref b051)]) (lenOf pd0_1 rfl) rfl (by show 2 * 0 + _ ≤ _; exact Nat.le_of_eq rfl) (hb hby at_162) (fun _ _ => ⟨rfl, e051, (by decide : 3 + 2 ≤ _), (by decide : 16 + 18 ≤ _)⟩)
    dsimp only [Pt.U, Pt.locs, Pt.cells, Pt.slots] at X0c52 l0c52 y0c52 z0c52 st0c52 hQ0c52
    subst l0c52 y0c52 z0c52
    obtain ⟨rfl, N0c52q, Kq0c52, b0c52, sz_b0c52, S_0c52⟩ := hQ0c52
    have N0c52 := Fr.app N049 N0c52q
    obtain ⟨lc0t53, X0c52, N0c52⟩ : ∃ lc, Stand p l e room_1 s m #[(.int p0), (.long q1), (.long q2)] below meth c T0c52 lc 5 34 ∧ Fr n0 lc := ⟨_, X0c52, N0c52⟩
    obtain ⟨h0c52, e0c52⟩ : ∃ h, T0c52.heap = h := ⟨_, rfl⟩
    rw [e0c52] at Kq0c52 S_0c52
    have ne_b01_b0c52 : b01 ≠ b0c52 := Nat.ne_of_lt (Nat.lt_of_lt_of_le V_b01.lt sz_b0c52)
    have ne_b029_b0c52 : b029 ≠ b0c52 := Nat.ne_of_lt (Nat.lt_of_lt_of_le V_b029.lt sz_b0c52)
    have ne_b051_b0c52 : b051 ≠ b0c52 := Nat.ne_of_lt (Nat.lt_of_lt_of_le E_b051.lt sz_b0c52)
    have g_b0c52 : n0 ≤ b0c52 := Nat.le_trans Z051 sz_b0c52
    replace V_b01 := V_b01.keep Kq0c52 (ninS ne_b01_b051 nin0)
    replace V_b029 := V_b029.keep Kq0c52 (ninS ne_b029_b051 nin0)
    have KK0c52 := Keep.trans K051 Kq0c52 (allS (Or.inr sz_b051) all0)
    have Z0c52 := Nat.le_trans Z051 Kq0c52.1
    have O0c52 := O051.keep Kq0c52 (allS g_b051 all0)
    refine stp (fun t k => st0c52.trans k) ?_
    show W (T0c52.setTop (mkF m 165 #[.val (.int p0), .val (.long q1), .second, .val (.long q2), .second, .val (.ref b01), .val (.int (6 : Int32)), .val (.int u0_26), .val (.ref b029), .unset, .unset, .unset] [(.ref b051)]))
    refine stp (fun t k => XS.astore X0c52.here hx rfl (hb hby at_165) rfl rfl (l' := #[.val (.int p0), .val (.long q1), .second, .val (.long q2), .second, .val (.ref b01), .val (.int (6 : Int32)), .val (.int u0_26), .val (.ref b029), .val (.ref b051), .unset, .unset]) rfl k) ?_
    show W (T0c52.setTop (mkF m 167 #[.val (.int p0), .val (.long q1), .second, .val (.long q2), .second, .val (.ref b01), .val (.int (6 : Int32)), .val (.int u0_26), .val (.ref b029), .val (.ref b051), .unset, .unset] []))
    obtain ⟨T054, h054, X054, e054, E054, A054, D054, -, st054⟩ := newO X0c52 hx hZ hown (hw _ (List.mem_of_getElem? (i := 8) rfl)) (hw _ (List.mem_of_getElem? (i := 9) rfl)) (hw _ (List.mem_of_getElem? (i := 10) rfl)) e0c52 (g := (mkF m 167 #[.val (.int p0), .val (.long q1), .second, .val (.long q2), .second, .val (.ref b01), .val (.int (6 : Int32)), .val (.int u0_26), .val (.ref b029), .val (.ref b051), .unset, .unset] [])) rfl (hb hby at_167) (by decide) (by decide)
    obtain ⟨b054, gq054⟩ : ∃ z, z = h0c52.size := ⟨_, rfl⟩
    rw [← gq054] at A054 D054 st054
    have ne_b01_b054 : b01 ≠ b054 := Nat.ne_of_lt (Nat.lt_of_lt_of_le V_b01.lt (Nat.le_of_eq gq054.symm))
    have ne_b029_b054 : b029 ≠ b054 := Nat.ne_of_lt (Nat.lt_of_lt_of_le V_b029.lt (Nat.le_of_eq gq054.symm))
    have ne_b051_b054 : b051 ≠ b054 := Nat.ne_of_lt (Nat.lt_of_lt_of_le S_0c52.lt0 (Nat.le_of_eq gq054.symm))
    have ne_b0c52_b054 : b0c52 ≠ b054 := Nat.ne_of_lt (Nat.lt_of_lt_of_le S_0c52.lt1 (Nat.le_of_eq gq054.symm))
    have g_b054 : n0 ≤ b054 := Nat.le_trans Z0c52 (Nat.le_of_eq gq054.symm)
    have sz_b054 : h0.size ≤ b054 := Nat.le_trans KK0c52.1 (Nat.le_of_eq gq054.symm)
    replace V_b01 := V_b01.ext E054
    replace V_b029 := V_b029.ext E054
    replace S_0c52 := S_0c52.ext E054
    have K054 := KK0c52.ext E054
    have Z054 := Nat.le_trans Z0c52 E054.1
    have O054 := O0c52.ext E054
    have E_b054 := A054
    have F_coder_b054 : Fld Z h054 b054 "java/lang/String" "coder" "B" (.int (0 : Int32)) := D054 (Or.inr (hw _ (List.mem_of_getElem? (i := 53) rfl))) (ty := .byte) (by decide)
    have F_value_b054 : Fld Z h054 b054 "java/lang/String" "value" "[B" .null := D054 (Or.inr (hw _ (List.mem_of_getElem? (i := 55) rfl))) (ty := (.array .byte)) (by decide)
    refine stp (fun t k => st054 t k) ?_
    show W (T054.setTop (mkF m 170 #[.val (.int p0), .val (.long q1), .second, .val (.long q2), .second, .val (.ref b01), .val (.int (6 : Int32)), .val (.int u0_26), .val (.ref b029), .val (.ref b051), .unset, .unset] [(.ref b054)]))
    refine stp (fun t k => XS.dup X054.here hx rfl (hb hby at_170) rfl rfl k) ?_
    show W (T054.setTop (mkF m 171 #[.val (.int p0), .val (.long q1), .second, .val (.long q2), .second, .val (.ref b01), .val (.int (6 : Int32)), .val (.int u0_26), .val (.ref b029), .val (.ref b051), .unset, .unset] [(.ref b054), (.ref b054)]))
    refine stp (fun t k => XS.aload X054.here hx rfl (hb hby at_171) rfl rfl k) ?_
    show W (T054.setTop (mkF m 173 #[.val (.int p0), .val (.long q1), .second, .val (.long q2), .second, .val (.ref b01), .val (.int (6 : Int32)), .val (.int u0_26), .val (.ref b029), .val (.ref b051), .unset, .unset] [(.ref b029), (.ref b054), (.ref b054)]))
    have V1_b029 : Arv Z h054 b029 k029 .char (Int32.ofNat 6) (own_vs 6 (own_up (own_up ga i) (i + 1))) (.int (0 : Int32)) := V_b029
    obtain ⟨_, _, ⟨T0c55, L0c55, k0c55, n0c55⟩, -, X0c55, ⟨Lc0c55, hQ0c55, l0c55, y0c55, z0c55⟩, st0c55⟩ := X054.specialBack hx (y := (⟨"java/lang/String", "<init>", "([C)V"⟩ : MethodName)) rfl hown (mvT hZ (hw _ (List.mem_of_getElem? (i := 11) rfl))) (mvT hZ (hw _ (List.mem_of_getElem? (i := 12) rfl))) (mvT hZ (hw _ (List.mem_of_getElem? (i := 13) rfl))) (by decide) (backOf (W := 1) (rmi1 l Z aa hw [] b054 b029 wc sx 6 (own_up (own_up ga i) (i + 1)) k029 h054 n0 Z054 BW O054 (by decide) (own_upC hc1 (i + 1)) E_b054 F_value_b054 F_coder_b054 g_b054 V1_b029 (Ne.symm ne_b029_b054) (by decide)) hZ (hw _ (List.mem_of_getElem? (i := 13) rfl)) (hw _ (List.mem_of_getElem? (i := 10) rfl)) (by decide) (by decide)) (g := (mkF m 173 #[.val (.int p0), .val (.long q1), .second, .val (.long q2), .second, .val (.ref b01), .val (.int (6 : Int32)), .val (.int u0_26), .val (.ref b029), .val (.ref b051), .unset, .unset] [(.ref b029), (.ref b054), (.ref b054)])) rfl (by rw [hml]; rfl) (Steps.refl _) (a := b054) (argsL := [(.ref b029)]) (rest := [(.ref b054)]) (lenOf pd0_1 rfl) rfl (by show 2 * 0 + _ ≤ _; exact Nat.le_of_eq rfl) (hb hby at_173) (fun _ _ => ⟨rfl, e054, (by decide : 6 + 2 ≤ _), (by decide : 38 + 18 ≤ _)⟩)
    dsimp only [Pt.U, Pt.locs, Pt.cells, Pt.slots] at X0c55 l0c55 y0c55 z0c55 st0c55 hQ0c55
    subst l0c55 y0c55 z0c55
    obtain ⟨rfl, N0c55q, Kq0c55, b0c55, sz_b0c55, S_0c55⟩ := hQ0c55
    have N0c55 := Fr.app N0c52 N0c55q
    obtain ⟨lc0t56, X0c55, N0c55⟩ : ∃ lc, Stand p l e room_1 s m #[(.int p0), (.long q1), (.long q2)] below meth c T0c55 lc 8 56 ∧ Fr n0 lc := ⟨_, X0c55, N0c55⟩
    obtain ⟨h0c55, e0c55⟩ : ∃ h, T0c55.heap = h := ⟨_, rfl⟩
    rw [e0c55] at Kq0c55 S_0c55
    have ne_b01_b0c55 : b01 ≠ b0c55 := Nat.ne_of_lt (Nat.lt_of_lt_of_le V_b01.lt sz_b0c55)
    have ne_b029_b0c55 : b029 ≠ b0c55 := Nat.ne_of_lt (Nat.lt_of_lt_of_le V_b029.lt sz_b0c55)
    have ne_b051_b0c55 : b051 ≠ b0c55 := Nat.ne_of_lt (Nat.lt_of_lt_of_le S_0c52.lt0 sz_b0c55)
    have ne_b054_b0c55 : b054 ≠ b0c55 := Nat.ne_of_lt (Nat.lt_of_lt_of_le E_b054.lt sz_b0c55)
    have ne_b0c52_b0c55 : b0c52 ≠ b0c55 := Nat.ne_of_lt (Nat.lt_of_lt_of_le S_0c52.lt1 sz_b0c55)
    have g_b0c55 : n0 ≤ b0c55 := Nat.le_trans Z054 sz_b0c55
    replace V_b01 := V_b01.keep Kq0c55 (ninS ne_b01_b054 nin0)
    replace V_b029 := V_b029.keep Kq0c55 (ninS ne_b029_b054 nin0)
    replace S_0c52 := S_0c52.keep Kq0c55 (ninS ne_b051_b054 nin0) (ninS ne_b0c52_b054 nin0)
    have KK0c55 := Keep.trans K054 Kq0c55 (allS (Or.inr sz_b054) all0)
    have Z0c55 := Nat.le_trans Z054 Kq0c55.1
    have O0c55 := O054.keep Kq0c55 (allS g_b054 all0)
    refine stp (fun t k => st0c55.trans k) ?_
    show W (T0c55.setTop (mkF m 176 #[.val (.int p0), .val (.long q1), .second, .val (.long q2), .second, .val (.ref b01), .val (.int (6 : Int32)), .val (.int u0_26), .val (.ref b029), .val (.ref b051), .unset, .unset] [(.ref b054)]))
    refine stp (fun t k => XS.astore X0c55.here hx rfl (hb hby at_176) rfl rfl (l' := #[.val (.int p0), .val (.long q1), .second, .val (.long q2), .second, .val (.ref b01), .val (.int (6 : Int32)), .val (.int u0_26), .val (.ref b029), .val (.ref b051), .val (.ref b054), .unset]) rfl k) ?_
    show W (T0c55.setTop (mkF m 178 #[.val (.int p0), .val (.long q1), .second, .val (.long q2), .second, .val (.ref b01), .val (.int (6 : Int32)), .val (.int u0_26), .val (.ref b029), .val (.ref b051), .val (.ref b054), .unset] []))
    refine stp (fun t k => XS.aload X0c55.here hx rfl (hb hby at_178) rfl rfl k) ?_
    show W (T0c55.setTop (mkF m 180 #[.val (.int p0), .val (.long q1), .second, .val (.long q2), .second, .val (.ref b01), .val (.int (6 : Int32)), .val (.int u0_26), .val (.ref b029), .val (.ref b051), .val (.ref b054), .unset] [(.ref b051)]))
    refine stp (fun t k => XS.iload X0c55.here hx rfl (hb hby at_180) rfl k) ?_
    show W (T0c55.setTop (mkF m 182 #[.val (.int p0), .val (.long q1), .second, .val (.long q2), .second, .val (.ref b01), .val (.int (6 : Int32)), .val (.int u0_26), .val (.ref b029), .val (.ref b051), .val (.ref b054), .unset] [(.int u0_26), (.ref b051)]))
    obtain ⟨_, _, ⟨T0c57, L0c57, k0c57, n0c57⟩, -, X0c57, ⟨Lc0c57, hQ0c57, l0c57, y0c57, z0c57⟩, st0c57⟩ := Jvm.LawKit.callS X0c55 hx (y := (⟨"com/example/grant3/grant3/Identifier", "endOfQuoted", "(Ljava/lang/String;I)I"⟩ : MethodName)) hown (mvT hZ (hw _ (List.mem_of_getElem? (i := 56) rfl))) (mvT hZ (hw _ (List.mem_of_getElem? (i := 57) rfl))) (mvT hZ (hw _ (List.mem_of_getElem? (i := 58) rfl))) (mvT hZ (hw _ (List.mem_of_getElem? (i := 59) rfl))) (by decide) (backOf (W := 0) (rmeq l Z aa hw [] b051 u0_26 wc sx b0c52 6 (own_up ga i) i h0c55 n0 Z0c55 BW O0c55 S_0c52 (by decide) hc1 hi hb0) hZ (hw _ (List.mem_of_getElem? (i := 59) rfl)) (hw _ (List.mem_of_getElem? (i := 58) rfl)) (by decide) (by decide)) (g := (mkF m 182 #[.val (.int p0), .val (.long q1), .second, .val (.long q2), .second, .val (.ref b01), .val (.int (6 : Int32)), .val (.int u0_26), .val (.ref b029), .val (.ref b051), .val (.ref b054), .unset] [(.int u0_26), (.ref b051)])) rfl (by rw [hml]; rfl) (argsL := [(.ref b051), (.int u0_26)]) (rest := []) (lenOf pd0_2 rfl) rfl (by show 2 * 0 + _ ≤ _; exact Nat.le_of_eq rfl) (hb hby at_182) (fun _ _ => ⟨rfl, e0c55, (by decide : 8 + 0 ≤ _), (by decide : 56 + 0 ≤ _)⟩)
    dsimp only [Pt.U, Pt.locs, Pt.cells, Pt.slots] at X0c57 l0c57 y0c57 z0c57 st0c57 hQ0c57
    subst l0c57 y0c57 z0c57
    obtain ⟨rfl, N0c57q, e0c57⟩ := hQ0c57
    have N0c57 := Fr.app N0c55 N0c57q
    obtain ⟨lc0t58, X0c57, N0c57⟩ : ∃ lc, Stand p l e room_1 s m #[(.int p0), (.long q1), (.long q2)] below meth c T0c57 lc 8 56 ∧ Fr n0 lc := ⟨_, X0c57, N0c57⟩
    refine stp (fun t k => st0c57 t k) ?_
    show W (T0c57.setTop (mkF m 185 #[.val (.int p0), .val (.long q1), .second, .val (.long q2), .second, .val (.ref b01), .val (.int (6 : Int32)), .val (.int u0_26), .val (.ref b029), .val (.ref b051), .val (.ref b054), .unset] [(.int (own_E (own_up ga i) 6 (i + 1)))]))
    refine stp (fun t k => XS.istore X0c57.here hx rfl (hb hby at_185) rfl (l' := #[.val (.int p0), .val (.long q1), .second, .val (.long q2), .second, .val (.ref b01), .val (.int (6 : Int32)), .val (.int u0_26), .val (.ref b029), .val (.ref b051), .val (.ref b054), .val (.int (own_E (own_up ga i) 6 (i + 1)))]) rfl k) ?_
    show W (T0c57.setTop (mkF m 187 #[.val (.int p0), .val (.long q1), .second, .val (.long q2), .second, .val (.ref b01), .val (.int (6 : Int32)), .val (.int u0_26), .val (.ref b029), .val (.ref b051), .val (.ref b054), .val (.int (own_E (own_up ga i) 6 (i + 1)))] []))
    refine stp (fun t k => XS.iload X0c57.here hx rfl (hb hby at_187) rfl k) ?_
    show W (T0c57.setTop (mkF m 189 #[.val (.int p0), .val (.long q1), .second, .val (.long q2), .second, .val (.ref b01), .val (.int (6 : Int32)), .val (.int u0_26), .val (.ref b029), .val (.ref b051), .val (.ref b054), .val (.int (own_E (own_up ga i) 6 (i + 1)))] [(.int u0_26)]))
    refine stp (fun t k => XS.iconst X0c57.here hx rfl (hb hby at_189) k) ?_
    show W (T0c57.setTop (mkF m 190 #[.val (.int p0), .val (.long q1), .second, .val (.long q2), .second, .val (.ref b01), .val (.int (6 : Int32)), .val (.int u0_26), .val (.ref b029), .val (.ref b051), .val (.ref b054), .val (.int (own_E (own_up ga i) 6 (i + 1)))] [(.int (1 : Int32)), (.int u0_26)]))
    refine stp (fun t k => XS.iadd X0c57.here hx rfl (hb hby at_190) rfl k) ?_
    show W (T0c57.setTop (mkF m 191 #[.val (.int p0), .val (.long q1), .second, .val (.long q2), .second, .val (.ref b01), .val (.int (6 : Int32)), .val (.int u0_26), .val (.ref b029), .val (.ref b051), .val (.ref b054), .val (.int (own_E (own_up ga i) 6 (i + 1)))] [(.int (u0_26 + (1 : Int32)))]))
    refine stp (fun t k => XS.iload X0c57.here hx rfl (hb hby at_191) rfl k) ?_
    show W (T0c57.setTop (mkF m 193 #[.val (.int p0), .val (.long q1), .second, .val (.long q2), .second, .val (.ref b01), .val (.int (6 : Int32)), .val (.int u0_26), .val (.ref b029), .val (.ref b051), .val (.ref b054), .val (.int (own_E (own_up ga i) 6 (i + 1)))] [(.int (6 : Int32)), (.int (u0_26 + (1 : Int32)))]))
    refine stp (fun t k => XS.icmpYes X0c57.here hx rfl (pc0 := 193) (pc' := 208) rfl (hb hby at_193) rfl ((tlt (hc0_48)).1) (by decide) (by decide) k) ?_
    show W (T0c57.setTop (mkF m 208 #[.val (.int p0), .val (.long q1), .second, .val (.long q2), .second, .val (.ref b01), .val (.int (6 : Int32)), .val (.int u0_26), .val (.ref b029), .val (.ref b051), .val (.ref b054), .val (.int (own_E (own_up ga i) 6 (i + 1)))] []))
    refine stp (fun t k => XS.aload X0c57.here hx rfl (hb hby at_208) rfl rfl k) ?_
    show W (T0c57.setTop (mkF m 210 #[.val (.int p0), .val (.long q1), .second, .val (.long q2), .second, .val (.ref b01), .val (.int (6 : Int32)), .val (.int u0_26), .val (.ref b029), .val (.ref b051), .val (.ref b054), .val (.int (own_E (own_up ga i) 6 (i + 1)))] [(.ref b01)]))
    refine stp (fun t k => XS.iload X0c57.here hx rfl (hb hby at_210) rfl k) ?_
    show W (T0c57.setTop (mkF m 212 #[.val (.int p0), .val (.long q1), .second, .val (.long q2), .second, .val (.ref b01), .val (.int (6 : Int32)), .val (.int u0_26), .val (.ref b029), .val (.ref b051), .val (.ref b054), .val (.int (own_E (own_up ga i) 6 (i + 1)))] [(.int u0_26), (.ref b01)]))
    refine stp (fun t k => XS.iconst X0c57.here hx rfl (hb hby at_212) k) ?_
    show W (T0c57.setTop (mkF m 213 #[.val (.int p0), .val (.long q1), .second, .val (.long q2), .second, .val (.ref b01), .val (.int (6 : Int32)), .val (.int u0_26), .val (.ref b029), .val (.ref b051), .val (.ref b054), .val (.int (own_E (own_up ga i) 6 (i + 1)))] [(.int (1 : Int32)), (.int u0_26), (.ref b01)]))
    refine stp (fun t k => XS.iadd X0c57.here hx rfl (hb hby at_213) rfl k) ?_
    show W (T0c57.setTop (mkF m 214 #[.val (.int p0), .val (.long q1), .second, .val (.long q2), .second, .val (.ref b01), .val (.int (6 : Int32)), .val (.int u0_26), .val (.ref b029), .val (.ref b051), .val (.ref b054), .val (.int (own_E (own_up ga i) 6 (i + 1)))] [(.int (u0_26 + (1 : Int32))), (.ref b01)]))
    obtain ⟨cl059, Ar059, qk059, qs059, qn059, qh059, qg059⟩ := id V_b01
    have hin059 : ¬ ((u0_26 + (1 : Int32)) < 0 ∨ cl059.slots.size ≤ ((u0_26 + (1 : Int32))).toNatClampNeg) := inb_of qs059 ⟨own_nn hi1, hc0_48⟩
    have hat059 : cl059.slots[((u0_26 + (1 : Int32))).toNatClampNeg]? = some (.int ((own_up ga i) (i + 1))) := qh059.at hin059 (by rw [own_clamp hi1, own_vsGet ((own_lt32 hi1 (j := 6) rfl).mp hc0_48)])
    refine stp (fun t k => X0c57.caload hx (j := (u0_26 + (1 : Int32))) (v := (.int ((own_up ga i) (i + 1)))) (by rw [e0c57]; exact Ar059.1) (State.isArrayOf_alike hZ.alike Ar059.2.1) Ar059.2.2 hin059 hat059 (g := (mkF m 214 #[.val (.int p0), .val (.long q1), .second, .val (.long q2), .second, .val (.ref b01), .val (.int (6 : Int32)), .val (.int u0_26), .val (.ref b029), .val (.ref b051), .val (.ref b054), .val (.int (own_E (own_up ga i) 6 (i + 1)))] [(.int (u0_26 + (1 : Int32))), (.ref b01)])) rfl rfl (hb hby at_214) _ k) ?_
    show W (T0c57.setTop (mkF m 215 #[.val (.int p0), .val (.long q1), .second, .val (.long q2), .second, .val (.ref b01), .val (.int (6 : Int32)), .val (.int u0_26), .val (.ref b029), .val (.ref b051), .val (.ref b054), .val (.int (own_E (own_up ga i) 6 (i + 1)))] [(.int ((own_up ga i) (i + 1)))]))
    refine stp (fun t k => XS.bipush X0c57.here hx rfl (hb hby at_215) k) ?_
    show W (T0c57.setTop (mkF m 217 #[.val (.int p0), .val (.long q1), .second, .val (.long q2), .second, .val (.ref b01), .val (.int (6 : Int32)), .val (.int u0_26), .val (.ref b029), .val (.ref b051), .val (.ref b054), .val (.int (own_E (own_up ga i) 6 (i + 1)))] [(.int (34 : Int32)), (.int ((own_up ga i) (i + 1)))]))
    by_cases hc0_60 : ((own_up ga i) (i + 1)) = (34 : Int32)
    · refine stp (fun t k => XS.icmpYes X0c57.here hx rfl (pc0 := 217) (pc' := 240) rfl (hb hby at_217) rfl ((teq hc0_60).1) (by decide) (by decide) k) ?_
      show W (T0c57.setTop (mkF m 240 #[.val (.int p0), .val (.long q1), .second, .val (.long q2), .second, .val (.ref b01), .val (.int (6 : Int32)), .val (.int u0_26), .val (.ref b029), .val (.ref b051), .val (.ref b054), .val (.int (own_E (own_up ga i) 6 (i + 1)))] []))
      refine stp (fun t k => XS.iload X0c57.here hx rfl (hb hby at_240) rfl k) ?_
      show W (T0c57.setTop (mkF m 242 #[.val (.int p0), .val (.long q1), .second, .val (.long q2), .second, .val (.ref b01), .val (.int (6 : Int32)), .val (.int u0_26), .val (.ref b029), .val (.ref b051), .val (.ref b054), .val (.int (own_E (own_up ga i) 6 (i + 1)))] [(.int u0_26)]))
      refine stp (fun t k => XS.iconst X0c57.here hx rfl (hb hby at_242) k) ?_
      show W (T0c57.setTop (mkF m 243 #[.val (.int p0), .val (.long q1), .second, .val (.long q2), .second, .val (.ref b01), .val (.int (6 : Int32)), .val (.int u0_26), .val (.ref b029), .val (.ref b051), .val (.ref b054), .val (.int (own_E (own_up ga i) 6 (i + 1)))] [(.int (2 : Int32)), (.int u0_26)]))
      refine stp (fun t k => XS.iadd X0c57.here hx rfl (hb hby at_243) rfl k) ?_
      show W (T0c57.setTop (mkF m 244 #[.val (.int p0), .val (.long q1), .second, .val (.long q2), .second, .val (.ref b01), .val (.int (6 : Int32)), .val (.int u0_26), .val (.ref b029), .val (.ref b051), .val (.ref b054), .val (.int (own_E (own_up ga i) 6 (i + 1)))] [(.int (u0_26 + (2 : Int32)))]))
      refine stp (fun t k => XS.iload X0c57.here hx rfl (hb hby at_244) rfl k) ?_
      show W (T0c57.setTop (mkF m 246 #[.val (.int p0), .val (.long q1), .second, .val (.long q2), .second, .val (.ref b01), .val (.int (6 : Int32)), .val (.int u0_26), .val (.ref b029), .val (.ref b051), .val (.ref b054), .val (.int (own_E (own_up ga i) 6 (i + 1)))] [(.int (6 : Int32)), (.int (u0_26 + (2 : Int32)))]))
      by_cases hc0_61 : (u0_26 + (2 : Int32)) < (6 : Int32)
      · refine stp (fun t k => XS.icmpNo X0c57.here hx rfl (hb hby at_246) rfl ((tlt hc0_61).2.1) k) ?_
        show W (T0c57.setTop (mkF m 249 #[.val (.int p0), .val (.long q1), .second, .val (.long q2), .second, .val (.ref b01), .val (.int (6 : Int32)), .val (.int u0_26), .val (.ref b029), .val (.ref b051), .val (.ref b054), .val (.int (own_E (own_up ga i) 6 (i + 1)))] []))
        refine stp (fun t k => XS.aload X0c57.here hx rfl (hb hby at_249) rfl rfl k) ?_
        show W (T0c57.setTop (mkF m 251 #[.val (.int p0), .val (.long q1), .second, .val (.long q2), .second, .val (.ref b01), .val (.int (6 : Int32)), .val (.int u0_26), .val (.ref b029), .val (.ref b051), .val (.ref b054), .val (.int (own_E (own_up ga i) 6 (i + 1)))] [(.ref b01)]))
        refine stp (fun t k => XS.iload X0c57.here hx rfl (hb hby at_251) rfl k) ?_
        show W (T0c57.setTop (mkF m 253 #[.val (.int p0), .val (.long q1), .second, .val (.long q2), .second, .val (.ref b01), .val (.int (6 : Int32)), .val (.int u0_26), .val (.ref b029), .val (.ref b051), .val (.ref b054), .val (.int (own_E (own_up ga i) 6 (i + 1)))] [(.int u0_26), (.ref b01)]))
        refine stp (fun t k => XS.iconst X0c57.here hx rfl (hb hby at_253) k) ?_
        show W (T0c57.setTop (mkF m 254 #[.val (.int p0), .val (.long q1), .second, .val (.long q2), .second, .val (.ref b01), .val (.int (6 : Int32)), .val (.int u0_26), .val (.ref b029), .val (.ref b051), .val (.ref b054), .val (.int (own_E (own_up ga i) 6 (i + 1)))] [(.int (2 : Int32)), (.int u0_26), (.ref b01)]))
        refine stp (fun t k => XS.iadd X0c57.here hx rfl (hb hby at_254) rfl k) ?_
        show W (T0c57.setTop (mkF m 255 #[.val (.int p0), .val (.long q1), .second, .val (.long q2), .second, .val (.ref b01), .val (.int (6 : Int32)), .val (.int u0_26), .val (.ref b029), .val (.ref b051), .val (.ref b054), .val (.int (own_E (own_up ga i) 6 (i + 1)))] [(.int (u0_26 + (2 : Int32))), (.ref b01)]))
        obtain ⟨cl062, Ar062, qk062, qs062, qn062, qh062, qg062⟩ := id V_b01
        have hin062 : ¬ ((u0_26 + (2 : Int32)) < 0 ∨ cl062.slots.size ≤ ((u0_26 + (2 : Int32))).toNatClampNeg) := inb_of qs062 ⟨own_nn hi2, hc0_61⟩
        have hat062 : cl062.slots[((u0_26 + (2 : Int32))).toNatClampNeg]? = some (.int ((own_up ga i) (i + 2))) := qh062.at hin062 (by rw [own_clamp hi2, own_vsGet ((own_lt32 hi2 (j := 6) rfl).mp hc0_61)])
        refine stp (fun t k => X0c57.caload hx (j := (u0_26 + (2 : Int32))) (v := (.int ((own_up ga i) (i + 2)))) (by rw [e0c57]; exact Ar062.1) (State.isArrayOf_alike hZ.alike Ar062.2.1) Ar062.2.2 hin062 hat062 (g := (mkF m 255 #[.val (.int p0), .val (.long q1), .second, .val (.long q2), .second, .val (.ref b01), .val (.int (6 : Int32)), .val (.int u0_26), .val (.ref b029), .val (.ref b051), .val (.ref b054), .val (.int (own_E (own_up ga i) 6 (i + 1)))] [(.int (u0_26 + (2 : Int32))), (.ref b01)])) rfl rfl (hb hby at_255) _ k) ?_
        show W (T0c57.setTop (mkF m 256 #[.val (.int p0), .val (.long q1), .second, .val (.long q2), .second, .val (.ref b01), .val (.int (6 : Int32)), .val (.int u0_26), .val (.ref b029), .val (.ref b051), .val (.ref b054), .val (.int (own_E (own_up ga i) 6 (i + 1)))] [(.int ((own_up ga i) (i + 2)))]))
        refine stp (fun t k => XS.bipush X0c57.here hx rfl (hb hby at_256) k) ?_
        show W (T0c57.setTop (mkF m 258 #[.val (.int p0), .val (.long q1), .second, .val (.long q2), .second, .val (.ref b01), .val (.int (6 : Int32)), .val (.int u0_26), .val (.ref b029), .val (.ref b051), .val (.ref b054), .val (.int (own_E (own_up ga i) 6 (i + 1)))] [(.int (34 : Int32)), (.int ((own_up ga i) (i + 2)))]))
        by_cases hc0_63 : ((own_up ga i) (i + 2)) = (34 : Int32)
        · refine stp (fun t k => XS.icmpNo X0c57.here hx rfl (hb hby at_258) rfl ((teq hc0_63).2) k) ?_
          show W (T0c57.setTop (mkF m 261 #[.val (.int p0), .val (.long q1), .second, .val (.long q2), .second, .val (.ref b01), .val (.int (6 : Int32)), .val (.int u0_26), .val (.ref b029), .val (.ref b051), .val (.ref b054), .val (.int (own_E (own_up ga i) 6 (i + 1)))] []))
          refine stp (fun t k => XS.iload X0c57.here hx rfl (hb hby at_261) rfl k) ?_
          show W (T0c57.setTop (mkF m 263 #[.val (.int p0), .val (.long q1), .second, .val (.long q2), .second, .val (.ref b01), .val (.int (6 : Int32)), .val (.int u0_26), .val (.ref b029), .val (.ref b051), .val (.ref b054), .val (.int (own_E (own_up ga i) 6 (i + 1)))] [(.int (own_E (own_up ga i) 6 (i + 1)))]))
          refine stp (fun t k => XS.aload X0c57.here hx rfl (hb hby at_263) rfl rfl k) ?_
          show W (T0c57.setTop (mkF m 265 #[.val (.int p0), .val (.long q1), .second, .val (.long q2), .second, .val (.ref b01), .val (.int (6 : Int32)), .val (.int u0_26), .val (.ref b029), .val (.ref b051), .val (.ref b054), .val (.int (own_E (own_up ga i) 6 (i + 1)))] [(.ref b051), (.int (own_E (own_up ga i) 6 (i + 1)))]))
          refine stp (fun t k => XS.iload X0c57.here hx rfl (hb hby at_265) rfl k) ?_
          show W (T0c57.setTop (mkF m 267 #[.val (.int p0), .val (.long q1), .second, .val (.long q2), .second, .val (.ref b01), .val (.int (6 : Int32)), .val (.int u0_26), .val (.ref b029), .val (.ref b051), .val (.ref b054), .val (.int (own_E (own_up ga i) 6 (i + 1)))] [(.int u0_26), (.ref b051), (.int (own_E (own_up ga i) 6 (i + 1)))]))
          refine stp (fun t k => XS.iconst X0c57.here hx rfl (hb hby at_267) k) ?_
          show W (T0c57.setTop (mkF m 268 #[.val (.int p0), .val (.long q1), .second, .val (.long q2), .second, .val (.ref b01), .val (.int (6 : Int32)), .val (.int u0_26), .val (.ref b029), .val (.ref b051), .val (.ref b054), .val (.int (own_E (own_up ga i) 6 (i + 1)))] [(.int (2 : Int32)), (.int u0_26), (.ref b051), (.int (own_E (own_up ga i) 6 (i + 1)))]))
          refine stp (fun t k => XS.iadd X0c57.here hx rfl (hb hby at_268) rfl k) ?_
          show W (T0c57.setTop (mkF m 269 #[.val (.int p0), .val (.long q1), .second, .val (.long q2), .second, .val (.ref b01), .val (.int (6 : Int32)), .val (.int u0_26), .val (.ref b029), .val (.ref b051), .val (.ref b054), .val (.int (own_E (own_up ga i) 6 (i + 1)))] [(.int (u0_26 + (2 : Int32))), (.ref b051), (.int (own_E (own_up ga i) 6 (i + 1)))]))
          obtain ⟨_, _, ⟨T0c64, L0c64, k0c64, n0c64⟩, -, X0c64, ⟨Lc0c64, hQ0c64, l0c64, y0c64, z0c64⟩, st0c64⟩ := Jvm.LawKit.callS X0c57 hx (y := (⟨"com/example/grant3/grant3/Identifier", "endOfQuoted", "(Ljava/lang/String;I)I"⟩ : MethodName)) hown (mvT hZ (hw _ (List.mem_of_getElem? (i := 56) rfl))) (mvT hZ (hw _ (List.mem_of_getElem? (i := 57) rfl))) (mvT hZ (hw _ (List.mem_of_getElem? (i := 58) rfl))) (mvT hZ (hw _ (List.mem_of_getElem? (i := 59) rfl))) (by decide) (backOf (W := 1) (rmeq l Z aa hw [] b051 (u0_26 + (2 : Int32)) wc sx b0c52 6 (own_up ga i) (i + 2) h0c55 n0 Z0c55 BW O0c55 S_0c52 (by decide) hc1 hi2 hb2) hZ (hw _ (List.mem_of_getElem? (i := 59) rfl)) (hw _ (List.mem_of_getElem? (i := 58) rfl)) (by decide) (by decide)) (g := (mkF m 269 #[.val (.int p0), .val (.long q1), .second, .val (.long q2), .second, .val (.ref b01), .val (.int (6 : Int32)), .val (.int u0_26), .val (.ref b029), .val (.ref b051), .val (.ref b054), .val (.int (own_E (own_up ga i) 6 (i + 1)))] [(.int (u0_26 + (2 : Int32))), (.ref b051), (.int (own_E (own_up ga i) 6 (i + 1)))])) rfl (by rw [hml]; rfl) (argsL := [(.ref b051), (.int (u0_26 + (2 : Int32)))]) (rest := [(.int (own_E (own_up ga i) 6 (i + 1)))]) (lenOf pd0_2 rfl) rfl (by show 2 * 0 + _ ≤ _; exact Nat.le_of_eq rfl) (hb hby at_269) (fun _ _ => ⟨rfl, e0c57, (by decide : 8 + 0 ≤ _), (by decide : 56 + 0 ≤ _)⟩)
          dsimp only [Pt.U, Pt.locs, Pt.cells, Pt.slots] at X0c64 l0c64 y0c64 z0c64 st0c64 hQ0c64
          subst l0c64 y0c64 z0c64
          obtain ⟨rfl, N0c64q, e0c64⟩ := hQ0c64
          have N0c64 := Fr.app N0c57 N0c64q
          obtain ⟨lc0t65, X0c64, N0c64⟩ : ∃ lc, Stand p l e room_1 s m #[(.int p0), (.long q1), (.long q2)] below meth c T0c64 lc 8 56 ∧ Fr n0 lc := ⟨_, X0c64, N0c64⟩
          refine stp (fun t k => st0c64 t k) ?_
          show W (T0c64.setTop (mkF m 272 #[.val (.int p0), .val (.long q1), .second, .val (.long q2), .second, .val (.ref b01), .val (.int (6 : Int32)), .val (.int u0_26), .val (.ref b029), .val (.ref b051), .val (.ref b054), .val (.int (own_E (own_up ga i) 6 (i + 1)))] [(.int (own_E (own_up ga i) 6 ((i + 2) + 1))), (.int (own_E (own_up ga i) 6 (i + 1)))]))
          refine stp (fun t k => XS.icmpNo X0c64.here hx rfl (hb hby at_272) rfl ((teq (own_lawB ((own_lt32 hi1 (j := 6) rfl).mp hc0_48) hc0_60 ((own_lt32 hi2 (j := 6) rfl).mp hc0_61) hc0_63)).2) k) ?_
          show W (T0c64.setTop (mkF m 275 #[.val (.int p0), .val (.long q1), .second, .val (.long q2), .second, .val (.ref b01), .val (.int (6 : Int32)), .val (.int u0_26), .val (.ref b029), .val (.ref b051), .val (.ref b054), .val (.int (own_E (own_up ga i) 6 (i + 1)))] []))
          refine stp (fun t k => XS.iconst X0c64.here hx rfl (hb hby at_275) k) ?_
          show W (T0c64.setTop (mkF m 276 #[.val (.int p0), .val (.long q1), .second, .val (.long q2), .second, .val (.ref b01), .val (.int (6 : Int32)), .val (.int u0_26), .val (.ref b029), .val (.ref b051), .val (.ref b054), .val (.int (own_E (own_up ga i) 6 (i + 1)))] [(.int (1 : Int32))]))
          refine stp (fun t k => XS.goto X0c64.here hx rfl (pc0 := 276) (pc' := 280) rfl (hb hby at_276) (by decide) (by decide) k) ?_
          show W (T0c64.setTop (mkF m 280 #[.val (.int p0), .val (.long q1), .second, .val (.long q2), .second, .val (.ref b01), .val (.int (6 : Int32)), .val (.int u0_26), .val (.ref b029), .val (.ref b051), .val (.ref b054), .val (.int (own_E (own_up ga i) 6 (i + 1)))] [(.int (1 : Int32))]))
          show W (T0c64.setTop (mkF m 280 #[.val (.int p0), .val (.long q1), .second, .val (.long q2), .second, .val (.ref b01), .val (.int (6 : Int32)), .val (.int u0_26), .val (.ref b029), .val (.ref b051), .val (.ref b054), .val (.int (own_E (own_up ga i) 6 (i + 1)))] [(.int (1 : Int32))]))
          rw [← hW]
          exact own_retN X0c64 hx Bd.notSynchronized Bd.returns (w := (1 : Int32)) (by simp) (hb hby at_280) rfl (by show Q0 Z p0 q1 q2 wc sx h0 n0 _ T0c64.heap _; rw [e0c64]; exact ⟨rfl, N0c64⟩) (by decide) (by decide)
        · refine stp (fun t k => XS.icmpYes X0c57.here hx rfl (pc0 := 258) (pc' := 281) rfl (hb hby at_258) rfl ((feq hc0_63).2) (by decide) (by decide) k) ?_
          show W (T0c57.setTop (mkF m 281 #[.val (.int p0), .val (.long q1), .second, .val (.long q2), .second, .val (.ref b01), .val (.int (6 : Int32)), .val (.int u0_26), .val (.ref b029), .val (.ref b051), .val (.ref b054), .val (.int (own_E (own_up ga i) 6 (i + 1)))] []))
          refine stp (fun t k => XS.iload X0c57.here hx rfl (hb hby at_281) rfl k) ?_
          show W (T0c57.setTop (mkF m 283 #[.val (.int p0), .val (.long q1), .second, .val (.long q2), .second, .val (.ref b01), .val (.int (6 : Int32)), .val (.int u0_26), .val (.ref b029), .val (.ref b051), .val (.ref b054), .val (.int (own_E (own_up ga i) 6 (i + 1)))] [(.int (own_E (own_up ga i) 6 (i + 1)))]))
          refine stp (fun t k => XS.iload X0c57.here hx rfl (hb hby at_283) rfl k) ?_
          show W (T0c57.setTop (mkF m 285 #[.val (.int p0), .val (.long q1), .second, .val (.long q2), .second, .val (.ref b01), .val (.int (6 : Int32)), .val (.int u0_26), .val (.ref b029), .val (.ref b051), .val (.ref b054), .val (.int (own_E (own_up ga i) 6 (i + 1)))] [(.int u0_26), (.int (own_E (own_up ga i) 6 (i + 1)))]))
          refine stp (fun t k => XS.iconst X0c57.here hx rfl (hb hby at_285) k) ?_
          show W (T0c57.setTop (mkF m 286 #[.val (.int p0), .val (.long q1), .second, .val (.long q2), .second, .val (.ref b01), .val (.int (6 : Int32)), .val (.int u0_26), .val (.ref b029), .val (.ref b051), .val (.ref b054), .val (.int (own_E (own_up ga i) 6 (i + 1)))] [(.int (2 : Int32)), (.int u0_26), (.int (own_E (own_up ga i) 6 (i + 1)))]))
          refine stp (fun t k => XS.iadd X0c57.here hx rfl (hb hby at_286) rfl k) ?_
          show W (T0c57.setTop (mkF m 287 #[.val (.int p0), .val (.long q1), .second, .val (.long q2), .second, .val (.ref b01), .val (.int (6 : Int32)), .val (.int u0_26), .val (.ref b029), .val (.ref b051), .val (.ref b054), .val (.int (own_E (own_up ga i) 6 (i + 1)))] [(.int (u0_26 + (2 : Int32))), (.int (own_E (own_up ga i) 6 (i + 1)))]))
          refine stp (fun t k => XS.icmpNo X0c57.here hx rfl (hb hby at_287) rfl ((teq (own_lawC ((own_lt32 hi1 (j := 6) rfl).mp hc0_48) hc0_60 (fun q => hc0_63 q.2) hi2)).2) k) ?_
          show W (T0c57.setTop (mkF m 290 #[.val (.int p0), .val (.long q1), .second, .val (.long q2), .second, .val (.ref b01), .val (.int (6 : Int32)), .val (.int u0_26), .val (.ref b029), .val (.ref b051), .val (.ref b054), .val (.int (own_E (own_up ga i) 6 (i + 1)))] []))
          refine stp (fun t k => XS.iconst X0c57.here hx rfl (hb hby at_290) k) ?_
          show W (T0c57.setTop (mkF m 291 #[.val (.int p0), .val (.long q1), .second, .val (.long q2), .second, .val (.ref b01), .val (.int (6 : Int32)), .val (.int u0_26), .val (.ref b029), .val (.ref b051), .val (.ref b054), .val (.int (own_E (own_up ga i) 6 (i + 1)))] [(.int (1 : Int32))]))
          refine stp (fun t k => XS.goto X0c57.here hx rfl (pc0 := 291) (pc' := 295) rfl (hb hby at_291) (by decide) (by decide) k) ?_
          show W (T0c57.setTop (mkF m 295 #[.val (.int p0), .val (.long q1), .second, .val (.long q2), .second, .val (.ref b01), .val (.int (6 : Int32)), .val (.int u0_26), .val (.ref b029), .val (.ref b051), .val (.ref b054), .val (.int (own_E (own_up ga i) 6 (i + 1)))] [(.int (1 : Int32))]))
          show W (T0c57.setTop (mkF m 295 #[.val (.int p0), .val (.long q1), .second, .val (.long q2), .second, .val (.ref b01), .val (.int (6 : Int32)), .val (.int u0_26), .val (.ref b029), .val (.ref b051), .val (.ref b054), .val (.int (own_E (own_up ga i) 6 (i + 1)))] [(.int (1 : Int32))]))
          rw [← hW]
          exact own_retN X0c57 hx Bd.notSynchronized Bd.returns (w := (1 : Int32)) (by simp) (hb hby at_295) rfl (by show Q0 Z p0 q1 q2 wc sx h0 n0 _ T0c57.heap _; rw [e0c57]; exact ⟨rfl, N0c57⟩) (by decide) (by decide)
      · refine stp (fun t k => XS.icmpYes X0c57.here hx rfl (pc0 := 246) (pc' := 281) rfl (hb hby at_246) rfl ((flt hc0_61).2.1) (by decide) (by decide) k) ?_
        show W (T0c57.setTop (mkF m 281 #[.val (.int p0), .val (.long q1), .second, .val (.long q2), .second, .val (.ref b01), .val (.int (6 : Int32)), .val (.int u0_26), .val (.ref b029), .val (.ref b051), .val (.ref b054), .val (.int (own_E (own_up ga i) 6 (i + 1)))] []))
        refine stp (fun t k => XS.iload X0c57.here hx rfl (hb hby at_281) rfl k) ?_
        show W (T0c57.setTop (mkF m 283 #[.val (.int p0), .val (.long q1), .second, .val (.long q2), .second, .val (.ref b01), .val (.int (6 : Int32)), .val (.int u0_26), .val (.ref b029), .val (.ref b051), .val (.ref b054), .val (.int (own_E (own_up ga i) 6 (i + 1)))] [(.int (own_E (own_up ga i) 6 (i + 1)))]))
        refine stp (fun t k => XS.iload X0c57.here hx rfl (hb hby at_283) rfl k) ?_
        show W (T0c57.setTop (mkF m 285 #[.val (.int p0), .val (.long q1), .second, .val (.long q2), .second, .val (.ref b01), .val (.int (6 : Int32)), .val (.int u0_26), .val (.ref b029), .val (.ref b051), .val (.ref b054), .val (.int (own_E (own_up ga i) 6 (i + 1)))] [(.int u0_26), (.int (own_E (own_up ga i) 6 (i + 1)))]))
        refine stp (fun t k => XS.iconst X0c57.here hx rfl (hb hby at_285) k) ?_
        show W (T0c57.setTop (mkF m 286 #[.val (.int p0), .val (.long q1), .second, .val (.long q2), .second, .val (.ref b01), .val (.int (6 : Int32)), .val (.int u0_26), .val (.ref b029), .val (.ref b051), .val (.ref b054), .val (.int (own_E (own_up ga i) 6 (i + 1)))] [(.int (2 : Int32)), (.int u0_26), (.int (own_E (own_up ga i) 6 (i + 1)))]))
        refine stp (fun t k => XS.iadd X0c57.here hx rfl (hb hby at_286) rfl k) ?_
        show W (T0c57.setTop (mkF m 287 #[.val (.int p0), .val (.long q1), .second, .val (.long q2), .second, .val (.ref b01), .val (.int (6 : Int32)), .val (.int u0_26), .val (.ref b029), .val (.ref b051), .val (.ref b054), .val (.int (own_E (own_up ga i) 6 (i + 1)))] [(.int (u0_26 + (2 : Int32))), (.int (own_E (own_up ga i) 6 (i + 1)))]))
        refine stp (fun t k => XS.icmpNo X0c57.here hx rfl (hb hby at_287) rfl ((teq (own_lawC ((own_lt32 hi1 (j := 6) rfl).mp hc0_48) hc0_60 (fun q => hc0_61 ((own_lt32 hi2 (j := 6) rfl).mpr q.1)) hi2)).2) k) ?_
        show W (T0c57.setTop (mkF m 290 #[.val (.int p0), .val (.long q1), .second, .val (.long q2), .second, .val (.ref b01), .val (.int (6 : Int32)), .val (.int u0_26), .val (.ref b029), .val (.ref b051), .val (.ref b054), .val (.int (own_E (own_up ga i) 6 (i + 1)))] []))
        refine stp (fun t k => XS.iconst X0c57.here hx rfl (hb hby at_290) k) ?_
        show W (T0c57.setTop (mkF m 291 #[.val (.int p0), .val (.long q1), .second, .val (.long q2), .second, .val (.ref b01), .val (.int (6 : Int32)), .val (.int u0_26), .val (.ref b029), .val (.ref b051), .val (.ref b054), .val (.int (own_E (own_up ga i) 6 (i + 1)))] [(.int (1 : Int32))]))
        refine stp (fun t k => XS.goto X0c57.here hx rfl (pc0 := 291) (pc' := 295) rfl (hb hby at_291) (by decide) (by decide) k) ?_
        show W (T0c57.setTop (mkF m 295 #[.val (.int p0), .val (.long q1), .second, .val (.long q2), .second, .val (.ref b01), .val (.int (6 : Int32)), .val (.int u0_26), .val (.ref b029), .val (.ref b051), .val (.ref b054), .val (.int (own_E (own_up ga i) 6 (i + 1)))] [(.int (1 : Int32))]))
        show W (T0c57.setTop (mkF m 295 #[.val (.int p0), .val (.long q1), .second, .val (.long q2), .second, .val (.ref b01), .val (.int (6 : Int32)), .val (.int u0_26), .val (.ref b029), .val (.ref b051), .val (.ref b054), .val (.int (own_E (own_up ga i) 6 (i + 1)))] [(.int (1 : Int32))]))
        rw [← hW]
        exact own_retN X0c57 hx Bd.notSynchronized Bd.returns (w := (1 : Int32)) (by simp) (hb hby at_295) rfl (by show Q0 Z p0 q1 q2 wc sx h0 n0 _ T0c57.heap _; rw [e0c57]; exact ⟨rfl, N0c57⟩) (by decide) (by decide)
    · refine stp (fun t k => XS.icmpNo X0c57.here hx rfl (hb hby at_217) rfl ((feq hc0_60).1) k) ?_
      show W (T0c57.setTop (mkF m 220 #[.val (.int p0), .val (.long q1), .second, .val (.long q2), .second, .val (.ref b01), .val (.int (6 : Int32)), .val (.int u0_26), .val (.ref b029), .val (.ref b051), .val (.ref b054), .val (.int (own_E (own_up ga i) 6 (i + 1)))] []))
      refine stp (fun t k => XS.iload X0c57.here hx rfl (hb hby at_220) rfl k) ?_
      show W (T0c57.setTop (mkF m 222 #[.val (.int p0), .val (.long q1), .second, .val (.long q2), .second, .val (.ref b01), .val (.int (6 : Int32)), .val (.int u0_26), .val (.ref b029), .val (.ref b051), .val (.ref b054), .val (.int (own_E (own_up ga i) 6 (i + 1)))] [(.int (own_E (own_up ga i) 6 (i + 1)))]))
      refine stp (fun t k => XS.aload X0c57.here hx rfl (hb hby at_222) rfl rfl k) ?_
      show W (T0c57.setTop (mkF m 224 #[.val (.int p0), .val (.long q1), .second, .val (.long q2), .second, .val (.ref b01), .val (.int (6 : Int32)), .val (.int u0_26), .val (.ref b029), .val (.ref b051), .val (.ref b054), .val (.int (own_E (own_up ga i) 6 (i + 1)))] [(.ref b054), (.int (own_E (own_up ga i) 6 (i + 1)))]))
      refine stp (fun t k => XS.iload X0c57.here hx rfl (hb hby at_224) rfl k) ?_
      show W (T0c57.setTop (mkF m 226 #[.val (.int p0), .val (.long q1), .second, .val (.long q2), .second, .val (.ref b01), .val (.int (6 : Int32)), .val (.int u0_26), .val (.ref b029), .val (.ref b051), .val (.ref b054), .val (.int (own_E (own_up ga i) 6 (i + 1)))] [(.int u0_26), (.ref b054), (.int (own_E (own_up ga i) 6 (i + 1)))]))
      refine stp (fun t k => XS.iconst X0c57.here hx rfl (hb hby at_226) k) ?_
      show W (T0c57.setTop (mkF m 227 #[.val (.int p0), .val (.long q1), .second, .val (.long q2), .second, .val (.ref b01), .val (.int (6 : Int32)), .val (.int u0_26), .val (.ref b029), .val (.ref b051), .val (.ref b054), .val (.int (own_E (own_up ga i) 6 (i + 1)))] [(.int (1 : Int32)), (.int u0_26), (.ref b054), (.int (own_E (own_up ga i) 6 (i + 1)))]))
      refine stp (fun t k => XS.iadd X0c57.here hx rfl (hb hby at_227) rfl k) ?_
      show W (T0c57.setTop (mkF m 228 #[.val (.int p0), .val (.long q1), .second, .val (.long q2), .second, .val (.ref b01), .val (.int (6 : Int32)), .val (.int u0_26), .val (.ref b029), .val (.ref b051), .val (.ref b054), .val (.int (own_E (own_up ga i) 6 (i + 1)))] [(.int (u0_26 + (1 : Int32))), (.ref b054), (.int (own_E (own_up ga i) 6 (i + 1)))]))
      obtain ⟨_, _, ⟨T0c66, L0c66, k0c66, n0c66⟩, -, X0c66, ⟨Lc0c66, hQ0c66, l0c66, y0c66, z0c66⟩, st0c66⟩ := Jvm.LawKit.callS X0c57 hx (y := (⟨"com/example/grant3/grant3/Identifier", "endOfQuoted", "(Ljava/lang/String;I)I"⟩ : MethodName)) hown (mvT hZ (hw _ (List.mem_of_getElem? (i := 56) rfl))) (mvT hZ (hw _ (List.mem_of_getElem? (i := 57) rfl))) (mvT hZ (hw _ (List.mem_of_getElem? (i := 58) rfl))) (mvT hZ (hw _ (List.mem_of_getElem? (i := 59) rfl))) (by decide) (backOf (W := 1) (rmeq l Z aa hw [] b054 (u0_26 + (1 : Int32)) wc sx b0c55 6 (own_up (own_up ga i) (i + 1)) (i + 1) h0c55 n0 Z0c55 BW O0c55 S_0c55 (by decide) (own_upC hc1 (i + 1)) hi1 hb1) hZ (hw _ (List.mem_of_getElem? (i := 59) rfl)) (hw _ (List.mem_of_getElem? (i := 58) rfl)) (by decide) (by decide)) (g := (mkF m 228 #[.val (.int p0), .val (.long q1), .second, .val (.long q2), .second, .val (.ref b01), .val (.int (6 : Int32)), .val (.int u0_26), .val (.ref b029), .val (.ref b051), .val (.ref b054), .val (.int (own_E (own_up ga i) 6 (i + 1)))] [(.int (u0_26 + (1 : Int32))), (.ref b054), (.int (own_E (own_up ga i) 6 (i + 1)))])) rfl (by rw [hml]; rfl) (argsL := [(.ref b054), (.int (u0_26 + (1 : Int32)))]) (rest := [(.int (own_E (own_up ga i) 6 (i + 1)))]) (lenOf pd0_2 rfl) rfl (by show 2 * 0 + _ ≤ _; exact Nat.le_of_eq rfl) (hb hby at_228) (fun _ _ => ⟨rfl, e0c57, (by decide : 8 + 0 ≤ _), (by decide : 56 + 0 ≤ _)⟩)
      dsimp only [Pt.U, Pt.locs, Pt.cells, Pt.slots] at X0c66 l0c66 y0c66 z0c66 st0c66 hQ0c66
      subst l0c66 y0c66 z0c66
      obtain ⟨rfl, N0c66q, e0c66⟩ := hQ0c66
      have N0c66 := Fr.app N0c57 N0c66q
      obtain ⟨lc0t67, X0c66, N0c66⟩ : ∃ lc, Stand p l e room_1 s m #[(.int p0), (.long q1), (.long q2)] below meth c T0c66 lc 8 56 ∧ Fr n0 lc := ⟨_, X0c66, N0c66⟩
      refine stp (fun t k => st0c66 t k) ?_
      show W (T0c66.setTop (mkF m 231 #[.val (.int p0), .val (.long q1), .second, .val (.long q2), .second, .val (.ref b01), .val (.int (6 : Int32)), .val (.int u0_26), .val (.ref b029), .val (.ref b051), .val (.ref b054), .val (.int (own_E (own_up ga i) 6 (i + 1)))] [(.int (own_E (own_up (own_up ga i) (i + 1)) 6 ((i + 1) + 1))), (.int (own_E (own_up ga i) 6 (i + 1)))]))
      refine stp (fun t k => XS.icmpNo X0c66.here hx rfl (hb hby at_231) rfl ((teq (own_lawA ((own_lt32 hi1 (j := 6) rfl).mp hc0_48) hc0_60)).2) k) ?_
      show W (T0c66.setTop (mkF m 234 #[.val (.int p0), .val (.long q1), .second, .val (.long q2), .second, .val (.ref b01), .val (.int (6 : Int32)), .val (.int u0_26), .val (.ref b029), .val (.ref b051), .val (.ref b054), .val (.int (own_E (own_up ga i) 6 (i + 1)))] []))
      refine stp (fun t k => XS.iconst X0c66.here hx rfl (hb hby at_234) k) ?_
      show W (T0c66.setTop (mkF m 235 #[.val (.int p0), .val (.long q1), .second, .val (.long q2), .second, .val (.ref b01), .val (.int (6 : Int32)), .val (.int u0_26), .val (.ref b029), .val (.ref b051), .val (.ref b054), .val (.int (own_E (own_up ga i) 6 (i + 1)))] [(.int (1 : Int32))]))
      refine stp (fun t k => XS.goto X0c66.here hx rfl (pc0 := 235) (pc' := 239) rfl (hb hby at_235) (by decide) (by decide) k) ?_
      show W (T0c66.setTop (mkF m 239 #[.val (.int p0), .val (.long q1), .second, .val (.long q2), .second, .val (.ref b01), .val (.int (6 : Int32)), .val (.int u0_26), .val (.ref b029), .val (.ref b051), .val (.ref b054), .val (.int (own_E (own_up ga i) 6 (i + 1)))] [(.int (1 : Int32))]))
      show W (T0c66.setTop (mkF m 239 #[.val (.int p0), .val (.long q1), .second, .val (.long q2), .second, .val (.ref b01), .val (.int (6 : Int32)), .val (.int u0_26), .val (.ref b029), .val (.ref b051), .val (.ref b054), .val (.int (own_E (own_up ga i) 6 (i + 1)))] [(.int (1 : Int32))]))
      rw [← hW]
      exact own_retN X0c66 hx Bd.notSynchronized Bd.returns (w := (1 : Int32)) (by simp) (hb hby at_239) rfl (by show Q0 Z p0 q1 q2 wc sx h0 n0 _ T0c66.heap _; rw [e0c66]; exact ⟨rfl, N0c66⟩) (by decide) (by decide)
  · refine stp (fun t k => XS.icmpYes X046.here hx rfl (pc0 := 144) (pc' := 156) rfl (hb hby at_144) rfl ((flt hc0_48).2.1) (by decide) (by decide) k) ?_
    show W (T046.setTop (mkF m 156 #[.val (.int p0), .val (.long q1), .second, .val (.long q2), .second, .val (.ref b01), .val (.int (6 : Int32)), .val (.int u0_26), .val (.ref b029), .unset, .unset, .unset] []))
    obtain ⟨T068, h068, X068, e068, E068, A068, D068, -, st068⟩ := newO X046 hx hZ hown (hw _ (List.mem_of_getElem? (i := 8) rfl)) (hw _ (List.mem_of_getElem? (i := 9) rfl)) (hw _ (List.mem_of_getElem? (i := 10) rfl)) e046 (g := (mkF m 156 #[.val (.int p0), .val (.long q1), .second, .val (.long q2), .second, .val (.ref b01), .val (.int (6 : Int32)), .val (.int u0_26), .val (.ref b029), .unset, .unset, .unset] [])) rfl (hb hby at_156) (by decide) (by decide)
    obtain ⟨b068, gq068⟩ : ∃ z, z = h046.size := ⟨_, rfl⟩
    rw [← gq068] at A068 D068 st068
    have ne_b01_b068 : b01 ≠ b068 := Nat.ne_of_lt (Nat.lt_of_lt_of_le V_b01.lt (Nat.le_of_eq gq068.symm))
    have ne_b029_b068 : b029 ≠ b068 := Nat.ne_of_lt (Nat.lt_of_lt_of_le V_b029.lt (Nat.le_of_eq gq068.symm))
    have g_b068 : n0 ≤ b068 := Nat.le_trans Z046 (Nat.le_of_eq gq068.symm)
    have sz_b068 : h0.size ≤ b068 := Nat.le_trans K046.1 (Nat.le_of_eq gq068.symm)
    replace V_b01 := V_b01.ext E068
    replace V_b029 := V_b029.ext E068
    have K068 := K046.ext E068
    have Z068 := Nat.le_trans Z046 E068.1
    have O068 := O046.ext E068
    have E_b068 := A068
    have F_coder_b068 : Fld Z h068 b068 "java/lang/String" "coder" "B" (.int (0 : Int32)) := D068 (Or.inr (hw _ (List.mem_of_getElem? (i := 53) rfl))) (ty := .byte) (by decide)
    have F_value_b068 : Fld Z h068 b068 "java/lang/String" "value" "[B" .null := D068 (Or.inr (hw _ (List.mem_of_getElem? (i := 55) rfl))) (ty := (.array .byte)) (by decide)
    refine stp (fun t k => st068 t k) ?_
    show W (T068.setTop (mkF m 159 #[.val (.int p0), .val (.long q1), .second, .val (.long q2), .second, .val (.ref b01), .val (.int (6 : Int32)), .val (.int u0_26), .val (.ref b029), .unset, .unset, .unset] [(.ref b068)]))
    refine stp (fun t k => XS.dup X068.here hx rfl (hb hby at_159) rfl rfl k) ?_
    show W (T068.setTop (mkF m 160 #[.val (.int p0), .val (.long q1), .second, .val (.long q2), .second, .val (.ref b01), .val (.int (6 : Int32)), .val (.int u0_26), .val (.ref b029), .unset, .unset, .unset] [(.ref b068), (.ref b068)]))
    refine stp (fun t k => XS.aload X068.here hx rfl (hb hby at_160) rfl rfl k) ?_
    show W (T068.setTop (mkF m 162 #[.val (.int p0), .val (.long q1), .second, .val (.long q2), .second, .val (.ref b01), .val (.int (6 : Int32)), .val (.int u0_26), .val (.ref b029), .unset, .unset, .unset] [(.ref b01), (.ref b068), (.ref b068)]))
    have V1_b01 : Arv Z h068 b01 k01 .char (Int32.ofNat 6) (own_vs 6 (own_up ga i)) (.int (0 : Int32)) := V_b01
    obtain ⟨_, _, ⟨T0c69, L0c69, k0c69, n0c69⟩, -, X0c69, ⟨Lc0c69, hQ0c69, l0c69, y0c69, z0c69⟩, st0c69⟩ := X068.specialBack hx (y := (⟨"java/lang/String", "<init>", "([C)V"⟩ : MethodName)) rfl hown (mvT hZ (hw _ (List.mem_of_getElem? (i := 11) rfl))) (mvT hZ (hw _ (List.mem_of_getElem? (i := 12) rfl))) (mvT hZ (hw _ (List.mem_of_getElem? (i := 13) rfl))) (by decide) (backOf (W := 1) (rmi1 l Z aa hw [] b068 b01 wc sx 6 (own_up ga i) k01 h068 n0 Z068 BW O068 (by decide) hc1 E_b068 F_value_b068 F_coder_b068 g_b068 V1_b01 (Ne.symm ne_b01_b068) (by decide)) hZ (hw _ (List.mem_of_getElem? (i := 13) rfl)) (hw _ (List.mem_of_getElem? (i := 10) rfl)) (by decide) (by decide)) (g := (mkF m 162 #[.val (.int p0), .val (.long q1), .second, .val (.long q2), .second, .val (.ref b01), .val (.int (6 : Int32)), .val (.int u0_26), .val (.ref b029), .unset, .unset, .unset] [(.ref b01), (.ref b068), (.ref b068)])) rfl (by rw [hml]; rfl) (Steps.refl _) (a := b068) (argsL := [(.ref b01)]) (rest := [(.ref b068)]) (lenOf pd0_1 rfl) rfl (by show 2 * 0 + _ ≤ _; exact Nat.le_of_eq rfl) (hb hby at_162) (fun _ _ => ⟨rfl, e068, (by decide : 3 + 2 ≤ _), (by decide : 16 + 18 ≤ _)⟩)
    dsimp only [Pt.U, Pt.locs, Pt.cells, Pt.slots] at X0c69 l0c69 y0c69 z0c69 st0c69 hQ0c69
    subst l0c69 y0c69 z0c69
    obtain ⟨rfl, N0c69q, Kq0c69, b0c69, sz_b0c69, S_0c69⟩ := hQ0c69
    have N0c69 := Fr.app N046 N0c69q
    obtain ⟨lc0t70, X0c69, N0c69⟩ : ∃ lc, Stand p l e room_1 s m #[(.int p0), (.long q1), (.long q2)] below meth c T0c69 lc 5 34 ∧ Fr n0 lc := ⟨_, X0c69, N0c69⟩
    obtain ⟨h0c69, e0c69⟩ : ∃ h, T0c69.heap = h := ⟨_, rfl⟩
    rw [e0c69] at Kq0c69 S_0c69
    have ne_b01_b0c69 : b01 ≠ b0c69 := Nat.ne_of_lt (Nat.lt_of_lt_of_le V_b01.lt sz_b0c69)
    have ne_b029_b0c69 : b029 ≠ b0c69 := Nat.ne_of_lt (Nat.lt_of_lt_of_le V_b029.lt sz_b0c69)
    have ne_b068_b0c69 : b068 ≠ b0c69 := Nat.ne_of_lt (Nat.lt_of_lt_of_le E_b068.lt sz_b0c69)
    have g_b0c69 : n0 ≤ b0c69 := Nat.le_trans Z068 sz_b0c69
    replace V_b01 := V_b01.keep Kq0c69 (ninS ne_b01_b068 nin0)
    replace V_b029 := V_b029.keep Kq0c69 (ninS ne_b029_b068 nin0)
    have KK0c69 := Keep.trans K068 Kq0c69 (allS (Or.inr sz_b068) all0)
    have Z0c69 := Nat.le_trans Z068 Kq0c69.1
    have O0c69 := O068.keep Kq0c69 (allS g_b068 all0)
    refine stp (fun t k => st0c69.trans k) ?_
    show W (T0c69.setTop (mkF m 165 #[.val (.int p0), .val (.long q1), .second, .val (.long q2), .second, .val (.ref b01), .val (.int (6 : Int32)), .val (.int u0_26), .val (.ref b029), .unset, .unset, .unset] [(.ref b068)]))
    refine stp (fun t k => XS.astore X0c69.here hx rfl (hb hby at_165) rfl rfl (l' := #[.val (.int p0), .val (.long q1), .second, .val (.long q2), .second, .val (.ref b01), .val (.int (6 : Int32)), .val (.int u0_26), .val (.ref b029), .val (.ref b068), .unset, .unset]) rfl k) ?_
    show W (T0c69.setTop (mkF m 167 #[.val (.int p0), .val (.long q1), .second, .val (.long q2), .second, .val (.ref b01), .val (.int (6 : Int32)), .val (.int u0_26), .val (.ref b029), .val (.ref b068), .unset, .unset] []))
    obtain ⟨T071, h071, X071, e071, E071, A071, D071, -, st071⟩ := newO X0c69 hx hZ hown (hw _ (List.mem_of_getElem? (i := 8) rfl)) (hw _ (List.mem_of_getElem? (i := 9) rfl)) (hw _ (List.mem_of_getElem? (i := 10) rfl)) e0c69 (g := (mkF m 167 #[.val (.int p0), .val (.long q1), .second, .val (.long q2), .second, .val (.ref b01), .val (.int (6 : Int32)), .val (.int u0_26), .val (.ref b029), .val (.ref b068), .unset, .unset] [])) rfl (hb hby at_167) (by decide) (by decide)
    obtain ⟨b071, gq071⟩ : ∃ z, z = h0c69.size := ⟨_, rfl⟩
    rw [← gq071] at A071 D071 st071
    have ne_b01_b071 : b01 ≠ b071 := Nat.ne_of_lt (Nat.lt_of_lt_of_le V_b01.lt (Nat.le_of_eq gq071.symm))
    have ne_b029_b071 : b029 ≠ b071 := Nat.ne_of_lt (Nat.lt_of_lt_of_le V_b029.lt (Nat.le_of_eq gq071.symm))
    have ne_b068_b071 : b068 ≠ b071 := Nat.ne_of_lt (Nat.lt_of_lt_of_le S_0c69.lt0 (Nat.le_of_eq gq071.symm))
    have ne_b0c69_b071 : b0c69 ≠ b071 := Nat.ne_of_lt (Nat.lt_of_lt_of_le S_0c69.lt1 (Nat.le_of_eq gq071.symm))
    have g_b071 : n0 ≤ b071 := Nat.le_trans Z0c69 (Nat.le_of_eq gq071.symm)
    have sz_b071 : h0.size ≤ b071 := Nat.le_trans KK0c69.1 (Nat.le_of_eq gq071.symm)
    replace V_b01 := V_b01.ext E071
    replace V_b029 := V_b029.ext E071
    replace S_0c69 := S_0c69.ext E071
    have K071 := KK0c69.ext E071
    have Z071 := Nat.le_trans Z0c69 E071.1
    have O071 := O0c69.ext E071
    have E_b071 := A071
    have F_coder_b071 : Fld Z h071 b071 "java/lang/String" "coder" "B" (.int (0 : Int32)) := D071 (Or.inr (hw _ (List.mem_of_getElem? (i := 53) rfl))) (ty := .byte) (by decide)
    have F_value_b071 : Fld Z h071 b071 "java/lang/String" "value" "[B" .null := D071 (Or.inr (hw _ (List.mem_of_getElem? (i := 55) rfl))) (ty := (.array .byte)) (by decide)
    refine stp (fun t k => st071 t k) ?_
    show W (T071.setTop (mkF m 170 #[.val (.int p0), .val (.long q1), .second, .val (.long q2), .second, .val (.ref b01), .val (.int (6 : Int32)), .val (.int u0_26), .val (.ref b029), .val (.ref b068), .unset, .unset] [(.ref b071)]))
    refine stp (fun t k => XS.dup X071.here hx rfl (hb hby at_170) rfl rfl k) ?_
    show W (T071.setTop (mkF m 171 #[.val (.int p0), .val (.long q1), .second, .val (.long q2), .second, .val (.ref b01), .val (.int (6 : Int32)), .val (.int u0_26), .val (.ref b029), .val (.ref b068), .unset, .unset] [(.ref b071), (.ref b071)]))
    refine stp (fun t k => XS.aload X071.here hx rfl (hb hby at_171) rfl rfl k) ?_
    show W (T071.setTop (mkF m 173 #[.val (.int p0), .val (.long q1), .second, .val (.long q2), .second, .val (.ref b01), .val (.int (6 : Int32)), .val (.int u0_26), .val (.ref b029), .val (.ref b068), .unset, .unset] [(.ref b029), (.ref b071), (.ref b071)]))
    have V1_b029 : Arv Z h071 b029 k029 .char (Int32.ofNat 6) (own_vs 6 (own_up ga i)) (.int (0 : Int32)) := V_b029
    obtain ⟨_, _, ⟨T0c72, L0c72, k0c72, n0c72⟩, -, X0c72, ⟨Lc0c72, hQ0c72, l0c72, y0c72, z0c72⟩, st0c72⟩ := X071.specialBack hx (y := (⟨"java/lang/String", "<init>", "([C)V"⟩ : MethodName)) rfl hown (mvT hZ (hw _ (List.mem_of_getElem? (i := 11) rfl))) (mvT hZ (hw _ (List.mem_of_getElem? (i := 12) rfl))) (mvT hZ (hw _ (List.mem_of_getElem? (i := 13) rfl))) (by decide) (backOf (W := 1) (rmi1 l Z aa hw [] b071 b029 wc sx 6 (own_up ga i) k029 h071 n0 Z071 BW O071 (by decide) hc1 E_b071 F_value_b071 F_coder_b071 g_b071 V1_b029 (Ne.symm ne_b029_b071) (by decide)) hZ (hw _ (List.mem_of_getElem? (i := 13) rfl)) (hw _ (List.mem_of_getElem? (i := 10) rfl)) (by decide) (by decide)) (g := (mkF m 173 #[.val (.int p0), .val (.long q1), .second, .val (.long q2), .second, .val (.ref b01), .val (.int (6 : Int32)), .val (.int u0_26), .val (.ref b029), .val (.ref b068), .unset, .unset] [(.ref b029), (.ref b071), (.ref b071)])) rfl (by rw [hml]; rfl) (Steps.refl _) (a := b071) (argsL := [(.ref b029)]) (rest := [(.ref b071)]) (lenOf pd0_1 rfl) rfl (by show 2 * 0 + _ ≤ _; exact Nat.le_of_eq rfl) (hb hby at_173) (fun _ _ => ⟨rfl, e071, (by decide : 6 + 2 ≤ _), (by decide : 38 + 18 ≤ _)⟩)
    dsimp only [Pt.U, Pt.locs, Pt.cells, Pt.slots] at X0c72 l0c72 y0c72 z0c72 st0c72 hQ0c72
    subst l0c72 y0c72 z0c72
    obtain ⟨rfl, N0c72q, Kq0c72, b0c72, sz_b0c72, S_0c72⟩ := hQ0c72
    have N0c72 := Fr.app N0c69 N0c72q
    obtain ⟨lc0t73, X0c72, N0c72⟩ : ∃ lc, Stand p l e room_1 s m #[(.int p0), (.long q1), (.long q2)] below meth c T0c72 lc 8 56 ∧ Fr n0 lc := ⟨_, X0c72, N0c72⟩
    obtain ⟨h0c72, e0c72⟩ : ∃ h, T0c72.heap = h := ⟨_, rfl⟩
    rw [e0c72] at Kq0c72 S_0c72
    have ne_b01_b0c72 : b01 ≠ b0c72 := Nat.ne_of_lt (Nat.lt_of_lt_of_le V_b01.lt sz_b0c72)
    have ne_b029_b0c72 : b029 ≠ b0c72 := Nat.ne_of_lt (Nat.lt_of_lt_of_le V_b029.lt sz_b0c72)
    have ne_b068_b0c72 : b068 ≠ b0c72 := Nat.ne_of_lt (Nat.lt_of_lt_of_le S_0c69.lt0 sz_b0c72)
    have ne_b071_b0c72 : b071 ≠ b0c72 := Nat.ne_of_lt (Nat.lt_of_lt_of_le E_b071.lt sz_b0c72)
    have ne_b0c69_b0c72 : b0c69 ≠ b0c72 := Nat.ne_of_lt (Nat.lt_of_lt_of_le S_0c69.lt1 sz_b0c72)
    have g_b0c72 : n0 ≤ b0c72 := Nat.le_trans Z071 sz_b0c72
    replace V_b01 := V_b01.keep Kq0c72 (ninS ne_b01_b071 nin0)
    replace V_b029 := V_b029.keep Kq0c72 (ninS ne_b029_b071 nin0)
    replace S_0c69 := S_0c69.keep Kq0c72 (ninS ne_b068_b071 nin0) (ninS ne_b0c69_b071 nin0)
    have KK0c72 := Keep.trans K071 Kq0c72 (allS (Or.inr sz_b071) all0)
    have Z0c72 := Nat.le_trans Z071 Kq0c72.1
    have O0c72 := O071.keep Kq0c72 (allS g_b071 all0)
    refine stp (fun t k => st0c72.trans k) ?_
    show W (T0c72.setTop (mkF m 176 #[.val (.int p0), .val (.long q1), .second, .val (.long q2), .second, .val (.ref b01), .val (.int (6 : Int32)), .val (.int u0_26), .val (.ref b029), .val (.ref b068), .unset, .unset] [(.ref b071)]))
    refine stp (fun t k => XS.astore X0c72.here hx rfl (hb hby at_176) rfl rfl (l' := #[.val (.int p0), .val (.long q1), .second, .val (.long q2), .second, .val (.ref b01), .val (.int (6 : Int32)), .val (.int u0_26), .val (.ref b029), .val (.ref b068), .val (.ref b071), .unset]) rfl k) ?_
    show W (T0c72.setTop (mkF m 178 #[.val (.int p0), .val (.long q1), .second, .val (.long q2), .second, .val (.ref b01), .val (.int (6 : Int32)), .val (.int u0_26), .val (.ref b029), .val (.ref b068), .val (.ref b071), .unset] []))
    refine stp (fun t k => XS.aload X0c72.here hx rfl (hb hby at_178) rfl rfl k) ?_
    show W (T0c72.setTop (mkF m 180 #[.val (.int p0), .val (.long q1), .second, .val (.long q2), .second, .val (.ref b01), .val (.int (6 : Int32)), .val (.int u0_26), .val (.ref b029), .val (.ref b068), .val (.ref b071), .unset] [(.ref b068)]))
    refine stp (fun t k => XS.iload X0c72.here hx rfl (hb hby at_180) rfl k) ?_
    show W (T0c72.setTop (mkF m 182 #[.val (.int p0), .val (.long q1), .second, .val (.long q2), .second, .val (.ref b01), .val (.int (6 : Int32)), .val (.int u0_26), .val (.ref b029), .val (.ref b068), .val (.ref b071), .unset] [(.int u0_26), (.ref b068)]))
    obtain ⟨_, _, ⟨T0c74, L0c74, k0c74, n0c74⟩, -, X0c74, ⟨Lc0c74, hQ0c74, l0c74, y0c74, z0c74⟩, st0c74⟩ := Jvm.LawKit.callS X0c72 hx (y := (⟨"com/example/grant3/grant3/Identifier", "endOfQuoted", "(Ljava/lang/String;I)I"⟩ : MethodName)) hown (mvT hZ (hw _ (List.mem_of_getElem? (i := 56) rfl))) (mvT hZ (hw _ (List.mem_of_getElem? (i := 57) rfl))) (mvT hZ (hw _ (List.mem_of_getElem? (i := 58) rfl))) (mvT hZ (hw _ (List.mem_of_getElem? (i := 59) rfl))) (by decide) (backOf (W := 0) (rmeq l Z aa hw [] b068 u0_26 wc sx b0c69 6 (own_up ga i) i h0c72 n0 Z0c72 BW O0c72 S_0c69 (by decide) hc1 hi hb0) hZ (hw _ (List.mem_of_getElem? (i := 59) rfl)) (hw _ (List.mem_of_getElem? (i := 58) rfl)) (by decide) (by decide)) (g := (mkF m 182 #[.val (.int p0), .val (.long q1), .second, .val (.long q2), .second, .val (.ref b01), .val (.int (6 : Int32)), .val (.int u0_26), .val (.ref b029), .val (.ref b068), .val (.ref b071), .unset] [(.int u0_26), (.ref b068)])) rfl (by rw [hml]; rfl) (argsL := [(.ref b068), (.int u0_26)]) (rest := []) (lenOf pd0_2 rfl) rfl (by show 2 * 0 + _ ≤ _; exact Nat.le_of_eq rfl) (hb hby at_182) (fun _ _ => ⟨rfl, e0c72, (by decide : 8 + 0 ≤ _), (by decide : 56 + 0 ≤ _)⟩)
    dsimp only [Pt.U, Pt.locs, Pt.cells, Pt.slots] at X0c74 l0c74 y0c74 z0c74 st0c74 hQ0c74
    subst l0c74 y0c74 z0c74
    obtain ⟨rfl, N0c74q, e0c74⟩ := hQ0c74
    have N0c74 := Fr.app N0c72 N0c74q
    obtain ⟨lc0t75, X0c74, N0c74⟩ : ∃ lc, Stand p l e room_1 s m #[(.int p0), (.long q1), (.long q2)] below meth c T0c74 lc 8 56 ∧ Fr n0 lc := ⟨_, X0c74, N0c74⟩
    refine stp (fun t k => st0c74 t k) ?_
    show W (T0c74.setTop (mkF m 185 #[.val (.int p0), .val (.long q1), .second, .val (.long q2), .second, .val (.ref b01), .val (.int (6 : Int32)), .val (.int u0_26), .val (.ref b029), .val (.ref b068), .val (.ref b071), .unset] [(.int (own_E (own_up ga i) 6 (i + 1)))]))
    refine stp (fun t k => XS.istore X0c74.here hx rfl (hb hby at_185) rfl (l' := #[.val (.int p0), .val (.long q1), .second, .val (.long q2), .second, .val (.ref b01), .val (.int (6 : Int32)), .val (.int u0_26), .val (.ref b029), .val (.ref b068), .val (.ref b071), .val (.int (own_E (own_up ga i) 6 (i + 1)))]) rfl k) ?_
    show W (T0c74.setTop (mkF m 187 #[.val (.int p0), .val (.long q1), .second, .val (.long q2), .second, .val (.ref b01), .val (.int (6 : Int32)), .val (.int u0_26), .val (.ref b029), .val (.ref b068), .val (.ref b071), .val (.int (own_E (own_up ga i) 6 (i + 1)))] []))
    refine stp (fun t k => XS.iload X0c74.here hx rfl (hb hby at_187) rfl k) ?_
    show W (T0c74.setTop (mkF m 189 #[.val (.int p0), .val (.long q1), .second, .val (.long q2), .second, .val (.ref b01), .val (.int (6 : Int32)), .val (.int u0_26), .val (.ref b029), .val (.ref b068), .val (.ref b071), .val (.int (own_E (own_up ga i) 6 (i + 1)))] [(.int u0_26)]))
    refine stp (fun t k => XS.iconst X0c74.here hx rfl (hb hby at_189) k) ?_
    show W (T0c74.setTop (mkF m 190 #[.val (.int p0), .val (.long q1), .second, .val (.long q2), .second, .val (.ref b01), .val (.int (6 : Int32)), .val (.int u0_26), .val (.ref b029), .val (.ref b068), .val (.ref b071), .val (.int (own_E (own_up ga i) 6 (i + 1)))] [(.int (1 : Int32)), (.int u0_26)]))
    refine stp (fun t k => XS.iadd X0c74.here hx rfl (hb hby at_190) rfl k) ?_
    show W (T0c74.setTop (mkF m 191 #[.val (.int p0), .val (.long q1), .second, .val (.long q2), .second, .val (.ref b01), .val (.int (6 : Int32)), .val (.int u0_26), .val (.ref b029), .val (.ref b068), .val (.ref b071), .val (.int (own_E (own_up ga i) 6 (i + 1)))] [(.int (u0_26 + (1 : Int32)))]))
    refine stp (fun t k => XS.iload X0c74.here hx rfl (hb hby at_191) rfl k) ?_
    show W (T0c74.setTop (mkF m 193 #[.val (.int p0), .val (.long q1), .second, .val (.long q2), .second, .val (.ref b01), .val (.int (6 : Int32)), .val (.int u0_26), .val (.ref b029), .val (.ref b068), .val (.ref b071), .val (.int (own_E (own_up ga i) 6 (i + 1)))] [(.int (6 : Int32)), (.int (u0_26 + (1 : Int32)))]))
    refine stp (fun t k => XS.icmpNo X0c74.here hx rfl (hb hby at_193) rfl ((flt (hc0_48)).1) k) ?_
    show W (T0c74.setTop (mkF m 196 #[.val (.int p0), .val (.long q1), .second, .val (.long q2), .second, .val (.ref b01), .val (.int (6 : Int32)), .val (.int u0_26), .val (.ref b029), .val (.ref b068), .val (.ref b071), .val (.int (own_E (own_up ga i) 6 (i + 1)))] []))
    refine stp (fun t k => XS.iload X0c74.here hx rfl (hb hby at_196) rfl k) ?_
    show W (T0c74.setTop (mkF m 198 #[.val (.int p0), .val (.long q1), .second, .val (.long q2), .second, .val (.ref b01), .val (.int (6 : Int32)), .val (.int u0_26), .val (.ref b029), .val (.ref b068), .val (.ref b071), .val (.int (own_E (own_up ga i) 6 (i + 1)))] [(.int (own_E (own_up ga i) 6 (i + 1)))]))
    refine stp (fun t k => XS.iconst X0c74.here hx rfl (hb hby at_198) k) ?_
    show W (T0c74.setTop (mkF m 199 #[.val (.int p0), .val (.long q1), .second, .val (.long q2), .second, .val (.ref b01), .val (.int (6 : Int32)), .val (.int u0_26), .val (.ref b029), .val (.ref b068), .val (.ref b071), .val (.int (own_E (own_up ga i) 6 (i + 1)))] [(.int (-1 : Int32)), (.int (own_E (own_up ga i) 6 (i + 1)))]))
    refine stp (fun t k => XS.icmpNo X0c74.here hx rfl (hb hby at_199) rfl ((teq (own_E0 (fun q => hc0_48 ((own_lt32 hi1 (j := 6) rfl).mpr q)))).2) k) ?_
    show W (T0c74.setTop (mkF m 202 #[.val (.int p0), .val (.long q1), .second, .val (.long q2), .second, .val (.ref b01), .val (.int (6 : Int32)), .val (.int u0_26), .val (.ref b029), .val (.ref b068), .val (.ref b071), .val (.int (own_E (own_up ga i) 6 (i + 1)))] []))
    refine stp (fun t k => XS.iconst X0c74.here hx rfl (hb hby at_202) k) ?_
    show W (T0c74.setTop (mkF m 203 #[.val (.int p0), .val (.long q1), .second, .val (.long q2), .second, .val (.ref b01), .val (.int (6 : Int32)), .val (.int u0_26), .val (.ref b029), .val (.ref b068), .val (.ref b071), .val (.int (own_E (own_up ga i) 6 (i + 1)))] [(.int (1 : Int32))]))
    refine stp (fun t k => XS.goto X0c74.here hx rfl (pc0 := 203) (pc' := 207) rfl (hb hby at_203) (by decide) (by decide) k) ?_
    show W (T0c74.setTop (mkF m 207 #[.val (.int p0), .val (.long q1), .second, .val (.long q2), .second, .val (.ref b01), .val (.int (6 : Int32)), .val (.int u0_26), .val (.ref b029), .val (.ref b068), .val (.ref b071), .val (.int (own_E (own_up ga i) 6 (i + 1)))] [(.int (1 : Int32))]))
    show W (T0c74.setTop (mkF m 207 #[.val (.int p0), .val (.long q1), .second, .val (.long q2), .second, .val (.ref b01), .val (.int (6 : Int32)), .val (.int u0_26), .val (.ref b029), .val (.ref b068), .val (.ref b071), .val (.int (own_E (own_up ga i) 6 (i + 1)))] [(.int (1 : Int32))]))
    rw [← hW]
    exact own_retN X0c74 hx Bd.notSynchronized Bd.returns (w := (1 : Int32)) (by simp) (hb hby at_207) rfl (by show Q0 Z p0 q1 q2 wc sx h0 n0 _ T0c74.heap _; rw [e0c74]; exact ⟨rfl, N0c74⟩) (by decide) (by decide)
theorem own_eqI {args : Array Value} {first s : State} {o : Option Outcome} {idx : List Nat} {a b : Term} {k : Int32} (h : (Jvm.Cond.eq a b).value args first o s idx = some true) (hb : b.eval args first o idx s = some (.int k)) : a.eval args first o idx s = some (.int k) := by
  obtain ⟨x, y, e1, e2, k1, k2⟩ := cmp_v (Or.inl h)
  cases hb.symm.trans e2
  obtain ⟨z, rfl⟩ := k2
  simp only [Cond.value, e1, hb] at h
  simp at h
  rw [e1, h]
set_option maxRecDepth 65536 in
set_option maxHeartbeats 40000000 in
theorem comes_1 {Post : Tables → Env → Array Value → State → Outcome → State → Prop} (hpost : ∀ tb e args s v u, (limb_1_1.after args s (.returned v) u = true ∧ limb_1_2.after args s (.returned v) u = true ∧ True) → FrameEnd s (.returned v) u (Jvm.fieldLocs frame_1_writes args s ++ Jvm.arrayLocs frame_1_arrays args s ++ Jvm.staticLocs frame_1_statics s) 24 192 → Post tb e args s (.returned v) u) :
    ArmFor flags0 classFile x code maxLocals ret World_1 tables_1 room_1 Calls_1 rest_1 Pre_1 Post := by
  intro l hfl _ _ p e ha hc hk s m args below hf hA hF happ hP
  obtain ⟨hcalls, hrest, hpre⟩ := hP
  obtain ⟨-, -, -, hnamed, -, -, -, hat⟩ := (Spec.applies_iff hf).mp happ
  obtain ⟨hg, hn⟩ := and_e (Cond.before_iff.mp (show (Jvm.Cond.and given_1 narrow_1).before args s = true from hpre))
  obtain ⟨gc, hg⟩ := and_e hg
  obtain ⟨g0, hg⟩ := and_e hg
  obtain ⟨g1, hg⟩ := and_e hg
  have g2 := hg
  obtain ⟨w0, w1, w2, rfl⟩ : ∃ w0 w1 w2 : Value, args = #[w0, w1, w2] := by
    have hs : args.size = 3 := by simpa [Cond.value, given_1] using gc
    obtain ⟨L⟩ := args
    match L, hs with
    | [w0, w1, w2], _ => exact ⟨w0, w1, w2, rfl⟩
  have hw := fun d (hd : d ∈ tables_1) => atoms_spec (ws := Jvm.Cond.code x code maxLocals ret :: tables_1) hat d (List.mem_cons_of_mem _ hd)
  have hfit : Fit s := fun {y c} hc i hi => by
    obtain ⟨ha, rfl⟩ := Array.getElem?_eq_some_iff.mp hc
    have q := List.all_eq_true.mp ((Array.all_eq_true_iff_forall_mem.mp hF) _ (Array.getElem_mem ha)) i (List.mem_range.mpr hi)
    simpa [Array.getElem?_eq_getElem hi] using q
  obtain ⟨hsets, hown0⟩ := atoms_of _ (rest_1_c_eq ▸ (show rest_1_c.before _ s = true from hrest))
  have hr0 := Cond.before_iff.mp hown0
  obtain ⟨i0, ei0⟩ := is_v g0
  obtain rfl : w0 = (.int i0) := Option.some.inj ei0
  obtain ⟨i1, ei1⟩ := isL_v g1
  obtain rfl : w1 = (.long i1) := Option.some.inj ei1
  obtain ⟨i2, ei2⟩ := isL_v g2
  obtain rfl : w2 = (.long i2) := Option.some.inj ei2
  obtain ⟨wc, ewc⟩ := is_v (Cond.before_iff.mp (hsets _ (List.mem_of_getElem? (i := 1) rfl)))
  have S_cs := Sta.start ewc (Or.inl (hsets _ (List.mem_of_getElem? (i := 0) rfl)))
  have hcs : ¬ (wc = (0 : Int32)) := fun q => by
    have h2 := not_v (Cond.before_iff.mp (hsets _ (List.mem_of_getElem? (i := 2) rfl)))
    rw [q] at ewc
    rw [eq_i ewc (Term.int_eval 0) rfl] at h2
    cases h2
  obtain ⟨sx, esx, hr_sx⟩ := isR_v (Cond.before_iff.mp (hsets _ (List.mem_of_getElem? (i := 8) rfl)))
  have S_si := Sta.start esx (Or.inl (hsets _ (List.mem_of_getElem? (i := 7) rfl)))
  have S_ad := Sta.start (own_eqI (Cond.before_iff.mp (hsets _ (List.mem_of_getElem? (i := 12) rfl))) (Term.int_eval 1)) (Or.inl (hsets _ (List.mem_of_getElem? (i := 11) rfl)))
  have S_hi := Sta.start (own_eqI (Cond.before_iff.mp (hsets _ (List.mem_of_getElem? (i := 15) rfl))) (Term.int_eval 0)) (Or.inl (hsets _ (List.mem_of_getElem? (i := 14) rfl)))
  have S_lo := Sta.start (own_eqI (Cond.before_iff.mp (hsets _ (List.mem_of_getElem? (i := 18) rfl))) (Term.int_eval 8)) (Or.inl (hsets _ (List.mem_of_getElem? (i := 17) rfl)))
  have BW : OwnW s wc sx := ⟨S_cs, hcs, S_si, hr_sx, S_ad, S_hi, S_lo⟩
  obtain ⟨n, o, h1, h2, h3, _, L, rfl, ⟨rfl, N⟩, hq⟩ := rm0 l s _ hw tables_1 i0 i1 i2 wc sx s.heap s.heap.size (Nat.le_refl _) BW (Old.start s) p e ha hc hk s m _ below hf ((Spec.applies_iff_loose hf).mp happ).1 ⟨rfl, State.Warmed39.refl s, rfl⟩ trivial
  refine ⟨n, _, h1, h2, h3, hpost _ _ _ _ _ _ ⟨Cond.after_iff.mpr rfl, Cond.after_iff.mpr (eq_i res_at (Term.int_eval (1)) rfl), trivial⟩ ⟨hq.1, hq.2.1, (hq.2.2.sift fun y hy => Or.inr (N y hy)).mono (by decide) (by decide)⟩⟩
theorem main_1_1 : Claimed_1_1 := comes_1 fun _ _ _ _ _ _ h hF => ⟨h.1, hF⟩
theorem main_1_2 : Claimed_1_2 := comes_1 fun _ _ _ _ _ _ h hF => ⟨h.2.1, hF⟩
end Jvm.Pilot.@@N@@
namespace Jvm.Pilot.@@N@@
open Jvm Jvm.ClassFile Sem Op Lib Jvm.Free Jvm.Stand Jvm.Pilot.@@N@@.Jvm.D
/-! MADE BY PROGRAM (witnessworld.py) out of the Statement's table words and the real class files: 21 classes; the members and pool entries that the words name. The judged class is class 1, her method 2. -/
namespace start1
open Jvm.ClassFile
def u (s : String) : CpInfo := .utf8 (stringToUtf16 s)
/-- a pool by its gaps: so many unusable entries, then the entry; so many at the end -/
def gap : Nat → List CpInfo → List CpInfo
  | 0, r => r
  | n + 1, r => .unusable :: gap n r
def poolList (es : List (Nat × CpInfo)) (last : Nat) : List CpInfo := es.foldr (fun e r => gap e.1 (e.2 :: r)) (gap last [])
def pool (es : List (Nat × CpInfo)) (last : Nat) : Array CpInfo := ⟨poolList es last⟩
def fileOf (pool : Array CpInfo) (this : Nat) (attrs : Array Attribute := #[]) (ms : Array MethodInfo := #[]) (fl : Nat := 33) (sup : Nat := 0) (ifs : Array Nat := #[]) (fds : Array FieldInfo := #[]) : ClassFile where
  minorVersion := 0
  majorVersion := 65
  constantPool := pool
  accessFlags := fl
  thisClass := this
  superClass := sup
  interfaces := ifs
  fields := fds
  methods := ms
  attributes := attrs
def plain (name : String) (sup : Option ClassId) : Class where
  name := name
  kind := .ordinary
  loader := none
  accessFlags := 33
  super := sup
  interfaces := #[]
  cf := none
  fields := #[]
  methods := #[]
  instanceTypes := #[]
  staticTypes := #[]
  resolved := #[]
  callSites := []
  init := .initialized
  statics := none
  mirror := none

def pool0 : Array CpInfo := pool [(5, u "<init>"), (0, u "()V"), (1, .class_ 10), (1, u "java/lang/Object")] 113

def k0c0 : Code := { maxStack := 0, maxLocals := 1, code := object_method_1_code, exceptionTable := #[], attributes := #[] }
def k0m0 : Method := { name := "<init>", desc := "()V", sig := { parameters := [], returnType := none }, accessFlags := 1, code := some k0c0 }
/-- java/lang/Object -/
def k0 : Class := { plain "java/lang/Object" none with
  accessFlags := 33
  interfaces := #[]
  cf := some (fileOf pool0 8 #[] #[{ accessFlags := 1, nameIndex := 5, descriptorIndex := 6, attributes := #[] }] 33 0 #[] #[])
  fields := #[]
  methods := #[k0m0]
  instanceTypes := #[]
  staticTypes := #[]
  resolved := Array.replicate 124 none
  statics := none }

def pool1 : Array CpInfo := pool [(2, .class_ 4), (1, u "java/lang/Object"), (0, u "<init>"), (0, u "()V"), (0, .long 65536), (1, .long 65535), (1, .methodref 12 13), (0, .class_ 14), (0, .nameAndType 15 16), (0, u "com/example/grant3/grant3/IdentifierEndOfQuotedPinLaw"), (0, u "ch"), (0, u "(JI)C"), (0, .integer 2147483647), (0, .class_ 19), (0, u "java/lang/String"), (0, .methodref 18 21), (0, .nameAndType 5 22), (0, u "([C)V"), (0, .methodref 24 25), (0, .class_ 26), (0, .nameAndType 27 28), (0, u "com/example/grant3/grant3/Identifier"), (0, u "endOfQuoted"), (0, u "(Ljava/lang/String;I)I"), (3, u "law"), (0, u "(IJJ)Z")] 4

def k1m0 : Method := { name := "<init>", desc := "()V", sig := { parameters := [], returnType := none }, accessFlags := 1, code := none }
def k1c1 : Code := { maxStack := 4, maxLocals := 5, code := method_2_code, exceptionTable := #[], attributes := #[] }
def k1m1 : Method := { name := "ch", desc := "(JI)C", sig := { parameters := [.long, .int], returnType := some .char }, accessFlags := 10, code := some k1c1 }
def k1c2 : Code := { maxStack := 5, maxLocals := 12, code := code, exceptionTable := #[], attributes := #[] }
def k1m2 : Method := { name := "law", desc := "(IJJ)Z", sig := { parameters := [.int, .long, .long], returnType := some .boolean }, accessFlags := 9, code := some k1c2 }
/-- com/example/grant3/grant3/IdentifierEndOfQuotedPinLaw -/
def k1 : Class := { plain "com/example/grant3/grant3/IdentifierEndOfQuotedPinLaw" (some 0) with
  accessFlags := 49
  interfaces := #[]
  cf := some (fileOf pool1 12 #[] #[{ accessFlags := 1, nameIndex := 5, descriptorIndex := 6, attributes := #[] }, { accessFlags := 10, nameIndex := 15, descriptorIndex := 16, attributes := #[] }, { accessFlags := 9, nameIndex := 32, descriptorIndex := 33, attributes := #[] }] 49 2 #[] #[])
  fields := #[]
  methods := #[k1m0, k1m1, k1m2]
  instanceTypes := #[]
  staticTypes := #[]
  resolved := Array.replicate 38 none
  statics := none }

def pool2 : Array CpInfo := pool [(1, .class_ 2), (0, u "java/io/Serializable"), (0, .class_ 4), (0, u "java/lang/Object")] 2

/-- java/io/Serializable -/
def k2 : Class := { plain "java/io/Serializable" (some 0) with
  accessFlags := 1537
  interfaces := #[]
  cf := some (fileOf pool2 1 #[] #[] 1537 3 #[] #[])
  fields := #[]
  methods := #[]
  instanceTypes := #[]
  staticTypes := #[]
  resolved := Array.replicate 7 none
  statics := none }

def pool3 : Array CpInfo := pool [(1, .class_ 2), (0, u "java/lang/Comparable"), (0, .class_ 4), (0, u "java/lang/Object")] 7

/-- java/lang/Comparable -/
def k3 : Class := { plain "java/lang/Comparable" (some 0) with
  accessFlags := 1537
  interfaces := #[]
  cf := some (fileOf pool3 1 #[] #[] 1537 3 #[] #[])
  fields := #[]
  methods := #[]
  instanceTypes := #[]
  staticTypes := #[]
  resolved := Array.replicate 12 none
  statics := none }

def pool4 : Array CpInfo := pool [(2, .class_ 4), (1, u "java/lang/CharSequence"), (42, .class_ 48), (0, u "java/lang/CharSequence$1CodePointIterator"), (10, .class_ 60), (0, u "java/lang/CharSequence$1CharIterator"), (5, .class_ 67), (0, u "java/lang/Object")] 63

/-- java/lang/CharSequence -/
def k4 : Class := { plain "java/lang/CharSequence" (some 0) with
  accessFlags := 1537
  interfaces := #[]
  cf := some (fileOf pool4 2 #[.nestMembers #[47, 59]] #[] 1537 66 #[] #[])
  fields := #[]
  methods := #[]
  instanceTypes := #[]
  staticTypes := #[]
  resolved := Array.replicate 131 none
  statics := none }

def pool5 : Array CpInfo := pool [(1, .class_ 2), (0, u "java/lang/constant/Constable"), (0, .class_ 4), (0, u "java/lang/Object")] 6

/-- java/lang/constant/Constable -/
def k5 : Class := { plain "java/lang/constant/Constable" (some 0) with
  accessFlags := 1537
  interfaces := #[]
  cf := some (fileOf pool5 1 #[] #[] 1537 3 #[] #[])
  fields := #[]
  methods := #[]
  instanceTypes := #[]
  staticTypes := #[]
  resolved := Array.replicate 11 none
  statics := none }

def pool6 : Array CpInfo := pool [(1, .class_ 2), (0, u "java/lang/constant/ConstantDesc"), (0, .class_ 4), (0, u "java/lang/Object")] 32

/-- java/lang/constant/ConstantDesc -/
def k6 : Class := { plain "java/lang/constant/ConstantDesc" (some 0) with
  accessFlags := 1537
  interfaces := #[]
  cf := some (fileOf pool6 1 #[] #[] 1537 3 #[] #[])
  fields := #[]
  methods := #[]
  instanceTypes := #[]
  staticTypes := #[]
  resolved := Array.replicate 37 none
  statics := none }

def pool7 : Array CpInfo := pool [(1, .methodref 2 3), (0, .class_ 4), (0, .nameAndType 5 6), (0, u "java/lang/Object"), (0, u "<init>"), (0, u "()V"), (2, .fieldref 10 11), (0, .class_ 12), (0, .nameAndType 13 14), (0, u "java/lang/String"), (0, u "value"), (0, u "[B"), (0, .fieldref 10 16), (0, .nameAndType 17 18), (0, u "coder"), (0, u "B"), (2, u "hash"), (0, u "I"), (2, u "hashIsZero"), (0, u "Z"), (0, .methodref 10 28), (0, .nameAndType 5 29), (0, u "([CIILjava/lang/Void;)V"), (8, .fieldref 10 39), (0, .nameAndType 40 26), (0, u "COMPACT_STRINGS"), (1, .class_ 44), (1, u "java/lang/StringUTF16"), (0, u "compress"), (1, .methodref 42 48), (0, .nameAndType 49 50), (0, u "coderFromArrayLen"), (0, u "([BI)B"), (56, .class_ 109), (1, u "java/lang/StringLatin1"), (32, u "()Z"), (34, .methodref 42 178), (0, .nameAndType 45 179), (0, u "([CII)[B"), (154, u "()I"), (0, .methodref 10 336), (0, .nameAndType 17 337), (0, u "()B"), (25, u "([BI)C"), (27, u "(II)V"), (35, u "(I)C"), (64, .methodref 10 493), (0, .nameAndType 494 142), (0, u "isLatin1"), (0, .methodref 107 496), (0, .nameAndType 497 363), (0, u "charAt"), (0, .methodref 42 496), (2, u "checkIndex"), (5, u "length"), (67, .class_ 576), (0, u "java/lang/CharSequence"), (22, u "CASE_INSENSITIVE_ORDER"), (0, u "Ljava/util/Comparator;"), (409, u "([C)V"), (42, .fieldref 1054 1055), (0, .class_ 1056), (0, .nameAndType 1057 1058), (0, u "jdk/internal/util/Preconditions"), (0, u "SIOOBE_FORMATTER"), (0, u "Ljava/util/function/BiFunction;"), (0, .methodref 1054 1060), (0, .nameAndType 501 1061), (0, u "(IILjava/util/function/BiFunction;)I"), (39, u "serialPersistentFields"), (0, u "[Ljava/io/ObjectStreamField;"), (0, .class_ 1104), (0, u "java/lang/String$CaseInsensitiveComparator"), (1, .class_ 1107), (0, u "java/io/Serializable"), (0, .class_ 1109), (0, u "java/lang/Comparable"), (0, .class_ 1111), (0, u "java/lang/constant/Constable"), (0, .class_ 1113), (0, u "java/lang/constant/ConstantDesc"), (2, u "serialVersionUID"), (0, u "J"), (3, u "REPL"), (0, u "C"), (2, u "LATIN1"), (1, u "UTF16")] 323

def k7m0 : Method := { name := "<init>", desc := "()V", sig := { parameters := [], returnType := none }, accessFlags := 1, code := none }
def k7c1 : Code := { maxStack := 5, maxLocals := 2, code := jdk_42_method_3_code, exceptionTable := #[], attributes := #[] }
def k7m1 : Method := { name := "<init>", desc := "([C)V", sig := { parameters := [(.array .char)], returnType := none }, accessFlags := 1, code := some k7c1 }
def k7c2 : Code := { maxStack := 2, maxLocals := 1, code := jdk_42_method_54_code, exceptionTable := #[], attributes := #[] }
def k7m2 : Method := { name := "length", desc := "()I", sig := { parameters := [], returnType := some .int }, accessFlags := 1, code := some k7c2 }
def k7c3 : Code := { maxStack := 2, maxLocals := 2, code := jdk_42_method_56_code, exceptionTable := #[], attributes := #[] }
def k7m3 : Method := { name := "charAt", desc := "(I)C", sig := { parameters := [.int], returnType := some .char }, accessFlags := 1, code := some k7c3 }
def k7c4 : Code := { maxStack := 4, maxLocals := 6, code := jdk_42_method_149_code, exceptionTable := #[], attributes := #[] }
def k7m4 : Method := { name := "<init>", desc := "([CIILjava/lang/Void;)V", sig := { parameters := [(.array .char), .int, .int, (.object "java/lang/Void")], returnType := none }, accessFlags := 2, code := some k7c4 }
def k7c5 : Code := { maxStack := 1, maxLocals := 1, code := jdk_42_method_152_code, exceptionTable := #[], attributes := #[] }
def k7m5 : Method := { name := "coder", desc := "()B", sig := { parameters := [], returnType := some .byte }, accessFlags := 0, code := some k7c5 }
def k7c6 : Code := { maxStack := 1, maxLocals := 1, code := jdk_42_method_154_code, exceptionTable := #[], attributes := #[] }
def k7m6 : Method := { name := "isLatin1", desc := "()Z", sig := { parameters := [], returnType := some .boolean }, accessFlags := 0, code := some k7c6 }
def k7c7 : Code := { maxStack := 3, maxLocals := 2, code := jdk_42_method_155_code, exceptionTable := #[], attributes := #[] }
def k7m7 : Method := { name := "checkIndex", desc := "(II)V", sig := { parameters := [.int, .int], returnType := none }, accessFlags := 8, code := some k7c7 }
/-- java/lang/String -/
def k7 : Class := { plain "java/lang/String" (some 0) with
  accessFlags := 49
  interfaces := #[2, 3, 4, 5, 6]
  cf := some (fileOf pool7 10 #[.nestMembers #[1103]] #[{ accessFlags := 1, nameIndex := 5, descriptorIndex := 6, attributes := #[] }, { accessFlags := 1, nameIndex := 5, descriptorIndex := 1010, attributes := #[] }, { accessFlags := 1, nameIndex := 507, descriptorIndex := 334, attributes := #[] }, { accessFlags := 1, nameIndex := 497, descriptorIndex := 427, attributes := #[] }, { accessFlags := 2, nameIndex := 5, descriptorIndex := 29, attributes := #[] }, { accessFlags := 0, nameIndex := 17, descriptorIndex := 337, attributes := #[] }, { accessFlags := 0, nameIndex := 494, descriptorIndex := 142, attributes := #[] }, { accessFlags := 8, nameIndex := 501, descriptorIndex := 391, attributes := #[] }] 49 2 #[1106, 1108, 575, 1110, 1112] #[{ accessFlags := 18, nameIndex := 13, descriptorIndex := 14, attributes := #[] }, { accessFlags := 18, nameIndex := 17, descriptorIndex := 18, attributes := #[] }, { accessFlags := 2, nameIndex := 21, descriptorIndex := 22, attributes := #[] }, { accessFlags := 2, nameIndex := 25, descriptorIndex := 26, attributes := #[] }, { accessFlags := 26, nameIndex := 1116, descriptorIndex := 1117, attributes := #[] }, { accessFlags := 24, nameIndex := 40, descriptorIndex := 26, attributes := #[] }, { accessFlags := 26, nameIndex := 1101, descriptorIndex := 1102, attributes := #[] }, { accessFlags := 26, nameIndex := 1121, descriptorIndex := 1122, attributes := #[] }, { accessFlags := 25, nameIndex := 599, descriptorIndex := 600, attributes := #[] }, { accessFlags := 24, nameIndex := 1125, descriptorIndex := 18, attributes := #[] }, { accessFlags := 24, nameIndex := 1127, descriptorIndex := 18, attributes := #[] }])
  fields := #[{ name := "value", type := (.array .byte), accessFlags := 18, slot := 0, constantValue := 0 }, { name := "coder", type := .byte, accessFlags := 18, slot := 1, constantValue := 0 }, { name := "hash", type := .int, accessFlags := 2, slot := 2, constantValue := 0 }, { name := "hashIsZero", type := .boolean, accessFlags := 2, slot := 3, constantValue := 0 }, { name := "serialVersionUID", type := .long, accessFlags := 26, slot := 0, constantValue := 0 }, { name := "COMPACT_STRINGS", type := .boolean, accessFlags := 24, slot := 1, constantValue := 0 }, { name := "serialPersistentFields", type := (.array (.object "java/io/ObjectStreamField")), accessFlags := 26, slot := 2, constantValue := 0 }, { name := "REPL", type := .char, accessFlags := 26, slot := 3, constantValue := 0 }, { name := "CASE_INSENSITIVE_ORDER", type := (.object "java/util/Comparator"), accessFlags := 25, slot := 4, constantValue := 0 }, { name := "LATIN1", type := .byte, accessFlags := 24, slot := 5, constantValue := 0 }, { name := "UTF16", type := .byte, accessFlags := 24, slot := 6, constantValue := 0 }]
  methods := #[k7m0, k7m1, k7m2, k7m3, k7m4, k7m5, k7m6, k7m7]
  instanceTypes := #[(.array .byte), .byte, .int, .boolean]
  staticTypes := #[.long, .boolean, (.array (.object "java/io/ObjectStreamField")), .char, (.object "java/util/Comparator"), .byte, .byte]
  resolved := Array.replicate 1451 none
  statics := some 0 }

def pool8 : Array CpInfo := pool [(3, .class_ 4), (0, u "java/lang/String"), (1, .class_ 8), (1, u "java/lang/Object"), (0, u "<init>"), (0, u "()V"), (0, .methodref 12 13), (0, .class_ 14), (0, .nameAndType 15 16), (0, u "java/lang/StringUTF16"), (0, u "newBytesLength"), (0, u "(I)I"), (3, .integer 1073741823), (23, .fieldref 12 45), (0, .nameAndType 46 47), (0, u "$assertionsDisabled"), (0, u "Z"), (0, .methodref 12 49), (0, .nameAndType 50 51), (0, u "length"), (0, u "([B)I"), (7, .fieldref 12 60), (0, .nameAndType 61 62), (0, u "HI_BYTE_SHIFT"), (0, u "I"), (0, .fieldref 12 64), (0, .nameAndType 65 62), (0, u "LO_BYTE_SHIFT"), (1, .methodref 12 68), (0, .nameAndType 69 70), (0, u "checkIndex"), (0, u "(I[B)V"), (0, .methodref 12 72), (0, .nameAndType 73 74), (0, u "getChar"), (0, u "([BI)C"), (32, .methodref 12 108), (0, .nameAndType 109 110), (0, u "newBytesFor"), (0, u "(I)[B"), (0, .methodref 12 112), (0, .nameAndType 113 114), (0, u "putChar"), (0, u "([BII)V"), (0, .methodref 12 116), (0, .nameAndType 117 118), (0, u "compress"), (0, u "([CI[BII)I"), (0, .methodref 12 120), (0, .nameAndType 121 122), (0, u "toBytes"), (0, u "([CII)[B"), (138, u "coderFromArrayLen"), (0, u "([BI)B"), (106, .class_ 371), (1, u "java/lang/StringUTF16$LinesSpliterator"), (20, u "charAt"), (21, .methodref 3 415), (0, .nameAndType 69 416), (0, u "(II)V"), (13, u "MAX_LENGTH"), (196, .class_ 628), (0, u "java/lang/StringUTF16$CodePointsSpliterator"), (0, .class_ 630), (0, u "java/lang/StringUTF16$CharsSpliterator")] 4

def k8m0 : Method := { name := "<init>", desc := "()V", sig := { parameters := [], returnType := none }, accessFlags := 0, code := none }
def k8c1 : Code := { maxStack := 1, maxLocals := 1, code := jdk_52_method_2_code, exceptionTable := #[], attributes := #[] }
def k8m1 : Method := { name := "newBytesFor", desc := "(I)[B", sig := { parameters := [.int], returnType := some (.array .byte) }, accessFlags := 9, code := some k8c1 }
def k8c2 : Code := { maxStack := 4, maxLocals := 1, code := jdk_52_method_3_code, exceptionTable := #[], attributes := #[] }
def k8m2 : Method := { name := "newBytesLength", desc := "(I)I", sig := { parameters := [.int], returnType := some .int }, accessFlags := 9, code := some k8c2 }
def k8c3 : Code := { maxStack := 4, maxLocals := 3, code := jdk_52_method_4_code, exceptionTable := #[], attributes := #[] }
def k8m3 : Method := { name := "putChar", desc := "([BII)V", sig := { parameters := [(.array .byte), .int, .int], returnType := none }, accessFlags := 8, code := some k8c3 }
def k8c4 : Code := { maxStack := 3, maxLocals := 2, code := jdk_52_method_5_code, exceptionTable := #[], attributes := #[] }
def k8m4 : Method := { name := "getChar", desc := "([BI)C", sig := { parameters := [(.array .byte), .int], returnType := some .char }, accessFlags := 8, code := some k8c4 }
def k8c5 : Code := { maxStack := 2, maxLocals := 1, code := jdk_52_method_6_code, exceptionTable := #[], attributes := #[] }
def k8m5 : Method := { name := "length", desc := "([B)I", sig := { parameters := [(.array .byte)], returnType := some .int }, accessFlags := 9, code := some k8c5 }
def k8c6 : Code := { maxStack := 4, maxLocals := 5, code := jdk_52_method_14_code, exceptionTable := #[], attributes := #[] }
def k8m6 : Method := { name := "toBytes", desc := "([CII)[B", sig := { parameters := [(.array .char), .int, .int], returnType := some (.array .byte) }, accessFlags := 9, code := some k8c6 }
def k8c7 : Code := { maxStack := 2, maxLocals := 2, code := jdk_52_method_15_code, exceptionTable := #[], attributes := #[] }
def k8m7 : Method := { name := "coderFromArrayLen", desc := "([BI)B", sig := { parameters := [(.array .byte), .int], returnType := some .byte }, accessFlags := 8, code := some k8c7 }
def k8c8 : Code := { maxStack := 5, maxLocals := 6, code := jdk_52_method_16_code, exceptionTable := #[], attributes := #[] }
def k8m8 : Method := { name := "compress", desc := "([CII)[B", sig := { parameters := [(.array .char), .int, .int], returnType := some (.array .byte) }, accessFlags := 9, code := some k8c8 }
def k8c9 : Code := { maxStack := 3, maxLocals := 7, code := jdk_52_method_21_code, exceptionTable := #[], attributes := #[] }
def k8m9 : Method := { name := "compress", desc := "([CI[BII)I", sig := { parameters := [(.array .char), .int, (.array .byte), .int, .int], returnType := some .int }, accessFlags := 9, code := some k8c9 }
def k8c10 : Code := { maxStack := 2, maxLocals := 2, code := jdk_52_method_83_code, exceptionTable := #[], attributes := #[] }
def k8m10 : Method := { name := "charAt", desc := "([BI)C", sig := { parameters := [(.array .byte), .int], returnType := some .char }, accessFlags := 9, code := some k8c10 }
def k8c11 : Code := { maxStack := 2, maxLocals := 2, code := jdk_52_method_91_code, exceptionTable := #[], attributes := #[] }
def k8m11 : Method := { name := "checkIndex", desc := "(I[B)V", sig := { parameters := [.int, (.array .byte)], returnType := none }, accessFlags := 9, code := some k8c11 }
/-- java/lang/StringUTF16 -/
def k8 : Class := { plain "java/lang/StringUTF16" (some 0) with
  accessFlags := 48
  interfaces := #[]
  cf := some (fileOf pool8 12 #[.nestMembers #[627, 629, 369]] #[{ accessFlags := 0, nameIndex := 9, descriptorIndex := 10, attributes := #[] }, { accessFlags := 9, nameIndex := 109, descriptorIndex := 110, attributes := #[] }, { accessFlags := 9, nameIndex := 15, descriptorIndex := 16, attributes := #[] }, { accessFlags := 8, nameIndex := 113, descriptorIndex := 114, attributes := #[] }, { accessFlags := 8, nameIndex := 73, descriptorIndex := 74, attributes := #[] }, { accessFlags := 9, nameIndex := 50, descriptorIndex := 51, attributes := #[] }, { accessFlags := 9, nameIndex := 121, descriptorIndex := 122, attributes := #[] }, { accessFlags := 8, nameIndex := 261, descriptorIndex := 262, attributes := #[] }, { accessFlags := 9, nameIndex := 117, descriptorIndex := 122, attributes := #[] }, { accessFlags := 9, nameIndex := 117, descriptorIndex := 118, attributes := #[] }, { accessFlags := 9, nameIndex := 392, descriptorIndex := 74, attributes := #[] }, { accessFlags := 9, nameIndex := 69, descriptorIndex := 70, attributes := #[] }] 48 6 #[] #[{ accessFlags := 26, nameIndex := 61, descriptorIndex := 62, attributes := #[] }, { accessFlags := 26, nameIndex := 65, descriptorIndex := 62, attributes := #[] }, { accessFlags := 24, nameIndex := 430, descriptorIndex := 62, attributes := #[] }, { accessFlags := 4120, nameIndex := 46, descriptorIndex := 47, attributes := #[] }])
  fields := #[{ name := "HI_BYTE_SHIFT", type := .int, accessFlags := 26, slot := 0, constantValue := 0 }, { name := "LO_BYTE_SHIFT", type := .int, accessFlags := 26, slot := 1, constantValue := 0 }, { name := "MAX_LENGTH", type := .int, accessFlags := 24, slot := 2, constantValue := 0 }, { name := "$assertionsDisabled", type := .boolean, accessFlags := 4120, slot := 3, constantValue := 0 }]
  methods := #[k8m0, k8m1, k8m2, k8m3, k8m4, k8m5, k8m6, k8m7, k8m8, k8m9, k8m10, k8m11]
  instanceTypes := #[]
  staticTypes := #[.int, .int, .int, .boolean]
  resolved := Array.replicate 635 none
  statics := some 1 }

def pool9 : Array CpInfo := pool [(2, .class_ 4), (1, u "java/lang/Object"), (0, u "<init>"), (0, u "()V"), (0, .class_ 8), (0, u "java/lang/Record")] 13

def k9m0 : Method := { name := "<init>", desc := "()V", sig := { parameters := [], returnType := none }, accessFlags := 4, code := none }
/-- java/lang/Record -/
def k9 : Class := { plain "java/lang/Record" (some 0) with
  accessFlags := 1057
  interfaces := #[]
  cf := some (fileOf pool9 7 #[] #[{ accessFlags := 4, nameIndex := 5, descriptorIndex := 6, attributes := #[] }] 1057 2 #[] #[])
  fields := #[]
  methods := #[k9m0]
  instanceTypes := #[]
  staticTypes := #[]
  resolved := Array.replicate 22 none
  statics := none }

def pool10 : Array CpInfo := pool [(2, .class_ 4), (1, u "java/lang/Record"), (3, u "name"), (7, .class_ 18), (1, u "java/lang/String"), (9, .methodref 16 29), (0, .nameAndType 30 31), (0, u "length"), (0, u "()I"), (4, .class_ 37), (0, u "com/example/grant3/grant3/Identifier"), (6, u "Ljava/lang/String;"), (2, .methodref 16 48), (0, .nameAndType 49 50), (0, u "charAt"), (0, u "(I)C"), (64, u "endOfQuoted"), (0, u "(Ljava/lang/String;I)I"), (30, u "MAX_LENGTH"), (0, u "I"), (2, u "QUOTE"), (0, u "C")] 51

def k10c0 : Code := { maxStack := 3, maxLocals := 3, code := prog_31_method_6_code, exceptionTable := #[], attributes := #[] }
def k10m0 : Method := { name := "endOfQuoted", desc := "(Ljava/lang/String;I)I", sig := { parameters := [(.object "java/lang/String"), .int], returnType := some .int }, accessFlags := 8, code := some k10c0 }
/-- com/example/grant3/grant3/Identifier -/
def k10 : Class := { plain "com/example/grant3/grant3/Identifier" (some 9) with
  accessFlags := 49
  interfaces := #[]
  cf := some (fileOf pool10 36 #[] #[{ accessFlags := 8, nameIndex := 115, descriptorIndex := 116, attributes := #[] }] 49 2 #[] #[{ accessFlags := 18, nameIndex := 8, descriptorIndex := 44, attributes := #[] }, { accessFlags := 25, nameIndex := 147, descriptorIndex := 148, attributes := #[] }, { accessFlags := 26, nameIndex := 151, descriptorIndex := 152, attributes := #[] }])
  fields := #[{ name := "name", type := (.object "java/lang/String"), accessFlags := 18, slot := 0, constantValue := 0 }, { name := "MAX_LENGTH", type := .int, accessFlags := 25, slot := 0, constantValue := 0 }, { name := "QUOTE", type := .char, accessFlags := 26, slot := 1, constantValue := 0 }]
  methods := #[k10m0]
  instanceTypes := #[(.object "java/lang/String")]
  staticTypes := #[.int, .char]
  resolved := Array.replicate 204 none
  statics := none }

def pool11 : Array CpInfo := pool [(2, .class_ 4), (1, u "java/lang/Object"), (0, u "<init>"), (0, u "()V"), (17, .class_ 26), (1, u "jdk/internal/util/Preconditions"), (6, u "checkIndex"), (21, .class_ 56), (0, u "jdk/internal/util/Preconditions$4"), (57, .class_ 115), (0, u "jdk/internal/util/Preconditions$1"), (7, u "SIOOBE_FORMATTER"), (0, u "Ljava/util/function/BiFunction;"), (0, .class_ 126), (0, u "jdk/internal/util/Preconditions$2"), (3, u "AIOOBE_FORMATTER"), (0, .class_ 132), (0, u "jdk/internal/util/Preconditions$3"), (3, u "IOOBE_FORMATTER"), (41, u "(IILjava/util/function/BiFunction;)I")] 15

def k11m0 : Method := { name := "<init>", desc := "()V", sig := { parameters := [], returnType := none }, accessFlags := 1, code := none }
def k11c1 : Code := { maxStack := 3, maxLocals := 3, code := jdk_41_method_11_code, exceptionTable := #[], attributes := #[] }
def k11m1 : Method := { name := "checkIndex", desc := "(IILjava/util/function/BiFunction;)I", sig := { parameters := [.int, .int, (.object "java/util/function/BiFunction")], returnType := some .int }, accessFlags := 9, code := some k11c1 }
/-- jdk/internal/util/Preconditions -/
def k11 : Class := { plain "jdk/internal/util/Preconditions" (some 0) with
  accessFlags := 33
  interfaces := #[]
  cf := some (fileOf pool11 24 #[.nestMembers #[55, 131, 125, 114]] #[{ accessFlags := 1, nameIndex := 5, descriptorIndex := 6, attributes := #[] }, { accessFlags := 9, nameIndex := 33, descriptorIndex := 178, attributes := #[] }] 33 2 #[] #[{ accessFlags := 25, nameIndex := 123, descriptorIndex := 124, attributes := #[] }, { accessFlags := 25, nameIndex := 130, descriptorIndex := 124, attributes := #[] }, { accessFlags := 25, nameIndex := 136, descriptorIndex := 124, attributes := #[] }])
  fields := #[{ name := "SIOOBE_FORMATTER", type := (.object "java/util/function/BiFunction"), accessFlags := 25, slot := 0, constantValue := 0 }, { name := "AIOOBE_FORMATTER", type := (.object "java/util/function/BiFunction"), accessFlags := 25, slot := 1, constantValue := 0 }, { name := "IOOBE_FORMATTER", type := (.object "java/util/function/BiFunction"), accessFlags := 25, slot := 2, constantValue := 0 }]
  methods := #[k11m0, k11m1]
  instanceTypes := #[]
  staticTypes := #[(.object "java/util/function/BiFunction"), (.object "java/util/function/BiFunction"), (.object "java/util/function/BiFunction")]
  resolved := Array.replicate 194 none
  statics := some 2 }

def pool12 : Array CpInfo := pool [(1, .class_ 2), (0, u "java/lang/String"), (1, .class_ 6), (1, u "java/lang/Object"), (0, u "<init>"), (0, u "()V"), (0, .methodref 1 10), (0, .nameAndType 11 12), (0, u "checkIndex"), (0, u "(II)V"), (1, .class_ 16), (1, u "java/lang/StringLatin1"), (36, u "([BI)C"), (67, u "$assertionsDisabled"), (0, u "Z"), (98, .class_ 223), (1, u "java/lang/StringLatin1$LinesSpliterator"), (28, u "charAt"), (137, .class_ 391), (0, u "java/lang/StringLatin1$CharsSpliterator")] 3

def k12m0 : Method := { name := "<init>", desc := "()V", sig := { parameters := [], returnType := none }, accessFlags := 0, code := none }
def k12c1 : Code := { maxStack := 2, maxLocals := 2, code := jdk_43_method_2_code, exceptionTable := #[], attributes := #[] }
def k12m1 : Method := { name := "charAt", desc := "([BI)C", sig := { parameters := [(.array .byte), .int], returnType := some .char }, accessFlags := 9, code := some k12c1 }
/-- java/lang/StringLatin1 -/
def k12 : Class := { plain "java/lang/StringLatin1" (some 0) with
  accessFlags := 48
  interfaces := #[]
  cf := some (fileOf pool12 14 #[.nestMembers #[390, 221]] #[{ accessFlags := 0, nameIndex := 7, descriptorIndex := 8, attributes := #[] }, { accessFlags := 9, nameIndex := 252, descriptorIndex := 53, attributes := #[] }] 48 4 #[] #[{ accessFlags := 4120, nameIndex := 121, descriptorIndex := 122, attributes := #[] }])
  fields := #[{ name := "$assertionsDisabled", type := .boolean, accessFlags := 4120, slot := 0, constantValue := 0 }]
  methods := #[k12m0, k12m1]
  instanceTypes := #[]
  staticTypes := #[.boolean]
  resolved := Array.replicate 395 none
  statics := none }

def pool13 : Array CpInfo := pool [(9, u "<init>"), (6, .class_ 18), (1, u "java/lang/Object"), (0, u "()V"), (1, .class_ 23), (1, u "jdk/internal/util/ArraysSupport"), (0, u "LOG2_ARRAY_LONG_INDEX_SCALE"), (0, u "I"), (2, u "U"), (0, u "Ljdk/internal/misc/Unsafe;"), (8, u "BIG_ENDIAN"), (0, u "Z"), (8, u "LOG2_BYTE_BIT_SIZE"), (4, u "LOG2_ARRAY_INT_INDEX_SCALE"), (54, u "JLA"), (0, u "Ljdk/internal/access/JavaLangAccess;"), (11, u "LOG2_ARRAY_BOOLEAN_INDEX_SCALE"), (9, u "LOG2_ARRAY_BYTE_INDEX_SCALE"), (5, u "LOG2_ARRAY_CHAR_INDEX_SCALE"), (5, u "LOG2_ARRAY_SHORT_INDEX_SCALE"), (18, u "LOG2_ARRAY_FLOAT_INDEX_SCALE"), (24, u "LOG2_ARRAY_DOUBLE_INDEX_SCALE"), (89, u "T_BOOLEAN"), (2, u "T_CHAR"), (1, u "T_FLOAT"), (1, u "T_DOUBLE"), (1, u "T_BYTE"), (1, u "T_SHORT"), (1, u "T_INT"), (1, u "T_LONG"), (1, u "SOFT_MAX_ARRAY_LENGTH")] 83

def k13m0 : Method := { name := "<init>", desc := "()V", sig := { parameters := [], returnType := none }, accessFlags := 2, code := none }
/-- jdk/internal/util/ArraysSupport -/
def k13 : Class := { plain "jdk/internal/util/ArraysSupport" (some 0) with
  accessFlags := 33
  interfaces := #[]
  cf := some (fileOf pool13 21 #[] #[{ accessFlags := 2, nameIndex := 9, descriptorIndex := 19, attributes := #[] }] 33 16 #[] #[{ accessFlags := 24, nameIndex := 28, descriptorIndex := 29, attributes := #[] }, { accessFlags := 26, nameIndex := 38, descriptorIndex := 39, attributes := #[] }, { accessFlags := 25, nameIndex := 121, descriptorIndex := 25, attributes := #[] }, { accessFlags := 25, nameIndex := 131, descriptorIndex := 25, attributes := #[] }, { accessFlags := 25, nameIndex := 137, descriptorIndex := 25, attributes := #[] }, { accessFlags := 25, nameIndex := 143, descriptorIndex := 25, attributes := #[] }, { accessFlags := 25, nameIndex := 53, descriptorIndex := 25, attributes := #[] }, { accessFlags := 25, nameIndex := 24, descriptorIndex := 25, attributes := #[] }, { accessFlags := 25, nameIndex := 162, descriptorIndex := 25, attributes := #[] }, { accessFlags := 25, nameIndex := 187, descriptorIndex := 25, attributes := #[] }, { accessFlags := 26, nameIndex := 48, descriptorIndex := 25, attributes := #[] }, { accessFlags := 25, nameIndex := 277, descriptorIndex := 25, attributes := #[] }, { accessFlags := 25, nameIndex := 280, descriptorIndex := 25, attributes := #[] }, { accessFlags := 25, nameIndex := 282, descriptorIndex := 25, attributes := #[] }, { accessFlags := 25, nameIndex := 284, descriptorIndex := 25, attributes := #[] }, { accessFlags := 25, nameIndex := 286, descriptorIndex := 25, attributes := #[] }, { accessFlags := 25, nameIndex := 288, descriptorIndex := 25, attributes := #[] }, { accessFlags := 25, nameIndex := 290, descriptorIndex := 25, attributes := #[] }, { accessFlags := 25, nameIndex := 292, descriptorIndex := 25, attributes := #[] }, { accessFlags := 26, nameIndex := 108, descriptorIndex := 109, attributes := #[] }, { accessFlags := 25, nameIndex := 294, descriptorIndex := 25, attributes := #[] }])
  fields := #[{ name := "U", type := (.object "jdk/internal/misc/Unsafe"), accessFlags := 24, slot := 0, constantValue := 0 }, { name := "BIG_ENDIAN", type := .boolean, accessFlags := 26, slot := 1, constantValue := 0 }, { name := "LOG2_ARRAY_BOOLEAN_INDEX_SCALE", type := .int, accessFlags := 25, slot := 2, constantValue := 0 }, { name := "LOG2_ARRAY_BYTE_INDEX_SCALE", type := .int, accessFlags := 25, slot := 3, constantValue := 0 }, { name := "LOG2_ARRAY_CHAR_INDEX_SCALE", type := .int, accessFlags := 25, slot := 4, constantValue := 0 }, { name := "LOG2_ARRAY_SHORT_INDEX_SCALE", type := .int, accessFlags := 25, slot := 5, constantValue := 0 }, { name := "LOG2_ARRAY_INT_INDEX_SCALE", type := .int, accessFlags := 25, slot := 6, constantValue := 0 }, { name := "LOG2_ARRAY_LONG_INDEX_SCALE", type := .int, accessFlags := 25, slot := 7, constantValue := 0 }, { name := "LOG2_ARRAY_FLOAT_INDEX_SCALE", type := .int, accessFlags := 25, slot := 8, constantValue := 0 }, { name := "LOG2_ARRAY_DOUBLE_INDEX_SCALE", type := .int, accessFlags := 25, slot := 9, constantValue := 0 }, { name := "LOG2_BYTE_BIT_SIZE", type := .int, accessFlags := 26, slot := 10, constantValue := 0 }, { name := "T_BOOLEAN", type := .int, accessFlags := 25, slot := 11, constantValue := 0 }, { name := "T_CHAR", type := .int, accessFlags := 25, slot := 12, constantValue := 0 }, { name := "T_FLOAT", type := .int, accessFlags := 25, slot := 13, constantValue := 0 }, { name := "T_DOUBLE", type := .int, accessFlags := 25, slot := 14, constantValue := 0 }, { name := "T_BYTE", type := .int, accessFlags := 25, slot := 15, constantValue := 0 }, { name := "T_SHORT", type := .int, accessFlags := 25, slot := 16, constantValue := 0 }, { name := "T_INT", type := .int, accessFlags := 25, slot := 17, constantValue := 0 }, { name := "T_LONG", type := .int, accessFlags := 25, slot := 18, constantValue := 0 }, { name := "JLA", type := (.object "jdk/internal/access/JavaLangAccess"), accessFlags := 26, slot := 19, constantValue := 0 }, { name := "SOFT_MAX_ARRAY_LENGTH", type := .int, accessFlags := 25, slot := 20, constantValue := 0 }]
  methods := #[k13m0]
  instanceTypes := #[]
  staticTypes := #[(.object "jdk/internal/misc/Unsafe"), .boolean, .int, .int, .int, .int, .int, .int, .int, .int, .int, .int, .int, .int, .int, .int, .int, .int, .int, (.object "jdk/internal/access/JavaLangAccess"), .int]
  resolved := Array.replicate 378 none
  statics := none }

def pool14 : Array CpInfo := pool [(1, u "java/lang/Cloneable"), (0, .class_ 1), (0, u "java/lang/Object"), (0, .class_ 3)] 3

/-- java/lang/Cloneable -/
def k14 : Class := { plain "java/lang/Cloneable" (some 0) with
  accessFlags := 1537
  interfaces := #[]
  cf := some (fileOf pool14 2 #[] #[] 1537 4 #[] #[])
  fields := #[]
  methods := #[]
  instanceTypes := #[]
  staticTypes := #[]
  resolved := Array.replicate 8 none
  statics := none }

/-- the primitive byte -/
def k15 : Class := { plain "byte" none with kind := .primitive 'B', accessFlags := 0x411 }
/-- [B -/
def k16 : Class := { plain "[B" (some 0) with kind := .array 15 .byte, interfaces := #[14, 2], accessFlags := 1041 }

/-- the primitive char -/
def k17 : Class := { plain "char" none with kind := .primitive 'C', accessFlags := 0x411 }
/-- [C -/
def k18 : Class := { plain "[C" (some 0) with kind := .array 17 .char, interfaces := #[14, 2], accessFlags := 1041 }

/-- the primitive int -/
def k19 : Class := { plain "int" none with kind := .primitive 'I', accessFlags := 0x411 }
/-- [I -/
def k20 : Class := { plain "[I" (some 0) with kind := .array 19 .int, interfaces := #[14, 2], accessFlags := 1041 }

def heap : Heap := #[{ cls := 7, slots := #[.long 0, .int 1, .null, .int 0, .null, .int 0, .int 0], vm := .statics 7 },
  { cls := 8, slots := #[.int 0, .int 8, .int 0, .int 1], vm := .statics 8 },
  { cls := 11, slots := #[.null, .null, .null], vm := .statics 11 }]
def classes : Array Class := #[k0, k1, k2, k3, k4, k5, k6, k7, k8, k9, k10, k11, k12, k13, k14, k15, k16, k17, k18, k19, k20]
def interned : List (Array UInt16 × Addr) := []
def slotsUsed : Nat := 14
def theMethod : MethodId := ⟨1, 2⟩
def args0 : Array Value := #[.int 1, .long 5, .long 7]
def aboutOver (below : List Frame) : State where
  vm := { classes := classes, interned := interned.toArray }
  heap := heap
  slotsUsed := slotsUsed
  threads := #[{ frames := .invoking theMethod args0 :: below }]
def below0 : List Frame := [.native { method := ⟨0, 0⟩, args := #[] }]
def about1 : State := aboutOver below0
def p0 : Program := .bare "" "" ""
def e0 : Env := launch0.env 0 0 0
theorem w_frames : about1.frames = Frame.invoking theMethod args0 :: below0 := rfl
set_option maxRecDepth 65536 in
theorem w_args : argsFit about1.vm theMethod args0 = true := by decide +kernel
set_option maxRecDepth 65536 in
theorem w_heap : heapFits about1 = true := by decide +kernel
set_option maxRecDepth 65536 in
theorem w_runnable : about1.curStatus? = some .runnable := by decide +kernel
set_option maxRecDepth 65536 in
theorem w_alone : about1.alone = true := by decide +kernel
set_option maxRecDepth 65536 in
theorem w_named : about1.methodNamed? x = some theMethod := by decide +kernel
set_option maxRecDepth 65536 in
theorem w_hears : about1.hears theMethod below0 = true := by decide +kernel
set_option maxRecDepth 65536 in
theorem w_ripe : about1.ripe theMethod args0 below0 = true := by decide +kernel
theorem w_running : about1.status = .running := rfl
set_option maxRecDepth 65536 in
theorem w_room : about1.hasRoom e0.platform room_1 = true :=
  launch0.hasRoom_least _ room_1 (by decide +kernel) (by decide +kernel) (by decide +kernel) (by decide +kernel) (by decide +kernel) (by decide +kernel)
theorem allAtoms_all (ts : List Jvm.Cond) (a : Array Jvm.Value) (st : Jvm.State) : (allAtoms ts).before a st = ts.all (fun c => c.before a st) := by
  induction ts with
  | nil => rfl
  | cons c t ih =>
    show (Jvm.Cond.and c (allAtoms t)).before a st = _
    rw [Jvm.Cond.before_and, ih, List.all_cons]
def words1 : List Jvm.Cond := Jvm.Cond.code x code maxLocals ret :: tables_1
/-- a 'code' word, met by the world's own term for the bytes: nothing is compared byte by byte -/
theorem code_word {y : MethodName} {bytes : ByteArray} {mx : Nat} {rt : Option FieldType} {a : Array Value} {s : State} {m : MethodId} {meth : Method} {c : Code} (h1 : s.methodNamed? y = some m) (h2 : s.vm.method? m = some meth) (h3 : meth.code = some c) (h4 : c.code = bytes)
    (h5 : (c.maxLocals == mx && c.exceptionTable.isEmpty && decide (c.maxStack ≤ mostOperands) && decide (meth.sig.returnType = rt) && !meth.locks && decide (parseMethodDescriptor y.desc = some meth.sig)) = true) : (Jvm.Cond.code y bytes mx rt).before a s = true := by
  simp only [Bool.and_eq_true, beq_iff_eq, Bool.not_eq_true', decide_eq_true_eq] at h5
  obtain ⟨⟨⟨⟨⟨g1, g2⟩, g3⟩, g4⟩, g5⟩, g6⟩ := h5
  simp [Cond.before, Cond.holds, Cond.value, h1, h2, h3, h4, g1, g2, g3, g4, g5, g6]
def isCode : Jvm.Cond → Bool
  | .code _ _ _ _ => true
  | _ => false
theorem all_split {L : List Jvm.Cond} {P : Jvm.Cond → Bool} (h1 : L.all (fun c => isCode c || P c) = true) (h2 : ∀ c ∈ L.filter isCode, P c = true) : L.all P = true := by
  refine List.all_eq_true.mpr fun c hc => ?_
  have h := List.all_eq_true.mp h1 c hc
  rcases Bool.eq_false_or_eq_true (isCode c) with hi | hi
  · exact h2 c (List.mem_filter.mpr ⟨hc, hi⟩)
  · simpa [hi] using h
set_option maxRecDepth 65536 in
theorem w_c0 : (Jvm.Cond.code x code maxLocals ret).before args0 about1 = true := code_word (m := ⟨1, 2⟩) (meth := k1m2) (c := k1c2) (by decide +kernel) rfl rfl rfl (by decide +kernel)
set_option maxRecDepth 65536 in
theorem w_c1 : (Jvm.Cond.code ({ cls := "com/example/grant3/grant3/IdentifierEndOfQuotedPinLaw", name := "ch", desc := "(JI)C" } : Jvm.MethodName) method_2_code (5 : Nat) (Option.some Jvm.ClassFile.FieldType.char)).before args0 about1 = true := code_word (m := ⟨1, 1⟩) (meth := k1m1) (c := k1c1) (by decide +kernel) rfl rfl rfl (by decide +kernel)
set_option maxRecDepth 65536 in
theorem w_c2 : (Jvm.Cond.code ({ cls := "java/lang/String", name := "<init>", desc := "([C)V" } : Jvm.MethodName) jdk_42_method_3_code (2 : Nat) (Option.none : Option Jvm.ClassFile.FieldType)).before args0 about1 = true := code_word (m := ⟨7, 1⟩) (meth := k7m1) (c := k7c1) (by decide +kernel) rfl rfl rfl (by decide +kernel)
set_option maxRecDepth 65536 in
theorem w_c3 : (Jvm.Cond.code ({ cls := "java/lang/String", name := "<init>", desc := "([CIILjava/lang/Void;)V" } : Jvm.MethodName) jdk_42_method_149_code (6 : Nat) (Option.none : Option Jvm.ClassFile.FieldType)).before args0 about1 = true := code_word (m := ⟨7, 4⟩) (meth := k7m4) (c := k7c4) (by decide +kernel) rfl rfl rfl (by decide +kernel)
set_option maxRecDepth 65536 in
theorem w_c4 : (Jvm.Cond.code ({ cls := "java/lang/Object", name := "<init>", desc := "()V" } : Jvm.MethodName) object_method_1_code (1 : Nat) (Option.none : Option Jvm.ClassFile.FieldType)).before args0 about1 = true := code_word (m := ⟨0, 0⟩) (meth := k0m0) (c := k0c0) (by decide +kernel) rfl rfl rfl (by decide +kernel)
set_option maxRecDepth 65536 in
theorem w_c5 : (Jvm.Cond.code ({ cls := "java/lang/StringUTF16", name := "compress", desc := "([CII)[B" } : Jvm.MethodName) jdk_52_method_16_code (6 : Nat) (Option.some (Jvm.ClassFile.FieldType.array Jvm.ClassFile.FieldType.byte))).before args0 about1 = true := code_word (m := ⟨8, 8⟩) (meth := k8m8) (c := k8c8) (by decide +kernel) rfl rfl rfl (by decide +kernel)
set_option maxRecDepth 65536 in
theorem w_c6 : (Jvm.Cond.code ({ cls := "java/lang/StringUTF16", name := "compress", desc := "([CI[BII)I" } : Jvm.MethodName) jdk_52_method_21_code (7 : Nat) (Option.some Jvm.ClassFile.FieldType.int)).before args0 about1 = true := code_word (m := ⟨8, 9⟩) (meth := k8m9) (c := k8c9) (by decide +kernel) rfl rfl rfl (by decide +kernel)
set_option maxRecDepth 65536 in
theorem w_c7 : (Jvm.Cond.code ({ cls := "java/lang/StringUTF16", name := "toBytes", desc := "([CII)[B" } : Jvm.MethodName) jdk_52_method_14_code (5 : Nat) (Option.some (Jvm.ClassFile.FieldType.array Jvm.ClassFile.FieldType.byte))).before args0 about1 = true := code_word (m := ⟨8, 6⟩) (meth := k8m6) (c := k8c6) (by decide +kernel) rfl rfl rfl (by decide +kernel)
set_option maxRecDepth 65536 in
theorem w_c8 : (Jvm.Cond.code ({ cls := "java/lang/StringUTF16", name := "newBytesFor", desc := "(I)[B" } : Jvm.MethodName) jdk_52_method_2_code (1 : Nat) (Option.some (Jvm.ClassFile.FieldType.array Jvm.ClassFile.FieldType.byte))).before args0 about1 = true := code_word (m := ⟨8, 1⟩) (meth := k8m1) (c := k8c1) (by decide +kernel) rfl rfl rfl (by decide +kernel)
set_option maxRecDepth 65536 in
theorem w_c9 : (Jvm.Cond.code ({ cls := "java/lang/StringUTF16", name := "newBytesLength", desc := "(I)I" } : Jvm.MethodName) jdk_52_method_3_code (1 : Nat) (Option.some Jvm.ClassFile.FieldType.int)).before args0 about1 = true := code_word (m := ⟨8, 2⟩) (meth := k8m2) (c := k8c2) (by decide +kernel) rfl rfl rfl (by decide +kernel)
set_option maxRecDepth 65536 in
theorem w_c10 : (Jvm.Cond.code ({ cls := "java/lang/StringUTF16", name := "putChar", desc := "([BII)V" } : Jvm.MethodName) jdk_52_method_4_code (3 : Nat) (Option.none : Option Jvm.ClassFile.FieldType)).before args0 about1 = true := code_word (m := ⟨8, 3⟩) (meth := k8m3) (c := k8c3) (by decide +kernel) rfl rfl rfl (by decide +kernel)
set_option maxRecDepth 65536 in
theorem w_c11 : (Jvm.Cond.code ({ cls := "java/lang/StringUTF16", name := "getChar", desc := "([BI)C" } : Jvm.MethodName) jdk_52_method_5_code (2 : Nat) (Option.some Jvm.ClassFile.FieldType.char)).before args0 about1 = true := code_word (m := ⟨8, 4⟩) (meth := k8m4) (c := k8c4) (by decide +kernel) rfl rfl rfl (by decide +kernel)
set_option maxRecDepth 65536 in
theorem w_c12 : (Jvm.Cond.code ({ cls := "java/lang/StringUTF16", name := "coderFromArrayLen", desc := "([BI)B" } : Jvm.MethodName) jdk_52_method_15_code (2 : Nat) (Option.some Jvm.ClassFile.FieldType.byte)).before args0 about1 = true := code_word (m := ⟨8, 7⟩) (meth := k8m7) (c := k8c7) (by decide +kernel) rfl rfl rfl (by decide +kernel)
set_option maxRecDepth 65536 in
theorem w_c13 : (Jvm.Cond.code ({ cls := "com/example/grant3/grant3/Identifier", name := "endOfQuoted", desc := "(Ljava/lang/String;I)I" } : Jvm.MethodName) prog_31_method_6_code (3 : Nat) (Option.some Jvm.ClassFile.FieldType.int)).before args0 about1 = true := code_word (m := ⟨10, 0⟩) (meth := k10m0) (c := k10c0) (by decide +kernel) rfl rfl rfl (by decide +kernel)
set_option maxRecDepth 65536 in
theorem w_c14 : (Jvm.Cond.code ({ cls := "java/lang/String", name := "length", desc := "()I" } : Jvm.MethodName) jdk_42_method_54_code (1 : Nat) (Option.some Jvm.ClassFile.FieldType.int)).before args0 about1 = true := code_word (m := ⟨7, 2⟩) (meth := k7m2) (c := k7c2) (by decide +kernel) rfl rfl rfl (by decide +kernel)
set_option maxRecDepth 65536 in
theorem w_c15 : (Jvm.Cond.code ({ cls := "java/lang/String", name := "coder", desc := "()B" } : Jvm.MethodName) jdk_42_method_152_code (1 : Nat) (Option.some Jvm.ClassFile.FieldType.byte)).before args0 about1 = true := code_word (m := ⟨7, 5⟩) (meth := k7m5) (c := k7c5) (by decide +kernel) rfl rfl rfl (by decide +kernel)
set_option maxRecDepth 65536 in
theorem w_c16 : (Jvm.Cond.code ({ cls := "java/lang/String", name := "charAt", desc := "(I)C" } : Jvm.MethodName) jdk_42_method_56_code (2 : Nat) (Option.some Jvm.ClassFile.FieldType.char)).before args0 about1 = true := code_word (m := ⟨7, 3⟩) (meth := k7m3) (c := k7c3) (by decide +kernel) rfl rfl rfl (by decide +kernel)
set_option maxRecDepth 65536 in
theorem w_c17 : (Jvm.Cond.code ({ cls := "java/lang/String", name := "isLatin1", desc := "()Z" } : Jvm.MethodName) jdk_42_method_154_code (1 : Nat) (Option.some Jvm.ClassFile.FieldType.boolean)).before args0 about1 = true := code_word (m := ⟨7, 6⟩) (meth := k7m6) (c := k7c6) (by decide +kernel) rfl rfl rfl (by decide +kernel)
set_option maxRecDepth 65536 in
theorem w_c18 : (Jvm.Cond.code ({ cls := "java/lang/StringUTF16", name := "charAt", desc := "([BI)C" } : Jvm.MethodName) jdk_52_method_83_code (2 : Nat) (Option.some Jvm.ClassFile.FieldType.char)).before args0 about1 = true := code_word (m := ⟨8, 10⟩) (meth := k8m10) (c := k8c10) (by decide +kernel) rfl rfl rfl (by decide +kernel)
set_option maxRecDepth 65536 in
theorem w_c19 : (Jvm.Cond.code ({ cls := "java/lang/StringUTF16", name := "checkIndex", desc := "(I[B)V" } : Jvm.MethodName) jdk_52_method_91_code (2 : Nat) (Option.none : Option Jvm.ClassFile.FieldType)).before args0 about1 = true := code_word (m := ⟨8, 11⟩) (meth := k8m11) (c := k8c11) (by decide +kernel) rfl rfl rfl (by decide +kernel)
set_option maxRecDepth 65536 in
theorem w_c20 : (Jvm.Cond.code ({ cls := "java/lang/StringUTF16", name := "length", desc := "([B)I" } : Jvm.MethodName) jdk_52_method_6_code (1 : Nat) (Option.some Jvm.ClassFile.FieldType.int)).before args0 about1 = true := code_word (m := ⟨8, 5⟩) (meth := k8m5) (c := k8c5) (by decide +kernel) rfl rfl rfl (by decide +kernel)
set_option maxRecDepth 65536 in
theorem w_c21 : (Jvm.Cond.code ({ cls := "java/lang/String", name := "checkIndex", desc := "(II)V" } : Jvm.MethodName) jdk_42_method_155_code (2 : Nat) (Option.none : Option Jvm.ClassFile.FieldType)).before args0 about1 = true := code_word (m := ⟨7, 7⟩) (meth := k7m7) (c := k7c7) (by decide +kernel) rfl rfl rfl (by decide +kernel)
set_option maxRecDepth 65536 in
theorem w_c22 : (Jvm.Cond.code ({ cls := "jdk/internal/util/Preconditions", name := "checkIndex", desc := "(IILjava/util/function/BiFunction;)I" } : Jvm.MethodName) jdk_41_method_11_code (3 : Nat) (Option.some Jvm.ClassFile.FieldType.int)).before args0 about1 = true := code_word (m := ⟨11, 1⟩) (meth := k11m1) (c := k11c1) (by decide +kernel) rfl rfl rfl (by decide +kernel)
set_option maxRecDepth 65536 in
theorem w_c23 : (Jvm.Cond.code ({ cls := "java/lang/StringLatin1", name := "charAt", desc := "([BI)C" } : Jvm.MethodName) jdk_43_method_2_code (2 : Nat) (Option.some Jvm.ClassFile.FieldType.char)).before args0 about1 = true := code_word (m := ⟨12, 1⟩) (meth := k12m1) (c := k12c1) (by decide +kernel) rfl rfl rfl (by decide +kernel)
def codes1 : List Jvm.Cond := [Jvm.Cond.code x code maxLocals ret, Jvm.Cond.code ({ cls := "com/example/grant3/grant3/IdentifierEndOfQuotedPinLaw", name := "ch", desc := "(JI)C" } : Jvm.MethodName) method_2_code (5 : Nat) (Option.some Jvm.ClassFile.FieldType.char), Jvm.Cond.code ({ cls := "java/lang/String", name := "<init>", desc := "([C)V" } : Jvm.MethodName) jdk_42_method_3_code (2 : Nat) (Option.none : Option Jvm.ClassFile.FieldType), Jvm.Cond.code ({ cls := "java/lang/String", name := "<init>", desc := "([CIILjava/lang/Void;)V" } : Jvm.MethodName) jdk_42_method_149_code (6 : Nat) (Option.none : Option Jvm.ClassFile.FieldType), Jvm.Cond.code ({ cls := "java/lang/Object", name := "<init>", desc := "()V" } : Jvm.MethodName) object_method_1_code (1 : Nat) (Option.none : Option Jvm.ClassFile.FieldType), Jvm.Cond.code ({ cls := "java/lang/StringUTF16", name := "compress", desc := "([CII)[B" } : Jvm.MethodName) jdk_52_method_16_code (6 : Nat) (Option.some (Jvm.ClassFile.FieldType.array Jvm.ClassFile.FieldType.byte)), Jvm.Cond.code ({ cls := "java/lang/StringUTF16", name := "compress", desc := "([CI[BII)I" } : Jvm.MethodName) jdk_52_method_21_code (7 : Nat) (Option.some Jvm.ClassFile.FieldType.int), Jvm.Cond.code ({ cls := "java/lang/StringUTF16", name := "toBytes", desc := "([CII)[B" } : Jvm.MethodName) jdk_52_method_14_code (5 : Nat) (Option.some (Jvm.ClassFile.FieldType.array Jvm.ClassFile.FieldType.byte)), Jvm.Cond.code ({ cls := "java/lang/StringUTF16", name := "newBytesFor", desc := "(I)[B" } : Jvm.MethodName) jdk_52_method_2_code (1 : Nat) (Option.some (Jvm.ClassFile.FieldType.array Jvm.ClassFile.FieldType.byte)), Jvm.Cond.code ({ cls := "java/lang/StringUTF16", name := "newBytesLength", desc := "(I)I" } : Jvm.MethodName) jdk_52_method_3_code (1 : Nat) (Option.some Jvm.ClassFile.FieldType.int), Jvm.Cond.code ({ cls := "java/lang/StringUTF16", name := "putChar", desc := "([BII)V" } : Jvm.MethodName) jdk_52_method_4_code (3 : Nat) (Option.none : Option Jvm.ClassFile.FieldType), Jvm.Cond.code ({ cls := "java/lang/StringUTF16", name := "getChar", desc := "([BI)C" } : Jvm.MethodName) jdk_52_method_5_code (2 : Nat) (Option.some Jvm.ClassFile.FieldType.char), Jvm.Cond.code ({ cls := "java/lang/StringUTF16", name := "coderFromArrayLen", desc := "([BI)B" } : Jvm.MethodName) jdk_52_method_15_code (2 : Nat) (Option.some Jvm.ClassFile.FieldType.byte), Jvm.Cond.code ({ cls := "com/example/grant3/grant3/Identifier", name := "endOfQuoted", desc := "(Ljava/lang/String;I)I" } : Jvm.MethodName) prog_31_method_6_code (3 : Nat) (Option.some Jvm.ClassFile.FieldType.int), Jvm.Cond.code ({ cls := "java/lang/String", name := "length", desc := "()I" } : Jvm.MethodName) jdk_42_method_54_code (1 : Nat) (Option.some Jvm.ClassFile.FieldType.int), Jvm.Cond.code ({ cls := "java/lang/String", name := "coder", desc := "()B" } : Jvm.MethodName) jdk_42_method_152_code (1 : Nat) (Option.some Jvm.ClassFile.FieldType.byte), Jvm.Cond.code ({ cls := "java/lang/String", name := "charAt", desc := "(I)C" } : Jvm.MethodName) jdk_42_method_56_code (2 : Nat) (Option.some Jvm.ClassFile.FieldType.char), Jvm.Cond.code ({ cls := "java/lang/String", name := "isLatin1", desc := "()Z" } : Jvm.MethodName) jdk_42_method_154_code (1 : Nat) (Option.some Jvm.ClassFile.FieldType.boolean), Jvm.Cond.code ({ cls := "java/lang/StringUTF16", name := "charAt", desc := "([BI)C" } : Jvm.MethodName) jdk_52_method_83_code (2 : Nat) (Option.some Jvm.ClassFile.FieldType.char), Jvm.Cond.code ({ cls := "java/lang/StringUTF16", name := "checkIndex", desc := "(I[B)V" } : Jvm.MethodName) jdk_52_method_91_code (2 : Nat) (Option.none : Option Jvm.ClassFile.FieldType), Jvm.Cond.code ({ cls := "java/lang/StringUTF16", name := "length", desc := "([B)I" } : Jvm.MethodName) jdk_52_method_6_code (1 : Nat) (Option.some Jvm.ClassFile.FieldType.int), Jvm.Cond.code ({ cls := "java/lang/String", name := "checkIndex", desc := "(II)V" } : Jvm.MethodName) jdk_42_method_155_code (2 : Nat) (Option.none : Option Jvm.ClassFile.FieldType), Jvm.Cond.code ({ cls := "jdk/internal/util/Preconditions", name := "checkIndex", desc := "(IILjava/util/function/BiFunction;)I" } : Jvm.MethodName) jdk_41_method_11_code (3 : Nat) (Option.some Jvm.ClassFile.FieldType.int), Jvm.Cond.code ({ cls := "java/lang/StringLatin1", name := "charAt", desc := "([BI)C" } : Jvm.MethodName) jdk_43_method_2_code (2 : Nat) (Option.some Jvm.ClassFile.FieldType.char)]
set_option maxRecDepth 65536 in
theorem codes_eq : words1.filter isCode = codes1 := rfl
theorem w_codes : ∀ c ∈ words1.filter isCode, c.before args0 about1 = true := by
  rw [codes_eq]
  intro c hc
  simp only [codes1, List.mem_cons, List.not_mem_nil, or_false] at hc
  rcases hc with rfl | rfl | rfl | rfl | rfl | rfl | rfl | rfl | rfl | rfl | rfl | rfl | rfl | rfl | rfl | rfl | rfl | rfl | rfl | rfl | rfl | rfl | rfl | rfl
  · exact w_c0
  · exact w_c1
  · exact w_c2
  · exact w_c3
  · exact w_c4
  · exact w_c5
  · exact w_c6
  · exact w_c7
  · exact w_c8
  · exact w_c9
  · exact w_c10
  · exact w_c11
  · exact w_c12
  · exact w_c13
  · exact w_c14
  · exact w_c15
  · exact w_c16
  · exact w_c17
  · exact w_c18
  · exact w_c19
  · exact w_c20
  · exact w_c21
  · exact w_c22
  · exact w_c23
set_option maxRecDepth 65536 in
theorem w_t1 : (words1.take 24).all (fun c => isCode c || c.before args0 about1) = true := by decide +kernel
set_option maxRecDepth 65536 in
theorem w_t2 : ((words1.drop 24).take 24).all (fun c => isCode c || c.before args0 about1) = true := by decide +kernel
set_option maxRecDepth 65536 in
theorem w_t3 : (((words1.drop 24).drop 24).take 24).all (fun c => isCode c || c.before args0 about1) = true := by decide +kernel
set_option maxRecDepth 65536 in
theorem w_t4 : ((((words1.drop 24).drop 24).drop 24).take 24).all (fun c => isCode c || c.before args0 about1) = true := by decide +kernel
set_option maxRecDepth 65536 in
theorem w_t5 : ((((words1.drop 24).drop 24).drop 24).drop 24).all (fun c => isCode c || c.before args0 about1) = true := by decide +kernel
theorem w_tables : (allAtoms (Jvm.Cond.code x code maxLocals ret :: tables_1)).before args0 about1 = true := by
  rw [allAtoms_all]
  show words1.all (fun c => c.before args0 about1) = true
  refine all_split ?_ w_codes
  rw [← List.take_append_drop 24 words1, List.all_append, w_t1, ← List.take_append_drop 24 (words1.drop 24), List.all_append, w_t2, ← List.take_append_drop 24 ((words1.drop 24).drop 24), List.all_append, w_t3, ← List.take_append_drop 24 (((words1.drop 24).drop 24).drop 24), List.all_append, w_t4, w_t5]
  rfl
set_option maxRecDepth 65536 in
theorem w_rest : rest_1_c.before args0 about1 = true := by decide +kernel
set_option maxRecDepth 65536 in
theorem w_case : (Jvm.Cond.and given_1 narrow_1).before args0 about1 = true := by decide +kernel
theorem w_applies : (headSpec (Jvm.Cond.code x code maxLocals ret :: tables_1) room_1).applies x e0.platform about1 = true :=
  (Spec.applies_iff w_frames).mpr ⟨w_running, w_runnable, w_alone, w_named, w_hears, w_ripe, w_room, w_tables⟩
theorem atStart : AtStart classFile x code maxLocals ret World_1 tables_1 room_1 Calls_1 rest_1 Pre_1 launch0 p0 e0 about1 theMethod args0 below0 :=
  ⟨lists_1, trivial, launch0.admits_env _ _ _, launch0.least_env, fairChoices_fair.cas, fairChoices_fair.clock, w_frames, w_args, w_heap, w_applies, trivial, w_rest, w_case⟩
end start1
theorem witness_1 : WitnessClaimed_1 := ⟨start1.p0, start1.e0, start1.about1, start1.theMethod, start1.args0, start1.below0, start1.atStart⟩
end Jvm.Pilot.@@N@@
