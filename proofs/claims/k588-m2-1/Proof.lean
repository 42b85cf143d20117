import JvmDerived
import JvmDerived.Pilot.@@N@@Statement
import JvmDerived.Pilot.@@N@@Code
set_option linter.unusedVariables false
set_option linter.unusedSimpArgs false
namespace Jvm.Pilot.@@N@@
open Jvm Jvm.ClassFile Sem Op Lib Jvm.Free Jvm.Stand Jvm.LawKit Jvm.RoadKit Bundle Jvm.Pilot.@@N@@.Jvm.D
/-! the walk's goal: from the state A the run ends, returning what Qv says -/
def OwnEnd (p : Program) (e : Env) (below : List Frame) (s : State) (Qv : Option Value → Heap → List Loc → Prop) (k n : Nat) (A : State) : Prop :=
  ∃ s₂ o, Steps p.tables e below A s₂ ∧ s₂.status = .running ∧ Ended s₂ below o ∧ ∃ v L, o = .returned v ∧ Qv v s₂.heap L ∧ FrameEnd s o s₂ L k n
theorem own_step {p : Program} {e : Env} {below : List Frame} {s : State} {Qv : Option Value → Heap → List Loc → Prop} {k n : Nat} {A B : State} (h : ∀ t, Steps p.tables e below B t → Steps p.tables e below A t) (q : OwnEnd p e below s Qv k n B) : OwnEnd p e below s Qv k n A := by
  obtain ⟨s₂, o, h1, h2⟩ := q
  exact ⟨s₂, o, h _ h1, h2⟩
theorem own_arvEq {Z : State} {h : Heap} {a : Addr} {k : ClassId} {ty : FieldType} {z : Int32} {vs vs' : List Value} {d : Value} (e : vs = vs') (F : Arv Z h a k ty z vs d) : Arv Z h a k ty z vs' d := by subst e; exact F
theorem own_fldEq {Z : State} {h : Heap} {a : Addr} {C n d : String} {x y : Int32} (e : x = y) (F : Fld Z h a C n d (.int x)) : Fld Z h a C n d (.int y) := by subst e; exact F
section OwnRet
variable {p : Program} {l : Launch} {e : Env} {R : Room} {s : State} {m : MethodId} {args : Array Value} {below : List Frame} {meth : Method} {c : Code} {T : State} {locs : List Loc} {cells slots k n : Nat} {Qv : Option Value → Heap → List Loc → Prop}
theorem own_retN (X : Stand p l e R s m args below meth c T locs cells slots) (hx : p.tables.exec = Jvm.exec) (hlocks : meth.locks = false) {pc : Nat} {Ls : Array Slot} {z w : Int32} {t : FieldType} {rest : List Value} (hret : meth.sig.returnType = some t) (ht : t = .boolean ∨ t = .byte ∨ t = .char ∨ t = .short) (hd : decode c.code pc = .ok (.ireturn, 1)) (hz : nar t z = w) (hq : Qv (some (.int w)) T.heap locs) (hk : cells ≤ k) (hn : slots ≤ n) :
    OwnEnd p e below s Qv k n (T.setTop (mkF m pc Ls (.int z :: rest))) := by
  obtain ⟨fs, hr, hrun, hended, hW, hsame⟩ := X.leave (v := some (.int w)) (fun h => by rw [hret] at h; cases h) hlocks
  exact ⟨_, _, retN X hx hret ht hd (fs := fs) (by rw [hz]; exact hr), hrun, hended, _, _, rfl, hq, ⟨_, rfl⟩, hW, hsame.mono hk hn⟩
theorem own_retI (X : Stand p l e R s m args below meth c T locs cells slots) (hx : p.tables.exec = Jvm.exec) (hlocks : meth.locks = false) {pc : Nat} {Ls : Array Slot} {z : Int32} {rest : List Value} (hret : meth.sig.returnType = some .int) (hd : decode c.code pc = .ok (.ireturn, 1)) (hq : Qv (some (.int z)) T.heap locs) (hk : cells ≤ k) (hn : slots ≤ n) :
    OwnEnd p e below s Qv k n (T.setTop (mkF m pc Ls (.int z :: rest))) := by
  obtain ⟨fs, hr, hrun, hended, hW, hsame⟩ := X.leave (v := some (.int z)) (fun h => by rw [hret] at h; cases h) hlocks
  refine ⟨T.setFrames fs, _, ?_, hrun, hended, _, _, rfl, hq, ⟨_, rfl⟩, hW, hsame.mono hk hn⟩
  have hm' : T.vm.method? m = some meth := X.method'
  have hn' : narrow .int (.int z) = .int z := rfl
  show Steps p.tables e below (T.setTop { method := m, pc := pc, locals := Ls, stack := _ :: rest, locked := none }) _
  jvm_step X.here [X.here.top, hx, hd, hm', hret, hn']
  first | (intro acts; rw [hr _ acts rfl rfl rfl]) | rw [hr _ _ rfl rfl rfl]
  exact Steps.refl _
theorem own_retJ (X : Stand p l e R s m args below meth c T locs cells slots) (hx : p.tables.exec = Jvm.exec) (hlocks : meth.locks = false) {pc : Nat} {Ls : Array Slot} {z : Int64} {rest : List Value} (hret : meth.sig.returnType = some .long) (hd : decode c.code pc = .ok (.lreturn, 1)) (hq : Qv (some (.long z)) T.heap locs) (hk : cells ≤ k) (hn : slots ≤ n) :
    OwnEnd p e below s Qv k n (T.setTop (mkF m pc Ls (.long z :: rest))) := by
  obtain ⟨fs, hr, hrun, hended, hW, hsame⟩ := X.leave (v := some (.long z)) (fun h => by rw [hret] at h; cases h) hlocks
  refine ⟨T.setFrames fs, _, ?_, hrun, hended, _, _, rfl, hq, ⟨_, rfl⟩, hW, hsame.mono hk hn⟩
  have hm' : T.vm.method? m = some meth := X.method'
  have hn' : narrow .long (.long z) = .long z := rfl
  show Steps p.tables e below (T.setTop { method := m, pc := pc, locals := Ls, stack := _ :: rest, locked := none }) _
  jvm_step X.here [X.here.top, hx, hd, hm', hret, hn']
  first | (intro acts; rw [hr _ acts rfl rfl rfl]) | rw [hr _ _ rfl rfl rfl]
  exact Steps.refl _
theorem own_retD (X : Stand p l e R s m args below meth c T locs cells slots) (hx : p.tables.exec = Jvm.exec) (hlocks : meth.locks = false) {pc : Nat} {Ls : Array Slot} {z : UInt64} {rest : List Value} (hret : meth.sig.returnType = some .double) (hd : decode c.code pc = .ok (.dreturn, 1)) (hq : Qv (some (.double z)) T.heap locs) (hk : cells ≤ k) (hn : slots ≤ n) :
    OwnEnd p e below s Qv k n (T.setTop (mkF m pc Ls (.double z :: rest))) := by
  obtain ⟨fs, hr, hrun, hended, hW, hsame⟩ := X.leave (v := some (.double z)) (fun h => by rw [hret] at h; cases h) hlocks
  refine ⟨T.setFrames fs, _, ?_, hrun, hended, _, _, rfl, hq, ⟨_, rfl⟩, hW, hsame.mono hk hn⟩
  have hm' : T.vm.method? m = some meth := X.method'
  have hn' : narrow .double (.double z) = .double z := rfl
  show Steps p.tables e below (T.setTop { method := m, pc := pc, locals := Ls, stack := _ :: rest, locked := none }) _
  jvm_step X.here [X.here.top, hx, hd, hm', hret, hn']
  first | (intro acts; rw [hr _ acts rfl rfl rfl]) | rw [hr _ _ rfl rfl rfl]
  exact Steps.refl _
theorem own_retR (X : Stand p l e R s m args below meth c T locs cells slots) (hx : p.tables.exec = Jvm.exec) (hlocks : meth.locks = false) {pc : Nat} {Ls : Array Slot} {z : Addr} {t : FieldType} {rest : List Value} (hret : meth.sig.returnType = some t) (ht : t.isReference = true) (hd : decode c.code pc = .ok (.areturn, 1)) (hq : Qv (some (.ref z)) T.heap locs) (hk : cells ≤ k) (hn : slots ≤ n) :
    OwnEnd p e below s Qv k n (T.setTop (mkF m pc Ls (.ref z :: rest))) := by
  obtain ⟨fs, hr, hrun, hended, hW, hsame⟩ := X.leave (v := some (.ref z)) (fun h => by rw [hret] at h; cases h) hlocks
  refine ⟨T.setFrames fs, _, ?_, hrun, hended, _, _, rfl, hq, ⟨_, rfl⟩, hW, hsame.mono hk hn⟩
  have hm' : T.vm.method? m = some meth := X.method'
  show Steps p.tables e below (T.setTop { method := m, pc := pc, locals := Ls, stack := _ :: rest, locked := none }) _
  jvm_step X.here [X.here.top, hx, hd, hm', hret, ht, Value.isRef]
  first | (intro acts; rw [hr _ acts rfl rfl rfl]) | rw [hr _ _ rfl rfl rfl]
  exact Steps.refl _
theorem own_ret0 (X : Stand p l e R s m args below meth c T locs cells slots) (hx : p.tables.exec = Jvm.exec) (hlocks : meth.locks = false) {pc : Nat} {Ls : Array Slot} (hret : meth.sig.returnType = none) (hd : decode c.code pc = .ok (.return_, 1)) (hq : Qv none T.heap locs) (hk : cells ≤ k) (hn : slots ≤ n) :
    OwnEnd p e below s Qv k n (T.setTop (mkF m pc Ls [])) := by
  obtain ⟨fs, hr, hrun, hended, hW, hsame⟩ := X.leave (v := none) (fun _ => rfl) hlocks
  exact ⟨_, _, X.returnOut hx hret hd hr, hrun, hended, _, _, rfl, hq, ⟨_, rfl⟩, hW, hsame.mono hk hn⟩
end OwnRet
/-! lists of ints by a function of the place -/
def own_vs (n : Nat) (F : Nat → Int32) : List Value := (List.range n).map fun j => Value.int (F j)
theorem own_vsLen (n : Nat) (F : Nat → Int32) : (own_vs n F).length = n := by simp [own_vs]
theorem own_vsGet {n : Nat} {F : Nat → Int32} {j : Nat} {d : Value} (h : j < n) : (own_vs n F).getD j d = .int (F j) := by
  simp [own_vs, List.getD_eq_getElem?_getD, h]
theorem own_vsCongr {n : Nat} {F G : Nat → Int32} (h : ∀ j, j < n → F j = G j) : own_vs n F = own_vs n G := by
  apply List.map_congr_left
  intro j hj
  rw [h j (List.mem_range.mp hj)]
theorem own_vsSet {n : Nat} {F : Nat → Int32} {i : Nat} {x : Int32} : (own_vs n F).set i (.int x) = own_vs n (fun j => if j = i then x else F j) := by
  apply List.ext_getElem?
  intro j
  rw [List.getElem?_set]
  by_cases hj : j < n
  · by_cases hi : i = j
    · subst hi; simp [own_vs, hj]
    · have hi' : ¬ j = i := fun q => hi q.symm
      simp [own_vs, hj, hi, hi']
  · by_cases hi : i = j
    · subst hi; simp [own_vs, hj]
    · simp [own_vs, hj, hi]
theorem own_vsPad (n : Nat) : ∀ i, (own_vs n fun _ => (0 : Int32)).getD i (.int (0 : Int32)) = ([] : List Value).getD i (.int (0 : Int32)) := by
  intro i
  by_cases h : i < n
  · rw [own_vsGet h]; rfl
  · simp [own_vs, List.getD_eq_getElem?_getD, h]
theorem own_clamp {p : Int32} {i : Nat} (h : p.toInt = i) : p.toNatClampNeg = i := by
  simp only [Int32.toNatClampNeg, h]; rfl
theorem own_inc {p : Int32} {i : Nat} (h : p.toInt = i) (hi : i < 2147483647) : (p + 1).toInt = ((i + 1 : Nat) : Int) := by
  have h1 := c_iadd p 1
  have h2 := rng32 (p + 1)
  have h3 : (1 : Int32).toInt = 1 := by decide
  omega
theorem own_lt32 {p q : Int32} {i j : Nat} (hp : p.toInt = i) (hq : q.toInt = j) : p < q ↔ i < j := by
  rw [Int32.lt_iff_toInt_lt, hp, hq]; omega
theorem own_nn {p : Int32} {i : Nat} (hp : p.toInt = i) : ¬ p < 0 := by
  rw [Int32.lt_iff_toInt_lt, hp, show (0 : Int32).toInt = 0 from by decide]; omega
theorem own_ofNat {n : Nat} (h : n < 2147483648) : (Int32.ofNat n).toInt = n := Int32.toInt_ofNat_of_lt h
/-! the bytes of a char -/
def own_b (c : Int32) : Int32 := (c.toInt8.toInt32).toInt8.toInt32
def own_lo (c : Int32) : Int32 := own_b (c >>> ((0 : Int32) &&& 31))
def own_hi (c : Int32) : Int32 := own_b (c >>> ((8 : Int32) &&& 31))
def own_u (g : Nat → Int32) (j : Nat) : Int32 := if j % 2 = 0 then own_lo (g (j / 2)) else own_hi (g (j / 2))
def own_cL (x : Int32) : Int32 := ((x &&& (255 : Int32)).toUInt32.toUInt16.toUInt32.toInt32)
def own_cU (x y : Int32) : Int32 := ((((x &&& (255 : Int32)) <<< ((0 : Int32) &&& 31)) ||| ((y &&& (255 : Int32)) <<< ((8 : Int32) &&& 31))).toUInt32.toUInt16.toUInt32.toInt32)
theorem own_bInt (c : Int32) : ((own_b c).toInt - c.toInt) % 256 = 0 := by
  have h1 := c_i2b (c.toInt8.toInt32)
  have h2 := c_i2b c
  unfold own_b
  omega
theorem own_i2c {x : Int32} (h0 : 0 ≤ x.toInt) (h1 : x.toInt < 65536) : x.toUInt32.toUInt16.toUInt32.toInt32 = x := by
  have h := c_i2c x
  apply Int32.toInt_inj.mp
  omega
theorem own_shr0 (c : Int32) : c >>> ((0 : Int32) &&& 31) = c := by
  have h := c_ishr c 0 0 (by decide)
  apply Int32.toInt_inj.mp
  rw [h]; simp
theorem own_shl0 (c : Int32) : c <<< ((0 : Int32) &&& 31) = c := by
  have h := c_ishl c 0 0 (by decide)
  have h2 := rng32 c
  have h3 := rng32 (c <<< ((0 : Int32) &&& 31))
  apply Int32.toInt_inj.mp
  simp only [Nat.pow_zero] at h
  omega
theorem own_decL {c : Int32} (h0 : 0 ≤ c.toInt) (h1 : c.toInt < 256) : own_cL (own_b c) = c := by
  have h2 := c_mask (own_b c) 255 8 (by decide) (by decide)
  have h3 := own_bInt c
  have e : own_b c &&& 255 = c := by apply Int32.toInt_inj.mp; rw [h2]; omega
  unfold own_cL
  rw [e]
  exact own_i2c h0 (by omega)
theorem own_decU {c : Int32} (h0 : 0 ≤ c.toInt) (h1 : c.toInt < 65536) : own_cU (own_lo c) (own_hi c) = c := by
  have a1 := c_mask (own_lo c) 255 8 (by decide) (by decide)
  have a2 := c_mask (own_hi c) 255 8 (by decide) (by decide)
  have a3 : ((own_lo c).toInt - c.toInt) % 256 = 0 := by
    have := own_bInt (c >>> ((0 : Int32) &&& 31)); rw [own_shr0] at this
    unfold own_lo; rw [own_shr0]; exact this
  have a4 : ((own_hi c).toInt - c.toInt / 256) % 256 = 0 := by
    have := own_bInt (c >>> ((8 : Int32) &&& 31)); rw [c_ishr c 8 8 (by decide)] at this
    exact this
  unfold own_cU
  rw [own_shl0]
  generalize own_lo c &&& 255 = x at *
  generalize own_hi c &&& 255 = y at *
  have b1 := c_ishl y 8 8 (by decide)
  have b2 := rng32 (y <<< ((8 : Int32) &&& 31))
  have b3 := c_or' x (y <<< ((8 : Int32) &&& 31)) 8 (by decide) 256 (by decide) (by omega) (by omega) (by omega)
  have b4 := rng32 (x ||| y <<< ((8 : Int32) &&& 31))
  have e : x ||| y <<< ((8 : Int32) &&& 31) = c := by apply Int32.toInt_inj.mp; omega
  rw [e]
  exact own_i2c h0 h1
/-! the statics on which the String bodies rest -/
def OwnW (Z : State) (wc : Int32) (sx : Value) : Prop := Sta Z Z.heap "java/lang/String" "COMPACT_STRINGS" "Z" (.int wc) ∧ ¬ (wc = (0 : Int32)) ∧ Sta Z Z.heap "jdk/internal/util/Preconditions" "SIOOBE_FORMATTER" "Ljava/util/function/BiFunction;" sx ∧ sx.isRef = true
theorem own_mono {l : Launch} {x : MethodName} {S : Spec} {P : Array Value → State → Prop} {K : Program → Env → List Frame → State → Array Value → Prop} {Q Q' : Array Value → State → Outcome → State → Prop} (h : MetFree l x S P K Q) (hq : ∀ a s o t, Q a s o t → Q' a s o t) : MetFree l x S P K Q' := by
  intro p e ha hc hk s m args below hf happ hP hK
  obtain ⟨n, o, h1, h2, h3, h4⟩ := h p e ha hc hk s m args below hf happ hP hK
  exact ⟨n, o, h1, h2, h3, hq _ _ _ _ h4⟩
/-! a String object and its chars -/
def OwnStr (Z : State) (h : Heap) (a b : Addr) (n : Nat) (g : Nat → Int32) : Prop :=
  Exa Z h a "java/lang/String" ∧ Fld Z h a "java/lang/String" "value" "[B" (.ref b) ∧
  ((Fld Z h a "java/lang/String" "coder" "B" (.int (0 : Int32)) ∧ (∀ j, j < n → (g j).toInt < 256) ∧ ∃ k, Arv Z h b k .byte (Int32.ofNat n) (own_vs n fun j => own_b (g j)) (.int (0 : Int32))) ∨
   False)
section OwnStrLaws
variable {Z : State} {h h' : Heap} {a b o : Addr} {n : Nat} {g : Nat → Int32} {sl : Nat} {v : Value} {ws : List Addr}
theorem OwnStr.ext (S : OwnStr Z h a b n g) (E : Ext h h') : OwnStr Z h' a b n g := by
  obtain ⟨A, F, C⟩ := S
  refine ⟨A.ext E, F.ext E, ?_⟩
  rcases C with ⟨C, q, k, V⟩ | C
  · exact Or.inl ⟨C.ext E, q, k, V.ext E⟩
  · exact C.elim
theorem OwnStr.other (S : OwnStr Z h a b n g) (W : Wr h h' o sl v) (ha : a ≠ o) (hb : b ≠ o) : OwnStr Z h' a b n g := by
  obtain ⟨A, F, C⟩ := S
  refine ⟨A.wr W, F.other W (Or.inl ha), ?_⟩
  rcases C with ⟨C, q, k, V⟩ | C
  · exact Or.inl ⟨C.other W (Or.inl ha), q, k, V.other W hb⟩
  · exact C.elim
theorem OwnStr.keep (S : OwnStr Z h a b n g) (K : Keep h h' ws) (ha : a ∉ ws) (hb : b ∉ ws) : OwnStr Z h' a b n g := by
  obtain ⟨A, F, C⟩ := S
  refine ⟨A.keep K, F.keep K ha, ?_⟩
  rcases C with ⟨C, q, k, V⟩ | C
  · exact Or.inl ⟨C.keep K ha, q, k, V.keep K hb⟩
  · exact C.elim
theorem OwnStr.lt0 (S : OwnStr Z h a b n g) : a < h.size := S.1.lt
theorem OwnStr.lt1 (S : OwnStr Z h a b n g) : b < h.size := by
  rcases S.2.2 with ⟨-, -, k, V⟩ | C
  · exact V.lt
  · exact C.elim
end OwnStrLaws
theorem own_len2 {p : Int32} {n : Nat} (hp : p.toInt = n) (hn : n ≤ 1000000) : p <<< ((1 : Int32) &&& 31) = Int32.ofNat (2 * n) := by
  apply Int32.toInt_inj.mp
  rw [own_ofNat (by omega)]
  have h := c_ishl p 1 1 (by decide)
  have h2 := rng32 (p <<< ((1 : Int32) &&& 31))
  omega
theorem own_shl1 {p : Int32} {i : Nat} (hp : p.toInt = i) (hn : i ≤ 1000000) : (p <<< ((1 : Int32) &&& 31)).toInt = ((2 * i : Nat) : Int) := by
  rw [own_len2 hp hn, own_ofNat (by omega)]
theorem own_shr1 {n : Nat} (hn : n ≤ 1000000) : (Int32.ofNat (2 * n) >>> ((1 : Int32) &&& 31)) = Int32.ofNat n := by
  apply Int32.toInt_inj.mp
  rw [c_ishr _ 1 1 (by decide), own_ofNat (by omega), own_ofNat (by omega)]
  omega
theorem dci_0 : decode jdk_41_method_11_code 0 = .ok (.iload_n 0, 1) := by decide +kernel
theorem dci_1 : decode jdk_41_method_11_code 1 = .ok (.ifCond .lt 8, 3) := by decide +kernel
theorem dci_4 : decode jdk_41_method_11_code 4 = .ok (.iload_n 0, 1) := by decide +kernel
theorem dci_5 : decode jdk_41_method_11_code 5 = .ok (.iload_n 1, 1) := by decide +kernel
theorem dci_6 : decode jdk_41_method_11_code 6 = .ok (.if_icmp .lt 10, 3) := by decide +kernel
theorem dci_16 : decode jdk_41_method_11_code 16 = .ok (.iload_n 0, 1) := by decide +kernel
theorem dci_17 : decode jdk_41_method_11_code 17 = .ok (.ireturn, 1) := by decide +kernel
theorem pnci : plainName "jdk/internal/util/Preconditions" = true := by first | (simp [plainName, overriddenIn]; done) | decide +kernel
theorem efci (m : MethodId) (p0 : Int32) (p1 : Int32) (x2 : Value) (hr_x2 : x2.isRef = true) : entryFrame m #[(.int p0), (.int p1), x2] 3 = mkF m 0 #[.val (.int p0), .val (.int p1), .val x2] [] := by
  rcases ref_cases hr_x2 with rfl | ⟨_, rfl⟩
  · rfl
  rfl
def fci (p0 : Int32) : Int32 := p0
def Qci (Z : State) (p0 : Int32) (p1 : Int32) (x2 : Value) (h0 : Heap) (n0 : Nat) (v : Option Value) (h : Heap) (L : List Loc) : Prop := v = some (.int (fci p0)) ∧ Fr n0 L ∧ h = h0
set_option maxRecDepth 65536 in
set_option maxHeartbeats 40000000 in
theorem rmci (l : Launch) (Z : State) (aa : Array Value) (hw : ∀ d ∈ tables_1, d.before aa Z = true) (ws : List Jvm.Cond) (p0 : Int32) (p1 : Int32) (x2 : Value) (h0 : Heap) (n0 : Nat) (Z0 : n0 ≤ h0.size) (hr_x2 : x2.isRef = true) (hlo : ¬ p0 < (0 : Int32)) (hhi : p0 < p1) :
    MetFree l (⟨"jdk/internal/util/Preconditions", "checkIndex", "(IILjava/util/function/BiFunction;)I"⟩ : MethodName) (head1 (Jvm.Cond.code (⟨"jdk/internal/util/Preconditions", "checkIndex", "(IILjava/util/function/BiFunction;)I"⟩ : MethodName) jdk_41_method_11_code 3 (some .int) :: ws) ({ frames := 0, cells := 0, slots := 0, locals := 0 } : Room)) (fun a U => a = #[(.int p0), (.int p1), x2] ∧ Z.Warmed39 U.vm ∧ U.heap = h0) (fun _ _ _ _ _ => True) (fun _ U o U' => ∃ v L, o = .returned v ∧ Qci Z p0 p1 x2 h0 n0 v U'.heap L ∧ FrameEnd U o U' L ({ frames := 0, cells := 0, slots := 0, locals := 0 } : Room).cells ({ frames := 0, cells := 0, slots := 0, locals := 0 } : Room).slots) := by
  refine MetFree.of_bodySF (plainFor_of_name pnci) hisR ?_
  intro p e s m args below meth c s₁ Bd hml0 hP hK
  obtain ⟨rfl, hZ, hh⟩ := hP
  have hx := Bd.exec
  have hby := Bd.bytes
  have hml : c.maxLocals = 3 := hml0
  have hown : s.vm.findClass "jdk/internal/util/Preconditions" = some m.cls := findClass_of_methodNamed Bd.named
  have hnm := (name_of_methodNamed Bd.named Bd.method).1
  have X0 : Stand p l e ({ frames := 0, cells := 0, slots := 0, locals := 0 } : Room) s m #[(.int p0), (.int p1), x2] below meth c s₁ [] 0 0 := Stand.of_body Bd
  have e0 : s₁.heap = h0 := by rw [← hh, Bd.state]; rfl
  have N0 := Fr.nil n0
  show OwnEnd p e below s (fun v h L => Qci Z p0 p1 x2 h0 n0 v h L) ({ frames := 0, cells := 0, slots := 0, locals := 0 } : Room).cells ({ frames := 0, cells := 0, slots := 0, locals := 0 } : Room).slots (s₁.setTop (entryFrame m #[(.int p0), (.int p1), x2] 3))
  rw [efci m p0 p1 x2 hr_x2]
  generalize hW : OwnEnd p e below s (fun v h L => Qci Z p0 p1 x2 h0 n0 v h L) ({ frames := 0, cells := 0, slots := 0, locals := 0 } : Room).cells ({ frames := 0, cells := 0, slots := 0, locals := 0 } : Room).slots = W
  have stp : ∀ {A B : State}, (∀ t, Steps p.tables e below B t → Steps p.tables e below A t) → W B → W A := by subst hW; exact own_step
  show W (s₁.setTop (mkF m 0 #[.val (.int p0), .val (.int p1), .val x2] []))
  refine stp (fun t k => XS.iloadN X0.here hx rfl (hb hby dci_0) rfl k) ?_
  show W (s₁.setTop (mkF m 1 #[.val (.int p0), .val (.int p1), .val x2] [(.int p0)]))
  refine stp (fun t k => XS.ifNo X0.here hx rfl (hb hby dci_1) rfl ((if0 _ _).trans (flt (hlo)).1) k) ?_
  show W (s₁.setTop (mkF m 4 #[.val (.int p0), .val (.int p1), .val x2] []))
  refine stp (fun t k => XS.iloadN X0.here hx rfl (hb hby dci_4) rfl k) ?_
  show W (s₁.setTop (mkF m 5 #[.val (.int p0), .val (.int p1), .val x2] [(.int p0)]))
  refine stp (fun t k => XS.iloadN X0.here hx rfl (hb hby dci_5) rfl k) ?_
  show W (s₁.setTop (mkF m 6 #[.val (.int p0), .val (.int p1), .val x2] [(.int p1), (.int p0)]))
  refine stp (fun t k => XS.icmpYes X0.here hx rfl (pc0 := 6) (pc' := 16) rfl (hb hby dci_6) rfl ((tlt (hhi)).1) (by decide) (by decide) k) ?_
  show W (s₁.setTop (mkF m 16 #[.val (.int p0), .val (.int p1), .val x2] []))
  refine stp (fun t k => XS.iloadN X0.here hx rfl (hb hby dci_16) rfl k) ?_
  show W (s₁.setTop (mkF m 17 #[.val (.int p0), .val (.int p1), .val x2] [(.int p0)]))
  show W (s₁.setTop (mkF m 17 #[.val (.int p0), .val (.int p1), .val x2] [(.int p0)]))
  rw [← hW]
  exact own_retI X0 hx Bd.notSynchronized Bd.returns (hb hby dci_17) (by show Qci Z p0 p1 x2 h0 n0 _ s₁.heap _; rw [e0]; exact ⟨rfl, N0, rfl⟩) (by decide) (by decide)
theorem dsc_0 : decode jdk_42_method_155_code 0 = .ok (.iload_n 0, 1) := by decide +kernel
theorem dsc_1 : decode jdk_42_method_155_code 1 = .ok (.iload_n 1, 1) := by decide +kernel
theorem dsc_2 : decode jdk_42_method_155_code 2 = .ok (.getstatic 1053, 3) := by decide +kernel
theorem dsc_5 : decode jdk_42_method_155_code 5 = .ok (.invokestatic 1059, 3) := by decide +kernel
theorem dsc_8 : decode jdk_42_method_155_code 8 = .ok (.pop, 1) := by decide +kernel
theorem dsc_9 : decode jdk_42_method_155_code 9 = .ok (.return_, 1) := by decide +kernel
theorem pnsc : plainName "java/lang/String" = true := by first | (simp [plainName, overriddenIn]; done) | decide +kernel
theorem pdsc_0 : parseMethodDescriptor "(IILjava/util/function/BiFunction;)I" = some ⟨[.int, .int, (.object "java/util/function/BiFunction")], some .int⟩ := by decide +kernel
theorem efsc (m : MethodId) (p0 : Int32) (p1 : Int32) : entryFrame m #[(.int p0), (.int p1)] 2 = mkF m 0 #[.val (.int p0), .val (.int p1)] [] := by first | (simp [entryFrame, mkF, argsToLocals, Value.category]; done) | rfl
def Qsc (Z : State) (p0 : Int32) (p1 : Int32) (wc : Int32) (sx : Value) (h0 : Heap) (n0 : Nat) (v : Option Value) (h : Heap) (L : List Loc) : Prop := v = none ∧ Fr n0 L ∧ h = h0
set_option maxRecDepth 65536 in
set_option maxHeartbeats 40000000 in
theorem rmsc (l : Launch) (Z : State) (aa : Array Value) (hw : ∀ d ∈ tables_1, d.before aa Z = true) (ws : List Jvm.Cond) (p0 : Int32) (p1 : Int32) (wc : Int32) (sx : Value) (h0 : Heap) (n0 : Nat) (Z0 : n0 ≤ h0.size) (BW : OwnW Z wc sx) (O0 : Old Z n0 h0) (hlo : ¬ p0 < (0 : Int32)) (hhi : p0 < p1) :
    MetFree l (⟨"java/lang/String", "checkIndex", "(II)V"⟩ : MethodName) (head1 (Jvm.Cond.code (⟨"java/lang/String", "checkIndex", "(II)V"⟩ : MethodName) jdk_42_method_155_code 2 none :: ws) ({ frames := 1, cells := 0, slots := 0, locals := 14 } : Room)) (fun a U => a = #[(.int p0), (.int p1)] ∧ Z.Warmed39 U.vm ∧ U.heap = h0) (fun _ _ _ _ _ => True) (fun _ U o U' => ∃ v L, o = .returned v ∧ Qsc Z p0 p1 wc sx h0 n0 v U'.heap L ∧ FrameEnd U o U' L ({ frames := 1, cells := 0, slots := 0, locals := 14 } : Room).cells ({ frames := 1, cells := 0, slots := 0, locals := 14 } : Room).slots) := by
  refine MetFree.of_bodySF (plainFor_of_name pnsc) hisR ?_
  intro p e s m args below meth c s₁ Bd hml0 hP hK
  obtain ⟨rfl, hZ, hh⟩ := hP
  have hx := Bd.exec
  have hby := Bd.bytes
  have hml : c.maxLocals = 2 := hml0
  have hown : s.vm.findClass "java/lang/String" = some m.cls := findClass_of_methodNamed Bd.named
  have hnm := (name_of_methodNamed Bd.named Bd.method).1
  have X0 : Stand p l e ({ frames := 1, cells := 0, slots := 0, locals := 14 } : Room) s m #[(.int p0), (.int p1)] below meth c s₁ [] 0 0 := Stand.of_body Bd
  have e0 : s₁.heap = h0 := by rw [← hh, Bd.state]; rfl
  have N0 := Fr.nil n0
  show OwnEnd p e below s (fun v h L => Qsc Z p0 p1 wc sx h0 n0 v h L) ({ frames := 1, cells := 0, slots := 0, locals := 14 } : Room).cells ({ frames := 1, cells := 0, slots := 0, locals := 14 } : Room).slots (s₁.setTop (entryFrame m #[(.int p0), (.int p1)] 2))
  rw [efsc m p0 p1]
  generalize hW : OwnEnd p e below s (fun v h L => Qsc Z p0 p1 wc sx h0 n0 v h L) ({ frames := 1, cells := 0, slots := 0, locals := 14 } : Room).cells ({ frames := 1, cells := 0, slots := 0, locals := 14 } : Room).slots = W
  have stp : ∀ {A B : State}, (∀ t, Steps p.tables e below B t → Steps p.tables e below A t) → W B → W A := by subst hW; exact own_step
  obtain ⟨S_cs, hcs, S_si, hr_sx⟩ := id BW
  show W (s₁.setTop (mkF m 0 #[.val (.int p0), .val (.int p1)] []))
  refine stp (fun t k => XS.iloadN X0.here hx rfl (hb hby dsc_0) rfl k) ?_
  show W (s₁.setTop (mkF m 1 #[.val (.int p0), .val (.int p1)] [(.int p0)]))
  refine stp (fun t k => XS.iloadN X0.here hx rfl (hb hby dsc_1) rfl k) ?_
  show W (s₁.setTop (mkF m 2 #[.val (.int p0), .val (.int p1)] [(.int p1), (.int p0)]))
  obtain ⟨Tsc1, Xsc1, esc1, stsc1⟩ := getS2 X0 hx hZ hown (host := "") (Or.inl (hw _ (List.mem_of_getElem? (i := 89) rfl))) Via.refl e0 (S_si.ext O0.2) (g := (mkF m 2 #[.val (.int p0), .val (.int p1)] [(.int p1), (.int p0)])) rfl (hb hby dsc_2)
  refine stp (fun t k => stsc1 t k) ?_
  show W (Tsc1.setTop (mkF m 5 #[.val (.int p0), .val (.int p1)] [sx, (.int p1), (.int p0)]))
  obtain ⟨_, _, ⟨Tscc2, Lscc2, kscc2, nscc2⟩, -, Xscc2, ⟨Lcscc2, hQscc2, lscc2, yscc2, zscc2⟩, stscc2⟩ := Jvm.LawKit.callS Xsc1 hx (y := (⟨"jdk/internal/util/Preconditions", "checkIndex", "(IILjava/util/function/BiFunction;)I"⟩ : MethodName)) hown (mvT hZ (hw _ (List.mem_of_getElem? (i := 91) rfl))) (mvT hZ (hw _ (List.mem_of_getElem? (i := 92) rfl))) (mvT hZ (hw _ (List.mem_of_getElem? (i := 90) rfl))) (mvT hZ (hw _ (List.mem_of_getElem? (i := 93) rfl))) (by decide) (backOf (W := 0) (rmci l Z aa hw [] p0 p1 sx  h0 n0 Z0 hr_sx hlo hhi) hZ (hw _ (List.mem_of_getElem? (i := 93) rfl)) (hw _ (List.mem_of_getElem? (i := 90) rfl)) (by decide) (by decide)) (g := (mkF m 5 #[.val (.int p0), .val (.int p1)] [sx, (.int p1), (.int p0)])) rfl (by rw [hml]; rfl) (argsL := [(.int p0), (.int p1), sx]) (rest := []) (lenOf pdsc_0 rfl) rfl (by show 2 * 0 + _ ≤ _; exact Nat.le_of_eq rfl) (hb hby dsc_5) (fun _ _ => ⟨rfl, esc1, (by decide : 0 + 0 ≤ _), (by decide : 0 + 0 ≤ _)⟩)
  dsimp only [Pt.U, Pt.locs, Pt.cells, Pt.slots] at Xscc2 lscc2 yscc2 zscc2 stscc2 hQscc2
  subst lscc2 yscc2 zscc2
  obtain ⟨rfl, Nscc2q, escc2⟩ := hQscc2
  have Nscc2 := Fr.app N0 Nscc2q
  obtain ⟨lcsct3, Xscc2, Nscc2⟩ : ∃ lc, Stand p l e ({ frames := 1, cells := 0, slots := 0, locals := 14 } : Room) s m #[(.int p0), (.int p1)] below meth c Tscc2 lc 0 0 ∧ Fr n0 lc := ⟨_, Xscc2, Nscc2⟩
  refine stp (fun t k => stscc2 t k) ?_
  show W (Tscc2.setTop (mkF m 8 #[.val (.int p0), .val (.int p1)] [(.int (fci p0))]))
  refine stp (fun t k => XS.pop Xscc2.here hx rfl (hb hby dsc_8) rfl rfl k) ?_
  show W (Tscc2.setTop (mkF m 9 #[.val (.int p0), .val (.int p1)] []))
  show W (Tscc2.setTop (mkF m 9 #[.val (.int p0), .val (.int p1)] []))
  rw [← hW]
  exact own_ret0 Xscc2 hx Bd.notSynchronized Bd.returns (hb hby dsc_9) (by show Qsc Z p0 p1 wc sx h0 n0 _ Tscc2.heap _; rw [escc2]; exact ⟨rfl, Nscc2, rfl⟩) (by decide) (by decide)
theorem dlc_0 : decode jdk_43_method_2_code 0 = .ok (.iload_n 1, 1) := by decide +kernel
theorem dlc_1 : decode jdk_43_method_2_code 1 = .ok (.aload_n 0, 1) := by decide +kernel
theorem dlc_2 : decode jdk_43_method_2_code 2 = .ok (.arraylength, 1) := by decide +kernel
theorem dlc_3 : decode jdk_43_method_2_code 3 = .ok (.invokestatic 9, 3) := by decide +kernel
theorem dlc_6 : decode jdk_43_method_2_code 6 = .ok (.aload_n 0, 1) := by decide +kernel
theorem dlc_7 : decode jdk_43_method_2_code 7 = .ok (.iload_n 1, 1) := by decide +kernel
theorem dlc_8 : decode jdk_43_method_2_code 8 = .ok (.baload, 1) := by decide +kernel
theorem dlc_9 : decode jdk_43_method_2_code 9 = .ok (.sipush 255, 3) := by decide +kernel
theorem dlc_12 : decode jdk_43_method_2_code 12 = .ok (.iand, 1) := by decide +kernel
theorem dlc_13 : decode jdk_43_method_2_code 13 = .ok (.i2c, 1) := by decide +kernel
theorem dlc_14 : decode jdk_43_method_2_code 14 = .ok (.ireturn, 1) := by decide +kernel
theorem pnlc : plainName "java/lang/StringLatin1" = true := by first | (simp [plainName, overriddenIn]; done) | decide +kernel
theorem pdlc_0 : parseMethodDescriptor "(II)V" = some ⟨[.int, .int], none⟩ := by decide +kernel
theorem eflc (m : MethodId) (a0 : Addr) (p1 : Int32) : entryFrame m #[(.ref a0), (.int p1)] 2 = mkF m 0 #[.val (.ref a0), .val (.int p1)] [] := by first | (simp [entryFrame, mkF, argsToLocals, Value.category]; done) | rfl
def flc (x : Int32) : Int32 := (nar .char ((x &&& (255 : Int32)).toUInt32.toUInt16.toUInt32.toInt32))
def Qlc (Z : State) (a0 : Addr) (p1 : Int32) (wc : Int32) (sx : Value) (kb : ClassId) (z : Int32) (vs : List Value) (x : Int32) (h0 : Heap) (n0 : Nat) (v : Option Value) (h : Heap) (L : List Loc) : Prop := v = some (.int (flc x)) ∧ Fr n0 L ∧ h = h0
set_option maxRecDepth 65536 in
set_option maxHeartbeats 40000000 in
theorem rmlc (l : Launch) (Z : State) (aa : Array Value) (hw : ∀ d ∈ tables_1, d.before aa Z = true) (ws : List Jvm.Cond) (a0 : Addr) (p1 : Int32) (wc : Int32) (sx : Value) (kb : ClassId) (z : Int32) (vs : List Value) (x : Int32) (h0 : Heap) (n0 : Nat) (Z0 : n0 ≤ h0.size) (BW : OwnW Z wc sx) (O0 : Old Z n0 h0) (V_a0 : Arv Z h0 a0 kb .byte z vs (.int (0 : Int32))) (hlo : ¬ p1 < (0 : Int32)) (hhi : p1 < z) (hgx : vs.getD p1.toNatClampNeg (.int (0 : Int32)) = .int x) :
    MetFree l (⟨"java/lang/StringLatin1", "charAt", "([BI)C"⟩ : MethodName) (head1 (Jvm.Cond.code (⟨"java/lang/StringLatin1", "charAt", "([BI)C"⟩ : MethodName) jdk_43_method_2_code 2 (some .char) :: ws) ({ frames := 2, cells := 0, slots := 0, locals := 27 } : Room)) (fun a U => a = #[(.ref a0), (.int p1)] ∧ Z.Warmed39 U.vm ∧ U.heap = h0) (fun _ _ _ _ _ => True) (fun _ U o U' => ∃ v L, o = .returned v ∧ Qlc Z a0 p1 wc sx kb z vs x h0 n0 v U'.heap L ∧ FrameEnd U o U' L ({ frames := 2, cells := 0, slots := 0, locals := 27 } : Room).cells ({ frames := 2, cells := 0, slots := 0, locals := 27 } : Room).slots) := by
  refine MetFree.of_bodySF (plainFor_of_name pnlc) hisR ?_
  intro p e s m args below meth c s₁ Bd hml0 hP hK
  obtain ⟨rfl, hZ, hh⟩ := hP
  have hx := Bd.exec
  have hby := Bd.bytes
  have hml : c.maxLocals = 2 := hml0
  have hown : s.vm.findClass "java/lang/StringLatin1" = some m.cls := findClass_of_methodNamed Bd.named
  have hnm := (name_of_methodNamed Bd.named Bd.method).1
  have X0 : Stand p l e ({ frames := 2, cells := 0, slots := 0, locals := 27 } : Room) s m #[(.ref a0), (.int p1)] below meth c s₁ [] 0 0 := Stand.of_body Bd
  have e0 : s₁.heap = h0 := by rw [← hh, Bd.state]; rfl
  have N0 := Fr.nil n0
  show OwnEnd p e below s (fun v h L => Qlc Z a0 p1 wc sx kb z vs x h0 n0 v h L) ({ frames := 2, cells := 0, slots := 0, locals := 27 } : Room).cells ({ frames := 2, cells := 0, slots := 0, locals := 27 } : Room).slots (s₁.setTop (entryFrame m #[(.ref a0), (.int p1)] 2))
  rw [eflc m a0 p1]
  generalize hW : OwnEnd p e below s (fun v h L => Qlc Z a0 p1 wc sx kb z vs x h0 n0 v h L) ({ frames := 2, cells := 0, slots := 0, locals := 27 } : Room).cells ({ frames := 2, cells := 0, slots := 0, locals := 27 } : Room).slots = W
  have stp : ∀ {A B : State}, (∀ t, Steps p.tables e below B t → Steps p.tables e below A t) → W B → W A := by subst hW; exact own_step
  obtain ⟨S_cs, hcs, S_si, hr_sx⟩ := id BW
  show W (s₁.setTop (mkF m 0 #[.val (.ref a0), .val (.int p1)] []))
  refine stp (fun t k => XS.iloadN X0.here hx rfl (hb hby dlc_0) rfl k) ?_
  show W (s₁.setTop (mkF m 1 #[.val (.ref a0), .val (.int p1)] [(.int p1)]))
  refine stp (fun t k => XS.aloadN X0.here hx rfl (hb hby dlc_1) rfl rfl k) ?_
  show W (s₁.setTop (mkF m 2 #[.val (.ref a0), .val (.int p1)] [(.ref a0), (.int p1)]))
  obtain ⟨cllc1, Arlc1, qklc1, qslc1, qnlc1, qhlc1, qglc1⟩ := id V_a0
  refine stp (fun t k => X0.arraylength hx (by rw [e0]; exact Arlc1.1) (State.isArrayOf_alike hZ.alike Arlc1.2.1) (g := (mkF m 2 #[.val (.ref a0), .val (.int p1)] [(.ref a0), (.int p1)])) rfl rfl (hb hby dlc_2) _ k) ?_
  rw [len_of qslc1 qnlc1]
  show W (s₁.setTop (mkF m 3 #[.val (.ref a0), .val (.int p1)] [(.int z), (.int p1)]))
  obtain ⟨_, _, ⟨Tlcc2, Llcc2, klcc2, nlcc2⟩, -, Xlcc2, ⟨Lclcc2, hQlcc2, llcc2, ylcc2, zlcc2⟩, stlcc2⟩ := Jvm.LawKit.callS X0 hx (y := (⟨"java/lang/String", "checkIndex", "(II)V"⟩ : MethodName)) hown (mvT hZ (hw _ (List.mem_of_getElem? (i := 86) rfl))) (mvT hZ (hw _ (List.mem_of_getElem? (i := 87) rfl))) (mvT hZ (hw _ (List.mem_of_getElem? (i := 12) rfl))) (mvT hZ (hw _ (List.mem_of_getElem? (i := 88) rfl))) (by decide) (backOf (W := 0) (rmsc l Z aa hw [] p1 z wc sx h0 n0 Z0 BW O0 hlo hhi) hZ (hw _ (List.mem_of_getElem? (i := 88) rfl)) (hw _ (List.mem_of_getElem? (i := 12) rfl)) (by decide) (by decide)) (g := (mkF m 3 #[.val (.ref a0), .val (.int p1)] [(.int z), (.int p1)])) rfl (by rw [hml]; rfl) (argsL := [(.int p1), (.int z)]) (rest := []) (lenOf pdlc_0 rfl) rfl (by show 2 * 0 + _ ≤ _; exact Nat.le_of_eq rfl) (hb hby dlc_3) (fun _ _ => ⟨rfl, e0, (by decide : 0 + 0 ≤ _), (by decide : 0 + 0 ≤ _)⟩)
  dsimp only [Pt.U, Pt.locs, Pt.cells, Pt.slots] at Xlcc2 llcc2 ylcc2 zlcc2 stlcc2 hQlcc2
  subst llcc2 ylcc2 zlcc2
  obtain ⟨rfl, Nlcc2q, elcc2⟩ := hQlcc2
  have Nlcc2 := Fr.app N0 Nlcc2q
  obtain ⟨lclct3, Xlcc2, Nlcc2⟩ : ∃ lc, Stand p l e ({ frames := 2, cells := 0, slots := 0, locals := 27 } : Room) s m #[(.ref a0), (.int p1)] below meth c Tlcc2 lc 0 0 ∧ Fr n0 lc := ⟨_, Xlcc2, Nlcc2⟩
  refine stp (fun t k => stlcc2 t k) ?_
  show W (Tlcc2.setTop (mkF m 6 #[.val (.ref a0), .val (.int p1)] []))
  refine stp (fun t k => XS.aloadN Xlcc2.here hx rfl (hb hby dlc_6) rfl rfl k) ?_
  show W (Tlcc2.setTop (mkF m 7 #[.val (.ref a0), .val (.int p1)] [(.ref a0)]))
  refine stp (fun t k => XS.iloadN Xlcc2.here hx rfl (hb hby dlc_7) rfl k) ?_
  show W (Tlcc2.setTop (mkF m 8 #[.val (.ref a0), .val (.int p1)] [(.int p1), (.ref a0)]))
  obtain ⟨cllc4, Arlc4, qklc4, qslc4, qnlc4, qhlc4, qglc4⟩ := id V_a0
  have hinlc4 : ¬ (p1 < 0 ∨ cllc4.slots.size ≤ (p1).toNatClampNeg) := inb_of qslc4 ⟨hlo, hhi⟩
  have hatlc4 : cllc4.slots[(p1).toNatClampNeg]? = some (.int x) := qhlc4.at hinlc4 hgx
  refine stp (fun t k => Xlcc2.baloadBytes hx (j := p1) (v := (.int x)) (by rw [elcc2]; exact Arlc4.1) (State.isArrayOf_alike hZ.alike Arlc4.2.1) Arlc4.2.2 hinlc4 hatlc4 (g := (mkF m 8 #[.val (.ref a0), .val (.int p1)] [(.int p1), (.ref a0)])) rfl rfl (hb hby dlc_8) _ k) ?_
  show W (Tlcc2.setTop (mkF m 9 #[.val (.ref a0), .val (.int p1)] [(.int x)]))
  refine stp (fun t k => XS.sipush Xlcc2.here hx rfl (hb hby dlc_9) k) ?_
  show W (Tlcc2.setTop (mkF m 12 #[.val (.ref a0), .val (.int p1)] [(.int (255 : Int32)), (.int x)]))
  refine stp (fun t k => XS.iand Xlcc2.here hx rfl (hb hby dlc_12) rfl k) ?_
  show W (Tlcc2.setTop (mkF m 13 #[.val (.ref a0), .val (.int p1)] [(.int (x &&& (255 : Int32)))]))
  refine stp (fun t k => XS.i2c Xlcc2.here hx rfl (hb hby dlc_13) rfl k) ?_
  show W (Tlcc2.setTop (mkF m 14 #[.val (.ref a0), .val (.int p1)] [(.int ((x &&& (255 : Int32)).toUInt32.toUInt16.toUInt32.toInt32))]))
  show W (Tlcc2.setTop (mkF m 14 #[.val (.ref a0), .val (.int p1)] [(.int ((x &&& (255 : Int32)).toUInt32.toUInt16.toUInt32.toInt32))]))
  rw [← hW]
  exact own_retN Xlcc2 hx Bd.notSynchronized Bd.returns (w := (nar .char ((x &&& (255 : Int32)).toUInt32.toUInt16.toUInt32.toInt32))) (by simp) (hb hby dlc_14) rfl (by show Qlc Z a0 p1 wc sx kb z vs x h0 n0 _ Tlcc2.heap _; rw [elcc2]; exact ⟨rfl, Nlcc2, rfl⟩) (by decide) (by decide)
theorem dil_0 : decode jdk_42_method_154_code 0 = .ok (.getstatic 38, 3) := by decide +kernel
theorem dil_3 : decode jdk_42_method_154_code 3 = .ok (.ifCond .eq 14, 3) := by decide +kernel
theorem dil_6 : decode jdk_42_method_154_code 6 = .ok (.aload_n 0, 1) := by decide +kernel
theorem dil_7 : decode jdk_42_method_154_code 7 = .ok (.getfield 15, 3) := by decide +kernel
theorem dil_10 : decode jdk_42_method_154_code 10 = .ok (.ifCond .ne 7, 3) := by decide +kernel
theorem dil_13 : decode jdk_42_method_154_code 13 = .ok (.iconst 1, 1) := by decide +kernel
theorem dil_14 : decode jdk_42_method_154_code 14 = .ok (.goto 4, 3) := by decide +kernel
theorem dil_17 : decode jdk_42_method_154_code 17 = .ok (.iconst 0, 1) := by decide +kernel
theorem dil_18 : decode jdk_42_method_154_code 18 = .ok (.ireturn, 1) := by decide +kernel
theorem pnil : plainName "java/lang/String" = true := by first | (simp [plainName, overriddenIn]; done) | decide +kernel
theorem efil (m : MethodId) (a0 : Addr) : entryFrame m #[(.ref a0)] 1 = mkF m 0 #[.val (.ref a0)] [] := by first | (simp [entryFrame, mkF, argsToLocals, Value.category]; done) | rfl
def fil (cd : Int32) : Int32 := (if cd = (0 : Int32) then (1 : Int32) else (0 : Int32))
def Qil (Z : State) (a0 : Addr) (wc : Int32) (sx : Value) (cd : Int32) (h0 : Heap) (n0 : Nat) (v : Option Value) (h : Heap) (L : List Loc) : Prop := v = some (.int (fil cd)) ∧ Fr n0 L ∧ h = h0
set_option maxRecDepth 65536 in
set_option maxHeartbeats 40000000 in
theorem rmil (l : Launch) (Z : State) (aa : Array Value) (hw : ∀ d ∈ tables_1, d.before aa Z = true) (ws : List Jvm.Cond) (a0 : Addr) (wc : Int32) (sx : Value) (cd : Int32) (h0 : Heap) (n0 : Nat) (Z0 : n0 ≤ h0.size) (BW : OwnW Z wc sx) (O0 : Old Z n0 h0) (F_coder_a0 : Fld Z h0 a0 "java/lang/String" "coder" "B" (.int cd)) :
    MetFree l (⟨"java/lang/String", "isLatin1", "()Z"⟩ : MethodName) (head1 (Jvm.Cond.code (⟨"java/lang/String", "isLatin1", "()Z"⟩ : MethodName) jdk_42_method_154_code 1 (some .boolean) :: ws) ({ frames := 0, cells := 0, slots := 0, locals := 0 } : Room)) (fun a U => a = #[(.ref a0)] ∧ Z.Warmed39 U.vm ∧ U.heap = h0) (fun _ _ _ _ _ => True) (fun _ U o U' => ∃ v L, o = .returned v ∧ Qil Z a0 wc sx cd h0 n0 v U'.heap L ∧ FrameEnd U o U' L ({ frames := 0, cells := 0, slots := 0, locals := 0 } : Room).cells ({ frames := 0, cells := 0, slots := 0, locals := 0 } : Room).slots) := by
  refine MetFree.of_bodySF (plainFor_of_name pnil) hisR ?_
  intro p e s m args below meth c s₁ Bd hml0 hP hK
  obtain ⟨rfl, hZ, hh⟩ := hP
  have hx := Bd.exec
  have hby := Bd.bytes
  have hml : c.maxLocals = 1 := hml0
  have hown : s.vm.findClass "java/lang/String" = some m.cls := findClass_of_methodNamed Bd.named
  have hnm := (name_of_methodNamed Bd.named Bd.method).1
  have X0 : Stand p l e ({ frames := 0, cells := 0, slots := 0, locals := 0 } : Room) s m #[(.ref a0)] below meth c s₁ [] 0 0 := Stand.of_body Bd
  have e0 : s₁.heap = h0 := by rw [← hh, Bd.state]; rfl
  have N0 := Fr.nil n0
  show OwnEnd p e below s (fun v h L => Qil Z a0 wc sx cd h0 n0 v h L) ({ frames := 0, cells := 0, slots := 0, locals := 0 } : Room).cells ({ frames := 0, cells := 0, slots := 0, locals := 0 } : Room).slots (s₁.setTop (entryFrame m #[(.ref a0)] 1))
  rw [efil m a0]
  generalize hW : OwnEnd p e below s (fun v h L => Qil Z a0 wc sx cd h0 n0 v h L) ({ frames := 0, cells := 0, slots := 0, locals := 0 } : Room).cells ({ frames := 0, cells := 0, slots := 0, locals := 0 } : Room).slots = W
  have stp : ∀ {A B : State}, (∀ t, Steps p.tables e below B t → Steps p.tables e below A t) → W B → W A := by subst hW; exact own_step
  obtain ⟨S_cs, hcs, S_si, hr_sx⟩ := id BW
  show W (s₁.setTop (mkF m 0 #[.val (.ref a0)] []))
  obtain ⟨Til1, Xil1, eil1, stil1⟩ := getS2 X0 hx hZ hown (host := "") (Or.inl (hw _ (List.mem_of_getElem? (i := 23) rfl))) Via.refl e0 (S_cs.ext O0.2) (g := (mkF m 0 #[.val (.ref a0)] [])) rfl (hb hby dil_0)
  refine stp (fun t k => stil1 t k) ?_
  show W (Til1.setTop (mkF m 3 #[.val (.ref a0)] [(.int wc)]))
  refine stp (fun t k => XS.ifNo Xil1.here hx rfl (hb hby dil_3) rfl ((if0 _ _).trans (feq (hcs)).1) k) ?_
  show W (Til1.setTop (mkF m 6 #[.val (.ref a0)] []))
  refine stp (fun t k => XS.aloadN Xil1.here hx rfl (hb hby dil_6) rfl rfl k) ?_
  show W (Til1.setTop (mkF m 7 #[.val (.ref a0)] [(.ref a0)]))
  obtain ⟨Til2, Xil2, eil2, stil2⟩ := getF Xil1 hx hZ hown (host := "") (Or.inl (hw _ (List.mem_of_getElem? (i := 35) rfl))) Via.refl eil1 F_coder_a0 (g := (mkF m 7 #[.val (.ref a0)] [(.ref a0)])) rfl rfl (hb hby dil_7)
  refine stp (fun t k => stil2 t k) ?_
  show W (Til2.setTop (mkF m 10 #[.val (.ref a0)] [(.int cd)]))
  by_cases hcil_3 : cd = (0 : Int32)
  · refine stp (fun t k => XS.ifNo Xil2.here hx rfl (hb hby dil_10) rfl ((if0 _ _).trans (teq hcil_3).2) k) ?_
    show W (Til2.setTop (mkF m 13 #[.val (.ref a0)] []))
    refine stp (fun t k => XS.iconst Xil2.here hx rfl (hb hby dil_13) k) ?_
    show W (Til2.setTop (mkF m 14 #[.val (.ref a0)] [(.int (1 : Int32))]))
    refine stp (fun t k => XS.goto Xil2.here hx rfl (pc0 := 14) (pc' := 18) rfl (hb hby dil_14) (by decide) (by decide) k) ?_
    show W (Til2.setTop (mkF m 18 #[.val (.ref a0)] [(.int (1 : Int32))]))
    show W (Til2.setTop (mkF m 18 #[.val (.ref a0)] [(.int (1 : Int32))]))
    rw [← hW]
    exact own_retN Xil2 hx Bd.notSynchronized Bd.returns (w := (1 : Int32)) (by simp) (hb hby dil_18) rfl (by show Qil Z a0 wc sx cd h0 n0 _ Til2.heap _; rw [eil2]; exact ⟨(by rw [fil, if_pos hcil_3]), N0, rfl⟩) (by decide) (by decide)
  · refine stp (fun t k => XS.ifYes Xil2.here hx rfl (pc0 := 10) (pc' := 17) rfl (hb hby dil_10) rfl ((if0 _ _).trans (feq hcil_3).2) (by decide) (by decide) k) ?_
    show W (Til2.setTop (mkF m 17 #[.val (.ref a0)] []))
    refine stp (fun t k => XS.iconst Xil2.here hx rfl (hb hby dil_17) k) ?_
    show W (Til2.setTop (mkF m 18 #[.val (.ref a0)] [(.int (0 : Int32))]))
    show W (Til2.setTop (mkF m 18 #[.val (.ref a0)] [(.int (0 : Int32))]))
    rw [← hW]
    exact own_retN Xil2 hx Bd.notSynchronized Bd.returns (w := (0 : Int32)) (by simp) (hb hby dil_18) rfl (by show Qil Z a0 wc sx cd h0 n0 _ Til2.heap _; rw [eil2]; exact ⟨(by rw [fil, if_neg hcil_3]), N0, rfl⟩) (by decide) (by decide)
theorem dcL_0 : decode jdk_42_method_56_code 0 = .ok (.aload_n 0, 1) := by decide +kernel
theorem dcL_1 : decode jdk_42_method_56_code 1 = .ok (.invokevirtual 492, 3) := by decide +kernel
theorem dcL_4 : decode jdk_42_method_56_code 4 = .ok (.ifCond .eq 12, 3) := by decide +kernel
theorem dcL_7 : decode jdk_42_method_56_code 7 = .ok (.aload_n 0, 1) := by decide +kernel
theorem dcL_8 : decode jdk_42_method_56_code 8 = .ok (.getfield 9, 3) := by decide +kernel
theorem dcL_11 : decode jdk_42_method_56_code 11 = .ok (.iload_n 1, 1) := by decide +kernel
theorem dcL_12 : decode jdk_42_method_56_code 12 = .ok (.invokestatic 495, 3) := by decide +kernel
theorem dcL_15 : decode jdk_42_method_56_code 15 = .ok (.ireturn, 1) := by decide +kernel
theorem pncL : plainName "java/lang/String" = true := by first | (simp [plainName, overriddenIn]; done) | decide +kernel
theorem pdcL_0 : parseMethodDescriptor "()Z" = some ⟨[], some .boolean⟩ := by decide +kernel
theorem pdcL_1 : parseMethodDescriptor "([BI)C" = some ⟨[(.array .byte), .int], some .char⟩ := by decide +kernel
theorem efcL (m : MethodId) (a0 : Addr) (p1 : Int32) : entryFrame m #[(.ref a0), (.int p1)] 2 = mkF m 0 #[.val (.ref a0), .val (.int p1)] [] := by first | (simp [entryFrame, mkF, argsToLocals, Value.category]; done) | rfl
def fcL (x : Int32) : Int32 := (nar .char (flc x))
def QcL (Z : State) (a0 : Addr) (p1 : Int32) (wc : Int32) (sx : Value) (b : Addr) (kb : ClassId) (z : Int32) (vs : List Value) (x : Int32) (h0 : Heap) (n0 : Nat) (v : Option Value) (h : Heap) (L : List Loc) : Prop := v = some (.int (fcL x)) ∧ Fr n0 L ∧ h = h0
set_option maxRecDepth 65536 in
set_option maxHeartbeats 40000000 in
theorem rmcL (l : Launch) (Z : State) (aa : Array Value) (hw : ∀ d ∈ tables_1, d.before aa Z = true) (ws : List Jvm.Cond) (a0 : Addr) (p1 : Int32) (wc : Int32) (sx : Value) (b : Addr) (kb : ClassId) (z : Int32) (vs : List Value) (x : Int32) (h0 : Heap) (n0 : Nat) (Z0 : n0 ≤ h0.size) (BW : OwnW Z wc sx) (O0 : Old Z n0 h0) (E_a0 : Exa Z h0 a0 "java/lang/String") (F_value_a0 : Fld Z h0 a0 "java/lang/String" "value" "[B" (.ref b)) (F_coder_a0 : Fld Z h0 a0 "java/lang/String" "coder" "B" (.int (0 : Int32))) (V_b : Arv Z h0 b kb .byte z vs (.int (0 : Int32))) (hlo : ¬ p1 < (0 : Int32)) (hhi : p1 < z) (hgx : vs.getD p1.toNatClampNeg (.int (0 : Int32)) = .int x) :
    MetFree l (⟨"java/lang/String", "charAt", "(I)C"⟩ : MethodName) (head1 (Jvm.Cond.code (⟨"java/lang/String", "charAt", "(I)C"⟩ : MethodName) jdk_42_method_56_code 2 (some .char) :: ws) ({ frames := 3, cells := 0, slots := 0, locals := 40 } : Room)) (fun a U => a = #[(.ref a0), (.int p1)] ∧ Z.Warmed39 U.vm ∧ U.heap = h0) (fun _ _ _ _ _ => True) (fun _ U o U' => ∃ v L, o = .returned v ∧ QcL Z a0 p1 wc sx b kb z vs x h0 n0 v U'.heap L ∧ FrameEnd U o U' L ({ frames := 3, cells := 0, slots := 0, locals := 40 } : Room).cells ({ frames := 3, cells := 0, slots := 0, locals := 40 } : Room).slots) := by
  refine MetFree.of_bodySF (plainFor_of_name pncL) hisR ?_
  intro p e s m args below meth c s₁ Bd hml0 hP hK
  obtain ⟨rfl, hZ, hh⟩ := hP
  have hx := Bd.exec
  have hby := Bd.bytes
  have hml : c.maxLocals = 2 := hml0
  have hown : s.vm.findClass "java/lang/String" = some m.cls := findClass_of_methodNamed Bd.named
  have hnm := (name_of_methodNamed Bd.named Bd.method).1
  have X0 : Stand p l e ({ frames := 3, cells := 0, slots := 0, locals := 40 } : Room) s m #[(.ref a0), (.int p1)] below meth c s₁ [] 0 0 := Stand.of_body Bd
  have e0 : s₁.heap = h0 := by rw [← hh, Bd.state]; rfl
  have N0 := Fr.nil n0
  show OwnEnd p e below s (fun v h L => QcL Z a0 p1 wc sx b kb z vs x h0 n0 v h L) ({ frames := 3, cells := 0, slots := 0, locals := 40 } : Room).cells ({ frames := 3, cells := 0, slots := 0, locals := 40 } : Room).slots (s₁.setTop (entryFrame m #[(.ref a0), (.int p1)] 2))
  rw [efcL m a0 p1]
  generalize hW : OwnEnd p e below s (fun v h L => QcL Z a0 p1 wc sx b kb z vs x h0 n0 v h L) ({ frames := 3, cells := 0, slots := 0, locals := 40 } : Room).cells ({ frames := 3, cells := 0, slots := 0, locals := 40 } : Room).slots = W
  have stp : ∀ {A B : State}, (∀ t, Steps p.tables e below B t → Steps p.tables e below A t) → W B → W A := by subst hW; exact own_step
  obtain ⟨S_cs, hcs, S_si, hr_sx⟩ := id BW
  show W (s₁.setTop (mkF m 0 #[.val (.ref a0), .val (.int p1)] []))
  refine stp (fun t k => XS.aloadN X0.here hx rfl (hb hby dcL_0) rfl rfl k) ?_
  show W (s₁.setTop (mkF m 1 #[.val (.ref a0), .val (.int p1)] [(.ref a0)]))
  obtain ⟨cqcLc1, kqcLc1, qcLc1a, qcLc1b, qcLc1c⟩ := isOf hZ e0 E_a0
  obtain ⟨_, _, ⟨TcLc1, LcLc1, kcLc1, ncLc1⟩, -, XcLc1, ⟨LccLc1, hQcLc1, lcLc1, ycLc1, zcLc1⟩, stcLc1⟩ := X0.virtualBack hx (y := (⟨"java/lang/String", "isLatin1", "()Z"⟩ : MethodName)) (z := (⟨"java/lang/String", "isLatin1", "()Z"⟩ : MethodName)) hown (mvT hZ (hw _ (List.mem_of_getElem? (i := 77) rfl))) (mvT hZ (hw _ (List.mem_of_getElem? (i := 78) rfl))) (notFace_of_selects (args := #[]) (mvT hZ (hw _ (List.mem_of_getElem? (i := 80) rfl)))) (mvT hZ (hw _ (List.mem_of_getElem? (i := 80) rfl))) (mvT hZ (hw _ (List.mem_of_getElem? (i := 79) rfl))) (by decide) (backOf (W := 0) (rmil l Z aa hw [] a0 wc sx (0 : Int32) h0 n0 Z0 BW O0 F_coder_a0) hZ (hw _ (List.mem_of_getElem? (i := 81) rfl)) (hw _ (List.mem_of_getElem? (i := 12) rfl)) (by decide) (by decide)) qcLc1a qcLc1c (g := (mkF m 1 #[.val (.ref a0), .val (.int p1)] [(.ref a0)])) rfl (by rw [hml]; rfl) (Steps.refl _) (argsL := []) (rest := []) (lenOf pdcL_0 rfl) rfl (by show 2 * 0 + _ ≤ _; exact Nat.le_of_eq rfl) (hb hby dcL_1) (fun _ _ => ⟨rfl, e0, (by decide : 0 + 0 ≤ _), (by decide : 0 + 0 ≤ _)⟩)
  dsimp only [Pt.U, Pt.locs, Pt.cells, Pt.slots] at XcLc1 lcLc1 ycLc1 zcLc1 stcLc1 hQcLc1
  subst lcLc1 ycLc1 zcLc1
  obtain ⟨rfl, NcLc1q, ecLc1⟩ := hQcLc1
  have NcLc1 := Fr.app N0 NcLc1q
  obtain ⟨lccLt2, XcLc1, NcLc1⟩ : ∃ lc, Stand p l e ({ frames := 3, cells := 0, slots := 0, locals := 40 } : Room) s m #[(.ref a0), (.int p1)] below meth c TcLc1 lc 0 0 ∧ Fr n0 lc := ⟨_, XcLc1, NcLc1⟩
  refine stp (fun t k => stcLc1.trans k) ?_
  show W (TcLc1.setTop (mkF m 4 #[.val (.ref a0), .val (.int p1)] [(.int (fil (0 : Int32)))]))
  refine stp (fun t k => XS.ifNo XcLc1.here hx rfl (hb hby dcL_4) rfl ((if0 _ _).trans (feq (by decide)).1) k) ?_
  show W (TcLc1.setTop (mkF m 7 #[.val (.ref a0), .val (.int p1)] []))
  refine stp (fun t k => XS.aloadN XcLc1.here hx rfl (hb hby dcL_7) rfl rfl k) ?_
  show W (TcLc1.setTop (mkF m 8 #[.val (.ref a0), .val (.int p1)] [(.ref a0)]))
  obtain ⟨TcL3, XcL3, ecL3, stcL3⟩ := getF XcLc1 hx hZ hown (host := "") (Or.inl (hw _ (List.mem_of_getElem? (i := 37) rfl))) Via.refl ecLc1 F_value_a0 (g := (mkF m 8 #[.val (.ref a0), .val (.int p1)] [(.ref a0)])) rfl rfl (hb hby dcL_8)
  refine stp (fun t k => stcL3 t k) ?_
  show W (TcL3.setTop (mkF m 11 #[.val (.ref a0), .val (.int p1)] [(.ref b)]))
  refine stp (fun t k => XS.iloadN XcL3.here hx rfl (hb hby dcL_11) rfl k) ?_
  show W (TcL3.setTop (mkF m 12 #[.val (.ref a0), .val (.int p1)] [(.int p1), (.ref b)]))
  obtain ⟨_, _, ⟨TcLc4, LcLc4, kcLc4, ncLc4⟩, -, XcLc4, ⟨LccLc4, hQcLc4, lcLc4, ycLc4, zcLc4⟩, stcLc4⟩ := Jvm.LawKit.callS XcL3 hx (y := (⟨"java/lang/StringLatin1", "charAt", "([BI)C"⟩ : MethodName)) hown (mvT hZ (hw _ (List.mem_of_getElem? (i := 82) rfl))) (mvT hZ (hw _ (List.mem_of_getElem? (i := 83) rfl))) (mvT hZ (hw _ (List.mem_of_getElem? (i := 84) rfl))) (mvT hZ (hw _ (List.mem_of_getElem? (i := 85) rfl))) (by decide) (backOf (W := 0) (rmlc l Z aa hw [] b p1 wc sx kb z vs x h0 n0 Z0 BW O0 V_b hlo hhi hgx) hZ (hw _ (List.mem_of_getElem? (i := 85) rfl)) (hw _ (List.mem_of_getElem? (i := 84) rfl)) (by decide) (by decide)) (g := (mkF m 12 #[.val (.ref a0), .val (.int p1)] [(.int p1), (.ref b)])) rfl (by rw [hml]; rfl) (argsL := [(.ref b), (.int p1)]) (rest := []) (lenOf pdcL_1 rfl) rfl (by show 2 * 0 + _ ≤ _; exact Nat.le_of_eq rfl) (hb hby dcL_12) (fun _ _ => ⟨rfl, ecL3, (by decide : 0 + 0 ≤ _), (by decide : 0 + 0 ≤ _)⟩)
  dsimp only [Pt.U, Pt.locs, Pt.cells, Pt.slots] at XcLc4 lcLc4 ycLc4 zcLc4 stcLc4 hQcLc4
  subst lcLc4 ycLc4 zcLc4
  obtain ⟨rfl, NcLc4q, ecLc4⟩ := hQcLc4
  have NcLc4 := Fr.app NcLc1 NcLc4q
  obtain ⟨lccLt5, XcLc4, NcLc4⟩ : ∃ lc, Stand p l e ({ frames := 3, cells := 0, slots := 0, locals := 40 } : Room) s m #[(.ref a0), (.int p1)] below meth c TcLc4 lc 0 0 ∧ Fr n0 lc := ⟨_, XcLc4, NcLc4⟩
  refine stp (fun t k => stcLc4 t k) ?_
  show W (TcLc4.setTop (mkF m 15 #[.val (.ref a0), .val (.int p1)] [(.int (flc x))]))
  show W (TcLc4.setTop (mkF m 15 #[.val (.ref a0), .val (.int p1)] [(.int (flc x))]))
  rw [← hW]
  exact own_retN XcLc4 hx Bd.notSynchronized Bd.returns (w := (nar .char (flc x))) (by simp) (hb hby dcL_15) rfl (by show QcL Z a0 p1 wc sx b kb z vs x h0 n0 _ TcLc4.heap _; rw [ecLc4]; exact ⟨rfl, NcLc4, rfl⟩) (by decide) (by decide)
theorem own_narC {c : Int32} (h0 : 0 ≤ c.toInt) (h1 : c.toInt < 65536) : nar .char c = c := own_i2c h0 h1
theorem own_fcL {c : Int32} (h0 : 0 ≤ c.toInt) (h1 : c.toInt < 256) : fcL (own_b c) = c := by
  have e : flc (own_b c) = c := by
    show nar .char (own_cL (own_b c)) = c
    rw [own_decL h0 h1, own_narC h0 (by omega)]
  show nar .char (flc (own_b c)) = c
  rw [e, own_narC h0 (by omega)]
theorem own_u0 (g : Nat → Int32) (i : Nat) : own_u g (2 * i) = own_lo (g i) := by
  unfold own_u
  rw [if_pos (by omega), show 2 * i / 2 = i from by omega]
theorem own_u1 (g : Nat → Int32) (i : Nat) : own_u g (2 * i + 1) = own_hi (g i) := by
  unfold own_u
  rw [if_neg (by omega), show (2 * i + 1) / 2 = i from by omega]
/-- charAt on a String whose chars are known -/
def QcA (Z : State) (a0_ : Addr) (p1 : Int32) (g : Nat → Int32) (i : Nat) (h0 : Heap) (n0 : Nat) (v : Option Value) (h : Heap) (L : List Loc) : Prop := v = some (.int (g i)) ∧ Fr n0 L ∧ h = h0
theorem rmcA (l : Launch) (Z : State) (aa : Array Value) (hw : ∀ d ∈ tables_1, d.before aa Z = true) (ws : List Jvm.Cond) (a0_ : Addr) (p1 : Int32) (wc : Int32) (sx : Value) (b : Addr) (n : Nat) (g : Nat → Int32) (i : Nat) (h0 : Heap) (n0 : Nat) (Z0 : n0 ≤ h0.size) (BW : OwnW Z wc sx) (O0 : Old Z n0 h0) (S : OwnStr Z h0 a0_ b n g) (hn : n ≤ 4000) (hch : ∀ j, j < n → 0 ≤ (g j).toInt ∧ (g j).toInt < 65536) (hi : p1.toInt = i) (hlt : i < n) :
    MetFree l (⟨"java/lang/String", "charAt", "(I)C"⟩ : MethodName) (head1 (Jvm.Cond.code (⟨"java/lang/String", "charAt", "(I)C"⟩ : MethodName) jdk_42_method_56_code 2 (some .char) :: ws) ({ frames := 3, cells := 0, slots := 0, locals := 40 } : Room)) (fun a U => a = #[(.ref a0_), (.int p1)] ∧ Z.Warmed39 U.vm ∧ U.heap = h0) (fun _ _ _ _ _ => True) (fun _ U o U' => ∃ v L, o = .returned v ∧ QcA Z a0_ p1 g i h0 n0 v U'.heap L ∧ FrameEnd U o U' L ({ frames := 3, cells := 0, slots := 0, locals := 40 } : Room).cells ({ frames := 3, cells := 0, slots := 0, locals := 40 } : Room).slots) := by
  obtain ⟨E, F, ⟨C, q, k, V⟩ | C⟩ := S
  · have hz := own_ofNat (n := n) (by omega)
    refine own_mono (rmcL l Z aa hw ws a0_ p1 wc sx b k (Int32.ofNat n) (own_vs n fun j => own_b (g j)) (own_b (g i)) h0 n0 Z0 BW O0 E F C V (own_nn hi) ((own_lt32 hi hz).mpr hlt) (by rw [own_clamp hi, own_vsGet hlt])) ?_
    rintro a s o t ⟨v, L, ho, ⟨hv, N, hh⟩, hF⟩
    exact ⟨v, L, ho, ⟨by rw [hv, own_fcL (hch i hlt).1 (q i hlt)], N, hh⟩, hF⟩
  · exact C.elim
theorem own_c256 {c : Int32} (h : ¬ ((255 : Int32) < c)) : c.toInt < 256 := by
  rw [Int32.lt_iff_toInt_lt, show (255 : Int32).toInt = 255 from by decide] at h; omega
theorem own_c255 {c : Int32} (h : (255 : Int32) < c) : 256 ≤ c.toInt := by
  rw [Int32.lt_iff_toInt_lt, show (255 : Int32).toInt = 255 from by decide] at h; omega
theorem own_step1 (n i : Nat) (g : Nat → Int32) : (own_vs n fun j => if j < i then own_b (g j) else (0 : Int32)).set i (.int (own_b (g i))) = own_vs n fun j => if j < i + 1 then own_b (g j) else (0 : Int32) := by
  rw [own_vsSet]
  apply own_vsCongr
  intro j _
  by_cases h : j = i
  · subst h; simp
  · by_cases h2 : j < i
    · simp [h, h2, Nat.lt_succ_of_lt h2]
    · have h3 : ¬ j < i + 1 := by omega
      simp [h, h2, h3]
theorem dk1_0 : decode jdk_52_method_21_code 0 = .ok (.iconst 0, 1) := by decide +kernel
theorem dk1_1 : decode jdk_52_method_21_code 1 = .ok (.istore 5, 2) := by decide +kernel
theorem dk1_3 : decode jdk_52_method_21_code 3 = .ok (.iload 5, 2) := by decide +kernel
theorem dk1_5 : decode jdk_52_method_21_code 5 = .ok (.iload 4, 2) := by decide +kernel
theorem dk1_7 : decode jdk_52_method_21_code 7 = .ok (.if_icmp .ge 37, 3) := by decide +kernel
theorem dk1_10 : decode jdk_52_method_21_code 10 = .ok (.aload_n 0, 1) := by decide +kernel
theorem dk1_11 : decode jdk_52_method_21_code 11 = .ok (.iload_n 1, 1) := by decide +kernel
theorem dk1_12 : decode jdk_52_method_21_code 12 = .ok (.caload, 1) := by decide +kernel
theorem dk1_13 : decode jdk_52_method_21_code 13 = .ok (.istore 6, 2) := by decide +kernel
theorem dk1_15 : decode jdk_52_method_21_code 15 = .ok (.iload 6, 2) := by decide +kernel
theorem dk1_17 : decode jdk_52_method_21_code 17 = .ok (.sipush 255, 3) := by decide +kernel
theorem dk1_20 : decode jdk_52_method_21_code 20 = .ok (.if_icmp .le 6, 3) := by decide +kernel
theorem dk1_23 : decode jdk_52_method_21_code 23 = .ok (.iload 5, 2) := by decide +kernel
theorem dk1_25 : decode jdk_52_method_21_code 25 = .ok (.ireturn, 1) := by decide +kernel
theorem dk1_26 : decode jdk_52_method_21_code 26 = .ok (.aload_n 2, 1) := by decide +kernel
theorem dk1_27 : decode jdk_52_method_21_code 27 = .ok (.iload_n 3, 1) := by decide +kernel
theorem dk1_28 : decode jdk_52_method_21_code 28 = .ok (.iload 6, 2) := by decide +kernel
theorem dk1_30 : decode jdk_52_method_21_code 30 = .ok (.i2b, 1) := by decide +kernel
theorem dk1_31 : decode jdk_52_method_21_code 31 = .ok (.bastore, 1) := by decide +kernel
theorem dk1_32 : decode jdk_52_method_21_code 32 = .ok (.iinc 1 1, 3) := by decide +kernel
theorem dk1_35 : decode jdk_52_method_21_code 35 = .ok (.iinc 3 1, 3) := by decide +kernel
theorem dk1_38 : decode jdk_52_method_21_code 38 = .ok (.iinc 5 1, 3) := by decide +kernel
theorem dk1_41 : decode jdk_52_method_21_code 41 = .ok (.goto (-38), 3) := by decide +kernel
theorem dk1_44 : decode jdk_52_method_21_code 44 = .ok (.iload 4, 2) := by decide +kernel
theorem dk1_46 : decode jdk_52_method_21_code 46 = .ok (.ireturn, 1) := by decide +kernel
theorem pnk1 : plainName "java/lang/StringUTF16" = true := by first | (simp [plainName, overriddenIn]; done) | decide +kernel
theorem efk1 (m : MethodId) (a0 : Addr) (p1 : Int32) (a2 : Addr) (p3 : Int32) (p4 : Int32) : entryFrame m #[(.ref a0), (.int p1), (.ref a2), (.int p3), (.int p4)] 7 = mkF m 0 #[.val (.ref a0), .val (.int p1), .val (.ref a2), .val (.int p3), .val (.int p4), .unset, .unset] [] := by first | (simp [entryFrame, mkF, argsToLocals, Value.category]; done) | rfl
def Qk1 (Z : State) (a0 : Addr) (p1 : Int32) (a2 : Addr) (p3 : Int32) (p4 : Int32) (wc : Int32) (sx : Value) (n : Nat) (g : Nat → Int32) (ka : ClassId) (kb : ClassId) (h0 : Heap) (n0 : Nat) (v : Option Value) (h : Heap) (L : List Loc) : Prop := ∃ r : Int32, v = some (.int r) ∧ Fr n0 L ∧ Keep h0 h [a2] ∧ ((r = (Int32.ofNat n) ∧ (∀ j, j < n → (g j).toInt < 256) ∧ Arv Z h a2 kb .byte (Int32.ofNat n) (own_vs n fun j => own_b (g j)) (.int (0 : Int32))) ∨ ∃ i, i < n ∧ r.toInt = (i : Int) ∧ 256 ≤ (g i).toInt)
set_option maxRecDepth 65536 in
set_option maxHeartbeats 40000000 in
theorem rmk1 (l : Launch) (Z : State) (aa : Array Value) (hw : ∀ d ∈ tables_1, d.before aa Z = true) (ws : List Jvm.Cond) (a0 : Addr) (p1 : Int32) (a2 : Addr) (p3 : Int32) (p4 : Int32) (wc : Int32) (sx : Value) (n : Nat) (g : Nat → Int32) (ka : ClassId) (kb : ClassId) (h0 : Heap) (n0 : Nat) (Z0 : n0 ≤ h0.size) (BW : OwnW Z wc sx) (O0 : Old Z n0 h0) (hn : n ≤ 18) (hch : ∀ j, j < n → 0 ≤ (g j).toInt ∧ (g j).toInt < 65536) (V_a0 : Arv Z h0 a0 ka .char (Int32.ofNat n) (own_vs n g) (.int (0 : Int32))) (V_a2 : Arv Z h0 a2 kb .byte (Int32.ofNat n) (own_vs n fun _ => (0 : Int32)) (.int (0 : Int32))) (ne_a0_a2 : a0 ≠ a2) (g_a2 : n0 ≤ a2) (hp1 : p1 = (0 : Int32)) (hp3 : p3 = (0 : Int32)) (hp4 : p4 = (Int32.ofNat n)) :
    MetFree l (⟨"java/lang/StringUTF16", "compress", "([CI[BII)I"⟩ : MethodName) (head1 (Jvm.Cond.code (⟨"java/lang/StringUTF16", "compress", "([CI[BII)I"⟩ : MethodName) jdk_52_method_21_code 7 (some .int) :: ws) ({ frames := 0, cells := 0, slots := 0, locals := 0 } : Room)) (fun a U => a = #[(.ref a0), (.int p1), (.ref a2), (.int p3), (.int p4)] ∧ Z.Warmed39 U.vm ∧ U.heap = h0) (fun _ _ _ _ _ => True) (fun _ U o U' => ∃ v L, o = .returned v ∧ Qk1 Z a0 p1 a2 p3 p4 wc sx n g ka kb h0 n0 v U'.heap L ∧ FrameEnd U o U' L ({ frames := 0, cells := 0, slots := 0, locals := 0 } : Room).cells ({ frames := 0, cells := 0, slots := 0, locals := 0 } : Room).slots) := by
  refine MetFree.of_bodySF (plainFor_of_name pnk1) hisR ?_
  intro p e s m args below meth c s₁ Bd hml0 hP hK
  obtain ⟨rfl, hZ, hh⟩ := hP
  have hx := Bd.exec
  have hby := Bd.bytes
  have hml : c.maxLocals = 7 := hml0
  have hown : s.vm.findClass "java/lang/StringUTF16" = some m.cls := findClass_of_methodNamed Bd.named
  have hnm := (name_of_methodNamed Bd.named Bd.method).1
  have X0 : Stand p l e ({ frames := 0, cells := 0, slots := 0, locals := 0 } : Room) s m #[(.ref a0), (.int p1), (.ref a2), (.int p3), (.int p4)] below meth c s₁ [] 0 0 := Stand.of_body Bd
  have e0 : s₁.heap = h0 := by rw [← hh, Bd.state]; rfl
  have N0 := Fr.nil n0
  show OwnEnd p e below s (fun v h L => Qk1 Z a0 p1 a2 p3 p4 wc sx n g ka kb h0 n0 v h L) ({ frames := 0, cells := 0, slots := 0, locals := 0 } : Room).cells ({ frames := 0, cells := 0, slots := 0, locals := 0 } : Room).slots (s₁.setTop (entryFrame m #[(.ref a0), (.int p1), (.ref a2), (.int p3), (.int p4)] 7))
  rw [efk1 m a0 p1 a2 p3 p4]
  generalize hW : OwnEnd p e below s (fun v h L => Qk1 Z a0 p1 a2 p3 p4 wc sx n g ka kb h0 n0 v h L) ({ frames := 0, cells := 0, slots := 0, locals := 0 } : Room).cells ({ frames := 0, cells := 0, slots := 0, locals := 0 } : Room).slots = W
  have stp : ∀ {A B : State}, (∀ t, Steps p.tables e below B t → Steps p.tables e below A t) → W B → W A := by subst hW; exact own_step
  obtain ⟨S_cs, hcs, S_si, hr_sx⟩ := id BW
  have hz := own_ofNat (n := n) (by omega)
  subst hp1 hp3 hp4
  show W (s₁.setTop (mkF m 0 #[.val (.ref a0), .val (.int (0 : Int32)), .val (.ref a2), .val (.int (0 : Int32)), .val (.int (Int32.ofNat n)), .unset, .unset] []))
  refine stp (fun t k => XS.iconst X0.here hx rfl (hb hby dk1_0) k) ?_
  show W (s₁.setTop (mkF m 1 #[.val (.ref a0), .val (.int (0 : Int32)), .val (.ref a2), .val (.int (0 : Int32)), .val (.int (Int32.ofNat n)), .unset, .unset] [(.int (0 : Int32))]))
  refine stp (fun t k => XS.istore X0.here hx rfl (hb hby dk1_1) rfl (l' := #[.val (.ref a0), .val (.int (0 : Int32)), .val (.ref a2), .val (.int (0 : Int32)), .val (.int (Int32.ofNat n)), .val (.int (0 : Int32)), .unset]) rfl k) ?_
  have LP : ∀ (r i : Nat) (x1 : Int32) (x3 : Int32) (x5 : Int32) (s6 : Slot) (T' : State) (lc : List Loc) (h' : Heap) (hir : i + r = n) (hx1 : x1.toInt = (i : Int)) (hx3 : x3.toInt = (i : Int)) (hx5 : x5.toInt = (i : Int)) (hs6 : One s6) (hlat : ∀ j, j < i → (g j).toInt < 256) (XL : Stand p l e ({ frames := 0, cells := 0, slots := 0, locals := 0 } : Room) s m #[(.ref a0), (.int (0 : Int32)), (.ref a2), (.int (0 : Int32)), (.int (Int32.ofNat n))] below meth c T' lc 0 0) (eL : T'.heap = h') (NL : Fr n0 lc) (KL : Keep h0 h' [a2]) (OL : Old Z n0 h') (V_a0 : Arv Z h' a0 ka .char (Int32.ofNat n) (own_vs n g) (.int (0 : Int32))) (V_a2 : Arv Z h' a2 kb .byte (Int32.ofNat n) (own_vs n fun j => if j < i then own_b (g j) else (0 : Int32)) (.int (0 : Int32))), W (T'.setTop (mkF m 3 #[.val (.ref a0), .val (.int x1), .val (.ref a2), .val (.int x3), .val (.int (Int32.ofNat n)), .val (.int x5), s6] [])) := by
    intro r
    induction r with
    | zero =>
      intro i x1 x3 x5 s6 T' lc h' hir hx1 hx3 hx5 hs6 hlat XL eL NL KL OL V_a0 V_a2
      have ZL : n0 ≤ h'.size := Nat.le_trans Z0 KL.1
      show W (T'.setTop (mkF m 3 #[.val (.ref a0), .val (.int x1), .val (.ref a2), .val (.int x3), .val (.int (Int32.ofNat n)), .val (.int x5), s6] []))
      refine stp (fun t k => XS.iload XL.here hx rfl (hb hby dk1_3) rfl k) ?_
      show W (T'.setTop (mkF m 5 #[.val (.ref a0), .val (.int x1), .val (.ref a2), .val (.int x3), .val (.int (Int32.ofNat n)), .val (.int x5), s6] [(.int x5)]))
      refine stp (fun t k => XS.iload XL.here hx rfl (hb hby dk1_5) rfl k) ?_
      show W (T'.setTop (mkF m 7 #[.val (.ref a0), .val (.int x1), .val (.ref a2), .val (.int x3), .val (.int (Int32.ofNat n)), .val (.int x5), s6] [(.int (Int32.ofNat n)), (.int x5)]))
      refine stp (fun t k => XS.icmpYes XL.here hx rfl (pc0 := 7) (pc' := 44) rfl (hb hby dk1_7) rfl ((flt (fun q => by have := (own_lt32 hx5 hz).mp q; omega)).2.1) (by decide) (by decide) k) ?_
      show W (T'.setTop (mkF m 44 #[.val (.ref a0), .val (.int x1), .val (.ref a2), .val (.int x3), .val (.int (Int32.ofNat n)), .val (.int x5), s6] []))
      refine stp (fun t k => XS.iload XL.here hx rfl (hb hby dk1_44) rfl k) ?_
      show W (T'.setTop (mkF m 46 #[.val (.ref a0), .val (.int x1), .val (.ref a2), .val (.int x3), .val (.int (Int32.ofNat n)), .val (.int x5), s6] [(.int (Int32.ofNat n))]))
      show W (T'.setTop (mkF m 46 #[.val (.ref a0), .val (.int x1), .val (.ref a2), .val (.int x3), .val (.int (Int32.ofNat n)), .val (.int x5), s6] [(.int (Int32.ofNat n))]))
      rw [← hW]
      exact own_retI XL hx Bd.notSynchronized Bd.returns (hb hby dk1_46) (by show Qk1 Z a0 (0 : Int32) a2 (0 : Int32) (Int32.ofNat n) wc sx n g ka kb h0 n0 _ T'.heap _; rw [eL]; exact ⟨(Int32.ofNat n), rfl, NL, KL, Or.inl ⟨rfl, (by obtain rfl : i = n := (by omega); exact hlat), (by obtain rfl : i = n := (by omega); exact own_arvEq (own_vsCongr (fun j hj => if_pos hj)) V_a2)⟩⟩) (by decide) (by decide)
    | succ r ih =>
      intro i x1 x3 x5 s6 T' lc h' hir hx1 hx3 hx5 hs6 hlat XL eL NL KL OL V_a0 V_a2
      have ZL : n0 ≤ h'.size := Nat.le_trans Z0 KL.1
      show W (T'.setTop (mkF m 3 #[.val (.ref a0), .val (.int x1), .val (.ref a2), .val (.int x3), .val (.int (Int32.ofNat n)), .val (.int x5), s6] []))
      refine stp (fun t k => XS.iload XL.here hx rfl (hb hby dk1_3) rfl k) ?_
      show W (T'.setTop (mkF m 5 #[.val (.ref a0), .val (.int x1), .val (.ref a2), .val (.int x3), .val (.int (Int32.ofNat n)), .val (.int x5), s6] [(.int x5)]))
      refine stp (fun t k => XS.iload XL.here hx rfl (hb hby dk1_5) rfl k) ?_
      show W (T'.setTop (mkF m 7 #[.val (.ref a0), .val (.int x1), .val (.ref a2), .val (.int x3), .val (.int (Int32.ofNat n)), .val (.int x5), s6] [(.int (Int32.ofNat n)), (.int x5)]))
      refine stp (fun t k => XS.icmpNo XL.here hx rfl (hb hby dk1_7) rfl ((tlt ((own_lt32 hx5 hz).mpr (by omega))).2.1) k) ?_
      show W (T'.setTop (mkF m 10 #[.val (.ref a0), .val (.int x1), .val (.ref a2), .val (.int x3), .val (.int (Int32.ofNat n)), .val (.int x5), s6] []))
      refine stp (fun t k => XS.aloadN XL.here hx rfl (hb hby dk1_10) rfl rfl k) ?_
      show W (T'.setTop (mkF m 11 #[.val (.ref a0), .val (.int x1), .val (.ref a2), .val (.int x3), .val (.int (Int32.ofNat n)), .val (.int x5), s6] [(.ref a0)]))
      refine stp (fun t k => XS.iloadN XL.here hx rfl (hb hby dk1_11) rfl k) ?_
      show W (T'.setTop (mkF m 12 #[.val (.ref a0), .val (.int x1), .val (.ref a2), .val (.int x3), .val (.int (Int32.ofNat n)), .val (.int x5), s6] [(.int x1), (.ref a0)]))
      obtain ⟨clk11, Ark11, qkk11, qsk11, qnk11, qhk11, qgk11⟩ := id V_a0
      have hink11 : ¬ (x1 < 0 ∨ clk11.slots.size ≤ (x1).toNatClampNeg) := inb_of qsk11 ⟨own_nn hx1, (own_lt32 hx1 hz).mpr (by omega)⟩
      have hatk11 : clk11.slots[(x1).toNatClampNeg]? = some (.int (g i)) := qhk11.at hink11 (by rw [own_clamp hx1, own_vsGet (by omega)])
      refine stp (fun t k => XL.caload hx (j := x1) (v := (.int (g i))) (by rw [eL]; exact Ark11.1) (State.isArrayOf_alike hZ.alike Ark11.2.1) Ark11.2.2 hink11 hatk11 (g := (mkF m 12 #[.val (.ref a0), .val (.int x1), .val (.ref a2), .val (.int x3), .val (.int (Int32.ofNat n)), .val (.int x5), s6] [(.int x1), (.ref a0)])) rfl rfl (hb hby dk1_12) _ k) ?_
      show W (T'.setTop (mkF m 13 #[.val (.ref a0), .val (.int x1), .val (.ref a2), .val (.int x3), .val (.int (Int32.ofNat n)), .val (.int x5), s6] [(.int (g i))]))
      refine stp (fun t k => XS.istoreS XL.here hx rfl (hb hby dk1_13) rfl rfl hs6 k) ?_
      show W (T'.setTop (mkF m 15 #[.val (.ref a0), .val (.int x1), .val (.ref a2), .val (.int x3), .val (.int (Int32.ofNat n)), .val (.int x5), .val (.int (g i))] []))
      show W (T'.setTop (mkF m 15 #[.val (.ref a0), .val (.int x1), .val (.ref a2), .val (.int x3), .val (.int (Int32.ofNat n)), .val (.int x5), .val (.int (g i))] []))
      refine stp (fun t k => XS.iload XL.here hx rfl (hb hby dk1_15) rfl k) ?_
      show W (T'.setTop (mkF m 17 #[.val (.ref a0), .val (.int x1), .val (.ref a2), .val (.int x3), .val (.int (Int32.ofNat n)), .val (.int x5), .val (.int (g i))] [(.int (g i))]))
      refine stp (fun t k => XS.sipush XL.here hx rfl (hb hby dk1_17) k) ?_
      show W (T'.setTop (mkF m 20 #[.val (.ref a0), .val (.int x1), .val (.ref a2), .val (.int x3), .val (.int (Int32.ofNat n)), .val (.int x5), .val (.int (g i))] [(.int (255 : Int32)), (.int (g i))]))
      by_cases hck1_2 : (255 : Int32) < (g i)
      · refine stp (fun t k => XS.icmpNo XL.here hx rfl (hb hby dk1_20) rfl ((tlt hck1_2).2.2.2) k) ?_
        show W (T'.setTop (mkF m 23 #[.val (.ref a0), .val (.int x1), .val (.ref a2), .val (.int x3), .val (.int (Int32.ofNat n)), .val (.int x5), .val (.int (g i))] []))
        refine stp (fun t k => XS.iload XL.here hx rfl (hb hby dk1_23) rfl k) ?_
        show W (T'.setTop (mkF m 25 #[.val (.ref a0), .val (.int x1), .val (.ref a2), .val (.int x3), .val (.int (Int32.ofNat n)), .val (.int x5), .val (.int (g i))] [(.int x5)]))
        show W (T'.setTop (mkF m 25 #[.val (.ref a0), .val (.int x1), .val (.ref a2), .val (.int x3), .val (.int (Int32.ofNat n)), .val (.int x5), .val (.int (g i))] [(.int x5)]))
        rw [← hW]
        exact own_retI XL hx Bd.notSynchronized Bd.returns (hb hby dk1_25) (by show Qk1 Z a0 (0 : Int32) a2 (0 : Int32) (Int32.ofNat n) wc sx n g ka kb h0 n0 _ T'.heap _; rw [eL]; exact ⟨x5, rfl, NL, KL, Or.inr ⟨i, by omega, hx5, own_c255 hck1_2⟩⟩) (by decide) (by decide)
      · refine stp (fun t k => XS.icmpYes XL.here hx rfl (pc0 := 20) (pc' := 26) rfl (hb hby dk1_20) rfl ((flt hck1_2).2.2.2) (by decide) (by decide) k) ?_
        show W (T'.setTop (mkF m 26 #[.val (.ref a0), .val (.int x1), .val (.ref a2), .val (.int x3), .val (.int (Int32.ofNat n)), .val (.int x5), .val (.int (g i))] []))
        refine stp (fun t k => XS.aloadN XL.here hx rfl (hb hby dk1_26) rfl rfl k) ?_
        show W (T'.setTop (mkF m 27 #[.val (.ref a0), .val (.int x1), .val (.ref a2), .val (.int x3), .val (.int (Int32.ofNat n)), .val (.int x5), .val (.int (g i))] [(.ref a2)]))
        refine stp (fun t k => XS.iloadN XL.here hx rfl (hb hby dk1_27) rfl k) ?_
        show W (T'.setTop (mkF m 28 #[.val (.ref a0), .val (.int x1), .val (.ref a2), .val (.int x3), .val (.int (Int32.ofNat n)), .val (.int x5), .val (.int (g i))] [(.int x3), (.ref a2)]))
        refine stp (fun t k => XS.iload XL.here hx rfl (hb hby dk1_28) rfl k) ?_
        show W (T'.setTop (mkF m 30 #[.val (.ref a0), .val (.int x1), .val (.ref a2), .val (.int x3), .val (.int (Int32.ofNat n)), .val (.int x5), .val (.int (g i))] [(.int (g i)), (.int x3), (.ref a2)]))
        refine stp (fun t k => XS.i2b XL.here hx rfl (hb hby dk1_30) rfl k) ?_
        show W (T'.setTop (mkF m 31 #[.val (.ref a0), .val (.int x1), .val (.ref a2), .val (.int x3), .val (.int (Int32.ofNat n)), .val (.int x5), .val (.int (g i))] [(.int ((g i).toInt8.toInt32)), (.int x3), (.ref a2)]))
        obtain ⟨clk13, Ark13, qkk13, qsk13, qnk13, qhk13, qgk13⟩ := id V_a2
        have hink13 : ¬ (x3 < 0 ∨ clk13.slots.size ≤ (x3).toNatClampNeg) := inb_of qsk13 ⟨own_nn hx3, (own_lt32 hx3 hz).mpr (by omega)⟩
        obtain ⟨Tk13, hk13, Xk13, ek13, Wk13, stk13⟩ := stB XL hx hZ eL Ark13 (j := x3) hink13 (g := (mkF m 31 #[.val (.ref a0), .val (.int x1), .val (.ref a2), .val (.int x3), .val (.int (Int32.ofNat n)), .val (.int x5), .val (.int (g i))] [(.int ((g i).toInt8.toInt32)), (.int x3), (.ref a2)])) rfl rfl (hb hby dk1_31)
        have V_a2x := Arv.set Ark13 qkk13 qsk13 qnk13 qhk13 qgk13 (fits_nar_byte _) Wk13 i (own_clamp hx3) (by rw [own_vsLen]; omega)
        have Nk13 := Fr.snoc Xk13 NL g_a2
        obtain ⟨lck1t4, Xk13, Nk13⟩ : ∃ lc, Stand p l e ({ frames := 0, cells := 0, slots := 0, locals := 0 } : Room) s m #[(.ref a0), (.int (0 : Int32)), (.ref a2), (.int (0 : Int32)), (.int (Int32.ofNat n))] below meth c Tk13 lc 0 0 ∧ Fr n0 lc := ⟨_, Xk13, Nk13⟩
        replace V_a0 := V_a0.other Wk13 ne_a0_a2
        have Kk13 := KL.wr Wk13 (Or.inl (List.mem_of_getElem? (i := 0) rfl))
        have Zk13 := Nat.le_trans ZL (Keep.of_wr Wk13).1
        have Ok13 := OL.wr Wk13 g_a2
        replace V_a2 : Arv Z hk13 a2 kb .byte (Int32.ofNat n) (own_vs n fun j => if j < i + 1 then own_b (g j) else (0 : Int32)) (.int (0 : Int32)) := own_arvEq (own_step1 n i g) V_a2x
        refine stp (fun t k => stk13 t k) ?_
        show W (Tk13.setTop (mkF m 32 #[.val (.ref a0), .val (.int x1), .val (.ref a2), .val (.int x3), .val (.int (Int32.ofNat n)), .val (.int x5), .val (.int (g i))] []))
        refine stp (fun t k => XS.iinc Xk13.here hx rfl (hb hby dk1_32) rfl (l' := #[.val (.ref a0), .val (.int (x1 + (1 : Int32))), .val (.ref a2), .val (.int x3), .val (.int (Int32.ofNat n)), .val (.int x5), .val (.int (g i))]) rfl k) ?_
        show W (Tk13.setTop (mkF m 35 #[.val (.ref a0), .val (.int (x1 + (1 : Int32))), .val (.ref a2), .val (.int x3), .val (.int (Int32.ofNat n)), .val (.int x5), .val (.int (g i))] []))
        refine stp (fun t k => XS.iinc Xk13.here hx rfl (hb hby dk1_35) rfl (l' := #[.val (.ref a0), .val (.int (x1 + (1 : Int32))), .val (.ref a2), .val (.int (x3 + (1 : Int32))), .val (.int (Int32.ofNat n)), .val (.int x5), .val (.int (g i))]) rfl k) ?_
        show W (Tk13.setTop (mkF m 38 #[.val (.ref a0), .val (.int (x1 + (1 : Int32))), .val (.ref a2), .val (.int (x3 + (1 : Int32))), .val (.int (Int32.ofNat n)), .val (.int x5), .val (.int (g i))] []))
        refine stp (fun t k => XS.iinc Xk13.here hx rfl (hb hby dk1_38) rfl (l' := #[.val (.ref a0), .val (.int (x1 + (1 : Int32))), .val (.ref a2), .val (.int (x3 + (1 : Int32))), .val (.int (Int32.ofNat n)), .val (.int (x5 + (1 : Int32))), .val (.int (g i))]) rfl k) ?_
        show W (Tk13.setTop (mkF m 41 #[.val (.ref a0), .val (.int (x1 + (1 : Int32))), .val (.ref a2), .val (.int (x3 + (1 : Int32))), .val (.int (Int32.ofNat n)), .val (.int (x5 + (1 : Int32))), .val (.int (g i))] []))
        refine stp (fun t k => XS.goto Xk13.here hx rfl (pc0 := 41) (pc' := 3) rfl (hb hby dk1_41) (by decide) (by decide) k) ?_
        exact ih (i + 1) _ _ _ _ _ _ _ (by omega) (own_inc hx1 (by omega)) (own_inc hx3 (by omega)) (own_inc hx5 (by omega)) (One.val rfl) (fun j hj => (Nat.lt_succ_iff_lt_or_eq.mp hj).elim (hlat j) (fun q => by subst q; exact own_c256 hck1_2)) Xk13 ek13 Nk13 Kk13 Ok13 V_a0 V_a2
  exact LP n 0 (0 : Int32) (0 : Int32) (0 : Int32) .unset _ _ _ (by omega) rfl rfl rfl One.u (fun j hj => absurd hj (Nat.not_lt_zero j)) X0 e0 N0 (Keep.refl h0 [a2]) O0 V_a0 (by simpa using V_a2)
theorem own_gt255 {c : Int32} (h : 256 ≤ c.toInt) : (255 : Int32) < c := by
  rw [Int32.lt_iff_toInt_lt, show (255 : Int32).toInt = 255 from by decide]; omega
theorem dk2_0 : decode jdk_52_method_16_code 0 = .ok (.iload_n 2, 1) := by decide +kernel
theorem dk2_1 : decode jdk_52_method_16_code 1 = .ok (.newarray .byte, 2) := by decide +kernel
theorem dk2_3 : decode jdk_52_method_16_code 3 = .ok (.astore_n 3, 1) := by decide +kernel
theorem dk2_4 : decode jdk_52_method_16_code 4 = .ok (.aload_n 0, 1) := by decide +kernel
theorem dk2_5 : decode jdk_52_method_16_code 5 = .ok (.iload_n 1, 1) := by decide +kernel
theorem dk2_6 : decode jdk_52_method_16_code 6 = .ok (.aload_n 3, 1) := by decide +kernel
theorem dk2_7 : decode jdk_52_method_16_code 7 = .ok (.iconst 0, 1) := by decide +kernel
theorem dk2_8 : decode jdk_52_method_16_code 8 = .ok (.iload_n 2, 1) := by decide +kernel
theorem dk2_9 : decode jdk_52_method_16_code 9 = .ok (.invokestatic 115, 3) := by decide +kernel
theorem dk2_12 : decode jdk_52_method_16_code 12 = .ok (.istore 4, 2) := by decide +kernel
theorem dk2_14 : decode jdk_52_method_16_code 14 = .ok (.iload 4, 2) := by decide +kernel
theorem dk2_16 : decode jdk_52_method_16_code 16 = .ok (.iload_n 2, 1) := by decide +kernel
theorem dk2_17 : decode jdk_52_method_16_code 17 = .ok (.if_icmp .eq 40, 3) := by decide +kernel
theorem dk2_57 : decode jdk_52_method_16_code 57 = .ok (.aload_n 3, 1) := by decide +kernel
theorem dk2_58 : decode jdk_52_method_16_code 58 = .ok (.areturn, 1) := by decide +kernel
theorem pnk2 : plainName "java/lang/StringUTF16" = true := by first | (simp [plainName, overriddenIn]; done) | decide +kernel
theorem pdk2_0 : parseMethodDescriptor "([CI[BII)I" = some ⟨[(.array .char), .int, (.array .byte), .int, .int], some .int⟩ := by decide +kernel
theorem efk2 (m : MethodId) (a0 : Addr) (p1 : Int32) (p2 : Int32) : entryFrame m #[(.ref a0), (.int p1), (.int p2)] 6 = mkF m 0 #[.val (.ref a0), .val (.int p1), .val (.int p2), .unset, .unset, .unset] [] := by first | (simp [entryFrame, mkF, argsToLocals, Value.category]; done) | rfl
def Qk2 (Z : State) (a0 : Addr) (p1 : Int32) (p2 : Int32) (wc : Int32) (sx : Value) (n : Nat) (g : Nat → Int32) (ka : ClassId) (h0 : Heap) (n0 : Nat) (v : Option Value) (h : Heap) (L : List Loc) : Prop := ∃ (b : Addr) (kb : ClassId), v = some (.ref b) ∧ Fr n0 L ∧ Keep h0 h [] ∧ h0.size ≤ b ∧ (((∀ j, j < n → (g j).toInt < 256) ∧ Arv Z h b kb .byte (Int32.ofNat n) (own_vs n fun j => own_b (g j)) (.int (0 : Int32))) ∨ ((∃ j, j < n ∧ 256 ≤ (g j).toInt) ∧ Arv Z h b kb .byte (Int32.ofNat (2 * n)) (own_vs (2 * n) (own_u g)) (.int (0 : Int32))))
set_option maxRecDepth 65536 in
set_option maxHeartbeats 40000000 in
theorem rmk2 (l : Launch) (Z : State) (aa : Array Value) (hw : ∀ d ∈ tables_1, d.before aa Z = true) (ws : List Jvm.Cond) (a0 : Addr) (p1 : Int32) (p2 : Int32) (wc : Int32) (sx : Value) (n : Nat) (g : Nat → Int32) (ka : ClassId) (h0 : Heap) (n0 : Nat) (Z0 : n0 ≤ h0.size) (BW : OwnW Z wc sx) (O0 : Old Z n0 h0) (hn : n ≤ 18) (hch : ∀ j, j < n → 0 ≤ (g j).toInt ∧ (g j).toInt < 65536) (hasc : ∀ j, j < n → (g j).toInt < 256) (V_a0 : Arv Z h0 a0 ka .char (Int32.ofNat n) (own_vs n g) (.int (0 : Int32))) (hp1 : p1 = (0 : Int32)) (hp2 : p2 = (Int32.ofNat n)) :
    MetFree l (⟨"java/lang/StringUTF16", "compress", "([CII)[B"⟩ : MethodName) (head1 (Jvm.Cond.code (⟨"java/lang/StringUTF16", "compress", "([CII)[B"⟩ : MethodName) jdk_52_method_16_code 6 (some (.array .byte)) :: ws) ({ frames := 1, cells := 1, slots := 18, locals := 18 } : Room)) (fun a U => a = #[(.ref a0), (.int p1), (.int p2)] ∧ Z.Warmed39 U.vm ∧ U.heap = h0) (fun _ _ _ _ _ => True) (fun _ U o U' => ∃ v L, o = .returned v ∧ Qk2 Z a0 p1 p2 wc sx n g ka h0 n0 v U'.heap L ∧ FrameEnd U o U' L ({ frames := 1, cells := 1, slots := 18, locals := 18 } : Room).cells ({ frames := 1, cells := 1, slots := 18, locals := 18 } : Room).slots) := by
  refine MetFree.of_bodySF (plainFor_of_name pnk2) hisR ?_
  intro p e s m args below meth c s₁ Bd hml0 hP hK
  obtain ⟨rfl, hZ, hh⟩ := hP
  have hx := Bd.exec
  have hby := Bd.bytes
  have hml : c.maxLocals = 6 := hml0
  have hown : s.vm.findClass "java/lang/StringUTF16" = some m.cls := findClass_of_methodNamed Bd.named
  have hnm := (name_of_methodNamed Bd.named Bd.method).1
  have X0 : Stand p l e ({ frames := 1, cells := 1, slots := 18, locals := 18 } : Room) s m #[(.ref a0), (.int p1), (.int p2)] below meth c s₁ [] 0 0 := Stand.of_body Bd
  have e0 : s₁.heap = h0 := by rw [← hh, Bd.state]; rfl
  have N0 := Fr.nil n0
  show OwnEnd p e below s (fun v h L => Qk2 Z a0 p1 p2 wc sx n g ka h0 n0 v h L) ({ frames := 1, cells := 1, slots := 18, locals := 18 } : Room).cells ({ frames := 1, cells := 1, slots := 18, locals := 18 } : Room).slots (s₁.setTop (entryFrame m #[(.ref a0), (.int p1), (.int p2)] 6))
  rw [efk2 m a0 p1 p2]
  generalize hW : OwnEnd p e below s (fun v h L => Qk2 Z a0 p1 p2 wc sx n g ka h0 n0 v h L) ({ frames := 1, cells := 1, slots := 18, locals := 18 } : Room).cells ({ frames := 1, cells := 1, slots := 18, locals := 18 } : Room).slots = W
  have stp : ∀ {A B : State}, (∀ t, Steps p.tables e below B t → Steps p.tables e below A t) → W B → W A := by subst hW; exact own_step
  obtain ⟨S_cs, hcs, S_si, hr_sx⟩ := id BW
  have hz := own_ofNat (n := n) (by omega)
  have hz2 := own_ofNat (n := 2 * n) (by omega)
  subst hp1 hp2
  show W (s₁.setTop (mkF m 0 #[.val (.ref a0), .val (.int (0 : Int32)), .val (.int (Int32.ofNat n)), .unset, .unset, .unset] []))
  refine stp (fun t k => XS.iloadN X0.here hx rfl (hb hby dk2_0) rfl k) ?_
  show W (s₁.setTop (mkF m 1 #[.val (.ref a0), .val (.int (0 : Int32)), .val (.int (Int32.ofNat n)), .unset, .unset, .unset] [(.int (Int32.ofNat n))]))
  obtain ⟨Tk21, hk21, kk21, Xk21, ek21, Ek21, Ak21, stk21⟩ := newP X0 hx hZ (hw _ (List.mem_of_getElem? (i := 28) rfl)) e0 (g := (mkF m 1 #[.val (.ref a0), .val (.int (0 : Int32)), .val (.int (Int32.ofNat n)), .unset, .unset, .unset] [(.int (Int32.ofNat n))])) rfl (hb hby dk2_1) rfl (own_nn hz) (cap := 18) (by rw [own_clamp hz]; exact hn) (by decide) (by decide) (by decide)
  obtain ⟨bk21, gqk21⟩ : ∃ z, z = h0.size := ⟨_, rfl⟩
  rw [← gqk21] at Ak21 stk21
  have ne_a0_bk21 : a0 ≠ bk21 := Nat.ne_of_lt (Nat.lt_of_lt_of_le V_a0.lt (Nat.le_of_eq gqk21.symm))
  have g_bk21 : n0 ≤ bk21 := Nat.le_trans Z0 (Nat.le_of_eq gqk21.symm)
  have sz_bk21 : h0.size ≤ bk21 := Nat.le_trans (Keep.refl h0 []).1 (Nat.le_of_eq gqk21.symm)
  replace V_a0 := V_a0.ext Ek21
  have Kk21 := (Keep.refl h0 []).ext Ek21
  have Zk21 := Nat.le_trans Z0 Ek21.1
  have Ok21 := O0.ext Ek21
  have V_bk21 : Arv Z hk21 bk21 kk21 .byte (Int32.ofNat n) (own_vs n fun _ => (0 : Int32)) (.int (0 : Int32)) := (Arv.new Ak21 (own_nn hz)).pad (own_vsPad _)
  refine stp (fun t k => stk21 t k) ?_
  show W (Tk21.setTop (mkF m 3 #[.val (.ref a0), .val (.int (0 : Int32)), .val (.int (Int32.ofNat n)), .unset, .unset, .unset] [(.ref bk21)]))
  refine stp (fun t k => XS.astoreN Xk21.here hx rfl (hb hby dk2_3) rfl rfl (l' := #[.val (.ref a0), .val (.int (0 : Int32)), .val (.int (Int32.ofNat n)), .val (.ref bk21), .unset, .unset]) rfl k) ?_
  show W (Tk21.setTop (mkF m 4 #[.val (.ref a0), .val (.int (0 : Int32)), .val (.int (Int32.ofNat n)), .val (.ref bk21), .unset, .unset] []))
  refine stp (fun t k => XS.aloadN Xk21.here hx rfl (hb hby dk2_4) rfl rfl k) ?_
  show W (Tk21.setTop (mkF m 5 #[.val (.ref a0), .val (.int (0 : Int32)), .val (.int (Int32.ofNat n)), .val (.ref bk21), .unset, .unset] [(.ref a0)]))
  refine stp (fun t k => XS.iloadN Xk21.here hx rfl (hb hby dk2_5) rfl k) ?_
  show W (Tk21.setTop (mkF m 6 #[.val (.ref a0), .val (.int (0 : Int32)), .val (.int (Int32.ofNat n)), .val (.ref bk21), .unset, .unset] [(.int (0 : Int32)), (.ref a0)]))
  refine stp (fun t k => XS.aloadN Xk21.here hx rfl (hb hby dk2_6) rfl rfl k) ?_
  show W (Tk21.setTop (mkF m 7 #[.val (.ref a0), .val (.int (0 : Int32)), .val (.int (Int32.ofNat n)), .val (.ref bk21), .unset, .unset] [(.ref bk21), (.int (0 : Int32)), (.ref a0)]))
  refine stp (fun t k => XS.iconst Xk21.here hx rfl (hb hby dk2_7) k) ?_
  show W (Tk21.setTop (mkF m 8 #[.val (.ref a0), .val (.int (0 : Int32)), .val (.int (Int32.ofNat n)), .val (.ref bk21), .unset, .unset] [(.int (0 : Int32)), (.ref bk21), (.int (0 : Int32)), (.ref a0)]))
  refine stp (fun t k => XS.iloadN Xk21.here hx rfl (hb hby dk2_8) rfl k) ?_
  show W (Tk21.setTop (mkF m 9 #[.val (.ref a0), .val (.int (0 : Int32)), .val (.int (Int32.ofNat n)), .val (.ref bk21), .unset, .unset] [(.int (Int32.ofNat n)), (.int (0 : Int32)), (.ref bk21), (.int (0 : Int32)), (.ref a0)]))
  obtain ⟨_, _, ⟨Tk2c2, Lk2c2, kk2c2, nk2c2⟩, -, Xk2c2, ⟨Lck2c2, hQk2c2, lk2c2, yk2c2, zk2c2⟩, stk2c2⟩ := Jvm.LawKit.callS Xk21 hx (y := (⟨"java/lang/StringUTF16", "compress", "([CI[BII)I"⟩ : MethodName)) hown (mvT hZ (hw _ (List.mem_of_getElem? (i := 29) rfl))) (mvT hZ (hw _ (List.mem_of_getElem? (i := 30) rfl))) (mvT hZ (hw _ (List.mem_of_getElem? (i := 26) rfl))) (mvT hZ (hw _ (List.mem_of_getElem? (i := 31) rfl))) (by decide) (backOf (W := 0) (rmk1 l Z aa hw [] a0 (0 : Int32) bk21 (0 : Int32) (Int32.ofNat n) wc sx n g ka kk21 hk21 n0 Zk21 BW Ok21 hn hch V_a0 V_bk21 ne_a0_bk21 g_bk21 rfl rfl rfl) hZ (hw _ (List.mem_of_getElem? (i := 31) rfl)) (hw _ (List.mem_of_getElem? (i := 26) rfl)) (by decide) (by decide)) (g := (mkF m 9 #[.val (.ref a0), .val (.int (0 : Int32)), .val (.int (Int32.ofNat n)), .val (.ref bk21), .unset, .unset] [(.int (Int32.ofNat n)), (.int (0 : Int32)), (.ref bk21), (.int (0 : Int32)), (.ref a0)])) rfl (by rw [hml]; rfl) (argsL := [(.ref a0), (.int (0 : Int32)), (.ref bk21), (.int (0 : Int32)), (.int (Int32.ofNat n))]) (rest := []) (lenOf pdk2_0 rfl) rfl (by show 2 * 0 + _ ≤ _; exact Nat.le_of_eq rfl) (hb hby dk2_9) (fun _ _ => ⟨rfl, ek21, (by decide : 1 + 0 ≤ _), (by decide : 18 + 0 ≤ _)⟩)
  dsimp only [Pt.U, Pt.locs, Pt.cells, Pt.slots] at Xk2c2 lk2c2 yk2c2 zk2c2 stk2c2 hQk2c2
  subst lk2c2 yk2c2 zk2c2
  obtain ⟨rk2c2, rfl, Nk2c2q, Kqk2c2, Ck2c2⟩ := hQk2c2
  have Nk2c2 := Fr.app N0 Nk2c2q
  obtain ⟨lck2t3, Xk2c2, Nk2c2⟩ : ∃ lc, Stand p l e ({ frames := 1, cells := 1, slots := 18, locals := 18 } : Room) s m #[(.ref a0), (.int (0 : Int32)), (.int (Int32.ofNat n))] below meth c Tk2c2 lc 1 18 ∧ Fr n0 lc := ⟨_, Xk2c2, Nk2c2⟩
  obtain ⟨hk2c2, ek2c2⟩ : ∃ h, Tk2c2.heap = h := ⟨_, rfl⟩
  rw [ek2c2] at Kqk2c2 Ck2c2
  replace V_a0 := V_a0.keep Kqk2c2 (ninS ne_a0_bk21 nin0)
  have KKk2c2 := Keep.trans Kk21 Kqk2c2 (allS (Or.inr sz_bk21) all0)
  have Zk2c2 := Nat.le_trans Zk21 Kqk2c2.1
  have Ok2c2 := Ok21.keep Kqk2c2 (allS g_bk21 all0)
  refine stp (fun t k => stk2c2 t k) ?_
  show W (Tk2c2.setTop (mkF m 12 #[.val (.ref a0), .val (.int (0 : Int32)), .val (.int (Int32.ofNat n)), .val (.ref bk21), .unset, .unset] [(.int rk2c2)]))
  refine stp (fun t k => XS.istore Xk2c2.here hx rfl (hb hby dk2_12) rfl (l' := #[.val (.ref a0), .val (.int (0 : Int32)), .val (.int (Int32.ofNat n)), .val (.ref bk21), .val (.int rk2c2), .unset]) rfl k) ?_
  show W (Tk2c2.setTop (mkF m 14 #[.val (.ref a0), .val (.int (0 : Int32)), .val (.int (Int32.ofNat n)), .val (.ref bk21), .val (.int rk2c2), .unset] []))
  refine stp (fun t k => XS.iload Xk2c2.here hx rfl (hb hby dk2_14) rfl k) ?_
  show W (Tk2c2.setTop (mkF m 16 #[.val (.ref a0), .val (.int (0 : Int32)), .val (.int (Int32.ofNat n)), .val (.ref bk21), .val (.int rk2c2), .unset] [(.int rk2c2)]))
  refine stp (fun t k => XS.iloadN Xk2c2.here hx rfl (hb hby dk2_16) rfl k) ?_
  show W (Tk2c2.setTop (mkF m 17 #[.val (.ref a0), .val (.int (0 : Int32)), .val (.int (Int32.ofNat n)), .val (.ref bk21), .val (.int rk2c2), .unset] [(.int (Int32.ofNat n)), (.int rk2c2)]))
  rcases Ck2c2 with Ck2c2 | Ck2c2
  · obtain ⟨rfl, hlat, V_bk21⟩ := Ck2c2
    show W (Tk2c2.setTop (mkF m 17 #[.val (.ref a0), .val (.int (0 : Int32)), .val (.int (Int32.ofNat n)), .val (.ref bk21), .val (.int (Int32.ofNat n)), .unset] [(.int (Int32.ofNat n)), (.int (Int32.ofNat n))]))
    refine stp (fun t k => XS.icmpYes Xk2c2.here hx rfl (pc0 := 17) (pc' := 57) rfl (hb hby dk2_17) rfl ((teq (rfl)).1) (by decide) (by decide) k) ?_
    show W (Tk2c2.setTop (mkF m 57 #[.val (.ref a0), .val (.int (0 : Int32)), .val (.int (Int32.ofNat n)), .val (.ref bk21), .val (.int (Int32.ofNat n)), .unset] []))
    refine stp (fun t k => XS.aloadN Xk2c2.here hx rfl (hb hby dk2_57) rfl rfl k) ?_
    show W (Tk2c2.setTop (mkF m 58 #[.val (.ref a0), .val (.int (0 : Int32)), .val (.int (Int32.ofNat n)), .val (.ref bk21), .val (.int (Int32.ofNat n)), .unset] [(.ref bk21)]))
    show W (Tk2c2.setTop (mkF m 58 #[.val (.ref a0), .val (.int (0 : Int32)), .val (.int (Int32.ofNat n)), .val (.ref bk21), .val (.int (Int32.ofNat n)), .unset] [(.ref bk21)]))
    rw [← hW]
    exact own_retR Xk2c2 hx Bd.notSynchronized Bd.returns rfl (hb hby dk2_58) (by show Qk2 Z a0 (0 : Int32) (Int32.ofNat n) wc sx n g ka h0 n0 _ Tk2c2.heap _; rw [ek2c2]; exact ⟨bk21, kk21, rfl, Nk2c2, KKk2c2, sz_bk21, Or.inl ⟨hlat, V_bk21⟩⟩) (by decide) (by decide)
  · obtain ⟨i, hi, hr, hbig⟩ := Ck2c2
    exact absurd (hasc i hi) (by omega)
theorem dca_0 : decode jdk_52_method_15_code 0 = .ok (.iload_n 1, 1) := by decide +kernel
theorem dca_1 : decode jdk_52_method_15_code 1 = .ok (.aload_n 0, 1) := by decide +kernel
theorem dca_2 : decode jdk_52_method_15_code 2 = .ok (.arraylength, 1) := by decide +kernel
theorem dca_3 : decode jdk_52_method_15_code 3 = .ok (.isub, 1) := by decide +kernel
theorem dca_4 : decode jdk_52_method_15_code 4 = .ok (.bipush 31, 2) := by decide +kernel
theorem dca_6 : decode jdk_52_method_15_code 6 = .ok (.iushr, 1) := by decide +kernel
theorem dca_7 : decode jdk_52_method_15_code 7 = .ok (.i2b, 1) := by decide +kernel
theorem dca_8 : decode jdk_52_method_15_code 8 = .ok (.ireturn, 1) := by decide +kernel
theorem pnca : plainName "java/lang/StringUTF16" = true := by first | (simp [plainName, overriddenIn]; done) | decide +kernel
theorem efca (m : MethodId) (a0 : Addr) (p1 : Int32) : entryFrame m #[(.ref a0), (.int p1)] 2 = mkF m 0 #[.val (.ref a0), .val (.int p1)] [] := by first | (simp [entryFrame, mkF, argsToLocals, Value.category]; done) | rfl
def fca (p1 : Int32) (z : Int32) : Int32 := (nar .byte ((((p1 - z).toUInt32 >>> ((31 : Int32) &&& 31).toUInt32).toInt32).toInt8.toInt32))
def Qca (Z : State) (a0 : Addr) (p1 : Int32) (wc : Int32) (sx : Value) (kb : ClassId) (z : Int32) (vs : List Value) (h0 : Heap) (n0 : Nat) (v : Option Value) (h : Heap) (L : List Loc) : Prop := v = some (.int (fca p1 z)) ∧ Fr n0 L ∧ h = h0
set_option maxRecDepth 65536 in
set_option maxHeartbeats 40000000 in
theorem rmca (l : Launch) (Z : State) (aa : Array Value) (hw : ∀ d ∈ tables_1, d.before aa Z = true) (ws : List Jvm.Cond) (a0 : Addr) (p1 : Int32) (wc : Int32) (sx : Value) (kb : ClassId) (z : Int32) (vs : List Value) (h0 : Heap) (n0 : Nat) (Z0 : n0 ≤ h0.size) (BW : OwnW Z wc sx) (O0 : Old Z n0 h0) (V_a0 : Arv Z h0 a0 kb .byte z vs (.int (0 : Int32))) :
    MetFree l (⟨"java/lang/StringUTF16", "coderFromArrayLen", "([BI)B"⟩ : MethodName) (head1 (Jvm.Cond.code (⟨"java/lang/StringUTF16", "coderFromArrayLen", "([BI)B"⟩ : MethodName) jdk_52_method_15_code 2 (some .byte) :: ws) ({ frames := 0, cells := 0, slots := 0, locals := 0 } : Room)) (fun a U => a = #[(.ref a0), (.int p1)] ∧ Z.Warmed39 U.vm ∧ U.heap = h0) (fun _ _ _ _ _ => True) (fun _ U o U' => ∃ v L, o = .returned v ∧ Qca Z a0 p1 wc sx kb z vs h0 n0 v U'.heap L ∧ FrameEnd U o U' L ({ frames := 0, cells := 0, slots := 0, locals := 0 } : Room).cells ({ frames := 0, cells := 0, slots := 0, locals := 0 } : Room).slots) := by
  refine MetFree.of_bodySF (plainFor_of_name pnca) hisR ?_
  intro p e s m args below meth c s₁ Bd hml0 hP hK
  obtain ⟨rfl, hZ, hh⟩ := hP
  have hx := Bd.exec
  have hby := Bd.bytes
  have hml : c.maxLocals = 2 := hml0
  have hown : s.vm.findClass "java/lang/StringUTF16" = some m.cls := findClass_of_methodNamed Bd.named
  have hnm := (name_of_methodNamed Bd.named Bd.method).1
  have X0 : Stand p l e ({ frames := 0, cells := 0, slots := 0, locals := 0 } : Room) s m #[(.ref a0), (.int p1)] below meth c s₁ [] 0 0 := Stand.of_body Bd
  have e0 : s₁.heap = h0 := by rw [← hh, Bd.state]; rfl
  have N0 := Fr.nil n0
  show OwnEnd p e below s (fun v h L => Qca Z a0 p1 wc sx kb z vs h0 n0 v h L) ({ frames := 0, cells := 0, slots := 0, locals := 0 } : Room).cells ({ frames := 0, cells := 0, slots := 0, locals := 0 } : Room).slots (s₁.setTop (entryFrame m #[(.ref a0), (.int p1)] 2))
  rw [efca m a0 p1]
  generalize hW : OwnEnd p e below s (fun v h L => Qca Z a0 p1 wc sx kb z vs h0 n0 v h L) ({ frames := 0, cells := 0, slots := 0, locals := 0 } : Room).cells ({ frames := 0, cells := 0, slots := 0, locals := 0 } : Room).slots = W
  have stp : ∀ {A B : State}, (∀ t, Steps p.tables e below B t → Steps p.tables e below A t) → W B → W A := by subst hW; exact own_step
  obtain ⟨S_cs, hcs, S_si, hr_sx⟩ := id BW
  show W (s₁.setTop (mkF m 0 #[.val (.ref a0), .val (.int p1)] []))
  refine stp (fun t k => XS.iloadN X0.here hx rfl (hb hby dca_0) rfl k) ?_
  show W (s₁.setTop (mkF m 1 #[.val (.ref a0), .val (.int p1)] [(.int p1)]))
  refine stp (fun t k => XS.aloadN X0.here hx rfl (hb hby dca_1) rfl rfl k) ?_
  show W (s₁.setTop (mkF m 2 #[.val (.ref a0), .val (.int p1)] [(.ref a0), (.int p1)]))
  obtain ⟨clca1, Arca1, qkca1, qsca1, qnca1, qhca1, qgca1⟩ := id V_a0
  refine stp (fun t k => X0.arraylength hx (by rw [e0]; exact Arca1.1) (State.isArrayOf_alike hZ.alike Arca1.2.1) (g := (mkF m 2 #[.val (.ref a0), .val (.int p1)] [(.ref a0), (.int p1)])) rfl rfl (hb hby dca_2) _ k) ?_
  rw [len_of qsca1 qnca1]
  show W (s₁.setTop (mkF m 3 #[.val (.ref a0), .val (.int p1)] [(.int z), (.int p1)]))
  refine stp (fun t k => XS.isub X0.here hx rfl (hb hby dca_3) rfl k) ?_
  show W (s₁.setTop (mkF m 4 #[.val (.ref a0), .val (.int p1)] [(.int (p1 - z))]))
  refine stp (fun t k => XS.bipush X0.here hx rfl (hb hby dca_4) k) ?_
  show W (s₁.setTop (mkF m 6 #[.val (.ref a0), .val (.int p1)] [(.int (31 : Int32)), (.int (p1 - z))]))
  refine stp (fun t k => XS.iushr X0.here hx rfl (hb hby dca_6) rfl k) ?_
  show W (s₁.setTop (mkF m 7 #[.val (.ref a0), .val (.int p1)] [(.int (((p1 - z).toUInt32 >>> ((31 : Int32) &&& 31).toUInt32).toInt32))]))
  refine stp (fun t k => XS.i2b X0.here hx rfl (hb hby dca_7) rfl k) ?_
  show W (s₁.setTop (mkF m 8 #[.val (.ref a0), .val (.int p1)] [(.int ((((p1 - z).toUInt32 >>> ((31 : Int32) &&& 31).toUInt32).toInt32).toInt8.toInt32))]))
  show W (s₁.setTop (mkF m 8 #[.val (.ref a0), .val (.int p1)] [(.int ((((p1 - z).toUInt32 >>> ((31 : Int32) &&& 31).toUInt32).toInt32).toInt8.toInt32))]))
  rw [← hW]
  exact own_retN X0 hx Bd.notSynchronized Bd.returns (w := (nar .byte ((((p1 - z).toUInt32 >>> ((31 : Int32) &&& 31).toUInt32).toInt32).toInt8.toInt32))) (by simp) (hb hby dca_8) rfl (by show Qca Z a0 p1 wc sx kb z vs h0 n0 _ s₁.heap _; rw [e0]; exact ⟨rfl, N0, rfl⟩) (by decide) (by decide)
theorem own_fca0 (z : Int32) : nar .byte (fca z z) = (0 : Int32) := by
  have e : z - z = 0 := by
    apply Int32.toInt_inj.mp
    have h1 := c_isub z z
    have h2 := rng32 (z - z)
    have h3 : (0 : Int32).toInt = 0 := by decide
    omega
  unfold fca
  rw [e]
  decide
theorem own_fca1 {n : Nat} (h1 : 1 ≤ n) (hn : n ≤ 1000000) : nar .byte (fca (Int32.ofNat n) (Int32.ofNat (2 * n))) = (1 : Int32) := by
  have a1 := own_ofNat (n := n) (by omega)
  have a2 := own_ofNat (n := 2 * n) (by omega)
  have b1 := c_isub (Int32.ofNat n) (Int32.ofNat (2 * n))
  have b2 := rng32 (Int32.ofNat n - Int32.ofNat (2 * n))
  have b3 := c_iushr (Int32.ofNat n - Int32.ofNat (2 * n)) 31 31 (by decide) (by decide)
  have e : ((Int32.ofNat n - Int32.ofNat (2 * n)).toUInt32 >>> ((31 : Int32) &&& 31).toUInt32).toInt32 = 1 := by
    apply Int32.toInt_inj.mp
    rw [b3, show (1 : Int32).toInt = 1 from by decide]
    omega
  unfold fca
  rw [e]
  decide
theorem di2_0 : decode jdk_42_method_149_code 0 = .ok (.aload_n 0, 1) := by decide +kernel
theorem di2_1 : decode jdk_42_method_149_code 1 = .ok (.invokespecial 1, 3) := by decide +kernel
theorem di2_4 : decode jdk_42_method_149_code 4 = .ok (.iload_n 3, 1) := by decide +kernel
theorem di2_5 : decode jdk_42_method_149_code 5 = .ok (.ifCond .ne 22, 3) := by decide +kernel
theorem di2_27 : decode jdk_42_method_149_code 27 = .ok (.getstatic 38, 3) := by decide +kernel
theorem di2_30 : decode jdk_42_method_149_code 30 = .ok (.ifCond .eq 28, 3) := by decide +kernel
theorem di2_33 : decode jdk_42_method_149_code 33 = .ok (.aload_n 1, 1) := by decide +kernel
theorem di2_34 : decode jdk_42_method_149_code 34 = .ok (.iload_n 2, 1) := by decide +kernel
theorem di2_35 : decode jdk_42_method_149_code 35 = .ok (.iload_n 3, 1) := by decide +kernel
theorem di2_36 : decode jdk_42_method_149_code 36 = .ok (.invokestatic 177, 3) := by decide +kernel
theorem di2_39 : decode jdk_42_method_149_code 39 = .ok (.astore 5, 2) := by decide +kernel
theorem di2_41 : decode jdk_42_method_149_code 41 = .ok (.aload_n 0, 1) := by decide +kernel
theorem di2_42 : decode jdk_42_method_149_code 42 = .ok (.aload 5, 2) := by decide +kernel
theorem di2_44 : decode jdk_42_method_149_code 44 = .ok (.iload_n 3, 1) := by decide +kernel
theorem di2_45 : decode jdk_42_method_149_code 45 = .ok (.invokestatic 47, 3) := by decide +kernel
theorem di2_48 : decode jdk_42_method_149_code 48 = .ok (.putfield 15, 3) := by decide +kernel
theorem di2_51 : decode jdk_42_method_149_code 51 = .ok (.aload_n 0, 1) := by decide +kernel
theorem di2_52 : decode jdk_42_method_149_code 52 = .ok (.aload 5, 2) := by decide +kernel
theorem di2_54 : decode jdk_42_method_149_code 54 = .ok (.putfield 9, 3) := by decide +kernel
theorem di2_57 : decode jdk_42_method_149_code 57 = .ok (.return_, 1) := by decide +kernel
theorem pni2 : plainName "java/lang/String" = true := by first | (simp [plainName, overriddenIn]; done) | decide +kernel
theorem pdi2_0 : parseMethodDescriptor "([CII)[B" = some ⟨[(.array .char), .int, .int], some (.array .byte)⟩ := by decide +kernel
theorem pdi2_1 : parseMethodDescriptor "([BI)B" = some ⟨[(.array .byte), .int], some .byte⟩ := by decide +kernel
theorem efi2 (m : MethodId) (a0 : Addr) (a1 : Addr) (p2 : Int32) (p3 : Int32) : entryFrame m #[(.ref a0), (.ref a1), (.int p2), (.int p3), .null] 6 = mkF m 0 #[.val (.ref a0), .val (.ref a1), .val (.int p2), .val (.int p3), .val .null, .unset] [] := by first | (simp [entryFrame, mkF, argsToLocals, Value.category]; done) | rfl
def Qi2 (Z : State) (a0 : Addr) (a1 : Addr) (p2 : Int32) (p3 : Int32) (wc : Int32) (sx : Value) (n : Nat) (g : Nat → Int32) (ka : ClassId) (h0 : Heap) (n0 : Nat) (v : Option Value) (h : Heap) (L : List Loc) : Prop := v = none ∧ Fr n0 L ∧ Keep h0 h [a0] ∧ ∃ b : Addr, h0.size ≤ b ∧ OwnStr Z h a0 b n g
set_option maxRecDepth 65536 in
set_option maxHeartbeats 40000000 in
theorem rmi2 (l : Launch) (Z : State) (aa : Array Value) (hw : ∀ d ∈ tables_1, d.before aa Z = true) (ws : List Jvm.Cond) (a0 : Addr) (a1 : Addr) (p2 : Int32) (p3 : Int32) (wc : Int32) (sx : Value) (n : Nat) (g : Nat → Int32) (ka : ClassId) (h0 : Heap) (n0 : Nat) (Z0 : n0 ≤ h0.size) (BW : OwnW Z wc sx) (O0 : Old Z n0 h0) (hn : n ≤ 18) (hch : ∀ j, j < n → 0 ≤ (g j).toInt ∧ (g j).toInt < 65536) (hasc : ∀ j, j < n → (g j).toInt < 256) (E_a0 : Exa Z h0 a0 "java/lang/String") (F_value_a0 : Fld Z h0 a0 "java/lang/String" "value" "[B" .null) (F_coder_a0 : Fld Z h0 a0 "java/lang/String" "coder" "B" (.int (0 : Int32))) (g_a0 : n0 ≤ a0) (V_a1 : Arv Z h0 a1 ka .char (Int32.ofNat n) (own_vs n g) (.int (0 : Int32))) (ne_a0_a1 : a0 ≠ a1) (h1 : 1 ≤ n) (hp2 : p2 = (0 : Int32)) (hp3 : p3 = (Int32.ofNat n)) :
    MetFree l (⟨"java/lang/String", "<init>", "([CIILjava/lang/Void;)V"⟩ : MethodName) (head1 (Jvm.Cond.code (⟨"java/lang/String", "<init>", "([CIILjava/lang/Void;)V"⟩ : MethodName) jdk_42_method_149_code 6 none :: ws) ({ frames := 2, cells := 1, slots := 18, locals := 35 } : Room)) (fun a U => a = #[(.ref a0), (.ref a1), (.int p2), (.int p3), .null] ∧ Z.Warmed39 U.vm ∧ U.heap = h0) (fun _ _ _ _ _ => True) (fun _ U o U' => ∃ v L, o = .returned v ∧ Qi2 Z a0 a1 p2 p3 wc sx n g ka h0 n0 v U'.heap L ∧ FrameEnd U o U' L ({ frames := 2, cells := 1, slots := 18, locals := 35 } : Room).cells ({ frames := 2, cells := 1, slots := 18, locals := 35 } : Room).slots) := by
  refine MetFree.of_bodySF (plainFor_of_name pni2) hisR ?_
  intro p e s m args below meth c s₁ Bd hml0 hP hK
  obtain ⟨rfl, hZ, hh⟩ := hP
  have hx := Bd.exec
  have hby := Bd.bytes
  have hml : c.maxLocals = 6 := hml0
  have hown : s.vm.findClass "java/lang/String" = some m.cls := findClass_of_methodNamed Bd.named
  have hnm := (name_of_methodNamed Bd.named Bd.method).1
  have X0 : Stand p l e ({ frames := 2, cells := 1, slots := 18, locals := 35 } : Room) s m #[(.ref a0), (.ref a1), (.int p2), (.int p3), .null] below meth c s₁ [] 0 0 := Stand.of_body Bd
  have e0 : s₁.heap = h0 := by rw [← hh, Bd.state]; rfl
  have N0 := Fr.nil n0
  show OwnEnd p e below s (fun v h L => Qi2 Z a0 a1 p2 p3 wc sx n g ka h0 n0 v h L) ({ frames := 2, cells := 1, slots := 18, locals := 35 } : Room).cells ({ frames := 2, cells := 1, slots := 18, locals := 35 } : Room).slots (s₁.setTop (entryFrame m #[(.ref a0), (.ref a1), (.int p2), (.int p3), .null] 6))
  rw [efi2 m a0 a1 p2 p3]
  generalize hW : OwnEnd p e below s (fun v h L => Qi2 Z a0 a1 p2 p3 wc sx n g ka h0 n0 v h L) ({ frames := 2, cells := 1, slots := 18, locals := 35 } : Room).cells ({ frames := 2, cells := 1, slots := 18, locals := 35 } : Room).slots = W
  have stp : ∀ {A B : State}, (∀ t, Steps p.tables e below B t → Steps p.tables e below A t) → W B → W A := by subst hW; exact own_step
  obtain ⟨S_cs, hcs, S_si, hr_sx⟩ := id BW
  have hz := own_ofNat (n := n) (by omega)
  subst hp2 hp3
  have E0lt := E_a0.lt
  have V1lt := V_a1.lt
  show W (s₁.setTop (mkF m 0 #[.val (.ref a0), .val (.ref a1), .val (.int (0 : Int32)), .val (.int (Int32.ofNat n)), .val .null, .unset] []))
  refine stp (fun t k => XS.aloadN X0.here hx rfl (hb hby di2_0) rfl rfl k) ?_
  show W (s₁.setTop (mkF m 1 #[.val (.ref a0), .val (.ref a1), .val (.int (0 : Int32)), .val (.int (Int32.ofNat n)), .val .null, .unset] [(.ref a0)]))
  obtain ⟨T1, X1, e1, st1⟩ := initO X0 hx hZ hown (hw _ (List.mem_of_getElem? (i := 20) rfl)) (hw _ (List.mem_of_getElem? (i := 21) rfl)) (hw _ (List.mem_of_getElem? (i := 22) rfl)) e0 (g := (mkF m 1 #[.val (.ref a0), .val (.ref a1), .val (.int (0 : Int32)), .val (.int (Int32.ofNat n)), .val .null, .unset] [(.ref a0)])) rfl (by rw [hml]; rfl) rfl (hb hby di2_1) (by decide) (W := 0) (by show 2 * 0 + _ ≤ _; exact Nat.le_of_eq rfl) (by decide)
  refine stp (fun t k => st1 t k) ?_
  show W (T1.setTop (mkF m 4 #[.val (.ref a0), .val (.ref a1), .val (.int (0 : Int32)), .val (.int (Int32.ofNat n)), .val .null, .unset] []))
  refine stp (fun t k => XS.iloadN X1.here hx rfl (hb hby di2_4) rfl k) ?_
  show W (T1.setTop (mkF m 5 #[.val (.ref a0), .val (.ref a1), .val (.int (0 : Int32)), .val (.int (Int32.ofNat n)), .val .null, .unset] [(.int (Int32.ofNat n))]))
  refine stp (fun t k => XS.ifYes X1.here hx rfl (pc0 := 5) (pc' := 27) rfl (hb hby di2_5) rfl ((if0 _ _).trans (feq (fun q => by rw [q, show (0 : Int32).toInt = 0 from by decide] at hz; omega)).2) (by decide) (by decide) k) ?_
  show W (T1.setTop (mkF m 27 #[.val (.ref a0), .val (.ref a1), .val (.int (0 : Int32)), .val (.int (Int32.ofNat n)), .val .null, .unset] []))
  obtain ⟨Ti22, Xi22, ei22, sti22⟩ := getS2 X1 hx hZ hown (host := "") (Or.inl (hw _ (List.mem_of_getElem? (i := 23) rfl))) Via.refl e1 (S_cs.ext O0.2) (g := (mkF m 27 #[.val (.ref a0), .val (.ref a1), .val (.int (0 : Int32)), .val (.int (Int32.ofNat n)), .val .null, .unset] [])) rfl (hb hby di2_27)
  refine stp (fun t k => sti22 t k) ?_
  show W (Ti22.setTop (mkF m 30 #[.val (.ref a0), .val (.ref a1), .val (.int (0 : Int32)), .val (.int (Int32.ofNat n)), .val .null, .unset] [(.int wc)]))
  refine stp (fun t k => XS.ifNo Xi22.here hx rfl (hb hby di2_30) rfl ((if0 _ _).trans (feq (hcs)).1) k) ?_
  show W (Ti22.setTop (mkF m 33 #[.val (.ref a0), .val (.ref a1), .val (.int (0 : Int32)), .val (.int (Int32.ofNat n)), .val .null, .unset] []))
  refine stp (fun t k => XS.aloadN Xi22.here hx rfl (hb hby di2_33) rfl rfl k) ?_
  show W (Ti22.setTop (mkF m 34 #[.val (.ref a0), .val (.ref a1), .val (.int (0 : Int32)), .val (.int (Int32.ofNat n)), .val .null, .unset] [(.ref a1)]))
  refine stp (fun t k => XS.iloadN Xi22.here hx rfl (hb hby di2_34) rfl k) ?_
  show W (Ti22.setTop (mkF m 35 #[.val (.ref a0), .val (.ref a1), .val (.int (0 : Int32)), .val (.int (Int32.ofNat n)), .val .null, .unset] [(.int (0 : Int32)), (.ref a1)]))
  refine stp (fun t k => XS.iloadN Xi22.here hx rfl (hb hby di2_35) rfl k) ?_
  show W (Ti22.setTop (mkF m 36 #[.val (.ref a0), .val (.ref a1), .val (.int (0 : Int32)), .val (.int (Int32.ofNat n)), .val .null, .unset] [(.int (Int32.ofNat n)), (.int (0 : Int32)), (.ref a1)]))
  obtain ⟨_, _, ⟨Ti2c3, Li2c3, ki2c3, ni2c3⟩, -, Xi2c3, ⟨Lci2c3, hQi2c3, li2c3, yi2c3, zi2c3⟩, sti2c3⟩ := Jvm.LawKit.callS Xi22 hx (y := (⟨"java/lang/StringUTF16", "compress", "([CII)[B"⟩ : MethodName)) hown (mvT hZ (hw _ (List.mem_of_getElem? (i := 24) rfl))) (mvT hZ (hw _ (List.mem_of_getElem? (i := 25) rfl))) (mvT hZ (hw _ (List.mem_of_getElem? (i := 26) rfl))) (mvT hZ (hw _ (List.mem_of_getElem? (i := 27) rfl))) (by decide) (backOf (W := 0) (rmk2 l Z aa hw [] a1 (0 : Int32) (Int32.ofNat n) wc sx n g ka h0 n0 Z0 BW O0 hn hch hasc V_a1 rfl rfl) hZ (hw _ (List.mem_of_getElem? (i := 27) rfl)) (hw _ (List.mem_of_getElem? (i := 26) rfl)) (by decide) (by decide)) (g := (mkF m 36 #[.val (.ref a0), .val (.ref a1), .val (.int (0 : Int32)), .val (.int (Int32.ofNat n)), .val .null, .unset] [(.int (Int32.ofNat n)), (.int (0 : Int32)), (.ref a1)])) rfl (by rw [hml]; rfl) (argsL := [(.ref a1), (.int (0 : Int32)), (.int (Int32.ofNat n))]) (rest := []) (lenOf pdi2_0 rfl) rfl (by show 2 * 0 + _ ≤ _; exact Nat.le_of_eq rfl) (hb hby di2_36) (fun _ _ => ⟨rfl, ei22, (by decide : 0 + 1 ≤ _), (by decide : 0 + 18 ≤ _)⟩)
  dsimp only [Pt.U, Pt.locs, Pt.cells, Pt.slots] at Xi2c3 li2c3 yi2c3 zi2c3 sti2c3 hQi2c3
  subst li2c3 yi2c3 zi2c3
  obtain ⟨bi2c3, kbi2c3, rfl, Ni2c3q, Kqi2c3, sz_bi2c3, Ci2c3⟩ := hQi2c3
  have Ni2c3 := Fr.app N0 Ni2c3q
  obtain ⟨lci2t4, Xi2c3, Ni2c3⟩ : ∃ lc, Stand p l e ({ frames := 2, cells := 1, slots := 18, locals := 35 } : Room) s m #[(.ref a0), (.ref a1), (.int (0 : Int32)), (.int (Int32.ofNat n)), .null] below meth c Ti2c3 lc 1 18 ∧ Fr n0 lc := ⟨_, Xi2c3, Ni2c3⟩
  obtain ⟨hi2c3, ei2c3⟩ : ∃ h, Ti2c3.heap = h := ⟨_, rfl⟩
  rw [ei2c3] at Kqi2c3 Ci2c3
  have ne_a0_bi2c3 : a0 ≠ bi2c3 := Nat.ne_of_lt (Nat.lt_of_lt_of_le E_a0.lt sz_bi2c3)
  have ne_a1_bi2c3 : a1 ≠ bi2c3 := Nat.ne_of_lt (Nat.lt_of_lt_of_le V_a1.lt sz_bi2c3)
  have g_bi2c3 : n0 ≤ bi2c3 := Nat.le_trans Z0 sz_bi2c3
  have sz_bi2c3 : h0.size ≤ bi2c3 := Nat.le_trans (Keep.refl h0 [a0]).1 sz_bi2c3
  replace E_a0 := E_a0.keep Kqi2c3
  replace F_value_a0 := F_value_a0.keep Kqi2c3 nin0
  replace F_coder_a0 := F_coder_a0.keep Kqi2c3 nin0
  replace V_a1 := V_a1.keep Kqi2c3 nin0
  have KKi2c3 := Keep.trans (Keep.refl h0 [a0]) Kqi2c3 all0
  have Zi2c3 := Nat.le_trans Z0 Kqi2c3.1
  have Oi2c3 := O0.keep Kqi2c3 all0
  refine stp (fun t k => sti2c3 t k) ?_
  show W (Ti2c3.setTop (mkF m 39 #[.val (.ref a0), .val (.ref a1), .val (.int (0 : Int32)), .val (.int (Int32.ofNat n)), .val .null, .unset] [(.ref bi2c3)]))
  refine stp (fun t k => XS.astore Xi2c3.here hx rfl (hb hby di2_39) rfl rfl (l' := #[.val (.ref a0), .val (.ref a1), .val (.int (0 : Int32)), .val (.int (Int32.ofNat n)), .val .null, .val (.ref bi2c3)]) rfl k) ?_
  rcases Ci2c3 with Ci2c3 | Ci2c3
  · obtain ⟨hki2c3, V_bi2c3⟩ := Ci2c3
    have ne_a0_bi2c3 : a0 ≠ bi2c3 := Nat.ne_of_lt (Nat.lt_of_lt_of_le E0lt sz_bi2c3)
    have ne_a1_bi2c3 : a1 ≠ bi2c3 := Nat.ne_of_lt (Nat.lt_of_lt_of_le V1lt sz_bi2c3)
    show W (Ti2c3.setTop (mkF m 41 #[.val (.ref a0), .val (.ref a1), .val (.int (0 : Int32)), .val (.int (Int32.ofNat n)), .val .null, .val (.ref bi2c3)] []))
    refine stp (fun t k => XS.aloadN Xi2c3.here hx rfl (hb hby di2_41) rfl rfl k) ?_
    show W (Ti2c3.setTop (mkF m 42 #[.val (.ref a0), .val (.ref a1), .val (.int (0 : Int32)), .val (.int (Int32.ofNat n)), .val .null, .val (.ref bi2c3)] [(.ref a0)]))
    refine stp (fun t k => XS.aload Xi2c3.here hx rfl (hb hby di2_42) rfl rfl k) ?_
    show W (Ti2c3.setTop (mkF m 44 #[.val (.ref a0), .val (.ref a1), .val (.int (0 : Int32)), .val (.int (Int32.ofNat n)), .val .null, .val (.ref bi2c3)] [(.ref bi2c3), (.ref a0)]))
    refine stp (fun t k => XS.iloadN Xi2c3.here hx rfl (hb hby di2_44) rfl k) ?_
    show W (Ti2c3.setTop (mkF m 45 #[.val (.ref a0), .val (.ref a1), .val (.int (0 : Int32)), .val (.int (Int32.ofNat n)), .val .null, .val (.ref bi2c3)] [(.int (Int32.ofNat n)), (.ref bi2c3), (.ref a0)]))
    obtain ⟨_, _, ⟨Ti2c5, Li2c5, ki2c5, ni2c5⟩, -, Xi2c5, ⟨Lci2c5, hQi2c5, li2c5, yi2c5, zi2c5⟩, sti2c5⟩ := Jvm.LawKit.callS Xi2c3 hx (y := (⟨"java/lang/StringUTF16", "coderFromArrayLen", "([BI)B"⟩ : MethodName)) hown (mvT hZ (hw _ (List.mem_of_getElem? (i := 32) rfl))) (mvT hZ (hw _ (List.mem_of_getElem? (i := 33) rfl))) (mvT hZ (hw _ (List.mem_of_getElem? (i := 26) rfl))) (mvT hZ (hw _ (List.mem_of_getElem? (i := 34) rfl))) (by decide) (backOf (W := 1) (rmca l Z aa hw [] bi2c3 (Int32.ofNat n) wc sx kbi2c3 (Int32.ofNat n) (own_vs n fun j => own_b (g j)) hi2c3 n0 Zi2c3 BW Oi2c3 V_bi2c3) hZ (hw _ (List.mem_of_getElem? (i := 34) rfl)) (hw _ (List.mem_of_getElem? (i := 26) rfl)) (by decide) (by decide)) (g := (mkF m 45 #[.val (.ref a0), .val (.ref a1), .val (.int (0 : Int32)), .val (.int (Int32.ofNat n)), .val .null, .val (.ref bi2c3)] [(.int (Int32.ofNat n)), (.ref bi2c3), (.ref a0)])) rfl (by rw [hml]; rfl) (argsL := [(.ref bi2c3), (.int (Int32.ofNat n))]) (rest := [(.ref a0)]) (lenOf pdi2_1 rfl) rfl (by show 2 * 0 + _ ≤ _; exact Nat.le_of_eq rfl) (hb hby di2_45) (fun _ _ => ⟨rfl, ei2c3, (by decide : 1 + 0 ≤ _), (by decide : 18 + 0 ≤ _)⟩)
    dsimp only [Pt.U, Pt.locs, Pt.cells, Pt.slots] at Xi2c5 li2c5 yi2c5 zi2c5 sti2c5 hQi2c5
    subst li2c5 yi2c5 zi2c5
    obtain ⟨rfl, Ni2c5q, ei2c5⟩ := hQi2c5
    have Ni2c5 := Fr.app Ni2c3 Ni2c5q
    obtain ⟨lci2t6, Xi2c5, Ni2c5⟩ : ∃ lc, Stand p l e ({ frames := 2, cells := 1, slots := 18, locals := 35 } : Room) s m #[(.ref a0), (.ref a1), (.int (0 : Int32)), (.int (Int32.ofNat n)), .null] below meth c Ti2c5 lc 1 18 ∧ Fr n0 lc := ⟨_, Xi2c5, Ni2c5⟩
    refine stp (fun t k => sti2c5 t k) ?_
    show W (Ti2c5.setTop (mkF m 48 #[.val (.ref a0), .val (.ref a1), .val (.int (0 : Int32)), .val (.int (Int32.ofNat n)), .val .null, .val (.ref bi2c3)] [(.int (fca (Int32.ofNat n) (Int32.ofNat n))), (.ref a0)]))
    obtain ⟨Ti27, hi27, Xi27, ei27, Wi27, sti27⟩ := putFN Xi2c5 hx hZ hown (hw _ (List.mem_of_getElem? (i := 35) rfl)) Via.refl ei2c5 F_coder_a0 E_a0 (Or.inr ⟨(hw _ (List.mem_of_getElem? (i := 36) rfl)), rfl, hnm⟩) (hw _ (List.mem_of_getElem? (i := 11) rfl)) (ty := .byte) (v' := (.int (nar .byte (fca (Int32.ofNat n) (Int32.ofNat n))))) (by decide) rfl (fits_nar_byte _) (g := (mkF m 48 #[.val (.ref a0), .val (.ref a1), .val (.int (0 : Int32)), .val (.int (Int32.ofNat n)), .val .null, .val (.ref bi2c3)] [(.int (fca (Int32.ofNat n) (Int32.ofNat n))), (.ref a0)])) rfl rfl (hb hby di2_48)
    have Ni27 := Fr.snoc Xi27 Ni2c5 g_a0
    have F_coder_a0x := F_coder_a0.same Wi27
    obtain ⟨lci2t8, Xi27, Ni27⟩ : ∃ lc, Stand p l e ({ frames := 2, cells := 1, slots := 18, locals := 35 } : Room) s m #[(.ref a0), (.ref a1), (.int (0 : Int32)), (.int (Int32.ofNat n)), .null] below meth c Ti27 lc 1 18 ∧ Fr n0 lc := ⟨_, Xi27, Ni27⟩
    replace E_a0 := E_a0.wr Wi27
    replace F_value_a0 := F_value_a0.other Wi27 (Or.inr (slot_ne (Or.inr (hw _ (List.mem_of_getElem? (i := 38) rfl))) (Or.inr (hw _ (List.mem_of_getElem? (i := 36) rfl))) (by decide) (t := (.array .byte)) (t' := .byte) (by decide) (by decide)))
    replace V_a1 := V_a1.other Wi27 (Ne.symm ne_a0_a1)
    replace V_bi2c3 := V_bi2c3.other Wi27 (Ne.symm ne_a0_bi2c3)
    have Ki27 := KKi2c3.wr Wi27 (Or.inl (List.mem_of_getElem? (i := 0) rfl))
    have Zi27 := Nat.le_trans Zi2c3 (Keep.of_wr Wi27).1
    have Oi27 := Oi2c3.wr Wi27 g_a0
    replace F_coder_a0 := F_coder_a0x
    clear F_coder_a0x
    refine stp (fun t k => sti27 t k) ?_
    show W (Ti27.setTop (mkF m 51 #[.val (.ref a0), .val (.ref a1), .val (.int (0 : Int32)), .val (.int (Int32.ofNat n)), .val .null, .val (.ref bi2c3)] []))
    refine stp (fun t k => XS.aloadN Xi27.here hx rfl (hb hby di2_51) rfl rfl k) ?_
    show W (Ti27.setTop (mkF m 52 #[.val (.ref a0), .val (.ref a1), .val (.int (0 : Int32)), .val (.int (Int32.ofNat n)), .val .null, .val (.ref bi2c3)] [(.ref a0)]))
    refine stp (fun t k => XS.aload Xi27.here hx rfl (hb hby di2_52) rfl rfl k) ?_
    show W (Ti27.setTop (mkF m 54 #[.val (.ref a0), .val (.ref a1), .val (.int (0 : Int32)), .val (.int (Int32.ofNat n)), .val .null, .val (.ref bi2c3)] [(.ref bi2c3), (.ref a0)]))
    obtain ⟨Ti29, hi29, Xi29, ei29, Wi29, sti29⟩ := putF Xi27 hx hZ hown (host := "") (Or.inl (hw _ (List.mem_of_getElem? (i := 37) rfl))) Via.refl ei27 F_value_a0 E_a0 (Or.inr ⟨(hw _ (List.mem_of_getElem? (i := 38) rfl)), rfl, hnm⟩) (hw _ (List.mem_of_getElem? (i := 11) rfl)) (ty := (.array .byte)) (by decide) rfl rfl (g := (mkF m 54 #[.val (.ref a0), .val (.ref a1), .val (.int (0 : Int32)), .val (.int (Int32.ofNat n)), .val .null, .val (.ref bi2c3)] [(.ref bi2c3), (.ref a0)])) rfl rfl (hb hby di2_54)
    have Ni29 := Fr.snoc Xi29 Ni27 g_a0
    have F_value_a0x := F_value_a0.same Wi29
    obtain ⟨lci2t10, Xi29, Ni29⟩ : ∃ lc, Stand p l e ({ frames := 2, cells := 1, slots := 18, locals := 35 } : Room) s m #[(.ref a0), (.ref a1), (.int (0 : Int32)), (.int (Int32.ofNat n)), .null] below meth c Ti29 lc 1 18 ∧ Fr n0 lc := ⟨_, Xi29, Ni29⟩
    replace E_a0 := E_a0.wr Wi29
    replace F_coder_a0 := F_coder_a0.other Wi29 (Or.inr (slot_ne (Or.inr (hw _ (List.mem_of_getElem? (i := 36) rfl))) (Or.inr (hw _ (List.mem_of_getElem? (i := 38) rfl))) (by decide) (t := .byte) (t' := (.array .byte)) (by decide) (by decide)))
    replace V_a1 := V_a1.other Wi29 (Ne.symm ne_a0_a1)
    replace V_bi2c3 := V_bi2c3.other Wi29 (Ne.symm ne_a0_bi2c3)
    have Ki29 := Ki27.wr Wi29 (Or.inl (List.mem_of_getElem? (i := 0) rfl))
    have Zi29 := Nat.le_trans Zi27 (Keep.of_wr Wi29).1
    have Oi29 := Oi27.wr Wi29 g_a0
    replace F_value_a0 := F_value_a0x
    clear F_value_a0x
    refine stp (fun t k => sti29 t k) ?_
    show W (Ti29.setTop (mkF m 57 #[.val (.ref a0), .val (.ref a1), .val (.int (0 : Int32)), .val (.int (Int32.ofNat n)), .val .null, .val (.ref bi2c3)] []))
    show W (Ti29.setTop (mkF m 57 #[.val (.ref a0), .val (.ref a1), .val (.int (0 : Int32)), .val (.int (Int32.ofNat n)), .val .null, .val (.ref bi2c3)] []))
    rw [← hW]
    exact own_ret0 Xi29 hx Bd.notSynchronized Bd.returns (hb hby di2_57) (by show Qi2 Z a0 a1 (0 : Int32) (Int32.ofNat n) wc sx n g ka h0 n0 _ Ti29.heap _; rw [ei29]; exact ⟨rfl, Ni29, Ki29, bi2c3, sz_bi2c3, E_a0, F_value_a0, Or.inl ⟨own_fldEq (own_fca0 (Int32.ofNat n)) F_coder_a0, hki2c3, _, V_bi2c3⟩⟩) (by decide) (by decide)
  · obtain ⟨⟨j, hj, hj2⟩, -⟩ := Ci2c3
    exact absurd (hasc j hj) (by omega)
theorem di1_0 : decode jdk_42_method_3_code 0 = .ok (.aload_n 0, 1) := by decide +kernel
theorem di1_1 : decode jdk_42_method_3_code 1 = .ok (.aload_n 1, 1) := by decide +kernel
theorem di1_2 : decode jdk_42_method_3_code 2 = .ok (.iconst 0, 1) := by decide +kernel
theorem di1_3 : decode jdk_42_method_3_code 3 = .ok (.aload_n 1, 1) := by decide +kernel
theorem di1_4 : decode jdk_42_method_3_code 4 = .ok (.arraylength, 1) := by decide +kernel
theorem di1_5 : decode jdk_42_method_3_code 5 = .ok (.aconst_null, 1) := by decide +kernel
theorem di1_6 : decode jdk_42_method_3_code 6 = .ok (.invokespecial 27, 3) := by decide +kernel
theorem di1_9 : decode jdk_42_method_3_code 9 = .ok (.return_, 1) := by decide +kernel
theorem pni1 : plainName "java/lang/String" = true := by first | (simp [plainName, overriddenIn]; done) | decide +kernel
theorem pdi1_0 : parseMethodDescriptor "([CIILjava/lang/Void;)V" = some ⟨[(.array .char), .int, .int, (.object "java/lang/Void")], none⟩ := by decide +kernel
theorem efi1 (m : MethodId) (a0 : Addr) (a1 : Addr) : entryFrame m #[(.ref a0), (.ref a1)] 2 = mkF m 0 #[.val (.ref a0), .val (.ref a1)] [] := by first | (simp [entryFrame, mkF, argsToLocals, Value.category]; done) | rfl
def Qi1 (Z : State) (a0 : Addr) (a1 : Addr) (wc : Int32) (sx : Value) (n : Nat) (g : Nat → Int32) (ka : ClassId) (h0 : Heap) (n0 : Nat) (v : Option Value) (h : Heap) (L : List Loc) : Prop := v = none ∧ Fr n0 L ∧ Keep h0 h [a0] ∧ ∃ b : Addr, h0.size ≤ b ∧ OwnStr Z h a0 b n g
set_option maxRecDepth 65536 in
set_option maxHeartbeats 40000000 in
theorem rmi1 (l : Launch) (Z : State) (aa : Array Value) (hw : ∀ d ∈ tables_1, d.before aa Z = true) (ws : List Jvm.Cond) (a0 : Addr) (a1 : Addr) (wc : Int32) (sx : Value) (n : Nat) (g : Nat → Int32) (ka : ClassId) (h0 : Heap) (n0 : Nat) (Z0 : n0 ≤ h0.size) (BW : OwnW Z wc sx) (O0 : Old Z n0 h0) (hn : n ≤ 18) (hch : ∀ j, j < n → 0 ≤ (g j).toInt ∧ (g j).toInt < 65536) (hasc : ∀ j, j < n → (g j).toInt < 256) (E_a0 : Exa Z h0 a0 "java/lang/String") (F_value_a0 : Fld Z h0 a0 "java/lang/String" "value" "[B" .null) (F_coder_a0 : Fld Z h0 a0 "java/lang/String" "coder" "B" (.int (0 : Int32))) (g_a0 : n0 ≤ a0) (V_a1 : Arv Z h0 a1 ka .char (Int32.ofNat n) (own_vs n g) (.int (0 : Int32))) (ne_a0_a1 : a0 ≠ a1) (h1 : 1 ≤ n) :
    MetFree l (⟨"java/lang/String", "<init>", "([C)V"⟩ : MethodName) (head1 (Jvm.Cond.code (⟨"java/lang/String", "<init>", "([C)V"⟩ : MethodName) jdk_42_method_3_code 2 none :: ws) ({ frames := 3, cells := 1, slots := 18, locals := 52 } : Room)) (fun a U => a = #[(.ref a0), (.ref a1)] ∧ Z.Warmed39 U.vm ∧ U.heap = h0) (fun _ _ _ _ _ => True) (fun _ U o U' => ∃ v L, o = .returned v ∧ Qi1 Z a0 a1 wc sx n g ka h0 n0 v U'.heap L ∧ FrameEnd U o U' L ({ frames := 3, cells := 1, slots := 18, locals := 52 } : Room).cells ({ frames := 3, cells := 1, slots := 18, locals := 52 } : Room).slots) := by
  refine MetFree.of_bodySF (plainFor_of_name pni1) hisR ?_
  intro p e s m args below meth c s₁ Bd hml0 hP hK
  obtain ⟨rfl, hZ, hh⟩ := hP
  have hx := Bd.exec
  have hby := Bd.bytes
  have hml : c.maxLocals = 2 := hml0
  have hown : s.vm.findClass "java/lang/String" = some m.cls := findClass_of_methodNamed Bd.named
  have hnm := (name_of_methodNamed Bd.named Bd.method).1
  have X0 : Stand p l e ({ frames := 3, cells := 1, slots := 18, locals := 52 } : Room) s m #[(.ref a0), (.ref a1)] below meth c s₁ [] 0 0 := Stand.of_body Bd
  have e0 : s₁.heap = h0 := by rw [← hh, Bd.state]; rfl
  have N0 := Fr.nil n0
  show OwnEnd p e below s (fun v h L => Qi1 Z a0 a1 wc sx n g ka h0 n0 v h L) ({ frames := 3, cells := 1, slots := 18, locals := 52 } : Room).cells ({ frames := 3, cells := 1, slots := 18, locals := 52 } : Room).slots (s₁.setTop (entryFrame m #[(.ref a0), (.ref a1)] 2))
  rw [efi1 m a0 a1]
  generalize hW : OwnEnd p e below s (fun v h L => Qi1 Z a0 a1 wc sx n g ka h0 n0 v h L) ({ frames := 3, cells := 1, slots := 18, locals := 52 } : Room).cells ({ frames := 3, cells := 1, slots := 18, locals := 52 } : Room).slots = W
  have stp : ∀ {A B : State}, (∀ t, Steps p.tables e below B t → Steps p.tables e below A t) → W B → W A := by subst hW; exact own_step
  obtain ⟨S_cs, hcs, S_si, hr_sx⟩ := id BW
  show W (s₁.setTop (mkF m 0 #[.val (.ref a0), .val (.ref a1)] []))
  refine stp (fun t k => XS.aloadN X0.here hx rfl (hb hby di1_0) rfl rfl k) ?_
  show W (s₁.setTop (mkF m 1 #[.val (.ref a0), .val (.ref a1)] [(.ref a0)]))
  refine stp (fun t k => XS.aloadN X0.here hx rfl (hb hby di1_1) rfl rfl k) ?_
  show W (s₁.setTop (mkF m 2 #[.val (.ref a0), .val (.ref a1)] [(.ref a1), (.ref a0)]))
  refine stp (fun t k => XS.iconst X0.here hx rfl (hb hby di1_2) k) ?_
  show W (s₁.setTop (mkF m 3 #[.val (.ref a0), .val (.ref a1)] [(.int (0 : Int32)), (.ref a1), (.ref a0)]))
  refine stp (fun t k => XS.aloadN X0.here hx rfl (hb hby di1_3) rfl rfl k) ?_
  show W (s₁.setTop (mkF m 4 #[.val (.ref a0), .val (.ref a1)] [(.ref a1), (.int (0 : Int32)), (.ref a1), (.ref a0)]))
  obtain ⟨cli11, Ari11, qki11, qsi11, qni11, qhi11, qgi11⟩ := id V_a1
  refine stp (fun t k => X0.arraylength hx (by rw [e0]; exact Ari11.1) (State.isArrayOf_alike hZ.alike Ari11.2.1) (g := (mkF m 4 #[.val (.ref a0), .val (.ref a1)] [(.ref a1), (.int (0 : Int32)), (.ref a1), (.ref a0)])) rfl rfl (hb hby di1_4) _ k) ?_
  rw [len_of qsi11 qni11]
  show W (s₁.setTop (mkF m 5 #[.val (.ref a0), .val (.ref a1)] [(.int (Int32.ofNat n)), (.int (0 : Int32)), (.ref a1), (.ref a0)]))
  refine stp (fun t k => XS.aconstNull X0.here hx rfl (hb hby di1_5) k) ?_
  show W (s₁.setTop (mkF m 6 #[.val (.ref a0), .val (.ref a1)] [.null, (.int (Int32.ofNat n)), (.int (0 : Int32)), (.ref a1), (.ref a0)]))
  obtain ⟨_, _, ⟨Ti1c2, Li1c2, ki1c2, ni1c2⟩, -, Xi1c2, ⟨Lci1c2, hQi1c2, li1c2, yi1c2, zi1c2⟩, sti1c2⟩ := X0.specialBack hx (y := (⟨"java/lang/String", "<init>", "([CIILjava/lang/Void;)V"⟩ : MethodName)) rfl hown (mvT hZ (hw _ (List.mem_of_getElem? (i := 16) rfl))) (mvT hZ (hw _ (List.mem_of_getElem? (i := 17) rfl))) (mvT hZ (hw _ (List.mem_of_getElem? (i := 19) rfl))) (by decide) (backOf (W := 0) (rmi2 l Z aa hw [] a0 a1 (0 : Int32) (Int32.ofNat n) wc sx n g ka h0 n0 Z0 BW O0 hn hch hasc E_a0 F_value_a0 F_coder_a0 g_a0 V_a1 ne_a0_a1 h1 rfl rfl) hZ (hw _ (List.mem_of_getElem? (i := 19) rfl)) (hw _ (List.mem_of_getElem? (i := 12) rfl)) (by decide) (by decide)) (g := (mkF m 6 #[.val (.ref a0), .val (.ref a1)] [.null, (.int (Int32.ofNat n)), (.int (0 : Int32)), (.ref a1), (.ref a0)])) rfl (by rw [hml]; rfl) (Steps.refl _) (a := a0) (argsL := [(.ref a1), (.int (0 : Int32)), (.int (Int32.ofNat n)), .null]) (rest := []) (lenOf pdi1_0 rfl) rfl (by show 2 * 0 + _ ≤ _; exact Nat.le_of_eq rfl) (hb hby di1_6) (fun _ _ => ⟨rfl, e0, (by decide : 0 + 1 ≤ _), (by decide : 0 + 18 ≤ _)⟩)
  dsimp only [Pt.U, Pt.locs, Pt.cells, Pt.slots] at Xi1c2 li1c2 yi1c2 zi1c2 sti1c2 hQi1c2
  subst li1c2 yi1c2 zi1c2
  obtain ⟨rfl, Ni1c2q, Kqi1c2, Gi1c2⟩ := hQi1c2
  have Ni1c2 := Fr.app N0 Ni1c2q
  obtain ⟨lci1t3, Xi1c2, Ni1c2⟩ : ∃ lc, Stand p l e ({ frames := 3, cells := 1, slots := 18, locals := 52 } : Room) s m #[(.ref a0), (.ref a1)] below meth c Ti1c2 lc 1 18 ∧ Fr n0 lc := ⟨_, Xi1c2, Ni1c2⟩
  refine stp (fun t k => sti1c2.trans k) ?_
  obtain ⟨hi1c2, ei1c2⟩ : ∃ h, Ti1c2.heap = h := ⟨_, rfl⟩
  rw [ei1c2] at Kqi1c2 Gi1c2
  show W (Ti1c2.setTop (mkF m 9 #[.val (.ref a0), .val (.ref a1)] []))
  show W (Ti1c2.setTop (mkF m 9 #[.val (.ref a0), .val (.ref a1)] []))
  rw [← hW]
  exact own_ret0 Xi1c2 hx Bd.notSynchronized Bd.returns (hb hby di1_9) (by show Qi1 Z a0 a1 wc sx n g ka h0 n0 _ Ti1c2.heap _; rw [ei1c2]; exact ⟨rfl, Ni1c2, Kqi1c2, Gi1c2⟩) (by decide) (by decide)
theorem ddg_0 : decode method_3_code 0 = .ok (.iload 4, 2) := by decide +kernel
theorem ddg_2 : decode method_3_code 2 = .ok (.bipush 16, 2) := by decide +kernel
theorem ddg_4 : decode method_3_code 4 = .ok (.if_icmp .ge 12, 3) := by decide +kernel
theorem ddg_7 : decode method_3_code 7 = .ok (.lload_n 0, 1) := by decide +kernel
theorem ddg_8 : decode method_3_code 8 = .ok (.iconst 4, 1) := by decide +kernel
theorem ddg_9 : decode method_3_code 9 = .ok (.iload 4, 2) := by decide +kernel
theorem ddg_11 : decode method_3_code 11 = .ok (.imul, 1) := by decide +kernel
theorem ddg_12 : decode method_3_code 12 = .ok (.lushr, 1) := by decide +kernel
theorem ddg_13 : decode method_3_code 13 = .ok (.goto 12, 3) := by decide +kernel
theorem ddg_16 : decode method_3_code 16 = .ok (.lload_n 2, 1) := by decide +kernel
theorem ddg_17 : decode method_3_code 17 = .ok (.iconst 4, 1) := by decide +kernel
theorem ddg_18 : decode method_3_code 18 = .ok (.iload 4, 2) := by decide +kernel
theorem ddg_20 : decode method_3_code 20 = .ok (.bipush 16, 2) := by decide +kernel
theorem ddg_22 : decode method_3_code 22 = .ok (.isub, 1) := by decide +kernel
theorem ddg_23 : decode method_3_code 23 = .ok (.imul, 1) := by decide +kernel
theorem ddg_24 : decode method_3_code 24 = .ok (.lushr, 1) := by decide +kernel
theorem ddg_25 : decode method_3_code 25 = .ok (.lstore 5, 2) := by decide +kernel
theorem ddg_27 : decode method_3_code 27 = .ok (.lload 5, 2) := by decide +kernel
theorem ddg_29 : decode method_3_code 29 = .ok (.ldc2_w 41, 3) := by decide +kernel
theorem ddg_32 : decode method_3_code 32 = .ok (.land, 1) := by decide +kernel
theorem ddg_33 : decode method_3_code 33 = .ok (.ldc2_w 7, 3) := by decide +kernel
theorem ddg_36 : decode method_3_code 36 = .ok (.lrem, 1) := by decide +kernel
theorem ddg_37 : decode method_3_code 37 = .ok (.l2i, 1) := by decide +kernel
theorem ddg_38 : decode method_3_code 38 = .ok (.ireturn, 1) := by decide +kernel
theorem pndg : plainName "com/example/fieldgate/fieldgate/record/DigitsValuePinLaw" = true := by first | (simp [plainName, overriddenIn]; done) | decide +kernel
theorem efdg (m : MethodId) (q0 : Int64) (q1 : Int64) (p2 : Int32) : entryFrame m #[(.long q0), (.long q1), (.int p2)] 7 = mkF m 0 #[.val (.long q0), .second, .val (.long q1), .second, .val (.int p2), .unset, .unset] [] := by first | (simp [entryFrame, mkF, argsToLocals, Value.category]; done) | rfl
def fdg (q0 : Int64) (q1 : Int64) (p2 : Int32) : Int32 := ((((if p2 < (16 : Int32) then ((q0.toUInt64 >>> (((4 : Int32) * p2) &&& 0x3f).toInt64.toUInt64).toInt64) else ((q1.toUInt64 >>> (((4 : Int32) * (p2 - (16 : Int32))) &&& 0x3f).toInt64.toUInt64).toInt64)) &&& (15 : Int64)) - (((if p2 < (16 : Int32) then ((q0.toUInt64 >>> (((4 : Int32) * p2) &&& 0x3f).toInt64.toUInt64).toInt64) else ((q1.toUInt64 >>> (((4 : Int32) * (p2 - (16 : Int32))) &&& 0x3f).toInt64.toUInt64).toInt64)) &&& (15 : Int64)) / (10 : Int64)) * (10 : Int64)).toInt32)
def Qdg (Z : State) (q0 : Int64) (q1 : Int64) (p2 : Int32) (h0 : Heap) (n0 : Nat) (v : Option Value) (h : Heap) (L : List Loc) : Prop := v = some (.int (fdg q0 q1 p2)) ∧ Fr n0 L ∧ h = h0
set_option maxRecDepth 65536 in
set_option maxHeartbeats 40000000 in
theorem rmdg (l : Launch) (Z : State) (aa : Array Value) (hw : ∀ d ∈ tables_1, d.before aa Z = true) (ws : List Jvm.Cond) (q0 : Int64) (q1 : Int64) (p2 : Int32) (h0 : Heap) (n0 : Nat) (Z0 : n0 ≤ h0.size) :
    MetFree l (⟨"com/example/fieldgate/fieldgate/record/DigitsValuePinLaw", "digit", "(JJI)I"⟩ : MethodName) (head1 (Jvm.Cond.code (⟨"com/example/fieldgate/fieldgate/record/DigitsValuePinLaw", "digit", "(JJI)I"⟩ : MethodName) method_3_code 7 (some .int) :: ws) ({ frames := 0, cells := 0, slots := 0, locals := 0 } : Room)) (fun a U => a = #[(.long q0), (.long q1), (.int p2)] ∧ Z.Warmed39 U.vm ∧ U.heap = h0) (fun _ _ _ _ _ => True) (fun _ U o U' => ∃ v L, o = .returned v ∧ Qdg Z q0 q1 p2 h0 n0 v U'.heap L ∧ FrameEnd U o U' L ({ frames := 0, cells := 0, slots := 0, locals := 0 } : Room).cells ({ frames := 0, cells := 0, slots := 0, locals := 0 } : Room).slots) := by
  refine MetFree.of_bodySF (plainFor_of_name pndg) hisR ?_
  intro p e s m args below meth c s₁ Bd hml0 hP hK
  obtain ⟨rfl, hZ, hh⟩ := hP
  have hx := Bd.exec
  have hby := Bd.bytes
  have hml : c.maxLocals = 7 := hml0
  have hown : s.vm.findClass "com/example/fieldgate/fieldgate/record/DigitsValuePinLaw" = some m.cls := findClass_of_methodNamed Bd.named
  have hnm := (name_of_methodNamed Bd.named Bd.method).1
  have X0 : Stand p l e ({ frames := 0, cells := 0, slots := 0, locals := 0 } : Room) s m #[(.long q0), (.long q1), (.int p2)] below meth c s₁ [] 0 0 := Stand.of_body Bd
  have e0 : s₁.heap = h0 := by rw [← hh, Bd.state]; rfl
  have N0 := Fr.nil n0
  show OwnEnd p e below s (fun v h L => Qdg Z q0 q1 p2 h0 n0 v h L) ({ frames := 0, cells := 0, slots := 0, locals := 0 } : Room).cells ({ frames := 0, cells := 0, slots := 0, locals := 0 } : Room).slots (s₁.setTop (entryFrame m #[(.long q0), (.long q1), (.int p2)] 7))
  rw [efdg m q0 q1 p2]
  generalize hW : OwnEnd p e below s (fun v h L => Qdg Z q0 q1 p2 h0 n0 v h L) ({ frames := 0, cells := 0, slots := 0, locals := 0 } : Room).cells ({ frames := 0, cells := 0, slots := 0, locals := 0 } : Room).slots = W
  have stp : ∀ {A B : State}, (∀ t, Steps p.tables e below B t → Steps p.tables e below A t) → W B → W A := by subst hW; exact own_step
  show W (s₁.setTop (mkF m 0 #[.val (.long q0), .second, .val (.long q1), .second, .val (.int p2), .unset, .unset] []))
  refine stp (fun t k => XS.iload X0.here hx rfl (hb hby ddg_0) rfl k) ?_
  show W (s₁.setTop (mkF m 2 #[.val (.long q0), .second, .val (.long q1), .second, .val (.int p2), .unset, .unset] [(.int p2)]))
  refine stp (fun t k => XS.bipush X0.here hx rfl (hb hby ddg_2) k) ?_
  show W (s₁.setTop (mkF m 4 #[.val (.long q0), .second, .val (.long q1), .second, .val (.int p2), .unset, .unset] [(.int (16 : Int32)), (.int p2)]))
  have Jdg_25_3 : ∀ (Tdg3 : State) (lcdg3 : List Loc) (zdg_2 : Int64) (hzdg_2 : zdg_2 = (if p2 < (16 : Int32) then ((q0.toUInt64 >>> (((4 : Int32) * p2) &&& 0x3f).toInt64.toUInt64).toInt64) else ((q1.toUInt64 >>> (((4 : Int32) * (p2 - (16 : Int32))) &&& 0x3f).toInt64.toUInt64).toInt64))) (Xdg3 : Stand p l e ({ frames := 0, cells := 0, slots := 0, locals := 0 } : Room) s m #[(.long q0), (.long q1), (.int p2)] below meth c Tdg3 lcdg3 0 0) (edg3 : Tdg3.heap = h0) (Ndg3 : Fr n0 lcdg3), W (Tdg3.setTop (mkF m 25 #[.val (.long q0), .second, .val (.long q1), .second, .val (.int p2), .unset, .unset] [(.long zdg_2)])) := by
    intro Tdg3 lcdg3 zdg_2 hzdg_2  Xdg3 edg3 Ndg3
    show W (Tdg3.setTop (mkF m 25 #[.val (.long q0), .second, .val (.long q1), .second, .val (.int p2), .unset, .unset] [(.long zdg_2)]))
    refine stp (fun t k => XS.lstore Xdg3.here hx rfl (hb hby ddg_25) rfl (l' := #[.val (.long q0), .second, .val (.long q1), .second, .val (.int p2), .val (.long zdg_2), .second]) rfl k) ?_
    show W (Tdg3.setTop (mkF m 27 #[.val (.long q0), .second, .val (.long q1), .second, .val (.int p2), .val (.long zdg_2), .second] []))
    refine stp (fun t k => XS.lload Xdg3.here hx rfl (hb hby ddg_27) rfl k) ?_
    show W (Tdg3.setTop (mkF m 29 #[.val (.long q0), .second, .val (.long q1), .second, .val (.int p2), .val (.long zdg_2), .second] [(.long zdg_2)]))
    refine stp (fun t k => Xdg3.ldc2Long hx hown (mvT hZ (hw _ (List.mem_of_getElem? (i := 49) rfl))) (g := (mkF m 29 #[.val (.long q0), .second, .val (.long q1), .second, .val (.int p2), .val (.long zdg_2), .second] [(.long zdg_2)])) rfl (hb hby ddg_29) _ k) ?_
    show W (Tdg3.setTop (mkF m 32 #[.val (.long q0), .second, .val (.long q1), .second, .val (.int p2), .val (.long zdg_2), .second] [(.long (15 : Int64)), (.long zdg_2)]))
    refine stp (fun t k => XS.land Xdg3.here hx rfl (hb hby ddg_32) rfl k) ?_
    show W (Tdg3.setTop (mkF m 33 #[.val (.long q0), .second, .val (.long q1), .second, .val (.int p2), .val (.long zdg_2), .second] [(.long (zdg_2 &&& (15 : Int64)))]))
    refine stp (fun t k => Xdg3.ldc2Long hx hown (mvT hZ (hw _ (List.mem_of_getElem? (i := 50) rfl))) (g := (mkF m 33 #[.val (.long q0), .second, .val (.long q1), .second, .val (.int p2), .val (.long zdg_2), .second] [(.long (zdg_2 &&& (15 : Int64)))])) rfl (hb hby ddg_33) _ k) ?_
    show W (Tdg3.setTop (mkF m 36 #[.val (.long q0), .second, .val (.long q1), .second, .val (.int p2), .val (.long zdg_2), .second] [(.long (10 : Int64)), (.long (zdg_2 &&& (15 : Int64)))]))
    refine stp (fun t k => XS.lrem Xdg3.here hx rfl (hb hby ddg_36) rfl (by decide) k) ?_
    show W (Tdg3.setTop (mkF m 37 #[.val (.long q0), .second, .val (.long q1), .second, .val (.int p2), .val (.long zdg_2), .second] [(.long ((zdg_2 &&& (15 : Int64)) - ((zdg_2 &&& (15 : Int64)) / (10 : Int64)) * (10 : Int64)))]))
    refine stp (fun t k => XS.l2i Xdg3.here hx rfl (hb hby ddg_37) rfl k) ?_
    show W (Tdg3.setTop (mkF m 38 #[.val (.long q0), .second, .val (.long q1), .second, .val (.int p2), .val (.long zdg_2), .second] [(.int (((zdg_2 &&& (15 : Int64)) - ((zdg_2 &&& (15 : Int64)) / (10 : Int64)) * (10 : Int64)).toInt32))]))
    show W (Tdg3.setTop (mkF m 38 #[.val (.long q0), .second, .val (.long q1), .second, .val (.int p2), .val (.long zdg_2), .second] [(.int (((zdg_2 &&& (15 : Int64)) - ((zdg_2 &&& (15 : Int64)) / (10 : Int64)) * (10 : Int64)).toInt32))]))
    rw [← hW]
    exact own_retI Xdg3 hx Bd.notSynchronized Bd.returns (hb hby ddg_38) (by show Qdg Z q0 q1 p2 h0 n0 _ Tdg3.heap _; rw [edg3]; exact ⟨(by subst hzdg_2; rw [fdg]), Ndg3, rfl⟩) (by decide) (by decide)
  by_cases hcdg_1 : p2 < (16 : Int32)
  · refine stp (fun t k => XS.icmpNo X0.here hx rfl (hb hby ddg_4) rfl ((tlt hcdg_1).2.1) k) ?_
    show W (s₁.setTop (mkF m 7 #[.val (.long q0), .second, .val (.long q1), .second, .val (.int p2), .unset, .unset] []))
    refine stp (fun t k => XS.lloadN X0.here hx rfl (hb hby ddg_7) rfl k) ?_
    show W (s₁.setTop (mkF m 8 #[.val (.long q0), .second, .val (.long q1), .second, .val (.int p2), .unset, .unset] [(.long q0)]))
    refine stp (fun t k => XS.iconst X0.here hx rfl (hb hby ddg_8) k) ?_
    show W (s₁.setTop (mkF m 9 #[.val (.long q0), .second, .val (.long q1), .second, .val (.int p2), .unset, .unset] [(.int (4 : Int32)), (.long q0)]))
    refine stp (fun t k => XS.iload X0.here hx rfl (hb hby ddg_9) rfl k) ?_
    show W (s₁.setTop (mkF m 11 #[.val (.long q0), .second, .val (.long q1), .second, .val (.int p2), .unset, .unset] [(.int p2), (.int (4 : Int32)), (.long q0)]))
    refine stp (fun t k => XS.imul X0.here hx rfl (hb hby ddg_11) rfl k) ?_
    show W (s₁.setTop (mkF m 12 #[.val (.long q0), .second, .val (.long q1), .second, .val (.int p2), .unset, .unset] [(.int ((4 : Int32) * p2)), (.long q0)]))
    refine stp (fun t k => XS.lushr X0.here hx rfl (hb hby ddg_12) rfl k) ?_
    show W (s₁.setTop (mkF m 13 #[.val (.long q0), .second, .val (.long q1), .second, .val (.int p2), .unset, .unset] [(.long ((q0.toUInt64 >>> (((4 : Int32) * p2) &&& 0x3f).toInt64.toUInt64).toInt64))]))
    refine stp (fun t k => XS.goto X0.here hx rfl (pc0 := 13) (pc' := 25) rfl (hb hby ddg_13) (by decide) (by decide) k) ?_
    show W (s₁.setTop (mkF m 25 #[.val (.long q0), .second, .val (.long q1), .second, .val (.int p2), .unset, .unset] [(.long ((q0.toUInt64 >>> (((4 : Int32) * p2) &&& 0x3f).toInt64.toUInt64).toInt64))]))
    exact Jdg_25_3 _ _ ((q0.toUInt64 >>> (((4 : Int32) * p2) &&& 0x3f).toInt64.toUInt64).toInt64) (by first | rfl | simp only [if_pos hcdg_1]) X0 e0 N0
  · refine stp (fun t k => XS.icmpYes X0.here hx rfl (pc0 := 4) (pc' := 16) rfl (hb hby ddg_4) rfl ((flt hcdg_1).2.1) (by decide) (by decide) k) ?_
    show W (s₁.setTop (mkF m 16 #[.val (.long q0), .second, .val (.long q1), .second, .val (.int p2), .unset, .unset] []))
    refine stp (fun t k => XS.lloadN X0.here hx rfl (hb hby ddg_16) rfl k) ?_
    show W (s₁.setTop (mkF m 17 #[.val (.long q0), .second, .val (.long q1), .second, .val (.int p2), .unset, .unset] [(.long q1)]))
    refine stp (fun t k => XS.iconst X0.here hx rfl (hb hby ddg_17) k) ?_
    show W (s₁.setTop (mkF m 18 #[.val (.long q0), .second, .val (.long q1), .second, .val (.int p2), .unset, .unset] [(.int (4 : Int32)), (.long q1)]))
    refine stp (fun t k => XS.iload X0.here hx rfl (hb hby ddg_18) rfl k) ?_
    show W (s₁.setTop (mkF m 20 #[.val (.long q0), .second, .val (.long q1), .second, .val (.int p2), .unset, .unset] [(.int p2), (.int (4 : Int32)), (.long q1)]))
    refine stp (fun t k => XS.bipush X0.here hx rfl (hb hby ddg_20) k) ?_
    show W (s₁.setTop (mkF m 22 #[.val (.long q0), .second, .val (.long q1), .second, .val (.int p2), .unset, .unset] [(.int (16 : Int32)), (.int p2), (.int (4 : Int32)), (.long q1)]))
    refine stp (fun t k => XS.isub X0.here hx rfl (hb hby ddg_22) rfl k) ?_
    show W (s₁.setTop (mkF m 23 #[.val (.long q0), .second, .val (.long q1), .second, .val (.int p2), .unset, .unset] [(.int (p2 - (16 : Int32))), (.int (4 : Int32)), (.long q1)]))
    refine stp (fun t k => XS.imul X0.here hx rfl (hb hby ddg_23) rfl k) ?_
    show W (s₁.setTop (mkF m 24 #[.val (.long q0), .second, .val (.long q1), .second, .val (.int p2), .unset, .unset] [(.int ((4 : Int32) * (p2 - (16 : Int32)))), (.long q1)]))
    refine stp (fun t k => XS.lushr X0.here hx rfl (hb hby ddg_24) rfl k) ?_
    show W (s₁.setTop (mkF m 25 #[.val (.long q0), .second, .val (.long q1), .second, .val (.int p2), .unset, .unset] [(.long ((q1.toUInt64 >>> (((4 : Int32) * (p2 - (16 : Int32))) &&& 0x3f).toInt64.toUInt64).toInt64))]))
    exact Jdg_25_3 _ _ ((q1.toUInt64 >>> (((4 : Int32) * (p2 - (16 : Int32))) &&& 0x3f).toInt64.toUInt64).toInt64) (by first | rfl | simp only [if_neg hcdg_1]) X0 e0 N0
theorem djk_0 : decode method_4_code 0 = .ok (.iload 4, 2) := by decide +kernel
theorem djk_2 : decode method_4_code 2 = .ok (.bipush 9, 2) := by decide +kernel
theorem djk_4 : decode method_4_code 4 = .ok (.if_icmp .ge 13, 3) := by decide +kernel
theorem djk_7 : decode method_4_code 7 = .ok (.lload_n 0, 1) := by decide +kernel
theorem djk_8 : decode method_4_code 8 = .ok (.bipush 7, 2) := by decide +kernel
theorem djk_10 : decode method_4_code 10 = .ok (.iload 4, 2) := by decide +kernel
theorem djk_12 : decode method_4_code 12 = .ok (.imul, 1) := by decide +kernel
theorem djk_13 : decode method_4_code 13 = .ok (.lushr, 1) := by decide +kernel
theorem djk_14 : decode method_4_code 14 = .ok (.goto 13, 3) := by decide +kernel
theorem djk_17 : decode method_4_code 17 = .ok (.lload_n 2, 1) := by decide +kernel
theorem djk_18 : decode method_4_code 18 = .ok (.bipush 7, 2) := by decide +kernel
theorem djk_20 : decode method_4_code 20 = .ok (.iload 4, 2) := by decide +kernel
theorem djk_22 : decode method_4_code 22 = .ok (.bipush 9, 2) := by decide +kernel
theorem djk_24 : decode method_4_code 24 = .ok (.isub, 1) := by decide +kernel
theorem djk_25 : decode method_4_code 25 = .ok (.imul, 1) := by decide +kernel
theorem djk_26 : decode method_4_code 26 = .ok (.lushr, 1) := by decide +kernel
theorem djk_27 : decode method_4_code 27 = .ok (.lstore 5, 2) := by decide +kernel
theorem djk_29 : decode method_4_code 29 = .ok (.lload 5, 2) := by decide +kernel
theorem djk_31 : decode method_4_code 31 = .ok (.ldc2_w 43, 3) := by decide +kernel
theorem djk_34 : decode method_4_code 34 = .ok (.land, 1) := by decide +kernel
theorem djk_35 : decode method_4_code 35 = .ok (.l2i, 1) := by decide +kernel
theorem djk_36 : decode method_4_code 36 = .ok (.i2c, 1) := by decide +kernel
theorem djk_37 : decode method_4_code 37 = .ok (.ireturn, 1) := by decide +kernel
theorem pnjk : plainName "com/example/fieldgate/fieldgate/record/DigitsValuePinLaw" = true := by first | (simp [plainName, overriddenIn]; done) | decide +kernel
theorem efjk (m : MethodId) (q0 : Int64) (q1 : Int64) (p2 : Int32) : entryFrame m #[(.long q0), (.long q1), (.int p2)] 7 = mkF m 0 #[.val (.long q0), .second, .val (.long q1), .second, .val (.int p2), .unset, .unset] [] := by first | (simp [entryFrame, mkF, argsToLocals, Value.category]; done) | rfl
def fjk (q0 : Int64) (q1 : Int64) (p2 : Int32) : Int32 := (nar .char ((((if p2 < (9 : Int32) then ((q0.toUInt64 >>> (((7 : Int32) * p2) &&& 0x3f).toInt64.toUInt64).toInt64) else ((q1.toUInt64 >>> (((7 : Int32) * (p2 - (9 : Int32))) &&& 0x3f).toInt64.toUInt64).toInt64)) &&& (127 : Int64)).toInt32).toUInt32.toUInt16.toUInt32.toInt32))
def Qjk (Z : State) (q0 : Int64) (q1 : Int64) (p2 : Int32) (h0 : Heap) (n0 : Nat) (v : Option Value) (h : Heap) (L : List Loc) : Prop := v = some (.int (fjk q0 q1 p2)) ∧ Fr n0 L ∧ h = h0
set_option maxRecDepth 65536 in
set_option maxHeartbeats 40000000 in
theorem rmjk (l : Launch) (Z : State) (aa : Array Value) (hw : ∀ d ∈ tables_1, d.before aa Z = true) (ws : List Jvm.Cond) (q0 : Int64) (q1 : Int64) (p2 : Int32) (h0 : Heap) (n0 : Nat) (Z0 : n0 ≤ h0.size) :
    MetFree l (⟨"com/example/fieldgate/fieldgate/record/DigitsValuePinLaw", "junk", "(JJI)C"⟩ : MethodName) (head1 (Jvm.Cond.code (⟨"com/example/fieldgate/fieldgate/record/DigitsValuePinLaw", "junk", "(JJI)C"⟩ : MethodName) method_4_code 7 (some .char) :: ws) ({ frames := 0, cells := 0, slots := 0, locals := 0 } : Room)) (fun a U => a = #[(.long q0), (.long q1), (.int p2)] ∧ Z.Warmed39 U.vm ∧ U.heap = h0) (fun _ _ _ _ _ => True) (fun _ U o U' => ∃ v L, o = .returned v ∧ Qjk Z q0 q1 p2 h0 n0 v U'.heap L ∧ FrameEnd U o U' L ({ frames := 0, cells := 0, slots := 0, locals := 0 } : Room).cells ({ frames := 0, cells := 0, slots := 0, locals := 0 } : Room).slots) := by
  refine MetFree.of_bodySF (plainFor_of_name pnjk) hisR ?_
  intro p e s m args below meth c s₁ Bd hml0 hP hK
  obtain ⟨rfl, hZ, hh⟩ := hP
  have hx := Bd.exec
  have hby := Bd.bytes
  have hml : c.maxLocals = 7 := hml0
  have hown : s.vm.findClass "com/example/fieldgate/fieldgate/record/DigitsValuePinLaw" = some m.cls := findClass_of_methodNamed Bd.named
  have hnm := (name_of_methodNamed Bd.named Bd.method).1
  have X0 : Stand p l e ({ frames := 0, cells := 0, slots := 0, locals := 0 } : Room) s m #[(.long q0), (.long q1), (.int p2)] below meth c s₁ [] 0 0 := Stand.of_body Bd
  have e0 : s₁.heap = h0 := by rw [← hh, Bd.state]; rfl
  have N0 := Fr.nil n0
  show OwnEnd p e below s (fun v h L => Qjk Z q0 q1 p2 h0 n0 v h L) ({ frames := 0, cells := 0, slots := 0, locals := 0 } : Room).cells ({ frames := 0, cells := 0, slots := 0, locals := 0 } : Room).slots (s₁.setTop (entryFrame m #[(.long q0), (.long q1), (.int p2)] 7))
  rw [efjk m q0 q1 p2]
  generalize hW : OwnEnd p e below s (fun v h L => Qjk Z q0 q1 p2 h0 n0 v h L) ({ frames := 0, cells := 0, slots := 0, locals := 0 } : Room).cells ({ frames := 0, cells := 0, slots := 0, locals := 0 } : Room).slots = W
  have stp : ∀ {A B : State}, (∀ t, Steps p.tables e below B t → Steps p.tables e below A t) → W B → W A := by subst hW; exact own_step
  show W (s₁.setTop (mkF m 0 #[.val (.long q0), .second, .val (.long q1), .second, .val (.int p2), .unset, .unset] []))
  refine stp (fun t k => XS.iload X0.here hx rfl (hb hby djk_0) rfl k) ?_
  show W (s₁.setTop (mkF m 2 #[.val (.long q0), .second, .val (.long q1), .second, .val (.int p2), .unset, .unset] [(.int p2)]))
  refine stp (fun t k => XS.bipush X0.here hx rfl (hb hby djk_2) k) ?_
  show W (s₁.setTop (mkF m 4 #[.val (.long q0), .second, .val (.long q1), .second, .val (.int p2), .unset, .unset] [(.int (9 : Int32)), (.int p2)]))
  have Jjk_27_3 : ∀ (Tjk3 : State) (lcjk3 : List Loc) (zjk_2 : Int64) (hzjk_2 : zjk_2 = (if p2 < (9 : Int32) then ((q0.toUInt64 >>> (((7 : Int32) * p2) &&& 0x3f).toInt64.toUInt64).toInt64) else ((q1.toUInt64 >>> (((7 : Int32) * (p2 - (9 : Int32))) &&& 0x3f).toInt64.toUInt64).toInt64))) (Xjk3 : Stand p l e ({ frames := 0, cells := 0, slots := 0, locals := 0 } : Room) s m #[(.long q0), (.long q1), (.int p2)] below meth c Tjk3 lcjk3 0 0) (ejk3 : Tjk3.heap = h0) (Njk3 : Fr n0 lcjk3), W (Tjk3.setTop (mkF m 27 #[.val (.long q0), .second, .val (.long q1), .second, .val (.int p2), .unset, .unset] [(.long zjk_2)])) := by
    intro Tjk3 lcjk3 zjk_2 hzjk_2  Xjk3 ejk3 Njk3
    show W (Tjk3.setTop (mkF m 27 #[.val (.long q0), .second, .val (.long q1), .second, .val (.int p2), .unset, .unset] [(.long zjk_2)]))
    refine stp (fun t k => XS.lstore Xjk3.here hx rfl (hb hby djk_27) rfl (l' := #[.val (.long q0), .second, .val (.long q1), .second, .val (.int p2), .val (.long zjk_2), .second]) rfl k) ?_
    show W (Tjk3.setTop (mkF m 29 #[.val (.long q0), .second, .val (.long q1), .second, .val (.int p2), .val (.long zjk_2), .second] []))
    refine stp (fun t k => XS.lload Xjk3.here hx rfl (hb hby djk_29) rfl k) ?_
    show W (Tjk3.setTop (mkF m 31 #[.val (.long q0), .second, .val (.long q1), .second, .val (.int p2), .val (.long zjk_2), .second] [(.long zjk_2)]))
    refine stp (fun t k => Xjk3.ldc2Long hx hown (mvT hZ (hw _ (List.mem_of_getElem? (i := 9) rfl))) (g := (mkF m 31 #[.val (.long q0), .second, .val (.long q1), .second, .val (.int p2), .val (.long zjk_2), .second] [(.long zjk_2)])) rfl (hb hby djk_31) _ k) ?_
    show W (Tjk3.setTop (mkF m 34 #[.val (.long q0), .second, .val (.long q1), .second, .val (.int p2), .val (.long zjk_2), .second] [(.long (127 : Int64)), (.long zjk_2)]))
    refine stp (fun t k => XS.land Xjk3.here hx rfl (hb hby djk_34) rfl k) ?_
    show W (Tjk3.setTop (mkF m 35 #[.val (.long q0), .second, .val (.long q1), .second, .val (.int p2), .val (.long zjk_2), .second] [(.long (zjk_2 &&& (127 : Int64)))]))
    refine stp (fun t k => XS.l2i Xjk3.here hx rfl (hb hby djk_35) rfl k) ?_
    show W (Tjk3.setTop (mkF m 36 #[.val (.long q0), .second, .val (.long q1), .second, .val (.int p2), .val (.long zjk_2), .second] [(.int ((zjk_2 &&& (127 : Int64)).toInt32))]))
    refine stp (fun t k => XS.i2c Xjk3.here hx rfl (hb hby djk_36) rfl k) ?_
    show W (Tjk3.setTop (mkF m 37 #[.val (.long q0), .second, .val (.long q1), .second, .val (.int p2), .val (.long zjk_2), .second] [(.int (((zjk_2 &&& (127 : Int64)).toInt32).toUInt32.toUInt16.toUInt32.toInt32))]))
    show W (Tjk3.setTop (mkF m 37 #[.val (.long q0), .second, .val (.long q1), .second, .val (.int p2), .val (.long zjk_2), .second] [(.int (((zjk_2 &&& (127 : Int64)).toInt32).toUInt32.toUInt16.toUInt32.toInt32))]))
    rw [← hW]
    exact own_retN Xjk3 hx Bd.notSynchronized Bd.returns (w := (nar .char (((zjk_2 &&& (127 : Int64)).toInt32).toUInt32.toUInt16.toUInt32.toInt32))) (by simp) (hb hby djk_37) rfl (by show Qjk Z q0 q1 p2 h0 n0 _ Tjk3.heap _; rw [ejk3]; exact ⟨(by subst hzjk_2; rw [fjk]), Njk3, rfl⟩) (by decide) (by decide)
  by_cases hcjk_1 : p2 < (9 : Int32)
  · refine stp (fun t k => XS.icmpNo X0.here hx rfl (hb hby djk_4) rfl ((tlt hcjk_1).2.1) k) ?_
    show W (s₁.setTop (mkF m 7 #[.val (.long q0), .second, .val (.long q1), .second, .val (.int p2), .unset, .unset] []))
    refine stp (fun t k => XS.lloadN X0.here hx rfl (hb hby djk_7) rfl k) ?_
    show W (s₁.setTop (mkF m 8 #[.val (.long q0), .second, .val (.long q1), .second, .val (.int p2), .unset, .unset] [(.long q0)]))
    refine stp (fun t k => XS.bipush X0.here hx rfl (hb hby djk_8) k) ?_
    show W (s₁.setTop (mkF m 10 #[.val (.long q0), .second, .val (.long q1), .second, .val (.int p2), .unset, .unset] [(.int (7 : Int32)), (.long q0)]))
    refine stp (fun t k => XS.iload X0.here hx rfl (hb hby djk_10) rfl k) ?_
    show W (s₁.setTop (mkF m 12 #[.val (.long q0), .second, .val (.long q1), .second, .val (.int p2), .unset, .unset] [(.int p2), (.int (7 : Int32)), (.long q0)]))
    refine stp (fun t k => XS.imul X0.here hx rfl (hb hby djk_12) rfl k) ?_
    show W (s₁.setTop (mkF m 13 #[.val (.long q0), .second, .val (.long q1), .second, .val (.int p2), .unset, .unset] [(.int ((7 : Int32) * p2)), (.long q0)]))
    refine stp (fun t k => XS.lushr X0.here hx rfl (hb hby djk_13) rfl k) ?_
    show W (s₁.setTop (mkF m 14 #[.val (.long q0), .second, .val (.long q1), .second, .val (.int p2), .unset, .unset] [(.long ((q0.toUInt64 >>> (((7 : Int32) * p2) &&& 0x3f).toInt64.toUInt64).toInt64))]))
    refine stp (fun t k => XS.goto X0.here hx rfl (pc0 := 14) (pc' := 27) rfl (hb hby djk_14) (by decide) (by decide) k) ?_
    show W (s₁.setTop (mkF m 27 #[.val (.long q0), .second, .val (.long q1), .second, .val (.int p2), .unset, .unset] [(.long ((q0.toUInt64 >>> (((7 : Int32) * p2) &&& 0x3f).toInt64.toUInt64).toInt64))]))
    exact Jjk_27_3 _ _ ((q0.toUInt64 >>> (((7 : Int32) * p2) &&& 0x3f).toInt64.toUInt64).toInt64) (by first | rfl | simp only [if_pos hcjk_1]) X0 e0 N0
  · refine stp (fun t k => XS.icmpYes X0.here hx rfl (pc0 := 4) (pc' := 17) rfl (hb hby djk_4) rfl ((flt hcjk_1).2.1) (by decide) (by decide) k) ?_
    show W (s₁.setTop (mkF m 17 #[.val (.long q0), .second, .val (.long q1), .second, .val (.int p2), .unset, .unset] []))
    refine stp (fun t k => XS.lloadN X0.here hx rfl (hb hby djk_17) rfl k) ?_
    show W (s₁.setTop (mkF m 18 #[.val (.long q0), .second, .val (.long q1), .second, .val (.int p2), .unset, .unset] [(.long q1)]))
    refine stp (fun t k => XS.bipush X0.here hx rfl (hb hby djk_18) k) ?_
    show W (s₁.setTop (mkF m 20 #[.val (.long q0), .second, .val (.long q1), .second, .val (.int p2), .unset, .unset] [(.int (7 : Int32)), (.long q1)]))
    refine stp (fun t k => XS.iload X0.here hx rfl (hb hby djk_20) rfl k) ?_
    show W (s₁.setTop (mkF m 22 #[.val (.long q0), .second, .val (.long q1), .second, .val (.int p2), .unset, .unset] [(.int p2), (.int (7 : Int32)), (.long q1)]))
    refine stp (fun t k => XS.bipush X0.here hx rfl (hb hby djk_22) k) ?_
    show W (s₁.setTop (mkF m 24 #[.val (.long q0), .second, .val (.long q1), .second, .val (.int p2), .unset, .unset] [(.int (9 : Int32)), (.int p2), (.int (7 : Int32)), (.long q1)]))
    refine stp (fun t k => XS.isub X0.here hx rfl (hb hby djk_24) rfl k) ?_
    show W (s₁.setTop (mkF m 25 #[.val (.long q0), .second, .val (.long q1), .second, .val (.int p2), .unset, .unset] [(.int (p2 - (9 : Int32))), (.int (7 : Int32)), (.long q1)]))
    refine stp (fun t k => XS.imul X0.here hx rfl (hb hby djk_25) rfl k) ?_
    show W (s₁.setTop (mkF m 26 #[.val (.long q0), .second, .val (.long q1), .second, .val (.int p2), .unset, .unset] [(.int ((7 : Int32) * (p2 - (9 : Int32)))), (.long q1)]))
    refine stp (fun t k => XS.lushr X0.here hx rfl (hb hby djk_26) rfl k) ?_
    show W (s₁.setTop (mkF m 27 #[.val (.long q0), .second, .val (.long q1), .second, .val (.int p2), .unset, .unset] [(.long ((q1.toUInt64 >>> (((7 : Int32) * (p2 - (9 : Int32))) &&& 0x3f).toInt64.toUInt64).toInt64))]))
    exact Jjk_27_3 _ _ ((q1.toUInt64 >>> (((7 : Int32) * (p2 - (9 : Int32))) &&& 0x3f).toInt64.toUInt64).toInt64) (by first | rfl | simp only [if_neg hcjk_1]) X0 e0 N0
theorem dat_0 : decode method_5_code 0 = .ok (.iload 8, 2) := by decide +kernel
theorem dat_2 : decode method_5_code 2 = .ok (.iload 9, 2) := by decide +kernel
theorem dat_4 : decode method_5_code 4 = .ok (.if_icmp .lt 22, 3) := by decide +kernel
theorem dat_7 : decode method_5_code 7 = .ok (.iload 8, 2) := by decide +kernel
theorem dat_9 : decode method_5_code 9 = .ok (.iload 10, 2) := by decide +kernel
theorem dat_11 : decode method_5_code 11 = .ok (.if_icmp .ge 15, 3) := by decide +kernel
theorem dat_14 : decode method_5_code 14 = .ok (.bipush 48, 2) := by decide +kernel
theorem dat_16 : decode method_5_code 16 = .ok (.lload_n 0, 1) := by decide +kernel
theorem dat_17 : decode method_5_code 17 = .ok (.lload_n 2, 1) := by decide +kernel
theorem dat_18 : decode method_5_code 18 = .ok (.iload 8, 2) := by decide +kernel
theorem dat_20 : decode method_5_code 20 = .ok (.invokestatic 45, 3) := by decide +kernel
theorem dat_23 : decode method_5_code 23 = .ok (.iadd, 1) := by decide +kernel
theorem dat_24 : decode method_5_code 24 = .ok (.i2c, 1) := by decide +kernel
theorem dat_25 : decode method_5_code 25 = .ok (.ireturn, 1) := by decide +kernel
theorem dat_26 : decode method_5_code 26 = .ok (.lload 4, 2) := by decide +kernel
theorem dat_28 : decode method_5_code 28 = .ok (.lload 6, 2) := by decide +kernel
theorem dat_30 : decode method_5_code 30 = .ok (.iload 8, 2) := by decide +kernel
theorem dat_32 : decode method_5_code 32 = .ok (.invokestatic 51, 3) := by decide +kernel
theorem dat_35 : decode method_5_code 35 = .ok (.ireturn, 1) := by decide +kernel
theorem pnat : plainName "com/example/fieldgate/fieldgate/record/DigitsValuePinLaw" = true := by first | (simp [plainName, overriddenIn]; done) | decide +kernel
theorem pdat_0 : parseMethodDescriptor "(JJI)C" = some ⟨[.long, .long, .int], some .char⟩ := by decide +kernel
theorem pdat_1 : parseMethodDescriptor "(JJI)I" = some ⟨[.long, .long, .int], some .int⟩ := by decide +kernel
theorem efat (m : MethodId) (q0 : Int64) (q1 : Int64) (q2 : Int64) (q3 : Int64) (p4 : Int32) (p5 : Int32) (p6 : Int32) : entryFrame m #[(.long q0), (.long q1), (.long q2), (.long q3), (.int p4), (.int p5), (.int p6)] 11 = mkF m 0 #[.val (.long q0), .second, .val (.long q1), .second, .val (.long q2), .second, .val (.long q3), .second, .val (.int p4), .val (.int p5), .val (.int p6)] [] := by first | (simp [entryFrame, mkF, argsToLocals, Value.category]; done) | rfl
def fat (q0 : Int64) (q1 : Int64) (q2 : Int64) (q3 : Int64) (p4 : Int32) (p5 : Int32) (p6 : Int32) : Int32 := (if p4 < p5 then (nar .char (fjk q2 q3 p4)) else (if p4 < p6 then (nar .char (((48 : Int32) + (fdg q0 q1 p4)).toUInt32.toUInt16.toUInt32.toInt32)) else (nar .char (fjk q2 q3 p4))))
def Qat (Z : State) (q0 : Int64) (q1 : Int64) (q2 : Int64) (q3 : Int64) (p4 : Int32) (p5 : Int32) (p6 : Int32) (h0 : Heap) (n0 : Nat) (v : Option Value) (h : Heap) (L : List Loc) : Prop := v = some (.int (fat q0 q1 q2 q3 p4 p5 p6)) ∧ Fr n0 L ∧ h = h0
set_option maxRecDepth 65536 in
set_option maxHeartbeats 40000000 in
theorem rmat (l : Launch) (Z : State) (aa : Array Value) (hw : ∀ d ∈ tables_1, d.before aa Z = true) (ws : List Jvm.Cond) (q0 : Int64) (q1 : Int64) (q2 : Int64) (q3 : Int64) (p4 : Int32) (p5 : Int32) (p6 : Int32) (h0 : Heap) (n0 : Nat) (Z0 : n0 ≤ h0.size) :
    MetFree l (⟨"com/example/fieldgate/fieldgate/record/DigitsValuePinLaw", "at", "(JJJJIII)C"⟩ : MethodName) (head1 (Jvm.Cond.code (⟨"com/example/fieldgate/fieldgate/record/DigitsValuePinLaw", "at", "(JJJJIII)C"⟩ : MethodName) method_5_code 11 (some .char) :: ws) ({ frames := 1, cells := 0, slots := 0, locals := 19 } : Room)) (fun a U => a = #[(.long q0), (.long q1), (.long q2), (.long q3), (.int p4), (.int p5), (.int p6)] ∧ Z.Warmed39 U.vm ∧ U.heap = h0) (fun _ _ _ _ _ => True) (fun _ U o U' => ∃ v L, o = .returned v ∧ Qat Z q0 q1 q2 q3 p4 p5 p6 h0 n0 v U'.heap L ∧ FrameEnd U o U' L ({ frames := 1, cells := 0, slots := 0, locals := 19 } : Room).cells ({ frames := 1, cells := 0, slots := 0, locals := 19 } : Room).slots) := by
  refine MetFree.of_bodySF (plainFor_of_name pnat) hisR ?_
  intro p e s m args below meth c s₁ Bd hml0 hP hK
  obtain ⟨rfl, hZ, hh⟩ := hP
  have hx := Bd.exec
  have hby := Bd.bytes
  have hml : c.maxLocals = 11 := hml0
  have hown : s.vm.findClass "com/example/fieldgate/fieldgate/record/DigitsValuePinLaw" = some m.cls := findClass_of_methodNamed Bd.named
  have hnm := (name_of_methodNamed Bd.named Bd.method).1
  have X0 : Stand p l e ({ frames := 1, cells := 0, slots := 0, locals := 19 } : Room) s m #[(.long q0), (.long q1), (.long q2), (.long q3), (.int p4), (.int p5), (.int p6)] below meth c s₁ [] 0 0 := Stand.of_body Bd
  have e0 : s₁.heap = h0 := by rw [← hh, Bd.state]; rfl
  have N0 := Fr.nil n0
  show OwnEnd p e below s (fun v h L => Qat Z q0 q1 q2 q3 p4 p5 p6 h0 n0 v h L) ({ frames := 1, cells := 0, slots := 0, locals := 19 } : Room).cells ({ frames := 1, cells := 0, slots := 0, locals := 19 } : Room).slots (s₁.setTop (entryFrame m #[(.long q0), (.long q1), (.long q2), (.long q3), (.int p4), (.int p5), (.int p6)] 11))
  rw [efat m q0 q1 q2 q3 p4 p5 p6]
  generalize hW : OwnEnd p e below s (fun v h L => Qat Z q0 q1 q2 q3 p4 p5 p6 h0 n0 v h L) ({ frames := 1, cells := 0, slots := 0, locals := 19 } : Room).cells ({ frames := 1, cells := 0, slots := 0, locals := 19 } : Room).slots = W
  have stp : ∀ {A B : State}, (∀ t, Steps p.tables e below B t → Steps p.tables e below A t) → W B → W A := by subst hW; exact own_step
  show W (s₁.setTop (mkF m 0 #[.val (.long q0), .second, .val (.long q1), .second, .val (.long q2), .second, .val (.long q3), .second, .val (.int p4), .val (.int p5), .val (.int p6)] []))
  refine stp (fun t k => XS.iload X0.here hx rfl (hb hby dat_0) rfl k) ?_
  show W (s₁.setTop (mkF m 2 #[.val (.long q0), .second, .val (.long q1), .second, .val (.long q2), .second, .val (.long q3), .second, .val (.int p4), .val (.int p5), .val (.int p6)] [(.int p4)]))
  refine stp (fun t k => XS.iload X0.here hx rfl (hb hby dat_2) rfl k) ?_
  show W (s₁.setTop (mkF m 4 #[.val (.long q0), .second, .val (.long q1), .second, .val (.long q2), .second, .val (.long q3), .second, .val (.int p4), .val (.int p5), .val (.int p6)] [(.int p5), (.int p4)]))
  by_cases hcat_1 : p4 < p5
  · refine stp (fun t k => XS.icmpYes X0.here hx rfl (pc0 := 4) (pc' := 26) rfl (hb hby dat_4) rfl ((tlt hcat_1).1) (by decide) (by decide) k) ?_
    show W (s₁.setTop (mkF m 26 #[.val (.long q0), .second, .val (.long q1), .second, .val (.long q2), .second, .val (.long q3), .second, .val (.int p4), .val (.int p5), .val (.int p6)] []))
    refine stp (fun t k => XS.lload X0.here hx rfl (hb hby dat_26) rfl k) ?_
    show W (s₁.setTop (mkF m 28 #[.val (.long q0), .second, .val (.long q1), .second, .val (.long q2), .second, .val (.long q3), .second, .val (.int p4), .val (.int p5), .val (.int p6)] [(.long q2)]))
    refine stp (fun t k => XS.lload X0.here hx rfl (hb hby dat_28) rfl k) ?_
    show W (s₁.setTop (mkF m 30 #[.val (.long q0), .second, .val (.long q1), .second, .val (.long q2), .second, .val (.long q3), .second, .val (.int p4), .val (.int p5), .val (.int p6)] [(.long q3), (.long q2)]))
    refine stp (fun t k => XS.iload X0.here hx rfl (hb hby dat_30) rfl k) ?_
    show W (s₁.setTop (mkF m 32 #[.val (.long q0), .second, .val (.long q1), .second, .val (.long q2), .second, .val (.long q3), .second, .val (.int p4), .val (.int p5), .val (.int p6)] [(.int p4), (.long q3), (.long q2)]))
    obtain ⟨_, _, ⟨Tatc2, Latc2, katc2, natc2⟩, -, Xatc2, ⟨Lcatc2, hQatc2, latc2, yatc2, zatc2⟩, statc2⟩ := Jvm.LawKit.callS X0 hx (y := (⟨"com/example/fieldgate/fieldgate/record/DigitsValuePinLaw", "junk", "(JJI)C"⟩ : MethodName)) hown (mvT hZ (hw _ (List.mem_of_getElem? (i := 6) rfl))) (mvT hZ (hw _ (List.mem_of_getElem? (i := 7) rfl))) (mvT hZ (hw _ (List.mem_of_getElem? (i := 4) rfl))) (mvT hZ (hw _ (List.mem_of_getElem? (i := 8) rfl))) (by decide) (backOf (W := 0) (rmjk l Z aa hw [] q2 q3 p4  h0 n0 Z0 ) hZ (hw _ (List.mem_of_getElem? (i := 8) rfl)) (hw _ (List.mem_of_getElem? (i := 4) rfl)) (by decide) (by decide)) (g := (mkF m 32 #[.val (.long q0), .second, .val (.long q1), .second, .val (.long q2), .second, .val (.long q3), .second, .val (.int p4), .val (.int p5), .val (.int p6)] [(.int p4), (.long q3), (.long q2)])) rfl (by rw [hml]; rfl) (argsL := [(.long q2), (.long q3), (.int p4)]) (rest := []) (lenOf pdat_0 rfl) rfl (by show 2 * 0 + _ ≤ _; exact Nat.le_of_eq rfl) (hb hby dat_32) (fun _ _ => ⟨rfl, e0, (by decide : 0 + 0 ≤ _), (by decide : 0 + 0 ≤ _)⟩)
    dsimp only [Pt.U, Pt.locs, Pt.cells, Pt.slots] at Xatc2 latc2 yatc2 zatc2 statc2 hQatc2
    subst latc2 yatc2 zatc2
    obtain ⟨rfl, Natc2q, eatc2⟩ := hQatc2
    have Natc2 := Fr.app N0 Natc2q
    obtain ⟨lcatt3, Xatc2, Natc2⟩ : ∃ lc, Stand p l e ({ frames := 1, cells := 0, slots := 0, locals := 19 } : Room) s m #[(.long q0), (.long q1), (.long q2), (.long q3), (.int p4), (.int p5), (.int p6)] below meth c Tatc2 lc 0 0 ∧ Fr n0 lc := ⟨_, Xatc2, Natc2⟩
    refine stp (fun t k => statc2 t k) ?_
    show W (Tatc2.setTop (mkF m 35 #[.val (.long q0), .second, .val (.long q1), .second, .val (.long q2), .second, .val (.long q3), .second, .val (.int p4), .val (.int p5), .val (.int p6)] [(.int (fjk q2 q3 p4))]))
    show W (Tatc2.setTop (mkF m 35 #[.val (.long q0), .second, .val (.long q1), .second, .val (.long q2), .second, .val (.long q3), .second, .val (.int p4), .val (.int p5), .val (.int p6)] [(.int (fjk q2 q3 p4))]))
    rw [← hW]
    exact own_retN Xatc2 hx Bd.notSynchronized Bd.returns (w := (nar .char (fjk q2 q3 p4))) (by simp) (hb hby dat_35) rfl (by show Qat Z q0 q1 q2 q3 p4 p5 p6 h0 n0 _ Tatc2.heap _; rw [eatc2]; exact ⟨(by rw [fat, if_pos hcat_1]), Natc2, rfl⟩) (by decide) (by decide)
  · refine stp (fun t k => XS.icmpNo X0.here hx rfl (hb hby dat_4) rfl ((flt hcat_1).1) k) ?_
    show W (s₁.setTop (mkF m 7 #[.val (.long q0), .second, .val (.long q1), .second, .val (.long q2), .second, .val (.long q3), .second, .val (.int p4), .val (.int p5), .val (.int p6)] []))
    refine stp (fun t k => XS.iload X0.here hx rfl (hb hby dat_7) rfl k) ?_
    show W (s₁.setTop (mkF m 9 #[.val (.long q0), .second, .val (.long q1), .second, .val (.long q2), .second, .val (.long q3), .second, .val (.int p4), .val (.int p5), .val (.int p6)] [(.int p4)]))
    refine stp (fun t k => XS.iload X0.here hx rfl (hb hby dat_9) rfl k) ?_
    show W (s₁.setTop (mkF m 11 #[.val (.long q0), .second, .val (.long q1), .second, .val (.long q2), .second, .val (.long q3), .second, .val (.int p4), .val (.int p5), .val (.int p6)] [(.int p6), (.int p4)]))
    by_cases hcat_4 : p4 < p6
    · refine stp (fun t k => XS.icmpNo X0.here hx rfl (hb hby dat_11) rfl ((tlt hcat_4).2.1) k) ?_
      show W (s₁.setTop (mkF m 14 #[.val (.long q0), .second, .val (.long q1), .second, .val (.long q2), .second, .val (.long q3), .second, .val (.int p4), .val (.int p5), .val (.int p6)] []))
      refine stp (fun t k => XS.bipush X0.here hx rfl (hb hby dat_14) k) ?_
      show W (s₁.setTop (mkF m 16 #[.val (.long q0), .second, .val (.long q1), .second, .val (.long q2), .second, .val (.long q3), .second, .val (.int p4), .val (.int p5), .val (.int p6)] [(.int (48 : Int32))]))
      refine stp (fun t k => XS.lloadN X0.here hx rfl (hb hby dat_16) rfl k) ?_
      show W (s₁.setTop (mkF m 17 #[.val (.long q0), .second, .val (.long q1), .second, .val (.long q2), .second, .val (.long q3), .second, .val (.int p4), .val (.int p5), .val (.int p6)] [(.long q0), (.int (48 : Int32))]))
      refine stp (fun t k => XS.lloadN X0.here hx rfl (hb hby dat_17) rfl k) ?_
      show W (s₁.setTop (mkF m 18 #[.val (.long q0), .second, .val (.long q1), .second, .val (.long q2), .second, .val (.long q3), .second, .val (.int p4), .val (.int p5), .val (.int p6)] [(.long q1), (.long q0), (.int (48 : Int32))]))
      refine stp (fun t k => XS.iload X0.here hx rfl (hb hby dat_18) rfl k) ?_
      show W (s₁.setTop (mkF m 20 #[.val (.long q0), .second, .val (.long q1), .second, .val (.long q2), .second, .val (.long q3), .second, .val (.int p4), .val (.int p5), .val (.int p6)] [(.int p4), (.long q1), (.long q0), (.int (48 : Int32))]))
      obtain ⟨_, _, ⟨Tatc5, Latc5, katc5, natc5⟩, -, Xatc5, ⟨Lcatc5, hQatc5, latc5, yatc5, zatc5⟩, statc5⟩ := Jvm.LawKit.callS X0 hx (y := (⟨"com/example/fieldgate/fieldgate/record/DigitsValuePinLaw", "digit", "(JJI)I"⟩ : MethodName)) hown (mvT hZ (hw _ (List.mem_of_getElem? (i := 46) rfl))) (mvT hZ (hw _ (List.mem_of_getElem? (i := 47) rfl))) (mvT hZ (hw _ (List.mem_of_getElem? (i := 4) rfl))) (mvT hZ (hw _ (List.mem_of_getElem? (i := 48) rfl))) (by decide) (backOf (W := 1) (rmdg l Z aa hw [] q0 q1 p4  h0 n0 Z0 ) hZ (hw _ (List.mem_of_getElem? (i := 48) rfl)) (hw _ (List.mem_of_getElem? (i := 4) rfl)) (by decide) (by decide)) (g := (mkF m 20 #[.val (.long q0), .second, .val (.long q1), .second, .val (.long q2), .second, .val (.long q3), .second, .val (.int p4), .val (.int p5), .val (.int p6)] [(.int p4), (.long q1), (.long q0), (.int (48 : Int32))])) rfl (by rw [hml]; rfl) (argsL := [(.long q0), (.long q1), (.int p4)]) (rest := [(.int (48 : Int32))]) (lenOf pdat_1 rfl) rfl (by show 2 * 0 + _ ≤ _; exact Nat.le_of_eq rfl) (hb hby dat_20) (fun _ _ => ⟨rfl, e0, (by decide : 0 + 0 ≤ _), (by decide : 0 + 0 ≤ _)⟩)
      dsimp only [Pt.U, Pt.locs, Pt.cells, Pt.slots] at Xatc5 latc5 yatc5 zatc5 statc5 hQatc5
      subst latc5 yatc5 zatc5
      obtain ⟨rfl, Natc5q, eatc5⟩ := hQatc5
      have Natc5 := Fr.app N0 Natc5q
      obtain ⟨lcatt6, Xatc5, Natc5⟩ : ∃ lc, Stand p l e ({ frames := 1, cells := 0, slots := 0, locals := 19 } : Room) s m #[(.long q0), (.long q1), (.long q2), (.long q3), (.int p4), (.int p5), (.int p6)] below meth c Tatc5 lc 0 0 ∧ Fr n0 lc := ⟨_, Xatc5, Natc5⟩
      refine stp (fun t k => statc5 t k) ?_
      show W (Tatc5.setTop (mkF m 23 #[.val (.long q0), .second, .val (.long q1), .second, .val (.long q2), .second, .val (.long q3), .second, .val (.int p4), .val (.int p5), .val (.int p6)] [(.int (fdg q0 q1 p4)), (.int (48 : Int32))]))
      refine stp (fun t k => XS.iadd Xatc5.here hx rfl (hb hby dat_23) rfl k) ?_
      show W (Tatc5.setTop (mkF m 24 #[.val (.long q0), .second, .val (.long q1), .second, .val (.long q2), .second, .val (.long q3), .second, .val (.int p4), .val (.int p5), .val (.int p6)] [(.int ((48 : Int32) + (fdg q0 q1 p4)))]))
      refine stp (fun t k => XS.i2c Xatc5.here hx rfl (hb hby dat_24) rfl k) ?_
      show W (Tatc5.setTop (mkF m 25 #[.val (.long q0), .second, .val (.long q1), .second, .val (.long q2), .second, .val (.long q3), .second, .val (.int p4), .val (.int p5), .val (.int p6)] [(.int (((48 : Int32) + (fdg q0 q1 p4)).toUInt32.toUInt16.toUInt32.toInt32))]))
      show W (Tatc5.setTop (mkF m 25 #[.val (.long q0), .second, .val (.long q1), .second, .val (.long q2), .second, .val (.long q3), .second, .val (.int p4), .val (.int p5), .val (.int p6)] [(.int (((48 : Int32) + (fdg q0 q1 p4)).toUInt32.toUInt16.toUInt32.toInt32))]))
      rw [← hW]
      exact own_retN Xatc5 hx Bd.notSynchronized Bd.returns (w := (nar .char (((48 : Int32) + (fdg q0 q1 p4)).toUInt32.toUInt16.toUInt32.toInt32))) (by simp) (hb hby dat_25) rfl (by show Qat Z q0 q1 q2 q3 p4 p5 p6 h0 n0 _ Tatc5.heap _; rw [eatc5]; exact ⟨(by rw [fat, if_neg hcat_1, if_pos hcat_4]), Natc5, rfl⟩) (by decide) (by decide)
    · refine stp (fun t k => XS.icmpYes X0.here hx rfl (pc0 := 11) (pc' := 26) rfl (hb hby dat_11) rfl ((flt hcat_4).2.1) (by decide) (by decide) k) ?_
      show W (s₁.setTop (mkF m 26 #[.val (.long q0), .second, .val (.long q1), .second, .val (.long q2), .second, .val (.long q3), .second, .val (.int p4), .val (.int p5), .val (.int p6)] []))
      refine stp (fun t k => XS.lload X0.here hx rfl (hb hby dat_26) rfl k) ?_
      show W (s₁.setTop (mkF m 28 #[.val (.long q0), .second, .val (.long q1), .second, .val (.long q2), .second, .val (.long q3), .second, .val (.int p4), .val (.int p5), .val (.int p6)] [(.long q2)]))
      refine stp (fun t k => XS.lload X0.here hx rfl (hb hby dat_28) rfl k) ?_
      show W (s₁.setTop (mkF m 30 #[.val (.long q0), .second, .val (.long q1), .second, .val (.long q2), .second, .val (.long q3), .second, .val (.int p4), .val (.int p5), .val (.int p6)] [(.long q3), (.long q2)]))
      refine stp (fun t k => XS.iload X0.here hx rfl (hb hby dat_30) rfl k) ?_
      show W (s₁.setTop (mkF m 32 #[.val (.long q0), .second, .val (.long q1), .second, .val (.long q2), .second, .val (.long q3), .second, .val (.int p4), .val (.int p5), .val (.int p6)] [(.int p4), (.long q3), (.long q2)]))
      obtain ⟨_, _, ⟨Tatc7, Latc7, katc7, natc7⟩, -, Xatc7, ⟨Lcatc7, hQatc7, latc7, yatc7, zatc7⟩, statc7⟩ := Jvm.LawKit.callS X0 hx (y := (⟨"com/example/fieldgate/fieldgate/record/DigitsValuePinLaw", "junk", "(JJI)C"⟩ : MethodName)) hown (mvT hZ (hw _ (List.mem_of_getElem? (i := 6) rfl))) (mvT hZ (hw _ (List.mem_of_getElem? (i := 7) rfl))) (mvT hZ (hw _ (List.mem_of_getElem? (i := 4) rfl))) (mvT hZ (hw _ (List.mem_of_getElem? (i := 8) rfl))) (by decide) (backOf (W := 0) (rmjk l Z aa hw [] q2 q3 p4  h0 n0 Z0 ) hZ (hw _ (List.mem_of_getElem? (i := 8) rfl)) (hw _ (List.mem_of_getElem? (i := 4) rfl)) (by decide) (by decide)) (g := (mkF m 32 #[.val (.long q0), .second, .val (.long q1), .second, .val (.long q2), .second, .val (.long q3), .second, .val (.int p4), .val (.int p5), .val (.int p6)] [(.int p4), (.long q3), (.long q2)])) rfl (by rw [hml]; rfl) (argsL := [(.long q2), (.long q3), (.int p4)]) (rest := []) (lenOf pdat_0 rfl) rfl (by show 2 * 0 + _ ≤ _; exact Nat.le_of_eq rfl) (hb hby dat_32) (fun _ _ => ⟨rfl, e0, (by decide : 0 + 0 ≤ _), (by decide : 0 + 0 ≤ _)⟩)
      dsimp only [Pt.U, Pt.locs, Pt.cells, Pt.slots] at Xatc7 latc7 yatc7 zatc7 statc7 hQatc7
      subst latc7 yatc7 zatc7
      obtain ⟨rfl, Natc7q, eatc7⟩ := hQatc7
      have Natc7 := Fr.app N0 Natc7q
      obtain ⟨lcatt8, Xatc7, Natc7⟩ : ∃ lc, Stand p l e ({ frames := 1, cells := 0, slots := 0, locals := 19 } : Room) s m #[(.long q0), (.long q1), (.long q2), (.long q3), (.int p4), (.int p5), (.int p6)] below meth c Tatc7 lc 0 0 ∧ Fr n0 lc := ⟨_, Xatc7, Natc7⟩
      refine stp (fun t k => statc7 t k) ?_
      show W (Tatc7.setTop (mkF m 35 #[.val (.long q0), .second, .val (.long q1), .second, .val (.long q2), .second, .val (.long q3), .second, .val (.int p4), .val (.int p5), .val (.int p6)] [(.int (fjk q2 q3 p4))]))
      show W (Tatc7.setTop (mkF m 35 #[.val (.long q0), .second, .val (.long q1), .second, .val (.long q2), .second, .val (.long q3), .second, .val (.int p4), .val (.int p5), .val (.int p6)] [(.int (fjk q2 q3 p4))]))
      rw [← hW]
      exact own_retN Xatc7 hx Bd.notSynchronized Bd.returns (w := (nar .char (fjk q2 q3 p4))) (by simp) (hb hby dat_35) rfl (by show Qat Z q0 q1 q2 q3 p4 p5 p6 h0 n0 _ Tatc7.heap _; rw [eatc7]; exact ⟨(by rw [fat, if_neg hcat_1, if_neg hcat_4]), Natc7, rfl⟩) (by decide) (by decide)
def own_p10 (j : Int32) : Int64 := ([(1 : Int64), (10 : Int64), (100 : Int64), (1000 : Int64), (10000 : Int64), (100000 : Int64), (1000000 : Int64), (10000000 : Int64), (100000000 : Int64), (1000000000 : Int64), (10000000000 : Int64), (100000000000 : Int64), (1000000000000 : Int64), (10000000000000 : Int64), (100000000000000 : Int64), (1000000000000000 : Int64), (10000000000000000 : Int64), (100000000000000000 : Int64)] : List Int64).getD j.toNatClampNeg 0
theorem own_getDL (L : List Int64) (i : Nat) (d : Int64) : (L.map Value.long).getD i (.long d) = .long (L.getD i d) := by
  simp only [List.getD_eq_getElem?_getD, List.getElem?_map]
  cases L[i]? <;> rfl
theorem own_p10v (j : Int32) : ([(.long (1 : Int64)), (.long (10 : Int64)), (.long (100 : Int64)), (.long (1000 : Int64)), (.long (10000 : Int64)), (.long (100000 : Int64)), (.long (1000000 : Int64)), (.long (10000000 : Int64)), (.long (100000000 : Int64)), (.long (1000000000 : Int64)), (.long (10000000000 : Int64)), (.long (100000000000 : Int64)), (.long (1000000000000 : Int64)), (.long (10000000000000 : Int64)), (.long (100000000000000 : Int64)), (.long (1000000000000000 : Int64)), (.long (10000000000000000 : Int64)), (.long (100000000000000000 : Int64))] : List Value).getD j.toNatClampNeg (.long (0 : Int64)) = .long (own_p10 j) := own_getDL [(1 : Int64), (10 : Int64), (100 : Int64), (1000 : Int64), (10000 : Int64), (100000 : Int64), (1000000 : Int64), (10000000 : Int64), (100000000 : Int64), (1000000000 : Int64), (10000000000 : Int64), (100000000000 : Int64), (1000000000000 : Int64), (10000000000000 : Int64), (100000000000000 : Int64), (1000000000000000 : Int64), (10000000000000000 : Int64), (100000000000000000 : Int64)] _ _
theorem own_sub1 {t i : Int32} {a b : Nat} (ht : t.toInt = (a : Int)) (hi : i.toInt = (b : Int)) (h : b < a) (ha : a ≤ 18) : (t - (1 : Int32) - i).toInt = ((a - 1 - b : Nat) : Int) := by
  have h1 := c_isub t 1
  have h2 := c_isub (t - 1) i
  have h3 : (1 : Int32).toInt = 1 := by decide
  have r1 := rng32 (t - 1)
  have r2 := rng32 (t - 1 - i)
  omega
theorem own_ix {i f t : Int32} (hf : 0 ≤ f.toInt) (ht : t.toInt ≤ 18) (h1 : ¬ i < f) (h2 : i < t) : ¬ ((t - (1 : Int32)) - i) < (0 : Int32) ∧ ((t - (1 : Int32)) - i) < (18 : Int32) := by
  rw [Int32.lt_iff_toInt_lt] at h1 h2
  have e := own_sub1 (t := t) (i := i) (a := t.toInt.toNat) (b := i.toInt.toNat) (by omega) (by omega) (by omega) (by omega)
  rw [Int32.lt_iff_toInt_lt, Int32.lt_iff_toInt_lt, e, show (0 : Int32).toInt = 0 from by decide, show (18 : Int32).toInt = 18 from by decide]
  omega
def own_val (g : Nat → Int32) (f0 : Nat) : Nat → Int64
  | 0 => 0
  | j + 1 => (own_val g f0 j * (10 : Int64) + (g (f0 + j)).toInt64) - (48 : Int64)
theorem own_valS {g : Nat → Int32} {f0 i : Nat} (h : f0 ≤ i) : own_val g f0 (i + 1 - f0) = (own_val g f0 (i - f0) * (10 : Int64) + (g i).toInt64) - (48 : Int64) := by
  rw [show i + 1 - f0 = (i - f0) + 1 from by omega]
  show (own_val g f0 (i - f0) * (10 : Int64) + (g (f0 + (i - f0))).toInt64) - (48 : Int64) = _
  rw [show f0 + (i - f0) = i from by omega]
theorem own_f (p : Int32) : ∃ f0 : Nat, ((p &&& (2147483647 : Int32)) % (19 : Int32)).toInt = (f0 : Int) ∧ f0 < 19 := by
  have h1 := c_mask p 2147483647 31 (by decide) (by decide)
  have h3 : (19 : Int32).toInt = 19 := by decide
  have h2 := (c_iremV (p &&& 2147483647) 19).1 (by omega) (by decide)
  exact ⟨((p &&& 2147483647) % 19).toInt.toNat, by omega, by omega⟩
theorem own_19 {f : Int32} {f0 : Nat} (hf : f.toInt = (f0 : Int)) (h : f0 < 19) : ((19 : Int32) - f).toInt = 19 - (f0 : Int) := by
  have h1 := c_isub 19 f
  have h3 : (19 : Int32).toInt = 19 := by decide
  have r := rng32 ((19 : Int32) - f)
  omega
theorem own_nzt (p4 : Int32) : ¬ (((19 : Int32) - ((p4 &&& (2147483647 : Int32)) % (19 : Int32))) = (0 : Int32)) := by
  obtain ⟨f0, h1, h2⟩ := own_f p4
  have h3 := own_19 h1 h2
  intro q
  rw [q, show (0 : Int32).toInt = 0 from by decide] at h3
  omega
theorem own_ft (p4 p5 : Int32) : ∃ f0 t0 : Nat, ((p4 &&& (2147483647 : Int32)) % (19 : Int32)).toInt = (f0 : Int) ∧ (((p4 &&& (2147483647 : Int32)) % (19 : Int32)) + ((p5 &&& (2147483647 : Int32)) % ((19 : Int32) - ((p4 &&& (2147483647 : Int32)) % (19 : Int32))))).toInt = (t0 : Int) ∧ f0 ≤ t0 ∧ t0 ≤ 18 := by
  obtain ⟨f0, h1, h2⟩ := own_f p4
  have h3 := own_19 h1 h2
  generalize (p4 &&& (2147483647 : Int32)) % (19 : Int32) = f at *
  have m := c_mask p5 2147483647 31 (by decide) (by decide)
  have h4 := (c_iremV (p5 &&& 2147483647) ((19 : Int32) - f)).1 (by omega) (by omega)
  have h5 := c_iadd f ((p5 &&& 2147483647) % ((19 : Int32) - f))
  have r := rng32 (f + (p5 &&& 2147483647) % ((19 : Int32) - f))
  exact ⟨f0, (f + (p5 &&& 2147483647) % ((19 : Int32) - f)).toInt.toNat, h1, by omega, by omega, by omega⟩
theorem dpw_0 : decode method_2_code 0 = .ok (.bipush 18, 2) := by decide +kernel
theorem dpw_2 : decode method_2_code 2 = .ok (.newarray .long, 2) := by decide +kernel
theorem dpw_4 : decode method_2_code 4 = .ok (.dup, 1) := by decide +kernel
theorem dpw_5 : decode method_2_code 5 = .ok (.iconst 0, 1) := by decide +kernel
theorem dpw_6 : decode method_2_code 6 = .ok (.lconst 1, 1) := by decide +kernel
theorem dpw_7 : decode method_2_code 7 = .ok (.lastore, 1) := by decide +kernel
theorem dpw_8 : decode method_2_code 8 = .ok (.dup, 1) := by decide +kernel
theorem dpw_9 : decode method_2_code 9 = .ok (.iconst 1, 1) := by decide +kernel
theorem dpw_10 : decode method_2_code 10 = .ok (.ldc2_w 7, 3) := by decide +kernel
theorem dpw_13 : decode method_2_code 13 = .ok (.lastore, 1) := by decide +kernel
theorem dpw_14 : decode method_2_code 14 = .ok (.dup, 1) := by decide +kernel
theorem dpw_15 : decode method_2_code 15 = .ok (.iconst 2, 1) := by decide +kernel
theorem dpw_16 : decode method_2_code 16 = .ok (.ldc2_w 9, 3) := by decide +kernel
theorem dpw_19 : decode method_2_code 19 = .ok (.lastore, 1) := by decide +kernel
theorem dpw_20 : decode method_2_code 20 = .ok (.dup, 1) := by decide +kernel
theorem dpw_21 : decode method_2_code 21 = .ok (.iconst 3, 1) := by decide +kernel
theorem dpw_22 : decode method_2_code 22 = .ok (.ldc2_w 11, 3) := by decide +kernel
theorem dpw_25 : decode method_2_code 25 = .ok (.lastore, 1) := by decide +kernel
theorem dpw_26 : decode method_2_code 26 = .ok (.dup, 1) := by decide +kernel
theorem dpw_27 : decode method_2_code 27 = .ok (.iconst 4, 1) := by decide +kernel
theorem dpw_28 : decode method_2_code 28 = .ok (.ldc2_w 13, 3) := by decide +kernel
theorem dpw_31 : decode method_2_code 31 = .ok (.lastore, 1) := by decide +kernel
theorem dpw_32 : decode method_2_code 32 = .ok (.dup, 1) := by decide +kernel
theorem dpw_33 : decode method_2_code 33 = .ok (.iconst 5, 1) := by decide +kernel
theorem dpw_34 : decode method_2_code 34 = .ok (.ldc2_w 15, 3) := by decide +kernel
theorem dpw_37 : decode method_2_code 37 = .ok (.lastore, 1) := by decide +kernel
theorem dpw_38 : decode method_2_code 38 = .ok (.dup, 1) := by decide +kernel
theorem dpw_39 : decode method_2_code 39 = .ok (.bipush 6, 2) := by decide +kernel
theorem dpw_41 : decode method_2_code 41 = .ok (.ldc2_w 17, 3) := by decide +kernel
theorem dpw_44 : decode method_2_code 44 = .ok (.lastore, 1) := by decide +kernel
theorem dpw_45 : decode method_2_code 45 = .ok (.dup, 1) := by decide +kernel
theorem dpw_46 : decode method_2_code 46 = .ok (.bipush 7, 2) := by decide +kernel
theorem dpw_48 : decode method_2_code 48 = .ok (.ldc2_w 19, 3) := by decide +kernel
theorem dpw_51 : decode method_2_code 51 = .ok (.lastore, 1) := by decide +kernel
theorem dpw_52 : decode method_2_code 52 = .ok (.dup, 1) := by decide +kernel
theorem dpw_53 : decode method_2_code 53 = .ok (.bipush 8, 2) := by decide +kernel
theorem dpw_55 : decode method_2_code 55 = .ok (.ldc2_w 21, 3) := by decide +kernel
theorem dpw_58 : decode method_2_code 58 = .ok (.lastore, 1) := by decide +kernel
theorem dpw_59 : decode method_2_code 59 = .ok (.dup, 1) := by decide +kernel
theorem dpw_60 : decode method_2_code 60 = .ok (.bipush 9, 2) := by decide +kernel
theorem dpw_62 : decode method_2_code 62 = .ok (.ldc2_w 23, 3) := by decide +kernel
theorem dpw_65 : decode method_2_code 65 = .ok (.lastore, 1) := by decide +kernel
theorem dpw_66 : decode method_2_code 66 = .ok (.dup, 1) := by decide +kernel
theorem dpw_67 : decode method_2_code 67 = .ok (.bipush 10, 2) := by decide +kernel
theorem dpw_69 : decode method_2_code 69 = .ok (.ldc2_w 25, 3) := by decide +kernel
theorem dpw_72 : decode method_2_code 72 = .ok (.lastore, 1) := by decide +kernel
theorem dpw_73 : decode method_2_code 73 = .ok (.dup, 1) := by decide +kernel
theorem dpw_74 : decode method_2_code 74 = .ok (.bipush 11, 2) := by decide +kernel
theorem dpw_76 : decode method_2_code 76 = .ok (.ldc2_w 27, 3) := by decide +kernel
theorem dpw_79 : decode method_2_code 79 = .ok (.lastore, 1) := by decide +kernel
theorem dpw_80 : decode method_2_code 80 = .ok (.dup, 1) := by decide +kernel
theorem dpw_81 : decode method_2_code 81 = .ok (.bipush 12, 2) := by decide +kernel
theorem dpw_83 : decode method_2_code 83 = .ok (.ldc2_w 29, 3) := by decide +kernel
theorem dpw_86 : decode method_2_code 86 = .ok (.lastore, 1) := by decide +kernel
theorem dpw_87 : decode method_2_code 87 = .ok (.dup, 1) := by decide +kernel
theorem dpw_88 : decode method_2_code 88 = .ok (.bipush 13, 2) := by decide +kernel
theorem dpw_90 : decode method_2_code 90 = .ok (.ldc2_w 31, 3) := by decide +kernel
theorem dpw_93 : decode method_2_code 93 = .ok (.lastore, 1) := by decide +kernel
theorem dpw_94 : decode method_2_code 94 = .ok (.dup, 1) := by decide +kernel
theorem dpw_95 : decode method_2_code 95 = .ok (.bipush 14, 2) := by decide +kernel
theorem dpw_97 : decode method_2_code 97 = .ok (.ldc2_w 33, 3) := by decide +kernel
theorem dpw_100 : decode method_2_code 100 = .ok (.lastore, 1) := by decide +kernel
theorem dpw_101 : decode method_2_code 101 = .ok (.dup, 1) := by decide +kernel
theorem dpw_102 : decode method_2_code 102 = .ok (.bipush 15, 2) := by decide +kernel
theorem dpw_104 : decode method_2_code 104 = .ok (.ldc2_w 35, 3) := by decide +kernel
theorem dpw_107 : decode method_2_code 107 = .ok (.lastore, 1) := by decide +kernel
theorem dpw_108 : decode method_2_code 108 = .ok (.dup, 1) := by decide +kernel
theorem dpw_109 : decode method_2_code 109 = .ok (.bipush 16, 2) := by decide +kernel
theorem dpw_111 : decode method_2_code 111 = .ok (.ldc2_w 37, 3) := by decide +kernel
theorem dpw_114 : decode method_2_code 114 = .ok (.lastore, 1) := by decide +kernel
theorem dpw_115 : decode method_2_code 115 = .ok (.dup, 1) := by decide +kernel
theorem dpw_116 : decode method_2_code 116 = .ok (.bipush 17, 2) := by decide +kernel
theorem dpw_118 : decode method_2_code 118 = .ok (.ldc2_w 39, 3) := by decide +kernel
theorem dpw_121 : decode method_2_code 121 = .ok (.lastore, 1) := by decide +kernel
theorem dpw_122 : decode method_2_code 122 = .ok (.astore_n 1, 1) := by decide +kernel
theorem dpw_123 : decode method_2_code 123 = .ok (.aload_n 1, 1) := by decide +kernel
theorem dpw_124 : decode method_2_code 124 = .ok (.iload_n 0, 1) := by decide +kernel
theorem dpw_125 : decode method_2_code 125 = .ok (.laload, 1) := by decide +kernel
theorem dpw_126 : decode method_2_code 126 = .ok (.lreturn, 1) := by decide +kernel
theorem pnpw : plainName "com/example/fieldgate/fieldgate/record/DigitsValuePinLaw" = true := by first | (simp [plainName, overriddenIn]; done) | decide +kernel
theorem efpw (m : MethodId) (p0 : Int32) : entryFrame m #[(.int p0)] 2 = mkF m 0 #[.val (.int p0), .unset] [] := by first | (simp [entryFrame, mkF, argsToLocals, Value.category]; done) | rfl
def Qpw (Z : State) (p0 : Int32) (h0 : Heap) (n0 : Nat) (v : Option Value) (h : Heap) (L : List Loc) : Prop := v = some (.long (own_p10 p0)) ∧ Fr n0 L ∧ Keep h0 h []
set_option maxRecDepth 65536 in
set_option maxHeartbeats 40000000 in
theorem rmpw (l : Launch) (Z : State) (aa : Array Value) (hw : ∀ d ∈ tables_1, d.before aa Z = true) (ws : List Jvm.Cond) (p0 : Int32) (h0 : Heap) (n0 : Nat) (Z0 : n0 ≤ h0.size) (hlo : ¬ p0 < (0 : Int32)) (hhi : p0 < (18 : Int32)) :
    MetFree l (⟨"com/example/fieldgate/fieldgate/record/DigitsValuePinLaw", "pow10", "(I)J"⟩ : MethodName) (head1 (Jvm.Cond.code (⟨"com/example/fieldgate/fieldgate/record/DigitsValuePinLaw", "pow10", "(I)J"⟩ : MethodName) method_2_code 2 (some .long) :: ws) ({ frames := 0, cells := 1, slots := 18, locals := 0 } : Room)) (fun a U => a = #[(.int p0)] ∧ Z.Warmed39 U.vm ∧ U.heap = h0) (fun _ _ _ _ _ => True) (fun _ U o U' => ∃ v L, o = .returned v ∧ Qpw Z p0 h0 n0 v U'.heap L ∧ FrameEnd U o U' L ({ frames := 0, cells := 1, slots := 18, locals := 0 } : Room).cells ({ frames := 0, cells := 1, slots := 18, locals := 0 } : Room).slots) := by
  refine MetFree.of_bodySF (plainFor_of_name pnpw) hisR ?_
  intro p e s m args below meth c s₁ Bd hml0 hP hK
  obtain ⟨rfl, hZ, hh⟩ := hP
  have hx := Bd.exec
  have hby := Bd.bytes
  have hml : c.maxLocals = 2 := hml0
  have hown : s.vm.findClass "com/example/fieldgate/fieldgate/record/DigitsValuePinLaw" = some m.cls := findClass_of_methodNamed Bd.named
  have hnm := (name_of_methodNamed Bd.named Bd.method).1
  have X0 : Stand p l e ({ frames := 0, cells := 1, slots := 18, locals := 0 } : Room) s m #[(.int p0)] below meth c s₁ [] 0 0 := Stand.of_body Bd
  have e0 : s₁.heap = h0 := by rw [← hh, Bd.state]; rfl
  have N0 := Fr.nil n0
  show OwnEnd p e below s (fun v h L => Qpw Z p0 h0 n0 v h L) ({ frames := 0, cells := 1, slots := 18, locals := 0 } : Room).cells ({ frames := 0, cells := 1, slots := 18, locals := 0 } : Room).slots (s₁.setTop (entryFrame m #[(.int p0)] 2))
  rw [efpw m p0]
  generalize hW : OwnEnd p e below s (fun v h L => Qpw Z p0 h0 n0 v h L) ({ frames := 0, cells := 1, slots := 18, locals := 0 } : Room).cells ({ frames := 0, cells := 1, slots := 18, locals := 0 } : Room).slots = W
  have stp : ∀ {A B : State}, (∀ t, Steps p.tables e below B t → Steps p.tables e below A t) → W B → W A := by subst hW; exact own_step
  show W (s₁.setTop (mkF m 0 #[.val (.int p0), .unset] []))
  refine stp (fun t k => XS.bipush X0.here hx rfl (hb hby dpw_0) k) ?_
  show W (s₁.setTop (mkF m 2 #[.val (.int p0), .unset] [(.int (18 : Int32))]))
  obtain ⟨Tpw1, hpw1, kpw1, Xpw1, epw1, Epw1, Apw1, stpw1⟩ := newP X0 hx hZ (hw _ (List.mem_of_getElem? (i := 54) rfl)) e0 (g := (mkF m 2 #[.val (.int p0), .unset] [(.int (18 : Int32))])) rfl (hb hby dpw_2) rfl (by decide) (cap := 18) (by decide) (by decide) (by decide) (by decide)
  obtain ⟨bpw1, gqpw1⟩ : ∃ z, z = h0.size := ⟨_, rfl⟩
  rw [← gqpw1] at Apw1 stpw1
  have g_bpw1 : n0 ≤ bpw1 := Nat.le_trans Z0 (Nat.le_of_eq gqpw1.symm)
  have sz_bpw1 : h0.size ≤ bpw1 := Nat.le_trans (Keep.refl h0 []).1 (Nat.le_of_eq gqpw1.symm)
  have Kpw1 := (Keep.refl h0 []).ext Epw1
  have Zpw1 := Nat.le_trans Z0 Epw1.1
  have V_bpw1 : Arv Z hpw1 bpw1 kpw1 .long (18 : Int32) [(.long (0 : Int64)), (.long (0 : Int64)), (.long (0 : Int64)), (.long (0 : Int64)), (.long (0 : Int64)), (.long (0 : Int64)), (.long (0 : Int64)), (.long (0 : Int64)), (.long (0 : Int64)), (.long (0 : Int64)), (.long (0 : Int64)), (.long (0 : Int64)), (.long (0 : Int64)), (.long (0 : Int64)), (.long (0 : Int64)), (.long (0 : Int64)), (.long (0 : Int64)), (.long (0 : Int64))] (.long (0 : Int64)) := (Arv.new Apw1 (by decide)).pad (pad_rep [] (.long (0 : Int64)) 18)
  refine stp (fun t k => stpw1 t k) ?_
  show W (Tpw1.setTop (mkF m 4 #[.val (.int p0), .unset] [(.ref bpw1)]))
  refine stp (fun t k => XS.dup Xpw1.here hx rfl (hb hby dpw_4) rfl rfl k) ?_
  show W (Tpw1.setTop (mkF m 5 #[.val (.int p0), .unset] [(.ref bpw1), (.ref bpw1)]))
  refine stp (fun t k => XS.iconst Xpw1.here hx rfl (hb hby dpw_5) k) ?_
  show W (Tpw1.setTop (mkF m 6 #[.val (.int p0), .unset] [(.int (0 : Int32)), (.ref bpw1), (.ref bpw1)]))
  refine stp (fun t k => XS.lconst Xpw1.here hx rfl (hb hby dpw_6) k) ?_
  show W (Tpw1.setTop (mkF m 7 #[.val (.int p0), .unset] [(.long (1 : Int64)), (.int (0 : Int32)), (.ref bpw1), (.ref bpw1)]))
  obtain ⟨clpw2, Arpw2, qkpw2, qspw2, qnpw2, qhpw2, qgpw2⟩ := id V_bpw1
  have hinpw2 : ¬ ((0 : Int32) < 0 ∨ clpw2.slots.size ≤ ((0 : Int32)).toNatClampNeg) := inb_of qspw2 ⟨by decide, by decide⟩
  obtain ⟨Tpw2, hpw2, Xpw2, epw2, Wpw2, stpw2⟩ := stJ Xpw1 hx hZ epw1 Arpw2 (j := (0 : Int32)) hinpw2 (g := (mkF m 7 #[.val (.int p0), .unset] [(.long (1 : Int64)), (.int (0 : Int32)), (.ref bpw1), (.ref bpw1)])) rfl rfl (hb hby dpw_7)
  have V_bpw1x := Arv.set Arpw2 qkpw2 qspw2 qnpw2 qhpw2 qgpw2 rfl Wpw2 0 rfl (Nat.le_of_ble_eq_true rfl)
  have Npw2 := Fr.snoc Xpw2 N0 g_bpw1
  obtain ⟨lcpwt3, Xpw2, Npw2⟩ : ∃ lc, Stand p l e ({ frames := 0, cells := 1, slots := 18, locals := 0 } : Room) s m #[(.int p0)] below meth c Tpw2 lc 1 18 ∧ Fr n0 lc := ⟨_, Xpw2, Npw2⟩
  have Kpw2 := Kpw1.wr Wpw2 (Or.inr sz_bpw1)
  have Zpw2 := Nat.le_trans Zpw1 (Keep.of_wr Wpw2).1
  replace V_bpw1 : Arv Z hpw2 bpw1 kpw1 .long (18 : Int32) [(.long (1 : Int64)), (.long (0 : Int64)), (.long (0 : Int64)), (.long (0 : Int64)), (.long (0 : Int64)), (.long (0 : Int64)), (.long (0 : Int64)), (.long (0 : Int64)), (.long (0 : Int64)), (.long (0 : Int64)), (.long (0 : Int64)), (.long (0 : Int64)), (.long (0 : Int64)), (.long (0 : Int64)), (.long (0 : Int64)), (.long (0 : Int64)), (.long (0 : Int64)), (.long (0 : Int64))] (.long (0 : Int64)) := V_bpw1x
  refine stp (fun t k => stpw2 t k) ?_
  show W (Tpw2.setTop (mkF m 8 #[.val (.int p0), .unset] [(.ref bpw1)]))
  refine stp (fun t k => XS.dup Xpw2.here hx rfl (hb hby dpw_8) rfl rfl k) ?_
  show W (Tpw2.setTop (mkF m 9 #[.val (.int p0), .unset] [(.ref bpw1), (.ref bpw1)]))
  refine stp (fun t k => XS.iconst Xpw2.here hx rfl (hb hby dpw_9) k) ?_
  show W (Tpw2.setTop (mkF m 10 #[.val (.int p0), .unset] [(.int (1 : Int32)), (.ref bpw1), (.ref bpw1)]))
  refine stp (fun t k => Xpw2.ldc2Long hx hown (mvT hZ (hw _ (List.mem_of_getElem? (i := 50) rfl))) (g := (mkF m 10 #[.val (.int p0), .unset] [(.int (1 : Int32)), (.ref bpw1), (.ref bpw1)])) rfl (hb hby dpw_10) _ k) ?_
  show W (Tpw2.setTop (mkF m 13 #[.val (.int p0), .unset] [(.long (10 : Int64)), (.int (1 : Int32)), (.ref bpw1), (.ref bpw1)]))
  obtain ⟨clpw4, Arpw4, qkpw4, qspw4, qnpw4, qhpw4, qgpw4⟩ := id V_bpw1
  have hinpw4 : ¬ ((1 : Int32) < 0 ∨ clpw4.slots.size ≤ ((1 : Int32)).toNatClampNeg) := inb_of qspw4 ⟨by decide, by decide⟩
  obtain ⟨Tpw4, hpw4, Xpw4, epw4, Wpw4, stpw4⟩ := stJ Xpw2 hx hZ epw2 Arpw4 (j := (1 : Int32)) hinpw4 (g := (mkF m 13 #[.val (.int p0), .unset] [(.long (10 : Int64)), (.int (1 : Int32)), (.ref bpw1), (.ref bpw1)])) rfl rfl (hb hby dpw_13)
  have V_bpw1x := Arv.set Arpw4 qkpw4 qspw4 qnpw4 qhpw4 qgpw4 rfl Wpw4 1 rfl (Nat.le_of_ble_eq_true rfl)
  have Npw4 := Fr.snoc Xpw4 Npw2 g_bpw1
  obtain ⟨lcpwt5, Xpw4, Npw4⟩ : ∃ lc, Stand p l e ({ frames := 0, cells := 1, slots := 18, locals := 0 } : Room) s m #[(.int p0)] below meth c Tpw4 lc 1 18 ∧ Fr n0 lc := ⟨_, Xpw4, Npw4⟩
  have Kpw4 := Kpw2.wr Wpw4 (Or.inr sz_bpw1)
  have Zpw4 := Nat.le_trans Zpw2 (Keep.of_wr Wpw4).1
  replace V_bpw1 : Arv Z hpw4 bpw1 kpw1 .long (18 : Int32) [(.long (1 : Int64)), (.long (10 : Int64)), (.long (0 : Int64)), (.long (0 : Int64)), (.long (0 : Int64)), (.long (0 : Int64)), (.long (0 : Int64)), (.long (0 : Int64)), (.long (0 : Int64)), (.long (0 : Int64)), (.long (0 : Int64)), (.long (0 : Int64)), (.long (0 : Int64)), (.long (0 : Int64)), (.long (0 : Int64)), (.long (0 : Int64)), (.long (0 : Int64)), (.long (0 : Int64))] (.long (0 : Int64)) := V_bpw1x
  refine stp (fun t k => stpw4 t k) ?_
  show W (Tpw4.setTop (mkF m 14 #[.val (.int p0), .unset] [(.ref bpw1)]))
  refine stp (fun t k => XS.dup Xpw4.here hx rfl (hb hby dpw_14) rfl rfl k) ?_
  show W (Tpw4.setTop (mkF m 15 #[.val (.int p0), .unset] [(.ref bpw1), (.ref bpw1)]))
  refine stp (fun t k => XS.iconst Xpw4.here hx rfl (hb hby dpw_15) k) ?_
  show W (Tpw4.setTop (mkF m 16 #[.val (.int p0), .unset] [(.int (2 : Int32)), (.ref bpw1), (.ref bpw1)]))
  refine stp (fun t k => Xpw4.ldc2Long hx hown (mvT hZ (hw _ (List.mem_of_getElem? (i := 55) rfl))) (g := (mkF m 16 #[.val (.int p0), .unset] [(.int (2 : Int32)), (.ref bpw1), (.ref bpw1)])) rfl (hb hby dpw_16) _ k) ?_
  show W (Tpw4.setTop (mkF m 19 #[.val (.int p0), .unset] [(.long (100 : Int64)), (.int (2 : Int32)), (.ref bpw1), (.ref bpw1)]))
  obtain ⟨clpw6, Arpw6, qkpw6, qspw6, qnpw6, qhpw6, qgpw6⟩ := id V_bpw1
  have hinpw6 : ¬ ((2 : Int32) < 0 ∨ clpw6.slots.size ≤ ((2 : Int32)).toNatClampNeg) := inb_of qspw6 ⟨by decide, by decide⟩
  obtain ⟨Tpw6, hpw6, Xpw6, epw6, Wpw6, stpw6⟩ := stJ Xpw4 hx hZ epw4 Arpw6 (j := (2 : Int32)) hinpw6 (g := (mkF m 19 #[.val (.int p0), .unset] [(.long (100 : Int64)), (.int (2 : Int32)), (.ref bpw1), (.ref bpw1)])) rfl rfl (hb hby dpw_19)
  have V_bpw1x := Arv.set Arpw6 qkpw6 qspw6 qnpw6 qhpw6 qgpw6 rfl Wpw6 2 rfl (Nat.le_of_ble_eq_true rfl)
  have Npw6 := Fr.snoc Xpw6 Npw4 g_bpw1
  obtain ⟨lcpwt7, Xpw6, Npw6⟩ : ∃ lc, Stand p l e ({ frames := 0, cells := 1, slots := 18, locals := 0 } : Room) s m #[(.int p0)] below meth c Tpw6 lc 1 18 ∧ Fr n0 lc := ⟨_, Xpw6, Npw6⟩
  have Kpw6 := Kpw4.wr Wpw6 (Or.inr sz_bpw1)
  have Zpw6 := Nat.le_trans Zpw4 (Keep.of_wr Wpw6).1
  replace V_bpw1 : Arv Z hpw6 bpw1 kpw1 .long (18 : Int32) [(.long (1 : Int64)), (.long (10 : Int64)), (.long (100 : Int64)), (.long (0 : Int64)), (.long (0 : Int64)), (.long (0 : Int64)), (.long (0 : Int64)), (.long (0 : Int64)), (.long (0 : Int64)), (.long (0 : Int64)), (.long (0 : Int64)), (.long (0 : Int64)), (.long (0 : Int64)), (.long (0 : Int64)), (.long (0 : Int64)), (.long (0 : Int64)), (.long (0 : Int64)), (.long (0 : Int64))] (.long (0 : Int64)) := V_bpw1x
  refine stp (fun t k => stpw6 t k) ?_
  show W (Tpw6.setTop (mkF m 20 #[.val (.int p0), .unset] [(.ref bpw1)]))
  refine stp (fun t k => XS.dup Xpw6.here hx rfl (hb hby dpw_20) rfl rfl k) ?_
  show W (Tpw6.setTop (mkF m 21 #[.val (.int p0), .unset] [(.ref bpw1), (.ref bpw1)]))
  refine stp (fun t k => XS.iconst Xpw6.here hx rfl (hb hby dpw_21) k) ?_
  show W (Tpw6.setTop (mkF m 22 #[.val (.int p0), .unset] [(.int (3 : Int32)), (.ref bpw1), (.ref bpw1)]))
  refine stp (fun t k => Xpw6.ldc2Long hx hown (mvT hZ (hw _ (List.mem_of_getElem? (i := 56) rfl))) (g := (mkF m 22 #[.val (.int p0), .unset] [(.int (3 : Int32)), (.ref bpw1), (.ref bpw1)])) rfl (hb hby dpw_22) _ k) ?_
  show W (Tpw6.setTop (mkF m 25 #[.val (.int p0), .unset] [(.long (1000 : Int64)), (.int (3 : Int32)), (.ref bpw1), (.ref bpw1)]))
  obtain ⟨clpw8, Arpw8, qkpw8, qspw8, qnpw8, qhpw8, qgpw8⟩ := id V_bpw1
  have hinpw8 : ¬ ((3 : Int32) < 0 ∨ clpw8.slots.size ≤ ((3 : Int32)).toNatClampNeg) := inb_of qspw8 ⟨by decide, by decide⟩
  obtain ⟨Tpw8, hpw8, Xpw8, epw8, Wpw8, stpw8⟩ := stJ Xpw6 hx hZ epw6 Arpw8 (j := (3 : Int32)) hinpw8 (g := (mkF m 25 #[.val (.int p0), .unset] [(.long (1000 : Int64)), (.int (3 : Int32)), (.ref bpw1), (.ref bpw1)])) rfl rfl (hb hby dpw_25)
  have V_bpw1x := Arv.set Arpw8 qkpw8 qspw8 qnpw8 qhpw8 qgpw8 rfl Wpw8 3 rfl (Nat.le_of_ble_eq_true rfl)
  have Npw8 := Fr.snoc Xpw8 Npw6 g_bpw1
  obtain ⟨lcpwt9, Xpw8, Npw8⟩ : ∃ lc, Stand p l e ({ frames := 0, cells := 1, slots := 18, locals := 0 } : Room) s m #[(.int p0)] below meth c Tpw8 lc 1 18 ∧ Fr n0 lc := ⟨_, Xpw8, Npw8⟩
  have Kpw8 := Kpw6.wr Wpw8 (Or.inr sz_bpw1)
  have Zpw8 := Nat.le_trans Zpw6 (Keep.of_wr Wpw8).1
  replace V_bpw1 : Arv Z hpw8 bpw1 kpw1 .long (18 : Int32) [(.long (1 : Int64)), (.long (10 : Int64)), (.long (100 : Int64)), (.long (1000 : Int64)), (.long (0 : Int64)), (.long (0 : Int64)), (.long (0 : Int64)), (.long (0 : Int64)), (.long (0 : Int64)), (.long (0 : Int64)), (.long (0 : Int64)), (.long (0 : Int64)), (.long (0 : Int64)), (.long (0 : Int64)), (.long (0 : Int64)), (.long (0 : Int64)), (.long (0 : Int64)), (.long (0 : Int64))] (.long (0 : Int64)) := V_bpw1x
  refine stp (fun t k => stpw8 t k) ?_
  show W (Tpw8.setTop (mkF m 26 #[.val (.int p0), .unset] [(.ref bpw1)]))
  refine stp (fun t k => XS.dup Xpw8.here hx rfl (hb hby dpw_26) rfl rfl k) ?_
  show W (Tpw8.setTop (mkF m 27 #[.val (.int p0), .unset] [(.ref bpw1), (.ref bpw1)]))
  refine stp (fun t k => XS.iconst Xpw8.here hx rfl (hb hby dpw_27) k) ?_
  show W (Tpw8.setTop (mkF m 28 #[.val (.int p0), .unset] [(.int (4 : Int32)), (.ref bpw1), (.ref bpw1)]))
  refine stp (fun t k => Xpw8.ldc2Long hx hown (mvT hZ (hw _ (List.mem_of_getElem? (i := 57) rfl))) (g := (mkF m 28 #[.val (.int p0), .unset] [(.int (4 : Int32)), (.ref bpw1), (.ref bpw1)])) rfl (hb hby dpw_28) _ k) ?_
  show W (Tpw8.setTop (mkF m 31 #[.val (.int p0), .unset] [(.long (10000 : Int64)), (.int (4 : Int32)), (.ref bpw1), (.ref bpw1)]))
  obtain ⟨clpw10, Arpw10, qkpw10, qspw10, qnpw10, qhpw10, qgpw10⟩ := id V_bpw1
  have hinpw10 : ¬ ((4 : Int32) < 0 ∨ clpw10.slots.size ≤ ((4 : Int32)).toNatClampNeg) := inb_of qspw10 ⟨by decide, by decide⟩
  obtain ⟨Tpw10, hpw10, Xpw10, epw10, Wpw10, stpw10⟩ := stJ Xpw8 hx hZ epw8 Arpw10 (j := (4 : Int32)) hinpw10 (g := (mkF m 31 #[.val (.int p0), .unset] [(.long (10000 : Int64)), (.int (4 : Int32)), (.ref bpw1), (.ref bpw1)])) rfl rfl (hb hby dpw_31)
  have V_bpw1x := Arv.set Arpw10 qkpw10 qspw10 qnpw10 qhpw10 qgpw10 rfl Wpw10 4 rfl (Nat.le_of_ble_eq_true rfl)
  have Npw10 := Fr.snoc Xpw10 Npw8 g_bpw1
  obtain ⟨lcpwt11, Xpw10, Npw10⟩ : ∃ lc, Stand p l e ({ frames := 0, cells := 1, slots := 18, locals := 0 } : Room) s m #[(.int p0)] below meth c Tpw10 lc 1 18 ∧ Fr n0 lc := ⟨_, Xpw10, Npw10⟩
  have Kpw10 := Kpw8.wr Wpw10 (Or.inr sz_bpw1)
  have Zpw10 := Nat.le_trans Zpw8 (Keep.of_wr Wpw10).1
  replace V_bpw1 : Arv Z hpw10 bpw1 kpw1 .long (18 : Int32) [(.long (1 : Int64)), (.long (10 : Int64)), (.long (100 : Int64)), (.long (1000 : Int64)), (.long (10000 : Int64)), (.long (0 : Int64)), (.long (0 : Int64)), (.long (0 : Int64)), (.long (0 : Int64)), (.long (0 : Int64)), (.long (0 : Int64)), (.long (0 : Int64)), (.long (0 : Int64)), (.long (0 : Int64)), (.long (0 : Int64)), (.long (0 : Int64)), (.long (0 : Int64)), (.long (0 : Int64))] (.long (0 : Int64)) := V_bpw1x
  refine stp (fun t k => stpw10 t k) ?_
  show W (Tpw10.setTop (mkF m 32 #[.val (.int p0), .unset] [(.ref bpw1)]))
  refine stp (fun t k => XS.dup Xpw10.here hx rfl (hb hby dpw_32) rfl rfl k) ?_
  show W (Tpw10.setTop (mkF m 33 #[.val (.int p0), .unset] [(.ref bpw1), (.ref bpw1)]))
  refine stp (fun t k => XS.iconst Xpw10.here hx rfl (hb hby dpw_33) k) ?_
  show W (Tpw10.setTop (mkF m 34 #[.val (.int p0), .unset] [(.int (5 : Int32)), (.ref bpw1), (.ref bpw1)]))
  refine stp (fun t k => Xpw10.ldc2Long hx hown (mvT hZ (hw _ (List.mem_of_getElem? (i := 58) rfl))) (g := (mkF m 34 #[.val (.int p0), .unset] [(.int (5 : Int32)), (.ref bpw1), (.ref bpw1)])) rfl (hb hby dpw_34) _ k) ?_
  show W (Tpw10.setTop (mkF m 37 #[.val (.int p0), .unset] [(.long (100000 : Int64)), (.int (5 : Int32)), (.ref bpw1), (.ref bpw1)]))
  obtain ⟨clpw12, Arpw12, qkpw12, qspw12, qnpw12, qhpw12, qgpw12⟩ := id V_bpw1
  have hinpw12 : ¬ ((5 : Int32) < 0 ∨ clpw12.slots.size ≤ ((5 : Int32)).toNatClampNeg) := inb_of qspw12 ⟨by decide, by decide⟩
  obtain ⟨Tpw12, hpw12, Xpw12, epw12, Wpw12, stpw12⟩ := stJ Xpw10 hx hZ epw10 Arpw12 (j := (5 : Int32)) hinpw12 (g := (mkF m 37 #[.val (.int p0), .unset] [(.long (100000 : Int64)), (.int (5 : Int32)), (.ref bpw1), (.ref bpw1)])) rfl rfl (hb hby dpw_37)
  have V_bpw1x := Arv.set Arpw12 qkpw12 qspw12 qnpw12 qhpw12 qgpw12 rfl Wpw12 5 rfl (Nat.le_of_ble_eq_true rfl)
  have Npw12 := Fr.snoc Xpw12 Npw10 g_bpw1
  obtain ⟨lcpwt13, Xpw12, Npw12⟩ : ∃ lc, Stand p l e ({ frames := 0, cells := 1, slots := 18, locals := 0 } : Room) s m #[(.int p0)] below meth c Tpw12 lc 1 18 ∧ Fr n0 lc := ⟨_, Xpw12, Npw12⟩
  have Kpw12 := Kpw10.wr Wpw12 (Or.inr sz_bpw1)
  have Zpw12 := Nat.le_trans Zpw10 (Keep.of_wr Wpw12).1
  replace V_bpw1 : Arv Z hpw12 bpw1 kpw1 .long (18 : Int32) [(.long (1 : Int64)), (.long (10 : Int64)), (.long (100 : Int64)), (.long (1000 : Int64)), (.long (10000 : Int64)), (.long (100000 : Int64)), (.long (0 : Int64)), (.long (0 : Int64)), (.long (0 : Int64)), (.long (0 : Int64)), (.long (0 : Int64)), (.long (0 : Int64)), (.long (0 : Int64)), (.long (0 : Int64)), (.long (0 : Int64)), (.long (0 : Int64)), (.long (0 : Int64)), (.long (0 : Int64))] (.long (0 : Int64)) := V_bpw1x
  refine stp (fun t k => stpw12 t k) ?_
  show W (Tpw12.setTop (mkF m 38 #[.val (.int p0), .unset] [(.ref bpw1)]))
  refine stp (fun t k => XS.dup Xpw12.here hx rfl (hb hby dpw_38) rfl rfl k) ?_
  show W (Tpw12.setTop (mkF m 39 #[.val (.int p0), .unset] [(.ref bpw1), (.ref bpw1)]))
  refine stp (fun t k => XS.bipush Xpw12.here hx rfl (hb hby dpw_39) k) ?_
  show W (Tpw12.setTop (mkF m 41 #[.val (.int p0), .unset] [(.int (6 : Int32)), (.ref bpw1), (.ref bpw1)]))
  refine stp (fun t k => Xpw12.ldc2Long hx hown (mvT hZ (hw _ (List.mem_of_getElem? (i := 59) rfl))) (g := (mkF m 41 #[.val (.int p0), .unset] [(.int (6 : Int32)), (.ref bpw1), (.ref bpw1)])) rfl (hb hby dpw_41) _ k) ?_
  show W (Tpw12.setTop (mkF m 44 #[.val (.int p0), .unset] [(.long (1000000 : Int64)), (.int (6 : Int32)), (.ref bpw1), (.ref bpw1)]))
  obtain ⟨clpw14, Arpw14, qkpw14, qspw14, qnpw14, qhpw14, qgpw14⟩ := id V_bpw1
  have hinpw14 : ¬ ((6 : Int32) < 0 ∨ clpw14.slots.size ≤ ((6 : Int32)).toNatClampNeg) := inb_of qspw14 ⟨by decide, by decide⟩
  obtain ⟨Tpw14, hpw14, Xpw14, epw14, Wpw14, stpw14⟩ := stJ Xpw12 hx hZ epw12 Arpw14 (j := (6 : Int32)) hinpw14 (g := (mkF m 44 #[.val (.int p0), .unset] [(.long (1000000 : Int64)), (.int (6 : Int32)), (.ref bpw1), (.ref bpw1)])) rfl rfl (hb hby dpw_44)
  have V_bpw1x := Arv.set Arpw14 qkpw14 qspw14 qnpw14 qhpw14 qgpw14 rfl Wpw14 6 rfl (Nat.le_of_ble_eq_true rfl)
  have Npw14 := Fr.snoc Xpw14 Npw12 g_bpw1
  obtain ⟨lcpwt15, Xpw14, Npw14⟩ : ∃ lc, Stand p l e ({ frames := 0, cells := 1, slots := 18, locals := 0 } : Room) s m #[(.int p0)] below meth c Tpw14 lc 1 18 ∧ Fr n0 lc := ⟨_, Xpw14, Npw14⟩
  have Kpw14 := Kpw12.wr Wpw14 (Or.inr sz_bpw1)
  have Zpw14 := Nat.le_trans Zpw12 (Keep.of_wr Wpw14).1
  replace V_bpw1 : Arv Z hpw14 bpw1 kpw1 .long (18 : Int32) [(.long (1 : Int64)), (.long (10 : Int64)), (.long (100 : Int64)), (.long (1000 : Int64)), (.long (10000 : Int64)), (.long (100000 : Int64)), (.long (1000000 : Int64)), (.long (0 : Int64)), (.long (0 : Int64)), (.long (0 : Int64)), (.long (0 : Int64)), (.long (0 : Int64)), (.long (0 : Int64)), (.long (0 : Int64)), (.long (0 : Int64)), (.long (0 : Int64)), (.long (0 : Int64)), (.long (0 : Int64))] (.long (0 : Int64)) := V_bpw1x
  refine stp (fun t k => stpw14 t k) ?_
  show W (Tpw14.setTop (mkF m 45 #[.val (.int p0), .unset] [(.ref bpw1)]))
  refine stp (fun t k => XS.dup Xpw14.here hx rfl (hb hby dpw_45) rfl rfl k) ?_
  show W (Tpw14.setTop (mkF m 46 #[.val (.int p0), .unset] [(.ref bpw1), (.ref bpw1)]))
  refine stp (fun t k => XS.bipush Xpw14.here hx rfl (hb hby dpw_46) k) ?_
  show W (Tpw14.setTop (mkF m 48 #[.val (.int p0), .unset] [(.int (7 : Int32)), (.ref bpw1), (.ref bpw1)]))
  refine stp (fun t k => Xpw14.ldc2Long hx hown (mvT hZ (hw _ (List.mem_of_getElem? (i := 60) rfl))) (g := (mkF m 48 #[.val (.int p0), .unset] [(.int (7 : Int32)), (.ref bpw1), (.ref bpw1)])) rfl (hb hby dpw_48) _ k) ?_
  show W (Tpw14.setTop (mkF m 51 #[.val (.int p0), .unset] [(.long (10000000 : Int64)), (.int (7 : Int32)), (.ref bpw1), (.ref bpw1)]))
  obtain ⟨clpw16, Arpw16, qkpw16, qspw16, qnpw16, qhpw16, qgpw16⟩ := id V_bpw1
  have hinpw16 : ¬ ((7 : Int32) < 0 ∨ clpw16.slots.size ≤ ((7 : Int32)).toNatClampNeg) := inb_of qspw16 ⟨by decide, by decide⟩
  obtain ⟨Tpw16, hpw16, Xpw16, epw16, Wpw16, stpw16⟩ := stJ Xpw14 hx hZ epw14 Arpw16 (j := (7 : Int32)) hinpw16 (g := (mkF m 51 #[.val (.int p0), .unset] [(.long (10000000 : Int64)), (.int (7 : Int32)), (.ref bpw1), (.ref bpw1)])) rfl rfl (hb hby dpw_51)
  have V_bpw1x := Arv.set Arpw16 qkpw16 qspw16 qnpw16 qhpw16 qgpw16 rfl Wpw16 7 rfl (Nat.le_of_ble_eq_true rfl)
  have Npw16 := Fr.snoc Xpw16 Npw14 g_bpw1
  obtain ⟨lcpwt17, Xpw16, Npw16⟩ : ∃ lc, Stand p l e ({ frames := 0, cells := 1, slots := 18, locals := 0 } : Room) s m #[(.int p0)] below meth c Tpw16 lc 1 18 ∧ Fr n0 lc := ⟨_, Xpw16, Npw16⟩
  have Kpw16 := Kpw14.wr Wpw16 (Or.inr sz_bpw1)
  have Zpw16 := Nat.le_trans Zpw14 (Keep.of_wr Wpw16).1
  replace V_bpw1 : Arv Z hpw16 bpw1 kpw1 .long (18 : Int32) [(.long (1 : Int64)), (.long (10 : Int64)), (.long (100 : Int64)), (.long (1000 : Int64)), (.long (10000 : Int64)), (.long (100000 : Int64)), (.long (1000000 : Int64)), (.long (10000000 : Int64)), (.long (0 : Int64)), (.long (0 : Int64)), (.long (0 : Int64)), (.long (0 : Int64)), (.long (0 : Int64)), (.long (0 : Int64)), (.long (0 : Int64)), (.long (0 : Int64)), (.long (0 : Int64)), (.long (0 : Int64))] (.long (0 : Int64)) := V_bpw1x
  refine stp (fun t k => stpw16 t k) ?_
  show W (Tpw16.setTop (mkF m 52 #[.val (.int p0), .unset] [(.ref bpw1)]))
  refine stp (fun t k => XS.dup Xpw16.here hx rfl (hb hby dpw_52) rfl rfl k) ?_
  show W (Tpw16.setTop (mkF m 53 #[.val (.int p0), .unset] [(.ref bpw1), (.ref bpw1)]))
  refine stp (fun t k => XS.bipush Xpw16.here hx rfl (hb hby dpw_53) k) ?_
  show W (Tpw16.setTop (mkF m 55 #[.val (.int p0), .unset] [(.int (8 : Int32)), (.ref bpw1), (.ref bpw1)]))
  refine stp (fun t k => Xpw16.ldc2Long hx hown (mvT hZ (hw _ (List.mem_of_getElem? (i := 61) rfl))) (g := (mkF m 55 #[.val (.int p0), .unset] [(.int (8 : Int32)), (.ref bpw1), (.ref bpw1)])) rfl (hb hby dpw_55) _ k) ?_
  show W (Tpw16.setTop (mkF m 58 #[.val (.int p0), .unset] [(.long (100000000 : Int64)), (.int (8 : Int32)), (.ref bpw1), (.ref bpw1)]))
  obtain ⟨clpw18, Arpw18, qkpw18, qspw18, qnpw18, qhpw18, qgpw18⟩ := id V_bpw1
  have hinpw18 : ¬ ((8 : Int32) < 0 ∨ clpw18.slots.size ≤ ((8 : Int32)).toNatClampNeg) := inb_of qspw18 ⟨by decide, by decide⟩
  obtain ⟨Tpw18, hpw18, Xpw18, epw18, Wpw18, stpw18⟩ := stJ Xpw16 hx hZ epw16 Arpw18 (j := (8 : Int32)) hinpw18 (g := (mkF m 58 #[.val (.int p0), .unset] [(.long (100000000 : Int64)), (.int (8 : Int32)), (.ref bpw1), (.ref bpw1)])) rfl rfl (hb hby dpw_58)
  have V_bpw1x := Arv.set Arpw18 qkpw18 qspw18 qnpw18 qhpw18 qgpw18 rfl Wpw18 8 rfl (Nat.le_of_ble_eq_true rfl)
  have Npw18 := Fr.snoc Xpw18 Npw16 g_bpw1
  obtain ⟨lcpwt19, Xpw18, Npw18⟩ : ∃ lc, Stand p l e ({ frames := 0, cells := 1, slots := 18, locals := 0 } : Room) s m #[(.int p0)] below meth c Tpw18 lc 1 18 ∧ Fr n0 lc := ⟨_, Xpw18, Npw18⟩
  have Kpw18 := Kpw16.wr Wpw18 (Or.inr sz_bpw1)
  have Zpw18 := Nat.le_trans Zpw16 (Keep.of_wr Wpw18).1
  replace V_bpw1 : Arv Z hpw18 bpw1 kpw1 .long (18 : Int32) [(.long (1 : Int64)), (.long (10 : Int64)), (.long (100 : Int64)), (.long (1000 : Int64)), (.long (10000 : Int64)), (.long (100000 : Int64)), (.long (1000000 : Int64)), (.long (10000000 : Int64)), (.long (100000000 : Int64)), (.long (0 : Int64)), (.long (0 : Int64)), (.long (0 : Int64)), (.long (0 : Int64)), (.long (0 : Int64)), (.long (0 : Int64)), (.long (0 : Int64)), (.long (0 : Int64)), (.long (0 : Int64))] (.long (0 : Int64)) := V_bpw1x
  refine stp (fun t k => stpw18 t k) ?_
  show W (Tpw18.setTop (mkF m 59 #[.val (.int p0), .unset] [(.ref bpw1)]))
  refine stp (fun t k => XS.dup Xpw18.here hx rfl (hb hby dpw_59) rfl rfl k) ?_
  show W (Tpw18.setTop (mkF m 60 #[.val (.int p0), .unset] [(.ref bpw1), (.ref bpw1)]))
  refine stp (fun t k => XS.bipush Xpw18.here hx rfl (hb hby dpw_60) k) ?_
  show W (Tpw18.setTop (mkF m 62 #[.val (.int p0), .unset] [(.int (9 : Int32)), (.ref bpw1), (.ref bpw1)]))
  refine stp (fun t k => Xpw18.ldc2Long hx hown (mvT hZ (hw _ (List.mem_of_getElem? (i := 62) rfl))) (g := (mkF m 62 #[.val (.int p0), .unset] [(.int (9 : Int32)), (.ref bpw1), (.ref bpw1)])) rfl (hb hby dpw_62) _ k) ?_
  show W (Tpw18.setTop (mkF m 65 #[.val (.int p0), .unset] [(.long (1000000000 : Int64)), (.int (9 : Int32)), (.ref bpw1), (.ref bpw1)]))
  obtain ⟨clpw20, Arpw20, qkpw20, qspw20, qnpw20, qhpw20, qgpw20⟩ := id V_bpw1
  have hinpw20 : ¬ ((9 : Int32) < 0 ∨ clpw20.slots.size ≤ ((9 : Int32)).toNatClampNeg) := inb_of qspw20 ⟨by decide, by decide⟩
  obtain ⟨Tpw20, hpw20, Xpw20, epw20, Wpw20, stpw20⟩ := stJ Xpw18 hx hZ epw18 Arpw20 (j := (9 : Int32)) hinpw20 (g := (mkF m 65 #[.val (.int p0), .unset] [(.long (1000000000 : Int64)), (.int (9 : Int32)), (.ref bpw1), (.ref bpw1)])) rfl rfl (hb hby dpw_65)
  have V_bpw1x := Arv.set Arpw20 qkpw20 qspw20 qnpw20 qhpw20 qgpw20 rfl Wpw20 9 rfl (Nat.le_of_ble_eq_true rfl)
  have Npw20 := Fr.snoc Xpw20 Npw18 g_bpw1
  obtain ⟨lcpwt21, Xpw20, Npw20⟩ : ∃ lc, Stand p l e ({ frames := 0, cells := 1, slots := 18, locals := 0 } : Room) s m #[(.int p0)] below meth c Tpw20 lc 1 18 ∧ Fr n0 lc := ⟨_, Xpw20, Npw20⟩
  have Kpw20 := Kpw18.wr Wpw20 (Or.inr sz_bpw1)
  have Zpw20 := Nat.le_trans Zpw18 (Keep.of_wr Wpw20).1
  replace V_bpw1 : Arv Z hpw20 bpw1 kpw1 .long (18 : Int32) [(.long (1 : Int64)), (.long (10 : Int64)), (.long (100 : Int64)), (.long (1000 : Int64)), (.long (10000 : Int64)), (.long (100000 : Int64)), (.long (1000000 : Int64)), (.long (10000000 : Int64)), (.long (100000000 : Int64)), (.long (1000000000 : Int64)), (.long (0 : Int64)), (.long (0 : Int64)), (.long (0 : Int64)), (.long (0 : Int64)), (.long (0 : Int64)), (.long (0 : Int64)), (.long (0 : Int64)), (.long (0 : Int64))] (.long (0 : Int64)) := V_bpw1x
  refine stp (fun t k => stpw20 t k) ?_
  show W (Tpw20.setTop (mkF m 66 #[.val (.int p0), .unset] [(.ref bpw1)]))
  refine stp (fun t k => XS.dup Xpw20.here hx rfl (hb hby dpw_66) rfl rfl k) ?_
  show W (Tpw20.setTop (mkF m 67 #[.val (.int p0), .unset] [(.ref bpw1), (.ref bpw1)]))
  refine stp (fun t k => XS.bipush Xpw20.here hx rfl (hb hby dpw_67) k) ?_
  show W (Tpw20.setTop (mkF m 69 #[.val (.int p0), .unset] [(.int (10 : Int32)), (.ref bpw1), (.ref bpw1)]))
  refine stp (fun t k => Xpw20.ldc2Long hx hown (mvT hZ (hw _ (List.mem_of_getElem? (i := 63) rfl))) (g := (mkF m 69 #[.val (.int p0), .unset] [(.int (10 : Int32)), (.ref bpw1), (.ref bpw1)])) rfl (hb hby dpw_69) _ k) ?_
  show W (Tpw20.setTop (mkF m 72 #[.val (.int p0), .unset] [(.long (10000000000 : Int64)), (.int (10 : Int32)), (.ref bpw1), (.ref bpw1)]))
  obtain ⟨clpw22, Arpw22, qkpw22, qspw22, qnpw22, qhpw22, qgpw22⟩ := id V_bpw1
  have hinpw22 : ¬ ((10 : Int32) < 0 ∨ clpw22.slots.size ≤ ((10 : Int32)).toNatClampNeg) := inb_of qspw22 ⟨by decide, by decide⟩
  obtain ⟨Tpw22, hpw22, Xpw22, epw22, Wpw22, stpw22⟩ := stJ Xpw20 hx hZ epw20 Arpw22 (j := (10 : Int32)) hinpw22 (g := (mkF m 72 #[.val (.int p0), .unset] [(.long (10000000000 : Int64)), (.int (10 : Int32)), (.ref bpw1), (.ref bpw1)])) rfl rfl (hb hby dpw_72)
  have V_bpw1x := Arv.set Arpw22 qkpw22 qspw22 qnpw22 qhpw22 qgpw22 rfl Wpw22 10 rfl (Nat.le_of_ble_eq_true rfl)
  have Npw22 := Fr.snoc Xpw22 Npw20 g_bpw1
  obtain ⟨lcpwt23, Xpw22, Npw22⟩ : ∃ lc, Stand p l e ({ frames := 0, cells := 1, slots := 18, locals := 0 } : Room) s m #[(.int p0)] below meth c Tpw22 lc 1 18 ∧ Fr n0 lc := ⟨_, Xpw22, Npw22⟩
  have Kpw22 := Kpw20.wr Wpw22 (Or.inr sz_bpw1)
  have Zpw22 := Nat.le_trans Zpw20 (Keep.of_wr Wpw22).1
  replace V_bpw1 : Arv Z hpw22 bpw1 kpw1 .long (18 : Int32) [(.long (1 : Int64)), (.long (10 : Int64)), (.long (100 : Int64)), (.long (1000 : Int64)), (.long (10000 : Int64)), (.long (100000 : Int64)), (.long (1000000 : Int64)), (.long (10000000 : Int64)), (.long (100000000 : Int64)), (.long (1000000000 : Int64)), (.long (10000000000 : Int64)), (.long (0 : Int64)), (.long (0 : Int64)), (.long (0 : Int64)), (.long (0 : Int64)), (.long (0 : Int64)), (.long (0 : Int64)), (.long (0 : Int64))] (.long (0 : Int64)) := V_bpw1x
  refine stp (fun t k => stpw22 t k) ?_
  show W (Tpw22.setTop (mkF m 73 #[.val (.int p0), .unset] [(.ref bpw1)]))
  refine stp (fun t k => XS.dup Xpw22.here hx rfl (hb hby dpw_73) rfl rfl k) ?_
  show W (Tpw22.setTop (mkF m 74 #[.val (.int p0), .unset] [(.ref bpw1), (.ref bpw1)]))
  refine stp (fun t k => XS.bipush Xpw22.here hx rfl (hb hby dpw_74) k) ?_
  show W (Tpw22.setTop (mkF m 76 #[.val (.int p0), .unset] [(.int (11 : Int32)), (.ref bpw1), (.ref bpw1)]))
  refine stp (fun t k => Xpw22.ldc2Long hx hown (mvT hZ (hw _ (List.mem_of_getElem? (i := 64) rfl))) (g := (mkF m 76 #[.val (.int p0), .unset] [(.int (11 : Int32)), (.ref bpw1), (.ref bpw1)])) rfl (hb hby dpw_76) _ k) ?_
  show W (Tpw22.setTop (mkF m 79 #[.val (.int p0), .unset] [(.long (100000000000 : Int64)), (.int (11 : Int32)), (.ref bpw1), (.ref bpw1)]))
  obtain ⟨clpw24, Arpw24, qkpw24, qspw24, qnpw24, qhpw24, qgpw24⟩ := id V_bpw1
  have hinpw24 : ¬ ((11 : Int32) < 0 ∨ clpw24.slots.size ≤ ((11 : Int32)).toNatClampNeg) := inb_of qspw24 ⟨by decide, by decide⟩
  obtain ⟨Tpw24, hpw24, Xpw24, epw24, Wpw24, stpw24⟩ := stJ Xpw22 hx hZ epw22 Arpw24 (j := (11 : Int32)) hinpw24 (g := (mkF m 79 #[.val (.int p0), .unset] [(.long (100000000000 : Int64)), (.int (11 : Int32)), (.ref bpw1), (.ref bpw1)])) rfl rfl (hb hby dpw_79)
  have V_bpw1x := Arv.set Arpw24 qkpw24 qspw24 qnpw24 qhpw24 qgpw24 rfl Wpw24 11 rfl (Nat.le_of_ble_eq_true rfl)
  have Npw24 := Fr.snoc Xpw24 Npw22 g_bpw1
  obtain ⟨lcpwt25, Xpw24, Npw24⟩ : ∃ lc, Stand p l e ({ frames := 0, cells := 1, slots := 18, locals := 0 } : Room) s m #[(.int p0)] below meth c Tpw24 lc 1 18 ∧ Fr n0 lc := ⟨_, Xpw24, Npw24⟩
  have Kpw24 := Kpw22.wr Wpw24 (Or.inr sz_bpw1)
  have Zpw24 := Nat.le_trans Zpw22 (Keep.of_wr Wpw24).1
  replace V_bpw1 : Arv Z hpw24 bpw1 kpw1 .long (18 : Int32) [(.long (1 : Int64)), (.long (10 : Int64)), (.long (100 : Int64)), (.long (1000 : Int64)), (.long (10000 : Int64)), (.long (100000 : Int64)), (.long (1000000 : Int64)), (.long (10000000 : Int64)), (.long (100000000 : Int64)), (.long (1000000000 : Int64)), (.long (10000000000 : Int64)), (.long (100000000000 : Int64)), (.long (0 : Int64)), (.long (0 : Int64)), (.long (0 : Int64)), (.long (0 : Int64)), (.long (0 : Int64)), (.long (0 : Int64))] (.long (0 : Int64)) := V_bpw1x
  refine stp (fun t k => stpw24 t k) ?_
  show W (Tpw24.setTop (mkF m 80 #[.val (.int p0), .unset] [(.ref bpw1)]))
  refine stp (fun t k => XS.dup Xpw24.here hx rfl (hb hby dpw_80) rfl rfl k) ?_
  show W (Tpw24.setTop (mkF m 81 #[.val (.int p0), .unset] [(.ref bpw1), (.ref bpw1)]))
  refine stp (fun t k => XS.bipush Xpw24.here hx rfl (hb hby dpw_81) k) ?_
  show W (Tpw24.setTop (mkF m 83 #[.val (.int p0), .unset] [(.int (12 : Int32)), (.ref bpw1), (.ref bpw1)]))
  refine stp (fun t k => Xpw24.ldc2Long hx hown (mvT hZ (hw _ (List.mem_of_getElem? (i := 65) rfl))) (g := (mkF m 83 #[.val (.int p0), .unset] [(.int (12 : Int32)), (.ref bpw1), (.ref bpw1)])) rfl (hb hby dpw_83) _ k) ?_
  show W (Tpw24.setTop (mkF m 86 #[.val (.int p0), .unset] [(.long (1000000000000 : Int64)), (.int (12 : Int32)), (.ref bpw1), (.ref bpw1)]))
  obtain ⟨clpw26, Arpw26, qkpw26, qspw26, qnpw26, qhpw26, qgpw26⟩ := id V_bpw1
  have hinpw26 : ¬ ((12 : Int32) < 0 ∨ clpw26.slots.size ≤ ((12 : Int32)).toNatClampNeg) := inb_of qspw26 ⟨by decide, by decide⟩
  obtain ⟨Tpw26, hpw26, Xpw26, epw26, Wpw26, stpw26⟩ := stJ Xpw24 hx hZ epw24 Arpw26 (j := (12 : Int32)) hinpw26 (g := (mkF m 86 #[.val (.int p0), .unset] [(.long (1000000000000 : Int64)), (.int (12 : Int32)), (.ref bpw1), (.ref bpw1)])) rfl rfl (hb hby dpw_86)
  have V_bpw1x := Arv.set Arpw26 qkpw26 qspw26 qnpw26 qhpw26 qgpw26 rfl Wpw26 12 rfl (Nat.le_of_ble_eq_true rfl)
  have Npw26 := Fr.snoc Xpw26 Npw24 g_bpw1
  obtain ⟨lcpwt27, Xpw26, Npw26⟩ : ∃ lc, Stand p l e ({ frames := 0, cells := 1, slots := 18, locals := 0 } : Room) s m #[(.int p0)] below meth c Tpw26 lc 1 18 ∧ Fr n0 lc := ⟨_, Xpw26, Npw26⟩
  have Kpw26 := Kpw24.wr Wpw26 (Or.inr sz_bpw1)
  have Zpw26 := Nat.le_trans Zpw24 (Keep.of_wr Wpw26).1
  replace V_bpw1 : Arv Z hpw26 bpw1 kpw1 .long (18 : Int32) [(.long (1 : Int64)), (.long (10 : Int64)), (.long (100 : Int64)), (.long (1000 : Int64)), (.long (10000 : Int64)), (.long (100000 : Int64)), (.long (1000000 : Int64)), (.long (10000000 : Int64)), (.long (100000000 : Int64)), (.long (1000000000 : Int64)), (.long (10000000000 : Int64)), (.long (100000000000 : Int64)), (.long (1000000000000 : Int64)), (.long (0 : Int64)), (.long (0 : Int64)), (.long (0 : Int64)), (.long (0 : Int64)), (.long (0 : Int64))] (.long (0 : Int64)) := V_bpw1x
  refine stp (fun t k => stpw26 t k) ?_
  show W (Tpw26.setTop (mkF m 87 #[.val (.int p0), .unset] [(.ref bpw1)]))
  refine stp (fun t k => XS.dup Xpw26.here hx rfl (hb hby dpw_87) rfl rfl k) ?_
  show W (Tpw26.setTop (mkF m 88 #[.val (.int p0), .unset] [(.ref bpw1), (.ref bpw1)]))
  refine stp (fun t k => XS.bipush Xpw26.here hx rfl (hb hby dpw_88) k) ?_
  show W (Tpw26.setTop (mkF m 90 #[.val (.int p0), .unset] [(.int (13 : Int32)), (.ref bpw1), (.ref bpw1)]))
  refine stp (fun t k => Xpw26.ldc2Long hx hown (mvT hZ (hw _ (List.mem_of_getElem? (i := 66) rfl))) (g := (mkF m 90 #[.val (.int p0), .unset] [(.int (13 : Int32)), (.ref bpw1), (.ref bpw1)])) rfl (hb hby dpw_90) _ k) ?_
  show W (Tpw26.setTop (mkF m 93 #[.val (.int p0), .unset] [(.long (10000000000000 : Int64)), (.int (13 : Int32)), (.ref bpw1), (.ref bpw1)]))
  obtain ⟨clpw28, Arpw28, qkpw28, qspw28, qnpw28, qhpw28, qgpw28⟩ := id V_bpw1
  have hinpw28 : ¬ ((13 : Int32) < 0 ∨ clpw28.slots.size ≤ ((13 : Int32)).toNatClampNeg) := inb_of qspw28 ⟨by decide, by decide⟩
  obtain ⟨Tpw28, hpw28, Xpw28, epw28, Wpw28, stpw28⟩ := stJ Xpw26 hx hZ epw26 Arpw28 (j := (13 : Int32)) hinpw28 (g := (mkF m 93 #[.val (.int p0), .unset] [(.long (10000000000000 : Int64)), (.int (13 : Int32)), (.ref bpw1), (.ref bpw1)])) rfl rfl (hb hby dpw_93)
  have V_bpw1x := Arv.set Arpw28 qkpw28 qspw28 qnpw28 qhpw28 qgpw28 rfl Wpw28 13 rfl (Nat.le_of_ble_eq_true rfl)
  have Npw28 := Fr.snoc Xpw28 Npw26 g_bpw1
  obtain ⟨lcpwt29, Xpw28, Npw28⟩ : ∃ lc, Stand p l e ({ frames := 0, cells := 1, slots := 18, locals := 0 } : Room) s m #[(.int p0)] below meth c Tpw28 lc 1 18 ∧ Fr n0 lc := ⟨_, Xpw28, Npw28⟩
  have Kpw28 := Kpw26.wr Wpw28 (Or.inr sz_bpw1)
  have Zpw28 := Nat.le_trans Zpw26 (Keep.of_wr Wpw28).1
  replace V_bpw1 : Arv Z hpw28 bpw1 kpw1 .long (18 : Int32) [(.long (1 : Int64)), (.long (10 : Int64)), (.long (100 : Int64)), (.long (1000 : Int64)), (.long (10000 : Int64)), (.long (100000 : Int64)), (.long (1000000 : Int64)), (.long (10000000 : Int64)), (.long (100000000 : Int64)), (.long (1000000000 : Int64)), (.long (10000000000 : Int64)), (.long (100000000000 : Int64)), (.long (1000000000000 : Int64)), (.long (10000000000000 : Int64)), (.long (0 : Int64)), (.long (0 : Int64)), (.long (0 : Int64)), (.long (0 : Int64))] (.long (0 : Int64)) := V_bpw1x
  refine stp (fun t k => stpw28 t k) ?_
  show W (Tpw28.setTop (mkF m 94 #[.val (.int p0), .unset] [(.ref bpw1)]))
  refine stp (fun t k => XS.dup Xpw28.here hx rfl (hb hby dpw_94) rfl rfl k) ?_
  show W (Tpw28.setTop (mkF m 95 #[.val (.int p0), .unset] [(.ref bpw1), (.ref bpw1)]))
  refine stp (fun t k => XS.bipush Xpw28.here hx rfl (hb hby dpw_95) k) ?_
  show W (Tpw28.setTop (mkF m 97 #[.val (.int p0), .unset] [(.int (14 : Int32)), (.ref bpw1), (.ref bpw1)]))
  refine stp (fun t k => Xpw28.ldc2Long hx hown (mvT hZ (hw _ (List.mem_of_getElem? (i := 67) rfl))) (g := (mkF m 97 #[.val (.int p0), .unset] [(.int (14 : Int32)), (.ref bpw1), (.ref bpw1)])) rfl (hb hby dpw_97) _ k) ?_
  show W (Tpw28.setTop (mkF m 100 #[.val (.int p0), .unset] [(.long (100000000000000 : Int64)), (.int (14 : Int32)), (.ref bpw1), (.ref bpw1)]))
  obtain ⟨clpw30, Arpw30, qkpw30, qspw30, qnpw30, qhpw30, qgpw30⟩ := id V_bpw1
  have hinpw30 : ¬ ((14 : Int32) < 0 ∨ clpw30.slots.size ≤ ((14 : Int32)).toNatClampNeg) := inb_of qspw30 ⟨by decide, by decide⟩
  obtain ⟨Tpw30, hpw30, Xpw30, epw30, Wpw30, stpw30⟩ := stJ Xpw28 hx hZ epw28 Arpw30 (j := (14 : Int32)) hinpw30 (g := (mkF m 100 #[.val (.int p0), .unset] [(.long (100000000000000 : Int64)), (.int (14 : Int32)), (.ref bpw1), (.ref bpw1)])) rfl rfl (hb hby dpw_100)
  have V_bpw1x := Arv.set Arpw30 qkpw30 qspw30 qnpw30 qhpw30 qgpw30 rfl Wpw30 14 rfl (Nat.le_of_ble_eq_true rfl)
  have Npw30 := Fr.snoc Xpw30 Npw28 g_bpw1
  obtain ⟨lcpwt31, Xpw30, Npw30⟩ : ∃ lc, Stand p l e ({ frames := 0, cells := 1, slots := 18, locals := 0 } : Room) s m #[(.int p0)] below meth c Tpw30 lc 1 18 ∧ Fr n0 lc := ⟨_, Xpw30, Npw30⟩
  have Kpw30 := Kpw28.wr Wpw30 (Or.inr sz_bpw1)
  have Zpw30 := Nat.le_trans Zpw28 (Keep.of_wr Wpw30).1
  replace V_bpw1 : Arv Z hpw30 bpw1 kpw1 .long (18 : Int32) [(.long (1 : Int64)), (.long (10 : Int64)), (.long (100 : Int64)), (.long (1000 : Int64)), (.long (10000 : Int64)), (.long (100000 : Int64)), (.long (1000000 : Int64)), (.long (10000000 : Int64)), (.long (100000000 : Int64)), (.long (1000000000 : Int64)), (.long (10000000000 : Int64)), (.long (100000000000 : Int64)), (.long (1000000000000 : Int64)), (.long (10000000000000 : Int64)), (.long (100000000000000 : Int64)), (.long (0 : Int64)), (.long (0 : Int64)), (.long (0 : Int64))] (.long (0 : Int64)) := V_bpw1x
  refine stp (fun t k => stpw30 t k) ?_
  show W (Tpw30.setTop (mkF m 101 #[.val (.int p0), .unset] [(.ref bpw1)]))
  refine stp (fun t k => XS.dup Xpw30.here hx rfl (hb hby dpw_101) rfl rfl k) ?_
  show W (Tpw30.setTop (mkF m 102 #[.val (.int p0), .unset] [(.ref bpw1), (.ref bpw1)]))
  refine stp (fun t k => XS.bipush Xpw30.here hx rfl (hb hby dpw_102) k) ?_
  show W (Tpw30.setTop (mkF m 104 #[.val (.int p0), .unset] [(.int (15 : Int32)), (.ref bpw1), (.ref bpw1)]))
  refine stp (fun t k => Xpw30.ldc2Long hx hown (mvT hZ (hw _ (List.mem_of_getElem? (i := 68) rfl))) (g := (mkF m 104 #[.val (.int p0), .unset] [(.int (15 : Int32)), (.ref bpw1), (.ref bpw1)])) rfl (hb hby dpw_104) _ k) ?_
  show W (Tpw30.setTop (mkF m 107 #[.val (.int p0), .unset] [(.long (1000000000000000 : Int64)), (.int (15 : Int32)), (.ref bpw1), (.ref bpw1)]))
  obtain ⟨clpw32, Arpw32, qkpw32, qspw32, qnpw32, qhpw32, qgpw32⟩ := id V_bpw1
  have hinpw32 : ¬ ((15 : Int32) < 0 ∨ clpw32.slots.size ≤ ((15 : Int32)).toNatClampNeg) := inb_of qspw32 ⟨by decide, by decide⟩
  obtain ⟨Tpw32, hpw32, Xpw32, epw32, Wpw32, stpw32⟩ := stJ Xpw30 hx hZ epw30 Arpw32 (j := (15 : Int32)) hinpw32 (g := (mkF m 107 #[.val (.int p0), .unset] [(.long (1000000000000000 : Int64)), (.int (15 : Int32)), (.ref bpw1), (.ref bpw1)])) rfl rfl (hb hby dpw_107)
  have V_bpw1x := Arv.set Arpw32 qkpw32 qspw32 qnpw32 qhpw32 qgpw32 rfl Wpw32 15 rfl (Nat.le_of_ble_eq_true rfl)
  have Npw32 := Fr.snoc Xpw32 Npw30 g_bpw1
  obtain ⟨lcpwt33, Xpw32, Npw32⟩ : ∃ lc, Stand p l e ({ frames := 0, cells := 1, slots := 18, locals := 0 } : Room) s m #[(.int p0)] below meth c Tpw32 lc 1 18 ∧ Fr n0 lc := ⟨_, Xpw32, Npw32⟩
  have Kpw32 := Kpw30.wr Wpw32 (Or.inr sz_bpw1)
  have Zpw32 := Nat.le_trans Zpw30 (Keep.of_wr Wpw32).1
  replace V_bpw1 : Arv Z hpw32 bpw1 kpw1 .long (18 : Int32) [(.long (1 : Int64)), (.long (10 : Int64)), (.long (100 : Int64)), (.long (1000 : Int64)), (.long (10000 : Int64)), (.long (100000 : Int64)), (.long (1000000 : Int64)), (.long (10000000 : Int64)), (.long (100000000 : Int64)), (.long (1000000000 : Int64)), (.long (10000000000 : Int64)), (.long (100000000000 : Int64)), (.long (1000000000000 : Int64)), (.long (10000000000000 : Int64)), (.long (100000000000000 : Int64)), (.long (1000000000000000 : Int64)), (.long (0 : Int64)), (.long (0 : Int64))] (.long (0 : Int64)) := V_bpw1x
  refine stp (fun t k => stpw32 t k) ?_
  show W (Tpw32.setTop (mkF m 108 #[.val (.int p0), .unset] [(.ref bpw1)]))
  refine stp (fun t k => XS.dup Xpw32.here hx rfl (hb hby dpw_108) rfl rfl k) ?_
  show W (Tpw32.setTop (mkF m 109 #[.val (.int p0), .unset] [(.ref bpw1), (.ref bpw1)]))
  refine stp (fun t k => XS.bipush Xpw32.here hx rfl (hb hby dpw_109) k) ?_
  show W (Tpw32.setTop (mkF m 111 #[.val (.int p0), .unset] [(.int (16 : Int32)), (.ref bpw1), (.ref bpw1)]))
  refine stp (fun t k => Xpw32.ldc2Long hx hown (mvT hZ (hw _ (List.mem_of_getElem? (i := 69) rfl))) (g := (mkF m 111 #[.val (.int p0), .unset] [(.int (16 : Int32)), (.ref bpw1), (.ref bpw1)])) rfl (hb hby dpw_111) _ k) ?_
  show W (Tpw32.setTop (mkF m 114 #[.val (.int p0), .unset] [(.long (10000000000000000 : Int64)), (.int (16 : Int32)), (.ref bpw1), (.ref bpw1)]))
  obtain ⟨clpw34, Arpw34, qkpw34, qspw34, qnpw34, qhpw34, qgpw34⟩ := id V_bpw1
  have hinpw34 : ¬ ((16 : Int32) < 0 ∨ clpw34.slots.size ≤ ((16 : Int32)).toNatClampNeg) := inb_of qspw34 ⟨by decide, by decide⟩
  obtain ⟨Tpw34, hpw34, Xpw34, epw34, Wpw34, stpw34⟩ := stJ Xpw32 hx hZ epw32 Arpw34 (j := (16 : Int32)) hinpw34 (g := (mkF m 114 #[.val (.int p0), .unset] [(.long (10000000000000000 : Int64)), (.int (16 : Int32)), (.ref bpw1), (.ref bpw1)])) rfl rfl (hb hby dpw_114)
  have V_bpw1x := Arv.set Arpw34 qkpw34 qspw34 qnpw34 qhpw34 qgpw34 rfl Wpw34 16 rfl (Nat.le_of_ble_eq_true rfl)
  have Npw34 := Fr.snoc Xpw34 Npw32 g_bpw1
  obtain ⟨lcpwt35, Xpw34, Npw34⟩ : ∃ lc, Stand p l e ({ frames := 0, cells := 1, slots := 18, locals := 0 } : Room) s m #[(.int p0)] below meth c Tpw34 lc 1 18 ∧ Fr n0 lc := ⟨_, Xpw34, Npw34⟩
  have Kpw34 := Kpw32.wr Wpw34 (Or.inr sz_bpw1)
  have Zpw34 := Nat.le_trans Zpw32 (Keep.of_wr Wpw34).1
  replace V_bpw1 : Arv Z hpw34 bpw1 kpw1 .long (18 : Int32) [(.long (1 : Int64)), (.long (10 : Int64)), (.long (100 : Int64)), (.long (1000 : Int64)), (.long (10000 : Int64)), (.long (100000 : Int64)), (.long (1000000 : Int64)), (.long (10000000 : Int64)), (.long (100000000 : Int64)), (.long (1000000000 : Int64)), (.long (10000000000 : Int64)), (.long (100000000000 : Int64)), (.long (1000000000000 : Int64)), (.long (10000000000000 : Int64)), (.long (100000000000000 : Int64)), (.long (1000000000000000 : Int64)), (.long (10000000000000000 : Int64)), (.long (0 : Int64))] (.long (0 : Int64)) := V_bpw1x
  refine stp (fun t k => stpw34 t k) ?_
  show W (Tpw34.setTop (mkF m 115 #[.val (.int p0), .unset] [(.ref bpw1)]))
  refine stp (fun t k => XS.dup Xpw34.here hx rfl (hb hby dpw_115) rfl rfl k) ?_
  show W (Tpw34.setTop (mkF m 116 #[.val (.int p0), .unset] [(.ref bpw1), (.ref bpw1)]))
  refine stp (fun t k => XS.bipush Xpw34.here hx rfl (hb hby dpw_116) k) ?_
  show W (Tpw34.setTop (mkF m 118 #[.val (.int p0), .unset] [(.int (17 : Int32)), (.ref bpw1), (.ref bpw1)]))
  refine stp (fun t k => Xpw34.ldc2Long hx hown (mvT hZ (hw _ (List.mem_of_getElem? (i := 70) rfl))) (g := (mkF m 118 #[.val (.int p0), .unset] [(.int (17 : Int32)), (.ref bpw1), (.ref bpw1)])) rfl (hb hby dpw_118) _ k) ?_
  show W (Tpw34.setTop (mkF m 121 #[.val (.int p0), .unset] [(.long (100000000000000000 : Int64)), (.int (17 : Int32)), (.ref bpw1), (.ref bpw1)]))
  obtain ⟨clpw36, Arpw36, qkpw36, qspw36, qnpw36, qhpw36, qgpw36⟩ := id V_bpw1
  have hinpw36 : ¬ ((17 : Int32) < 0 ∨ clpw36.slots.size ≤ ((17 : Int32)).toNatClampNeg) := inb_of qspw36 ⟨by decide, by decide⟩
  obtain ⟨Tpw36, hpw36, Xpw36, epw36, Wpw36, stpw36⟩ := stJ Xpw34 hx hZ epw34 Arpw36 (j := (17 : Int32)) hinpw36 (g := (mkF m 121 #[.val (.int p0), .unset] [(.long (100000000000000000 : Int64)), (.int (17 : Int32)), (.ref bpw1), (.ref bpw1)])) rfl rfl (hb hby dpw_121)
  have V_bpw1x := Arv.set Arpw36 qkpw36 qspw36 qnpw36 qhpw36 qgpw36 rfl Wpw36 17 rfl (Nat.le_of_ble_eq_true rfl)
  have Npw36 := Fr.snoc Xpw36 Npw34 g_bpw1
  obtain ⟨lcpwt37, Xpw36, Npw36⟩ : ∃ lc, Stand p l e ({ frames := 0, cells := 1, slots := 18, locals := 0 } : Room) s m #[(.int p0)] below meth c Tpw36 lc 1 18 ∧ Fr n0 lc := ⟨_, Xpw36, Npw36⟩
  have Kpw36 := Kpw34.wr Wpw36 (Or.inr sz_bpw1)
  have Zpw36 := Nat.le_trans Zpw34 (Keep.of_wr Wpw36).1
  replace V_bpw1 : Arv Z hpw36 bpw1 kpw1 .long (18 : Int32) [(.long (1 : Int64)), (.long (10 : Int64)), (.long (100 : Int64)), (.long (1000 : Int64)), (.long (10000 : Int64)), (.long (100000 : Int64)), (.long (1000000 : Int64)), (.long (10000000 : Int64)), (.long (100000000 : Int64)), (.long (1000000000 : Int64)), (.long (10000000000 : Int64)), (.long (100000000000 : Int64)), (.long (1000000000000 : Int64)), (.long (10000000000000 : Int64)), (.long (100000000000000 : Int64)), (.long (1000000000000000 : Int64)), (.long (10000000000000000 : Int64)), (.long (100000000000000000 : Int64))] (.long (0 : Int64)) := V_bpw1x
  refine stp (fun t k => stpw36 t k) ?_
  show W (Tpw36.setTop (mkF m 122 #[.val (.int p0), .unset] [(.ref bpw1)]))
  refine stp (fun t k => XS.astoreN Xpw36.here hx rfl (hb hby dpw_122) rfl rfl (l' := #[.val (.int p0), .val (.ref bpw1)]) rfl k) ?_
  show W (Tpw36.setTop (mkF m 123 #[.val (.int p0), .val (.ref bpw1)] []))
  refine stp (fun t k => XS.aloadN Xpw36.here hx rfl (hb hby dpw_123) rfl rfl k) ?_
  show W (Tpw36.setTop (mkF m 124 #[.val (.int p0), .val (.ref bpw1)] [(.ref bpw1)]))
  refine stp (fun t k => XS.iloadN Xpw36.here hx rfl (hb hby dpw_124) rfl k) ?_
  show W (Tpw36.setTop (mkF m 125 #[.val (.int p0), .val (.ref bpw1)] [(.int p0), (.ref bpw1)]))
  obtain ⟨clpw38, Arpw38, qkpw38, qspw38, qnpw38, qhpw38, qgpw38⟩ := id V_bpw1
  have hinpw38 : ¬ (p0 < 0 ∨ clpw38.slots.size ≤ (p0).toNatClampNeg) := inb_of qspw38 ⟨hlo, hhi⟩
  have hatpw38 : clpw38.slots[(p0).toNatClampNeg]? = some (.long (own_p10 p0)) := qhpw38.at hinpw38 (own_p10v p0)
  refine stp (fun t k => Xpw36.laload hx (j := p0) (v := (.long (own_p10 p0))) (by rw [epw36]; exact Arpw38.1) (State.isArrayOf_alike hZ.alike Arpw38.2.1) Arpw38.2.2 hinpw38 hatpw38 (g := (mkF m 125 #[.val (.int p0), .val (.ref bpw1)] [(.int p0), (.ref bpw1)])) rfl rfl (hb hby dpw_125) _ k) ?_
  show W (Tpw36.setTop (mkF m 126 #[.val (.int p0), .val (.ref bpw1)] [(.long (own_p10 p0))]))
  show W (Tpw36.setTop (mkF m 126 #[.val (.int p0), .val (.ref bpw1)] [(.long (own_p10 p0))]))
  rw [← hW]
  exact own_retJ Xpw36 hx Bd.notSynchronized Bd.returns (hb hby dpw_126) (by show Qpw Z p0 h0 n0 _ Tpw36.heap _; rw [epw36]; exact ⟨rfl, Npw36, Kpw36⟩) (by decide) (by decide)
theorem dtm_0 : decode method_6_code 0 = .ok (.iload 4, 2) := by decide +kernel
theorem dtm_2 : decode method_6_code 2 = .ok (.iload 5, 2) := by decide +kernel
theorem dtm_4 : decode method_6_code 4 = .ok (.if_icmp .lt 30, 3) := by decide +kernel
theorem dtm_7 : decode method_6_code 7 = .ok (.iload 4, 2) := by decide +kernel
theorem dtm_9 : decode method_6_code 9 = .ok (.iload 6, 2) := by decide +kernel
theorem dtm_11 : decode method_6_code 11 = .ok (.if_icmp .ge 23, 3) := by decide +kernel
theorem dtm_14 : decode method_6_code 14 = .ok (.lload_n 0, 1) := by decide +kernel
theorem dtm_15 : decode method_6_code 15 = .ok (.lload_n 2, 1) := by decide +kernel
theorem dtm_16 : decode method_6_code 16 = .ok (.iload 4, 2) := by decide +kernel
theorem dtm_18 : decode method_6_code 18 = .ok (.invokestatic 45, 3) := by decide +kernel
theorem dtm_21 : decode method_6_code 21 = .ok (.i2l, 1) := by decide +kernel
theorem dtm_22 : decode method_6_code 22 = .ok (.iload 6, 2) := by decide +kernel
theorem dtm_24 : decode method_6_code 24 = .ok (.iconst 1, 1) := by decide +kernel
theorem dtm_25 : decode method_6_code 25 = .ok (.isub, 1) := by decide +kernel
theorem dtm_26 : decode method_6_code 26 = .ok (.iload 4, 2) := by decide +kernel
theorem dtm_28 : decode method_6_code 28 = .ok (.isub, 1) := by decide +kernel
theorem dtm_29 : decode method_6_code 29 = .ok (.invokestatic 55, 3) := by decide +kernel
theorem dtm_32 : decode method_6_code 32 = .ok (.lmul, 1) := by decide +kernel
theorem dtm_33 : decode method_6_code 33 = .ok (.lreturn, 1) := by decide +kernel
theorem dtm_34 : decode method_6_code 34 = .ok (.lconst 0, 1) := by decide +kernel
theorem dtm_35 : decode method_6_code 35 = .ok (.lreturn, 1) := by decide +kernel
theorem pntm : plainName "com/example/fieldgate/fieldgate/record/DigitsValuePinLaw" = true := by first | (simp [plainName, overriddenIn]; done) | decide +kernel
theorem pdtm_0 : parseMethodDescriptor "(JJI)I" = some ⟨[.long, .long, .int], some .int⟩ := by decide +kernel
theorem pdtm_1 : parseMethodDescriptor "(I)J" = some ⟨[.int], some .long⟩ := by decide +kernel
theorem eftm (m : MethodId) (q0 : Int64) (q1 : Int64) (p2 : Int32) (p3 : Int32) (p4 : Int32) : entryFrame m #[(.long q0), (.long q1), (.int p2), (.int p3), (.int p4)] 7 = mkF m 0 #[.val (.long q0), .second, .val (.long q1), .second, .val (.int p2), .val (.int p3), .val (.int p4)] [] := by first | (simp [entryFrame, mkF, argsToLocals, Value.category]; done) | rfl
def ftm (q0 : Int64) (q1 : Int64) (p2 : Int32) (p3 : Int32) (p4 : Int32) : Int64 := (if p2 < p3 then (0 : Int64) else (if p2 < p4 then (((fdg q0 q1 p2).toInt64) * (own_p10 ((p4 - (1 : Int32)) - p2))) else (0 : Int64)))
def Qtm (Z : State) (q0 : Int64) (q1 : Int64) (p2 : Int32) (p3 : Int32) (p4 : Int32) (h0 : Heap) (n0 : Nat) (v : Option Value) (h : Heap) (L : List Loc) : Prop := v = some (.long (ftm q0 q1 p2 p3 p4)) ∧ Fr n0 L ∧ Keep h0 h []
set_option maxRecDepth 65536 in
set_option maxHeartbeats 40000000 in
theorem rmtm (l : Launch) (Z : State) (aa : Array Value) (hw : ∀ d ∈ tables_1, d.before aa Z = true) (ws : List Jvm.Cond) (q0 : Int64) (q1 : Int64) (p2 : Int32) (p3 : Int32) (p4 : Int32) (h0 : Heap) (n0 : Nat) (Z0 : n0 ≤ h0.size) (hf : 0 ≤ p3.toInt) (ht : p4.toInt ≤ 18) :
    MetFree l (⟨"com/example/fieldgate/fieldgate/record/DigitsValuePinLaw", "term", "(JJIII)J"⟩ : MethodName) (head1 (Jvm.Cond.code (⟨"com/example/fieldgate/fieldgate/record/DigitsValuePinLaw", "term", "(JJIII)J"⟩ : MethodName) method_6_code 7 (some .long) :: ws) ({ frames := 1, cells := 1, slots := 18, locals := 18 } : Room)) (fun a U => a = #[(.long q0), (.long q1), (.int p2), (.int p3), (.int p4)] ∧ Z.Warmed39 U.vm ∧ U.heap = h0) (fun _ _ _ _ _ => True) (fun _ U o U' => ∃ v L, o = .returned v ∧ Qtm Z q0 q1 p2 p3 p4 h0 n0 v U'.heap L ∧ FrameEnd U o U' L ({ frames := 1, cells := 1, slots := 18, locals := 18 } : Room).cells ({ frames := 1, cells := 1, slots := 18, locals := 18 } : Room).slots) := by
  refine MetFree.of_bodySF (plainFor_of_name pntm) hisR ?_
  intro p e s m args below meth c s₁ Bd hml0 hP hK
  obtain ⟨rfl, hZ, hh⟩ := hP
  have hx := Bd.exec
  have hby := Bd.bytes
  have hml : c.maxLocals = 7 := hml0
  have hown : s.vm.findClass "com/example/fieldgate/fieldgate/record/DigitsValuePinLaw" = some m.cls := findClass_of_methodNamed Bd.named
  have hnm := (name_of_methodNamed Bd.named Bd.method).1
  have X0 : Stand p l e ({ frames := 1, cells := 1, slots := 18, locals := 18 } : Room) s m #[(.long q0), (.long q1), (.int p2), (.int p3), (.int p4)] below meth c s₁ [] 0 0 := Stand.of_body Bd
  have e0 : s₁.heap = h0 := by rw [← hh, Bd.state]; rfl
  have N0 := Fr.nil n0
  show OwnEnd p e below s (fun v h L => Qtm Z q0 q1 p2 p3 p4 h0 n0 v h L) ({ frames := 1, cells := 1, slots := 18, locals := 18 } : Room).cells ({ frames := 1, cells := 1, slots := 18, locals := 18 } : Room).slots (s₁.setTop (entryFrame m #[(.long q0), (.long q1), (.int p2), (.int p3), (.int p4)] 7))
  rw [eftm m q0 q1 p2 p3 p4]
  generalize hW : OwnEnd p e below s (fun v h L => Qtm Z q0 q1 p2 p3 p4 h0 n0 v h L) ({ frames := 1, cells := 1, slots := 18, locals := 18 } : Room).cells ({ frames := 1, cells := 1, slots := 18, locals := 18 } : Room).slots = W
  have stp : ∀ {A B : State}, (∀ t, Steps p.tables e below B t → Steps p.tables e below A t) → W B → W A := by subst hW; exact own_step
  show W (s₁.setTop (mkF m 0 #[.val (.long q0), .second, .val (.long q1), .second, .val (.int p2), .val (.int p3), .val (.int p4)] []))
  refine stp (fun t k => XS.iload X0.here hx rfl (hb hby dtm_0) rfl k) ?_
  show W (s₁.setTop (mkF m 2 #[.val (.long q0), .second, .val (.long q1), .second, .val (.int p2), .val (.int p3), .val (.int p4)] [(.int p2)]))
  refine stp (fun t k => XS.iload X0.here hx rfl (hb hby dtm_2) rfl k) ?_
  show W (s₁.setTop (mkF m 4 #[.val (.long q0), .second, .val (.long q1), .second, .val (.int p2), .val (.int p3), .val (.int p4)] [(.int p3), (.int p2)]))
  by_cases hctm_1 : p2 < p3
  · refine stp (fun t k => XS.icmpYes X0.here hx rfl (pc0 := 4) (pc' := 34) rfl (hb hby dtm_4) rfl ((tlt hctm_1).1) (by decide) (by decide) k) ?_
    show W (s₁.setTop (mkF m 34 #[.val (.long q0), .second, .val (.long q1), .second, .val (.int p2), .val (.int p3), .val (.int p4)] []))
    refine stp (fun t k => XS.lconst X0.here hx rfl (hb hby dtm_34) k) ?_
    show W (s₁.setTop (mkF m 35 #[.val (.long q0), .second, .val (.long q1), .second, .val (.int p2), .val (.int p3), .val (.int p4)] [(.long (0 : Int64))]))
    show W (s₁.setTop (mkF m 35 #[.val (.long q0), .second, .val (.long q1), .second, .val (.int p2), .val (.int p3), .val (.int p4)] [(.long (0 : Int64))]))
    rw [← hW]
    exact own_retJ X0 hx Bd.notSynchronized Bd.returns (hb hby dtm_35) (by show Qtm Z q0 q1 p2 p3 p4 h0 n0 _ s₁.heap _; rw [e0]; exact ⟨(by rw [ftm, if_pos hctm_1]), N0, (Keep.refl h0 [])⟩) (by decide) (by decide)
  · refine stp (fun t k => XS.icmpNo X0.here hx rfl (hb hby dtm_4) rfl ((flt hctm_1).1) k) ?_
    show W (s₁.setTop (mkF m 7 #[.val (.long q0), .second, .val (.long q1), .second, .val (.int p2), .val (.int p3), .val (.int p4)] []))
    refine stp (fun t k => XS.iload X0.here hx rfl (hb hby dtm_7) rfl k) ?_
    show W (s₁.setTop (mkF m 9 #[.val (.long q0), .second, .val (.long q1), .second, .val (.int p2), .val (.int p3), .val (.int p4)] [(.int p2)]))
    refine stp (fun t k => XS.iload X0.here hx rfl (hb hby dtm_9) rfl k) ?_
    show W (s₁.setTop (mkF m 11 #[.val (.long q0), .second, .val (.long q1), .second, .val (.int p2), .val (.int p3), .val (.int p4)] [(.int p4), (.int p2)]))
    by_cases hctm_2 : p2 < p4
    · refine stp (fun t k => XS.icmpNo X0.here hx rfl (hb hby dtm_11) rfl ((tlt hctm_2).2.1) k) ?_
      show W (s₁.setTop (mkF m 14 #[.val (.long q0), .second, .val (.long q1), .second, .val (.int p2), .val (.int p3), .val (.int p4)] []))
      refine stp (fun t k => XS.lloadN X0.here hx rfl (hb hby dtm_14) rfl k) ?_
      show W (s₁.setTop (mkF m 15 #[.val (.long q0), .second, .val (.long q1), .second, .val (.int p2), .val (.int p3), .val (.int p4)] [(.long q0)]))
      refine stp (fun t k => XS.lloadN X0.here hx rfl (hb hby dtm_15) rfl k) ?_
      show W (s₁.setTop (mkF m 16 #[.val (.long q0), .second, .val (.long q1), .second, .val (.int p2), .val (.int p3), .val (.int p4)] [(.long q1), (.long q0)]))
      refine stp (fun t k => XS.iload X0.here hx rfl (hb hby dtm_16) rfl k) ?_
      show W (s₁.setTop (mkF m 18 #[.val (.long q0), .second, .val (.long q1), .second, .val (.int p2), .val (.int p3), .val (.int p4)] [(.int p2), (.long q1), (.long q0)]))
      obtain ⟨_, _, ⟨Ttmc3, Ltmc3, ktmc3, ntmc3⟩, -, Xtmc3, ⟨Lctmc3, hQtmc3, ltmc3, ytmc3, ztmc3⟩, sttmc3⟩ := Jvm.LawKit.callS X0 hx (y := (⟨"com/example/fieldgate/fieldgate/record/DigitsValuePinLaw", "digit", "(JJI)I"⟩ : MethodName)) hown (mvT hZ (hw _ (List.mem_of_getElem? (i := 46) rfl))) (mvT hZ (hw _ (List.mem_of_getElem? (i := 47) rfl))) (mvT hZ (hw _ (List.mem_of_getElem? (i := 4) rfl))) (mvT hZ (hw _ (List.mem_of_getElem? (i := 48) rfl))) (by decide) (backOf (W := 0) (rmdg l Z aa hw [] q0 q1 p2  h0 n0 Z0 ) hZ (hw _ (List.mem_of_getElem? (i := 48) rfl)) (hw _ (List.mem_of_getElem? (i := 4) rfl)) (by decide) (by decide)) (g := (mkF m 18 #[.val (.long q0), .second, .val (.long q1), .second, .val (.int p2), .val (.int p3), .val (.int p4)] [(.int p2), (.long q1), (.long q0)])) rfl (by rw [hml]; rfl) (argsL := [(.long q0), (.long q1), (.int p2)]) (rest := []) (lenOf pdtm_0 rfl) rfl (by show 2 * 0 + _ ≤ _; exact Nat.le_of_eq rfl) (hb hby dtm_18) (fun _ _ => ⟨rfl, e0, (by decide : 0 + 0 ≤ _), (by decide : 0 + 0 ≤ _)⟩)
      dsimp only [Pt.U, Pt.locs, Pt.cells, Pt.slots] at Xtmc3 ltmc3 ytmc3 ztmc3 sttmc3 hQtmc3
      subst ltmc3 ytmc3 ztmc3
      obtain ⟨rfl, Ntmc3q, etmc3⟩ := hQtmc3
      have Ntmc3 := Fr.app N0 Ntmc3q
      obtain ⟨lctmt4, Xtmc3, Ntmc3⟩ : ∃ lc, Stand p l e ({ frames := 1, cells := 1, slots := 18, locals := 18 } : Room) s m #[(.long q0), (.long q1), (.int p2), (.int p3), (.int p4)] below meth c Ttmc3 lc 0 0 ∧ Fr n0 lc := ⟨_, Xtmc3, Ntmc3⟩
      refine stp (fun t k => sttmc3 t k) ?_
      show W (Ttmc3.setTop (mkF m 21 #[.val (.long q0), .second, .val (.long q1), .second, .val (.int p2), .val (.int p3), .val (.int p4)] [(.int (fdg q0 q1 p2))]))
      refine stp (fun t k => XS.i2l Xtmc3.here hx rfl (hb hby dtm_21) rfl k) ?_
      show W (Ttmc3.setTop (mkF m 22 #[.val (.long q0), .second, .val (.long q1), .second, .val (.int p2), .val (.int p3), .val (.int p4)] [(.long ((fdg q0 q1 p2).toInt64))]))
      refine stp (fun t k => XS.iload Xtmc3.here hx rfl (hb hby dtm_22) rfl k) ?_
      show W (Ttmc3.setTop (mkF m 24 #[.val (.long q0), .second, .val (.long q1), .second, .val (.int p2), .val (.int p3), .val (.int p4)] [(.int p4), (.long ((fdg q0 q1 p2).toInt64))]))
      refine stp (fun t k => XS.iconst Xtmc3.here hx rfl (hb hby dtm_24) k) ?_
      show W (Ttmc3.setTop (mkF m 25 #[.val (.long q0), .second, .val (.long q1), .second, .val (.int p2), .val (.int p3), .val (.int p4)] [(.int (1 : Int32)), (.int p4), (.long ((fdg q0 q1 p2).toInt64))]))
      refine stp (fun t k => XS.isub Xtmc3.here hx rfl (hb hby dtm_25) rfl k) ?_
      show W (Ttmc3.setTop (mkF m 26 #[.val (.long q0), .second, .val (.long q1), .second, .val (.int p2), .val (.int p3), .val (.int p4)] [(.int (p4 - (1 : Int32))), (.long ((fdg q0 q1 p2).toInt64))]))
      refine stp (fun t k => XS.iload Xtmc3.here hx rfl (hb hby dtm_26) rfl k) ?_
      show W (Ttmc3.setTop (mkF m 28 #[.val (.long q0), .second, .val (.long q1), .second, .val (.int p2), .val (.int p3), .val (.int p4)] [(.int p2), (.int (p4 - (1 : Int32))), (.long ((fdg q0 q1 p2).toInt64))]))
      refine stp (fun t k => XS.isub Xtmc3.here hx rfl (hb hby dtm_28) rfl k) ?_
      show W (Ttmc3.setTop (mkF m 29 #[.val (.long q0), .second, .val (.long q1), .second, .val (.int p2), .val (.int p3), .val (.int p4)] [(.int ((p4 - (1 : Int32)) - p2)), (.long ((fdg q0 q1 p2).toInt64))]))
      obtain ⟨_, _, ⟨Ttmc5, Ltmc5, ktmc5, ntmc5⟩, -, Xtmc5, ⟨Lctmc5, hQtmc5, ltmc5, ytmc5, ztmc5⟩, sttmc5⟩ := Jvm.LawKit.callS Xtmc3 hx (y := (⟨"com/example/fieldgate/fieldgate/record/DigitsValuePinLaw", "pow10", "(I)J"⟩ : MethodName)) hown (mvT hZ (hw _ (List.mem_of_getElem? (i := 51) rfl))) (mvT hZ (hw _ (List.mem_of_getElem? (i := 52) rfl))) (mvT hZ (hw _ (List.mem_of_getElem? (i := 4) rfl))) (mvT hZ (hw _ (List.mem_of_getElem? (i := 53) rfl))) (by decide) (backOf (W := 2) (rmpw l Z aa hw [] ((p4 - (1 : Int32)) - p2)  h0 n0 Z0 (own_ix hf ht hctm_1 hctm_2).1 (own_ix hf ht hctm_1 hctm_2).2) hZ (hw _ (List.mem_of_getElem? (i := 53) rfl)) (hw _ (List.mem_of_getElem? (i := 4) rfl)) (by decide) (by decide)) (g := (mkF m 29 #[.val (.long q0), .second, .val (.long q1), .second, .val (.int p2), .val (.int p3), .val (.int p4)] [(.int ((p4 - (1 : Int32)) - p2)), (.long ((fdg q0 q1 p2).toInt64))])) rfl (by rw [hml]; rfl) (argsL := [(.int ((p4 - (1 : Int32)) - p2))]) (rest := [(.long ((fdg q0 q1 p2).toInt64))]) (lenOf pdtm_1 rfl) rfl (by show 2 * 0 + _ ≤ _; exact Nat.le_of_eq rfl) (hb hby dtm_29) (fun _ _ => ⟨rfl, etmc3, (by decide : 0 + 1 ≤ _), (by decide : 0 + 18 ≤ _)⟩)
      dsimp only [Pt.U, Pt.locs, Pt.cells, Pt.slots] at Xtmc5 ltmc5 ytmc5 ztmc5 sttmc5 hQtmc5
      subst ltmc5 ytmc5 ztmc5
      obtain ⟨rfl, Ntmc5q, Kqtmc5⟩ := hQtmc5
      have Ntmc5 := Fr.app Ntmc3 Ntmc5q
      obtain ⟨lctmt6, Xtmc5, Ntmc5⟩ : ∃ lc, Stand p l e ({ frames := 1, cells := 1, slots := 18, locals := 18 } : Room) s m #[(.long q0), (.long q1), (.int p2), (.int p3), (.int p4)] below meth c Ttmc5 lc 1 18 ∧ Fr n0 lc := ⟨_, Xtmc5, Ntmc5⟩
      obtain ⟨htmc5, etmc5⟩ : ∃ h, Ttmc5.heap = h := ⟨_, rfl⟩
      rw [etmc5] at Kqtmc5 
      have KKtmc5 := Keep.trans (Keep.refl h0 []) Kqtmc5 all0
      have Ztmc5 := Nat.le_trans Z0 Kqtmc5.1
      refine stp (fun t k => sttmc5 t k) ?_
      show W (Ttmc5.setTop (mkF m 32 #[.val (.long q0), .second, .val (.long q1), .second, .val (.int p2), .val (.int p3), .val (.int p4)] [(.long (own_p10 ((p4 - (1 : Int32)) - p2))), (.long ((fdg q0 q1 p2).toInt64))]))
      refine stp (fun t k => XS.lmul Xtmc5.here hx rfl (hb hby dtm_32) rfl k) ?_
      show W (Ttmc5.setTop (mkF m 33 #[.val (.long q0), .second, .val (.long q1), .second, .val (.int p2), .val (.int p3), .val (.int p4)] [(.long (((fdg q0 q1 p2).toInt64) * (own_p10 ((p4 - (1 : Int32)) - p2))))]))
      show W (Ttmc5.setTop (mkF m 33 #[.val (.long q0), .second, .val (.long q1), .second, .val (.int p2), .val (.int p3), .val (.int p4)] [(.long (((fdg q0 q1 p2).toInt64) * (own_p10 ((p4 - (1 : Int32)) - p2))))]))
      rw [← hW]
      exact own_retJ Xtmc5 hx Bd.notSynchronized Bd.returns (hb hby dtm_33) (by show Qtm Z q0 q1 p2 p3 p4 h0 n0 _ Ttmc5.heap _; rw [etmc5]; exact ⟨(by rw [ftm, if_neg hctm_1, if_pos hctm_2]), Ntmc5, KKtmc5⟩) (by decide) (by decide)
    · refine stp (fun t k => XS.icmpYes X0.here hx rfl (pc0 := 11) (pc' := 34) rfl (hb hby dtm_11) rfl ((flt hctm_2).2.1) (by decide) (by decide) k) ?_
      show W (s₁.setTop (mkF m 34 #[.val (.long q0), .second, .val (.long q1), .second, .val (.int p2), .val (.int p3), .val (.int p4)] []))
      refine stp (fun t k => XS.lconst X0.here hx rfl (hb hby dtm_34) k) ?_
      show W (s₁.setTop (mkF m 35 #[.val (.long q0), .second, .val (.long q1), .second, .val (.int p2), .val (.int p3), .val (.int p4)] [(.long (0 : Int64))]))
      show W (s₁.setTop (mkF m 35 #[.val (.long q0), .second, .val (.long q1), .second, .val (.int p2), .val (.int p3), .val (.int p4)] [(.long (0 : Int64))]))
      rw [← hW]
      exact own_retJ X0 hx Bd.notSynchronized Bd.returns (hb hby dtm_35) (by show Qtm Z q0 q1 p2 p3 p4 h0 n0 _ s₁.heap _; rw [e0]; exact ⟨(by rw [ftm, if_neg hctm_1, if_neg hctm_2]), N0, (Keep.refl h0 [])⟩) (by decide) (by decide)
theorem own_dgR (q0 q1 : Int64) (p : Int32) : 0 ≤ (fdg q0 q1 p).toInt ∧ (fdg q0 q1 p).toInt < 10 := by
  unfold fdg
  generalize (if p < (16 : Int32) then ((q0.toUInt64 >>> (((4 : Int32) * p) &&& 0x3f).toInt64.toUInt64).toInt64) else ((q1.toUInt64 >>> (((4 : Int32) * (p - (16 : Int32))) &&& 0x3f).toInt64.toUInt64).toInt64)) = w
  have h1 := c_maskL w 15 4 (by decide) (by decide)
  have h2 := (c_lrem (w &&& 15) 10 10 (by decide)).1 (by omega)
  have h3 := c_l2i ((w &&& 15) - (w &&& 15) / 10 * 10)
  have r := rng32 (((w &&& 15) - (w &&& 15) / 10 * 10).toInt32)
  omega
theorem own_jkR (q0 q1 : Int64) (p : Int32) : 0 ≤ (fjk q0 q1 p).toInt ∧ (fjk q0 q1 p).toInt < 128 := by
  unfold fjk
  generalize (if p < (9 : Int32) then ((q0.toUInt64 >>> (((7 : Int32) * p) &&& 0x3f).toInt64.toUInt64).toInt64) else ((q1.toUInt64 >>> (((7 : Int32) * (p - (9 : Int32))) &&& 0x3f).toInt64.toUInt64).toInt64)) = w
  have h1 := c_maskL w 127 7 (by decide) (by decide)
  have h3 := c_l2i (w &&& 127)
  have r := rng32 ((w &&& 127).toInt32)
  have e := own_i2c (x := (w &&& 127).toInt32) (by omega) (by omega)
  show 0 ≤ ((w &&& 127).toInt32.toUInt32.toUInt16.toUInt32.toInt32).toUInt32.toUInt16.toUInt32.toInt32.toInt ∧ ((w &&& 127).toInt32.toUInt32.toUInt16.toUInt32.toInt32).toUInt32.toUInt16.toUInt32.toInt32.toInt < 128
  rw [e, e]
  omega
theorem own_48 (q0 q1 : Int64) (p : Int32) : ((48 : Int32) + fdg q0 q1 p).toInt = 48 + (fdg q0 q1 p).toInt := by
  have h := own_dgR q0 q1 p
  have h1 := c_iadd 48 (fdg q0 q1 p)
  have r := rng32 ((48 : Int32) + fdg q0 q1 p)
  have k : (48 : Int32).toInt = 48 := by decide
  omega
theorem own_atD {q0 q1 q2 q3 : Int64} {i f t : Int32} (h1 : ¬ i < f) (h2 : i < t) : fat q0 q1 q2 q3 i f t = (48 : Int32) + fdg q0 q1 i := by
  have h := own_dgR q0 q1 i
  have e := own_48 q0 q1 i
  have e2 := own_i2c (x := (48 : Int32) + fdg q0 q1 i) (by omega) (by omega)
  rw [fat, if_neg h1, if_pos h2]
  show (((48 : Int32) + fdg q0 q1 i).toUInt32.toUInt16.toUInt32.toInt32).toUInt32.toUInt16.toUInt32.toInt32 = _
  rw [e2, e2]
theorem own_atR (q0 q1 q2 q3 : Int64) (i f t : Int32) : 0 ≤ (fat q0 q1 q2 q3 i f t).toInt ∧ (fat q0 q1 q2 q3 i f t).toInt < 128 := by
  have hj := own_jkR q2 q3 i
  have hd := own_dgR q0 q1 i
  have e := own_48 q0 q1 i
  have ej : nar .char (fjk q2 q3 i) = fjk q2 q3 i := own_i2c hj.1 (by omega)
  by_cases h1 : i < f
  · rw [fat, if_pos h1, ej]; exact hj
  · by_cases h2 : i < t
    · rw [own_atD h1 h2, e]; omega
    · rw [fat, if_neg h1, if_neg h2, ej]; exact hj
theorem own_narAt (q0 q1 q2 q3 : Int64) (i f t : Int32) : nar .char (fat q0 q1 q2 q3 i f t) = fat q0 q1 q2 q3 i f t := own_i2c (own_atR q0 q1 q2 q3 i f t).1 (by have := own_atR q0 q1 q2 q3 i f t; omega)
def own_g (q0 q1 q2 q3 : Int64) (f t : Int32) (j : Nat) : Int32 := ([nar .char (fat q0 q1 q2 q3 (0 : Int32) f t), nar .char (fat q0 q1 q2 q3 (1 : Int32) f t), nar .char (fat q0 q1 q2 q3 (2 : Int32) f t), nar .char (fat q0 q1 q2 q3 (3 : Int32) f t), nar .char (fat q0 q1 q2 q3 (4 : Int32) f t), nar .char (fat q0 q1 q2 q3 (5 : Int32) f t), nar .char (fat q0 q1 q2 q3 (6 : Int32) f t), nar .char (fat q0 q1 q2 q3 (7 : Int32) f t), nar .char (fat q0 q1 q2 q3 (8 : Int32) f t), nar .char (fat q0 q1 q2 q3 (9 : Int32) f t), nar .char (fat q0 q1 q2 q3 (10 : Int32) f t), nar .char (fat q0 q1 q2 q3 (11 : Int32) f t), nar .char (fat q0 q1 q2 q3 (12 : Int32) f t), nar .char (fat q0 q1 q2 q3 (13 : Int32) f t), nar .char (fat q0 q1 q2 q3 (14 : Int32) f t), nar .char (fat q0 q1 q2 q3 (15 : Int32) f t), nar .char (fat q0 q1 q2 q3 (16 : Int32) f t), nar .char (fat q0 q1 q2 q3 (17 : Int32) f t)] : List Int32).getD j 0
theorem own_gat (q0 q1 q2 q3 : Int64) (f t : Int32) (j : Nat) (h : j < 18) : own_g q0 q1 q2 q3 f t j = fat q0 q1 q2 q3 (Int32.ofNat j) f t := by
  match j, h with
  | 0, _ => exact own_narAt q0 q1 q2 q3 (0 : Int32) f t
  | 1, _ => exact own_narAt q0 q1 q2 q3 (1 : Int32) f t
  | 2, _ => exact own_narAt q0 q1 q2 q3 (2 : Int32) f t
  | 3, _ => exact own_narAt q0 q1 q2 q3 (3 : Int32) f t
  | 4, _ => exact own_narAt q0 q1 q2 q3 (4 : Int32) f t
  | 5, _ => exact own_narAt q0 q1 q2 q3 (5 : Int32) f t
  | 6, _ => exact own_narAt q0 q1 q2 q3 (6 : Int32) f t
  | 7, _ => exact own_narAt q0 q1 q2 q3 (7 : Int32) f t
  | 8, _ => exact own_narAt q0 q1 q2 q3 (8 : Int32) f t
  | 9, _ => exact own_narAt q0 q1 q2 q3 (9 : Int32) f t
  | 10, _ => exact own_narAt q0 q1 q2 q3 (10 : Int32) f t
  | 11, _ => exact own_narAt q0 q1 q2 q3 (11 : Int32) f t
  | 12, _ => exact own_narAt q0 q1 q2 q3 (12 : Int32) f t
  | 13, _ => exact own_narAt q0 q1 q2 q3 (13 : Int32) f t
  | 14, _ => exact own_narAt q0 q1 q2 q3 (14 : Int32) f t
  | 15, _ => exact own_narAt q0 q1 q2 q3 (15 : Int32) f t
  | 16, _ => exact own_narAt q0 q1 q2 q3 (16 : Int32) f t
  | 17, _ => exact own_narAt q0 q1 q2 q3 (17 : Int32) f t
  | j + 18, h => exact absurd h (by omega)
theorem own_gR (q0 q1 q2 q3 : Int64) (f t : Int32) (j : Nat) : 0 ≤ (own_g q0 q1 q2 q3 f t j).toInt ∧ (own_g q0 q1 q2 q3 f t j).toInt < 128 := by
  by_cases h : j < 18
  · rw [own_gat _ _ _ _ _ _ _ h]; exact own_atR _ _ _ _ _ _ _
  · have e : own_g q0 q1 q2 q3 f t j = 0 := by
      unfold own_g
      rw [List.getD_eq_getElem?_getD, List.getElem?_eq_none (by simp; omega)]
      rfl
    rw [e]; decide
theorem own_gch (q0 q1 q2 q3 : Int64) (f t : Int32) : ∀ j, 0 ≤ (own_g q0 q1 q2 q3 f t j).toInt ∧ (own_g q0 q1 q2 q3 f t j).toInt < 65536 := fun j => by have := own_gR q0 q1 q2 q3 f t j; omega
theorem own_gasc (q0 q1 q2 q3 : Int64) (f t : Int32) : ∀ j, (own_g q0 q1 q2 q3 f t j).toInt < 256 := fun j => by have := own_gR q0 q1 q2 q3 f t j; omega
def own_P : Nat → Int64
  | 0 => 1
  | m + 1 => own_P m * 10
theorem own_P18 : ∀ m : Fin 18, own_p10 (Int32.ofNat m.val) = own_P m.val := by decide +kernel
def own_sum (F : Nat → Int64) : Nat → Int64
  | 0 => 0
  | k + 1 => own_sum F k + F k
theorem own_ofI {i : Int32} {n : Nat} (h : i.toInt = (n : Int)) (hn : n < 2147483648) : i = Int32.ofNat n := by
  apply Int32.toInt_inj.mp
  rw [own_ofNat hn, h]
theorem own_key (q0 q1 q2 q3 : Int64) (f t : Int32) (f0 t0 : Nat) (hf : f.toInt = (f0 : Int)) (ht : t.toInt = (t0 : Int)) (h18 : t0 ≤ 18) :
    ∀ m : Nat, f0 + m ≤ t0 → own_val (own_g q0 q1 q2 q3 f t) f0 m * own_P (t0 - (f0 + m)) = own_sum (fun j => ftm q0 q1 (Int32.ofNat j) f t) (f0 + m) := by
  intro m
  induction m with
  | zero =>
    intro hm0
    have z : ∀ k, k ≤ f0 → own_sum (fun j => ftm q0 q1 (Int32.ofNat j) f t) k = 0 := by
      intro k
      induction k with
      | zero => intro _; rfl
      | succ k ih =>
        intro hk
        show own_sum _ k + ftm q0 q1 (Int32.ofNat k) f t = 0
        have lt : Int32.ofNat k < f := by rw [Int32.lt_iff_toInt_lt, own_ofNat (by omega), hf]; omega
        rw [ih (by omega), ftm, if_pos lt]; rfl
    rw [Nat.add_zero, z f0 (Nat.le_refl _)]
    show (0 : Int64) * _ = 0
    exact Int64.zero_mul
  | succ m ih =>
    intro hm
    have ih' := ih (by omega)
    have hk : f0 + m < 18 := by omega
    have n1 : ¬ Int32.ofNat (f0 + m) < f := by rw [Int32.lt_iff_toInt_lt, own_ofNat (by omega), hf]; omega
    have n2 : Int32.ofNat (f0 + m) < t := by rw [Int32.lt_iff_toInt_lt, own_ofNat (by omega), ht]; omega
    have ix := own_sub1 (t := t) (i := Int32.ofNat (f0 + m)) ht (own_ofNat (by omega)) (by omega) h18
    have ep : own_p10 (t - 1 - Int32.ofNat (f0 + m)) = own_P (t0 - 1 - (f0 + m)) := by
      rw [own_ofI ix (by omega)]
      exact own_P18 ⟨t0 - 1 - (f0 + m), by omega⟩
    have eg : (own_g q0 q1 q2 q3 f t (f0 + m)).toInt64 = (48 : Int64) + (fdg q0 q1 (Int32.ofNat (f0 + m))).toInt64 := by
      rw [own_gat _ _ _ _ _ _ _ hk, own_atD n1 n2]
      apply Int64.toInt_inj.mp
      have h1 := own_48 q0 q1 (Int32.ofNat (f0 + m))
      have h2 := own_dgR q0 q1 (Int32.ofNat (f0 + m))
      have h3 := c_ladd 48 (fdg q0 q1 (Int32.ofNat (f0 + m))).toInt64
      have r := rng64 ((48 : Int64) + (fdg q0 q1 (Int32.ofNat (f0 + m))).toInt64)
      rw [c_i2l, h1]
      rw [c_i2l] at h3
      have k : (48 : Int64).toInt = 48 := by decide
      omega
    show ((own_val _ f0 m * (10 : Int64) + (own_g q0 q1 q2 q3 f t (f0 + m)).toInt64) - (48 : Int64)) * own_P (t0 - (f0 + (m + 1))) = own_sum _ (f0 + m) + ftm q0 q1 (Int32.ofNat (f0 + m)) f t
    rw [← ih', eg, ftm, if_neg n1, if_pos n2, ep, show t0 - (f0 + m) = (t0 - (f0 + (m + 1))) + 1 from by omega, show t0 - 1 - (f0 + m) = t0 - (f0 + (m + 1)) from by omega]
    show _ = own_val _ f0 m * (own_P (t0 - (f0 + (m + 1))) * 10) + _
    generalize own_val (own_g q0 q1 q2 q3 f t) f0 m = V
    generalize own_P (t0 - (f0 + (m + 1))) = P
    generalize (fdg q0 q1 (Int32.ofNat (f0 + m))).toInt64 = d
    have e1 : V * 10 + (48 + d) - 48 = V * 10 + d := by
      rw [Int64.add_comm 48 d, ← Int64.add_assoc, Int64.add_sub_cancel]
    rw [e1, Int64.add_mul, Int64.mul_assoc, Int64.mul_comm 10 P]
theorem own_tail (q0 q1 : Int64) (f t : Int32) (t0 : Nat) (ht : t.toInt = (t0 : Int)) : ∀ m : Nat, t0 + m ≤ 18 → own_sum (fun j => ftm q0 q1 (Int32.ofNat j) f t) (t0 + m) = own_sum (fun j => ftm q0 q1 (Int32.ofNat j) f t) t0 := by
  intro m
  induction m with
  | zero => intro _; rfl
  | succ m ih =>
    intro hm
    show own_sum _ (t0 + m) + ftm q0 q1 (Int32.ofNat (t0 + m)) f t = _
    have n2 : ¬ Int32.ofNat (t0 + m) < t := by rw [Int32.lt_iff_toInt_lt, own_ofNat (by omega), ht]; omega
    have z : ftm q0 q1 (Int32.ofNat (t0 + m)) f t = 0 := by
      rw [ftm]
      split
      · rfl
      · first | rfl | rw [if_neg n2]
    rw [ih (by omega), z, Int64.add_zero]
theorem own_final (q0 q1 q2 q3 : Int64) (f t : Int32) (f0 t0 : Nat) (hf : f.toInt = (f0 : Int)) (ht : t.toInt = (t0 : Int)) (hft : f0 ≤ t0) (h18 : t0 ≤ 18) :
    own_val (own_g q0 q1 q2 q3 f t) f0 (t0 - f0) = ((((((((((((((((((ftm q0 q1 (0 : Int32) f t) + (ftm q0 q1 (1 : Int32) f t)) + (ftm q0 q1 (2 : Int32) f t)) + (ftm q0 q1 (3 : Int32) f t)) + (ftm q0 q1 (4 : Int32) f t)) + (ftm q0 q1 (5 : Int32) f t)) + (ftm q0 q1 (6 : Int32) f t)) + (ftm q0 q1 (7 : Int32) f t)) + (ftm q0 q1 (8 : Int32) f t)) + (ftm q0 q1 (9 : Int32) f t)) + (ftm q0 q1 (10 : Int32) f t)) + (ftm q0 q1 (11 : Int32) f t)) + (ftm q0 q1 (12 : Int32) f t)) + (ftm q0 q1 (13 : Int32) f t)) + (ftm q0 q1 (14 : Int32) f t)) + (ftm q0 q1 (15 : Int32) f t)) + (ftm q0 q1 (16 : Int32) f t)) + (ftm q0 q1 (17 : Int32) f t)) := by
  have h1 := own_key q0 q1 q2 q3 f t f0 t0 hf ht h18 (t0 - f0) (by omega)
  have h2 := own_tail q0 q1 f t t0 ht (18 - t0) (by omega)
  rw [show f0 + (t0 - f0) = t0 from by omega, Nat.sub_self] at h1
  rw [show t0 + (18 - t0) = 18 from by omega] at h2
  have h3 : own_val (own_g q0 q1 q2 q3 f t) f0 (t0 - f0) * own_P 0 = own_val (own_g q0 q1 q2 q3 f t) f0 (t0 - f0) := Int64.mul_one _
  rw [h3, ← h2] at h1
  rw [h1]
  simp only [own_sum]
  rw [Int64.zero_add]
  rfl
theorem dva_0 : decode prog_20_method_3_code 0 = .ok (.lconst 0, 1) := by decide +kernel
theorem dva_1 : decode prog_20_method_3_code 1 = .ok (.lstore_n 3, 1) := by decide +kernel
theorem dva_2 : decode prog_20_method_3_code 2 = .ok (.iload_n 1, 1) := by decide +kernel
theorem dva_3 : decode prog_20_method_3_code 3 = .ok (.istore 5, 2) := by decide +kernel
theorem dva_5 : decode prog_20_method_3_code 5 = .ok (.iload 5, 2) := by decide +kernel
theorem dva_7 : decode prog_20_method_3_code 7 = .ok (.iload_n 2, 1) := by decide +kernel
theorem dva_8 : decode prog_20_method_3_code 8 = .ok (.if_icmp .ge 27, 3) := by decide +kernel
theorem dva_11 : decode prog_20_method_3_code 11 = .ok (.lload_n 3, 1) := by decide +kernel
theorem dva_12 : decode prog_20_method_3_code 12 = .ok (.ldc2_w 13, 3) := by decide +kernel
theorem dva_15 : decode prog_20_method_3_code 15 = .ok (.lmul, 1) := by decide +kernel
theorem dva_16 : decode prog_20_method_3_code 16 = .ok (.aload_n 0, 1) := by decide +kernel
theorem dva_17 : decode prog_20_method_3_code 17 = .ok (.iload 5, 2) := by decide +kernel
theorem dva_19 : decode prog_20_method_3_code 19 = .ok (.invokevirtual 7, 3) := by decide +kernel
theorem dva_22 : decode prog_20_method_3_code 22 = .ok (.i2l, 1) := by decide +kernel
theorem dva_23 : decode prog_20_method_3_code 23 = .ok (.ladd, 1) := by decide +kernel
theorem dva_24 : decode prog_20_method_3_code 24 = .ok (.ldc2_w 15, 3) := by decide +kernel
theorem dva_27 : decode prog_20_method_3_code 27 = .ok (.lsub, 1) := by decide +kernel
theorem dva_28 : decode prog_20_method_3_code 28 = .ok (.lstore_n 3, 1) := by decide +kernel
theorem dva_29 : decode prog_20_method_3_code 29 = .ok (.iinc 5 1, 3) := by decide +kernel
theorem dva_32 : decode prog_20_method_3_code 32 = .ok (.goto (-27), 3) := by decide +kernel
theorem dva_35 : decode prog_20_method_3_code 35 = .ok (.lload_n 3, 1) := by decide +kernel
theorem dva_36 : decode prog_20_method_3_code 36 = .ok (.lreturn, 1) := by decide +kernel
theorem pnva : plainName "com/example/fieldgate/fieldgate/record/Digits" = true := by first | (simp [plainName, overriddenIn]; done) | decide +kernel
theorem pdva_0 : parseMethodDescriptor "(I)C" = some ⟨[.int], some .char⟩ := by decide +kernel
theorem efva (m : MethodId) (a0 : Addr) (p1 : Int32) (p2 : Int32) : entryFrame m #[(.ref a0), (.int p1), (.int p2)] 6 = mkF m 0 #[.val (.ref a0), .val (.int p1), .val (.int p2), .unset, .unset, .unset] [] := by first | (simp [entryFrame, mkF, argsToLocals, Value.category]; done) | rfl
def Qva (Z : State) (a0 : Addr) (p1 : Int32) (p2 : Int32) (wc : Int32) (sx : Value) (b : Addr) (n : Nat) (g : Nat → Int32) (f0 : Nat) (t0 : Nat) (h0 : Heap) (n0 : Nat) (v : Option Value) (h : Heap) (L : List Loc) : Prop := v = some (.long (own_val g f0 (t0 - f0))) ∧ Fr n0 L ∧ h = h0
set_option maxRecDepth 65536 in
set_option maxHeartbeats 40000000 in
theorem rmva (l : Launch) (Z : State) (aa : Array Value) (hw : ∀ d ∈ tables_1, d.before aa Z = true) (ws : List Jvm.Cond) (a0 : Addr) (p1 : Int32) (p2 : Int32) (wc : Int32) (sx : Value) (b : Addr) (n : Nat) (g : Nat → Int32) (f0 : Nat) (t0 : Nat) (h0 : Heap) (n0 : Nat) (Z0 : n0 ≤ h0.size) (BW : OwnW Z wc sx) (O0 : Old Z n0 h0) (S_a0 : OwnStr Z h0 a0 b n g) (hn : n ≤ 4000) (hch : ∀ j, j < n → 0 ≤ (g j).toInt ∧ (g j).toInt < 65536) (hp1 : p1.toInt = (f0 : Int)) (hp2 : p2.toInt = (t0 : Int)) (hft : f0 ≤ t0) (htn : t0 ≤ n) :
    MetFree l (⟨"com/example/fieldgate/fieldgate/record/Digits", "value", "(Ljava/lang/String;II)J"⟩ : MethodName) (head1 (Jvm.Cond.code (⟨"com/example/fieldgate/fieldgate/record/Digits", "value", "(Ljava/lang/String;II)J"⟩ : MethodName) prog_20_method_3_code 6 (some .long) :: ws) ({ frames := 4, cells := 0, slots := 0, locals := 55 } : Room)) (fun a U => a = #[(.ref a0), (.int p1), (.int p2)] ∧ Z.Warmed39 U.vm ∧ U.heap = h0) (fun _ _ _ _ _ => True) (fun _ U o U' => ∃ v L, o = .returned v ∧ Qva Z a0 p1 p2 wc sx b n g f0 t0 h0 n0 v U'.heap L ∧ FrameEnd U o U' L ({ frames := 4, cells := 0, slots := 0, locals := 55 } : Room).cells ({ frames := 4, cells := 0, slots := 0, locals := 55 } : Room).slots) := by
  refine MetFree.of_bodySF (plainFor_of_name pnva) hisR ?_
  intro p e s m args below meth c s₁ Bd hml0 hP hK
  obtain ⟨rfl, hZ, hh⟩ := hP
  have hx := Bd.exec
  have hby := Bd.bytes
  have hml : c.maxLocals = 6 := hml0
  have hown : s.vm.findClass "com/example/fieldgate/fieldgate/record/Digits" = some m.cls := findClass_of_methodNamed Bd.named
  have hnm := (name_of_methodNamed Bd.named Bd.method).1
  have X0 : Stand p l e ({ frames := 4, cells := 0, slots := 0, locals := 55 } : Room) s m #[(.ref a0), (.int p1), (.int p2)] below meth c s₁ [] 0 0 := Stand.of_body Bd
  have e0 : s₁.heap = h0 := by rw [← hh, Bd.state]; rfl
  have N0 := Fr.nil n0
  show OwnEnd p e below s (fun v h L => Qva Z a0 p1 p2 wc sx b n g f0 t0 h0 n0 v h L) ({ frames := 4, cells := 0, slots := 0, locals := 55 } : Room).cells ({ frames := 4, cells := 0, slots := 0, locals := 55 } : Room).slots (s₁.setTop (entryFrame m #[(.ref a0), (.int p1), (.int p2)] 6))
  rw [efva m a0 p1 p2]
  generalize hW : OwnEnd p e below s (fun v h L => Qva Z a0 p1 p2 wc sx b n g f0 t0 h0 n0 v h L) ({ frames := 4, cells := 0, slots := 0, locals := 55 } : Room).cells ({ frames := 4, cells := 0, slots := 0, locals := 55 } : Room).slots = W
  have stp : ∀ {A B : State}, (∀ t, Steps p.tables e below B t → Steps p.tables e below A t) → W B → W A := by subst hW; exact own_step
  obtain ⟨S_cs, hcs, S_si, hr_sx⟩ := id BW
  show W (s₁.setTop (mkF m 0 #[.val (.ref a0), .val (.int p1), .val (.int p2), .unset, .unset, .unset] []))
  refine stp (fun t k => XS.lconst X0.here hx rfl (hb hby dva_0) k) ?_
  show W (s₁.setTop (mkF m 1 #[.val (.ref a0), .val (.int p1), .val (.int p2), .unset, .unset, .unset] [(.long (0 : Int64))]))
  refine stp (fun t k => XS.lstoreN X0.here hx rfl (hb hby dva_1) rfl (l' := #[.val (.ref a0), .val (.int p1), .val (.int p2), .val (.long (0 : Int64)), .second, .unset]) rfl k) ?_
  show W (s₁.setTop (mkF m 2 #[.val (.ref a0), .val (.int p1), .val (.int p2), .val (.long (0 : Int64)), .second, .unset] []))
  refine stp (fun t k => XS.iloadN X0.here hx rfl (hb hby dva_2) rfl k) ?_
  show W (s₁.setTop (mkF m 3 #[.val (.ref a0), .val (.int p1), .val (.int p2), .val (.long (0 : Int64)), .second, .unset] [(.int p1)]))
  refine stp (fun t k => XS.istore X0.here hx rfl (hb hby dva_3) rfl (l' := #[.val (.ref a0), .val (.int p1), .val (.int p2), .val (.long (0 : Int64)), .second, .val (.int p1)]) rfl k) ?_
  have LP : ∀ (r i : Nat) (z3 : Int64) (x : Int32) (T' : State) (lc : List Loc) (h' : Heap) (hir : i + r = t0) (hx5 : x.toInt = (i : Int)) (hz3 : z3 = own_val g f0 (i - f0)) (hfi : f0 ≤ i) (hh : h' = h0) (XL : Stand p l e ({ frames := 4, cells := 0, slots := 0, locals := 55 } : Room) s m #[(.ref a0), (.int p1), (.int p2)] below meth c T' lc 0 0) (eL : T'.heap = h') (NL : Fr n0 lc) (KL : Keep h0 h' []) (OL : Old Z n0 h') (S_a0 : OwnStr Z h' a0 b n g), W (T'.setTop (mkF m 5 #[.val (.ref a0), .val (.int p1), .val (.int p2), .val (.long z3), .second, .val (.int x)] [])) := by
    intro r
    induction r with
    | zero =>
      intro i z3 x T' lc h' hir hx5 hz3 hfi hh XL eL NL KL OL S_a0
      have ZL : n0 ≤ h'.size := Nat.le_trans Z0 KL.1
      show W (T'.setTop (mkF m 5 #[.val (.ref a0), .val (.int p1), .val (.int p2), .val (.long z3), .second, .val (.int x)] []))
      refine stp (fun t k => XS.iload XL.here hx rfl (hb hby dva_5) rfl k) ?_
      show W (T'.setTop (mkF m 7 #[.val (.ref a0), .val (.int p1), .val (.int p2), .val (.long z3), .second, .val (.int x)] [(.int x)]))
      refine stp (fun t k => XS.iloadN XL.here hx rfl (hb hby dva_7) rfl k) ?_
      show W (T'.setTop (mkF m 8 #[.val (.ref a0), .val (.int p1), .val (.int p2), .val (.long z3), .second, .val (.int x)] [(.int p2), (.int x)]))
      refine stp (fun t k => XS.icmpYes XL.here hx rfl (pc0 := 8) (pc' := 35) rfl (hb hby dva_8) rfl ((flt (fun q => by have := (own_lt32 hx5 hp2).mp q; omega)).2.1) (by decide) (by decide) k) ?_
      show W (T'.setTop (mkF m 35 #[.val (.ref a0), .val (.int p1), .val (.int p2), .val (.long z3), .second, .val (.int x)] []))
      refine stp (fun t k => XS.lloadN XL.here hx rfl (hb hby dva_35) rfl k) ?_
      show W (T'.setTop (mkF m 36 #[.val (.ref a0), .val (.int p1), .val (.int p2), .val (.long z3), .second, .val (.int x)] [(.long z3)]))
      show W (T'.setTop (mkF m 36 #[.val (.ref a0), .val (.int p1), .val (.int p2), .val (.long z3), .second, .val (.int x)] [(.long z3)]))
      rw [← hW]
      exact own_retJ XL hx Bd.notSynchronized Bd.returns (hb hby dva_36) (by show Qva Z a0 p1 p2 wc sx b n g f0 t0 h0 n0 _ T'.heap _; rw [eL]; exact ⟨(by obtain rfl : i = t0 := (by omega); rw [hz3]), NL, hh⟩) (by decide) (by decide)
    | succ r ih =>
      intro i z3 x T' lc h' hir hx5 hz3 hfi hh XL eL NL KL OL S_a0
      have ZL : n0 ≤ h'.size := Nat.le_trans Z0 KL.1
      show W (T'.setTop (mkF m 5 #[.val (.ref a0), .val (.int p1), .val (.int p2), .val (.long z3), .second, .val (.int x)] []))
      refine stp (fun t k => XS.iload XL.here hx rfl (hb hby dva_5) rfl k) ?_
      show W (T'.setTop (mkF m 7 #[.val (.ref a0), .val (.int p1), .val (.int p2), .val (.long z3), .second, .val (.int x)] [(.int x)]))
      refine stp (fun t k => XS.iloadN XL.here hx rfl (hb hby dva_7) rfl k) ?_
      show W (T'.setTop (mkF m 8 #[.val (.ref a0), .val (.int p1), .val (.int p2), .val (.long z3), .second, .val (.int x)] [(.int p2), (.int x)]))
      refine stp (fun t k => XS.icmpNo XL.here hx rfl (hb hby dva_8) rfl ((tlt ((own_lt32 hx5 hp2).mpr (by omega))).2.1) k) ?_
      show W (T'.setTop (mkF m 11 #[.val (.ref a0), .val (.int p1), .val (.int p2), .val (.long z3), .second, .val (.int x)] []))
      refine stp (fun t k => XS.lloadN XL.here hx rfl (hb hby dva_11) rfl k) ?_
      show W (T'.setTop (mkF m 12 #[.val (.ref a0), .val (.int p1), .val (.int p2), .val (.long z3), .second, .val (.int x)] [(.long z3)]))
      refine stp (fun t k => XL.ldc2Long hx hown (mvT hZ (hw _ (List.mem_of_getElem? (i := 71) rfl))) (g := (mkF m 12 #[.val (.ref a0), .val (.int p1), .val (.int p2), .val (.long z3), .second, .val (.int x)] [(.long z3)])) rfl (hb hby dva_12) _ k) ?_
      show W (T'.setTop (mkF m 15 #[.val (.ref a0), .val (.int p1), .val (.int p2), .val (.long z3), .second, .val (.int x)] [(.long (10 : Int64)), (.long z3)]))
      refine stp (fun t k => XS.lmul XL.here hx rfl (hb hby dva_15) rfl k) ?_
      show W (T'.setTop (mkF m 16 #[.val (.ref a0), .val (.int p1), .val (.int p2), .val (.long z3), .second, .val (.int x)] [(.long (z3 * (10 : Int64)))]))
      refine stp (fun t k => XS.aloadN XL.here hx rfl (hb hby dva_16) rfl rfl k) ?_
      show W (T'.setTop (mkF m 17 #[.val (.ref a0), .val (.int p1), .val (.int p2), .val (.long z3), .second, .val (.int x)] [(.ref a0), (.long (z3 * (10 : Int64)))]))
      refine stp (fun t k => XS.iload XL.here hx rfl (hb hby dva_17) rfl k) ?_
      show W (T'.setTop (mkF m 19 #[.val (.ref a0), .val (.int p1), .val (.int p2), .val (.long z3), .second, .val (.int x)] [(.int x), (.ref a0), (.long (z3 * (10 : Int64)))]))
      obtain ⟨cqvac1, kqvac1, qvac1a, qvac1b, qvac1c⟩ := isOf hZ eL S_a0.1
      obtain ⟨_, _, ⟨Tvac1, Lvac1, kvac1, nvac1⟩, -, Xvac1, ⟨Lcvac1, hQvac1, lvac1, yvac1, zvac1⟩, stvac1⟩ := XL.virtualBack hx (y := (⟨"java/lang/String", "charAt", "(I)C"⟩ : MethodName)) (z := (⟨"java/lang/String", "charAt", "(I)C"⟩ : MethodName)) hown (mvT hZ (hw _ (List.mem_of_getElem? (i := 72) rfl))) (mvT hZ (hw _ (List.mem_of_getElem? (i := 73) rfl))) (notFace_of_selects (args := #[]) (mvT hZ (hw _ (List.mem_of_getElem? (i := 75) rfl)))) (mvT hZ (hw _ (List.mem_of_getElem? (i := 75) rfl))) (mvT hZ (hw _ (List.mem_of_getElem? (i := 74) rfl))) (by decide) (backOf (W := 2) (rmcA l Z aa hw [] a0 x wc sx b n g i h' n0 ZL BW OL S_a0 hn hch hx5 (by omega)) hZ (hw _ (List.mem_of_getElem? (i := 76) rfl)) (hw _ (List.mem_of_getElem? (i := 12) rfl)) (by decide) (by decide)) qvac1a qvac1c (g := (mkF m 19 #[.val (.ref a0), .val (.int p1), .val (.int p2), .val (.long z3), .second, .val (.int x)] [(.int x), (.ref a0), (.long (z3 * (10 : Int64)))])) rfl (by rw [hml]; rfl) (Steps.refl _) (argsL := [(.int x)]) (rest := [(.long (z3 * (10 : Int64)))]) (lenOf pdva_0 rfl) rfl (by show 2 * 0 + _ ≤ _; exact Nat.le_of_eq rfl) (hb hby dva_19) (fun _ _ => ⟨rfl, eL, (by decide : 0 + 0 ≤ _), (by decide : 0 + 0 ≤ _)⟩)
      dsimp only [Pt.U, Pt.locs, Pt.cells, Pt.slots] at Xvac1 lvac1 yvac1 zvac1 stvac1 hQvac1
      subst lvac1 yvac1 zvac1
      obtain ⟨rfl, Nvac1q, evac1⟩ := hQvac1
      have Nvac1 := Fr.app NL Nvac1q
      obtain ⟨lcvat2, Xvac1, Nvac1⟩ : ∃ lc, Stand p l e ({ frames := 4, cells := 0, slots := 0, locals := 55 } : Room) s m #[(.ref a0), (.int p1), (.int p2)] below meth c Tvac1 lc 0 0 ∧ Fr n0 lc := ⟨_, Xvac1, Nvac1⟩
      refine stp (fun t k => stvac1.trans k) ?_
      show W (Tvac1.setTop (mkF m 22 #[.val (.ref a0), .val (.int p1), .val (.int p2), .val (.long z3), .second, .val (.int x)] [(.int (g i)), (.long (z3 * (10 : Int64)))]))
      refine stp (fun t k => XS.i2l Xvac1.here hx rfl (hb hby dva_22) rfl k) ?_
      show W (Tvac1.setTop (mkF m 23 #[.val (.ref a0), .val (.int p1), .val (.int p2), .val (.long z3), .second, .val (.int x)] [(.long ((g i).toInt64)), (.long (z3 * (10 : Int64)))]))
      refine stp (fun t k => XS.ladd Xvac1.here hx rfl (hb hby dva_23) rfl k) ?_
      show W (Tvac1.setTop (mkF m 24 #[.val (.ref a0), .val (.int p1), .val (.int p2), .val (.long z3), .second, .val (.int x)] [(.long ((z3 * (10 : Int64)) + ((g i).toInt64)))]))
      refine stp (fun t k => Xvac1.ldc2Long hx hown (mvT hZ (hw _ (List.mem_of_getElem? (i := 94) rfl))) (g := (mkF m 24 #[.val (.ref a0), .val (.int p1), .val (.int p2), .val (.long z3), .second, .val (.int x)] [(.long ((z3 * (10 : Int64)) + ((g i).toInt64)))])) rfl (hb hby dva_24) _ k) ?_
      show W (Tvac1.setTop (mkF m 27 #[.val (.ref a0), .val (.int p1), .val (.int p2), .val (.long z3), .second, .val (.int x)] [(.long (48 : Int64)), (.long ((z3 * (10 : Int64)) + ((g i).toInt64)))]))
      refine stp (fun t k => XS.lsub Xvac1.here hx rfl (hb hby dva_27) rfl k) ?_
      show W (Tvac1.setTop (mkF m 28 #[.val (.ref a0), .val (.int p1), .val (.int p2), .val (.long z3), .second, .val (.int x)] [(.long (((z3 * (10 : Int64)) + ((g i).toInt64)) - (48 : Int64)))]))
      refine stp (fun t k => XS.lstoreN Xvac1.here hx rfl (hb hby dva_28) rfl (l' := #[.val (.ref a0), .val (.int p1), .val (.int p2), .val (.long (((z3 * (10 : Int64)) + ((g i).toInt64)) - (48 : Int64))), .second, .val (.int x)]) rfl k) ?_
      show W (Tvac1.setTop (mkF m 29 #[.val (.ref a0), .val (.int p1), .val (.int p2), .val (.long (((z3 * (10 : Int64)) + ((g i).toInt64)) - (48 : Int64))), .second, .val (.int x)] []))
      refine stp (fun t k => XS.iinc Xvac1.here hx rfl (hb hby dva_29) rfl (l' := #[.val (.ref a0), .val (.int p1), .val (.int p2), .val (.long (((z3 * (10 : Int64)) + ((g i).toInt64)) - (48 : Int64))), .second, .val (.int (x + (1 : Int32)))]) rfl k) ?_
      show W (Tvac1.setTop (mkF m 32 #[.val (.ref a0), .val (.int p1), .val (.int p2), .val (.long (((z3 * (10 : Int64)) + ((g i).toInt64)) - (48 : Int64))), .second, .val (.int (x + (1 : Int32)))] []))
      refine stp (fun t k => XS.goto Xvac1.here hx rfl (pc0 := 32) (pc' := 5) rfl (hb hby dva_32) (by decide) (by decide) k) ?_
      exact ih (i + 1) _ _ _ _ _ (by omega) (own_inc hx5 (by omega)) (by rw [own_valS hfi, ← hz3]) (by omega) hh Xvac1 evac1 Nvac1 KL OL S_a0
  exact LP (t0 - f0) f0 _ _ _ _ _ (by omega) hp1 (by rw [Nat.sub_self]; rfl) (Nat.le_refl _) rfl X0 e0 N0 (Keep.refl h0 []) O0 S_a0
theorem pn0 : plainName "com/example/fieldgate/fieldgate/record/DigitsValuePinLaw" = true := by first | (simp [plainName, overriddenIn]; done) | decide +kernel
theorem pd0_0 : parseMethodDescriptor "(JJJJIII)C" = some ⟨[.long, .long, .long, .long, .int, .int, .int], some .char⟩ := by decide +kernel
theorem pd0_1 : parseMethodDescriptor "([C)V" = some ⟨[(.array .char)], none⟩ := by decide +kernel
theorem pd0_2 : parseMethodDescriptor "(JJIII)J" = some ⟨[.long, .long, .int, .int, .int], some .long⟩ := by decide +kernel
theorem pd0_3 : parseMethodDescriptor "(Ljava/lang/String;II)J" = some ⟨[(.object "java/lang/String"), .int, .int], some .long⟩ := by decide +kernel
theorem ef0 (m : MethodId) (q0 : Int64) (q1 : Int64) (q2 : Int64) (q3 : Int64) (p4 : Int32) (p5 : Int32) : entryFrame m #[(.long q0), (.long q1), (.long q2), (.long q3), (.int p4), (.int p5)] maxLocals = mkF m 0 #[.val (.long q0), .second, .val (.long q1), .second, .val (.long q2), .second, .val (.long q3), .second, .val (.int p4), .val (.int p5), .unset, .unset, .unset, .unset, .unset, .unset] [] := by first | (simp [entryFrame, mkF, argsToLocals, Value.category, maxLocals]; done) | rfl
theorem own_0_22_2 (q0 : Int64) (q1 : Int64) (q2 : Int64) (q3 : Int64) (p4 : Int32) (p5 : Int32) (wc : Int32) (sx : Value)  : ¬ (((19 : Int32) - ((p4 &&& (2147483647 : Int32)) % (19 : Int32))) = (0 : Int32)) := own_nzt p4
def Q0 (Z : State) (q0 : Int64) (q1 : Int64) (q2 : Int64) (q3 : Int64) (p4 : Int32) (p5 : Int32) (wc : Int32) (sx : Value) (h0 : Heap) (n0 : Nat) (v : Option Value) (h : Heap) (L : List Loc) : Prop := v = some (.int (1 : Int32)) ∧ Fr n0 L
set_option maxRecDepth 65536 in
set_option maxHeartbeats 40000000 in
theorem rm0 (l : Launch) (Z : State) (aa : Array Value) (hw : ∀ d ∈ tables_1, d.before aa Z = true) (ws : List Jvm.Cond) (q0 : Int64) (q1 : Int64) (q2 : Int64) (q3 : Int64) (p4 : Int32) (p5 : Int32) (wc : Int32) (sx : Value) (h0 : Heap) (n0 : Nat) (Z0 : n0 ≤ h0.size) (BW : OwnW Z wc sx) (O0 : Old Z n0 h0) :
    MetFree l x (head1 (Jvm.Cond.code x code maxLocals ret :: ws) room_1) (fun a U => a = #[(.long q0), (.long q1), (.long q2), (.long q3), (.int p4), (.int p5)] ∧ Z.Warmed39 U.vm ∧ U.heap = h0) (fun _ _ _ _ _ => True) (fun _ U o U' => ∃ v L, o = .returned v ∧ Q0 Z q0 q1 q2 q3 p4 p5 wc sx h0 n0 v U'.heap L ∧ FrameEnd U o U' L room_1.cells room_1.slots) := by
  refine MetFree.of_bodySF (plainFor_of_name pn0) hisR ?_
  intro p e s m args below meth c s₁ Bd hml0 hP hK
  obtain ⟨rfl, hZ, hh⟩ := hP
  have hx := Bd.exec
  have hby := Bd.bytes
  have hml : c.maxLocals = 16 := hml0
  have hown : s.vm.findClass "com/example/fieldgate/fieldgate/record/DigitsValuePinLaw" = some m.cls := findClass_of_methodNamed Bd.named
  have hnm := (name_of_methodNamed Bd.named Bd.method).1
  have X0 : Stand p l e room_1 s m #[(.long q0), (.long q1), (.long q2), (.long q3), (.int p4), (.int p5)] below meth c s₁ [] 0 0 := Stand.of_body Bd
  have e0 : s₁.heap = h0 := by rw [← hh, Bd.state]; rfl
  have N0 := Fr.nil n0
  show OwnEnd p e below s (fun v h L => Q0 Z q0 q1 q2 q3 p4 p5 wc sx h0 n0 v h L) room_1.cells room_1.slots (s₁.setTop (entryFrame m #[(.long q0), (.long q1), (.long q2), (.long q3), (.int p4), (.int p5)] maxLocals))
  rw [ef0 m q0 q1 q2 q3 p4 p5]
  generalize hW : OwnEnd p e below s (fun v h L => Q0 Z q0 q1 q2 q3 p4 p5 wc sx h0 n0 v h L) room_1.cells room_1.slots = W
  have stp : ∀ {A B : State}, (∀ t, Steps p.tables e below B t → Steps p.tables e below A t) → W B → W A := by subst hW; exact own_step
  obtain ⟨S_cs, hcs, S_si, hr_sx⟩ := id BW
  show W (s₁.setTop (mkF m 0 #[.val (.long q0), .second, .val (.long q1), .second, .val (.long q2), .second, .val (.long q3), .second, .val (.int p4), .val (.int p5), .unset, .unset, .unset, .unset, .unset, .unset] []))
  refine stp (fun t k => XS.iload X0.here hx rfl (hb hby at_0) rfl k) ?_
  show W (s₁.setTop (mkF m 2 #[.val (.long q0), .second, .val (.long q1), .second, .val (.long q2), .second, .val (.long q3), .second, .val (.int p4), .val (.int p5), .unset, .unset, .unset, .unset, .unset, .unset] [(.int p4)]))
  refine stp (fun t k => X0.ldcInt hx hown (mvT hZ (hw _ (List.mem_of_getElem? (i := 0) rfl))) (g := (mkF m 2 #[.val (.long q0), .second, .val (.long q1), .second, .val (.long q2), .second, .val (.long q3), .second, .val (.int p4), .val (.int p5), .unset, .unset, .unset, .unset, .unset, .unset] [(.int p4)])) rfl (hb hby at_2) _ k) ?_
  show W (s₁.setTop (mkF m 4 #[.val (.long q0), .second, .val (.long q1), .second, .val (.long q2), .second, .val (.long q3), .second, .val (.int p4), .val (.int p5), .unset, .unset, .unset, .unset, .unset, .unset] [(.int (2147483647 : Int32)), (.int p4)]))
  refine stp (fun t k => XS.iand X0.here hx rfl (hb hby at_4) rfl k) ?_
  show W (s₁.setTop (mkF m 5 #[.val (.long q0), .second, .val (.long q1), .second, .val (.long q2), .second, .val (.long q3), .second, .val (.int p4), .val (.int p5), .unset, .unset, .unset, .unset, .unset, .unset] [(.int (p4 &&& (2147483647 : Int32)))]))
  refine stp (fun t k => XS.bipush X0.here hx rfl (hb hby at_5) k) ?_
  show W (s₁.setTop (mkF m 7 #[.val (.long q0), .second, .val (.long q1), .second, .val (.long q2), .second, .val (.long q3), .second, .val (.int p4), .val (.int p5), .unset, .unset, .unset, .unset, .unset, .unset] [(.int (19 : Int32)), (.int (p4 &&& (2147483647 : Int32)))]))
  refine stp (fun t k => iremM X0 hx rfl (hb hby at_7) rfl (by decide) k) ?_
  show W (s₁.setTop (mkF m 8 #[.val (.long q0), .second, .val (.long q1), .second, .val (.long q2), .second, .val (.long q3), .second, .val (.int p4), .val (.int p5), .unset, .unset, .unset, .unset, .unset, .unset] [(.int ((p4 &&& (2147483647 : Int32)) % (19 : Int32)))]))
  refine stp (fun t k => XS.istore X0.here hx rfl (hb hby at_8) rfl (l' := #[.val (.long q0), .second, .val (.long q1), .second, .val (.long q2), .second, .val (.long q3), .second, .val (.int p4), .val (.int p5), .val (.int ((p4 &&& (2147483647 : Int32)) % (19 : Int32))), .unset, .unset, .unset, .unset, .unset]) rfl k) ?_
  show W (s₁.setTop (mkF m 10 #[.val (.long q0), .second, .val (.long q1), .second, .val (.long q2), .second, .val (.long q3), .second, .val (.int p4), .val (.int p5), .val (.int ((p4 &&& (2147483647 : Int32)) % (19 : Int32))), .unset, .unset, .unset, .unset, .unset] []))
  generalize hu0_1 : ((p4 &&& (2147483647 : Int32)) % (19 : Int32)) = u0_1
  show W (s₁.setTop (mkF m 10 #[.val (.long q0), .second, .val (.long q1), .second, .val (.long q2), .second, .val (.long q3), .second, .val (.int p4), .val (.int p5), .val (.int u0_1), .unset, .unset, .unset, .unset, .unset] []))
  refine stp (fun t k => XS.iload X0.here hx rfl (hb hby at_10) rfl k) ?_
  show W (s₁.setTop (mkF m 12 #[.val (.long q0), .second, .val (.long q1), .second, .val (.long q2), .second, .val (.long q3), .second, .val (.int p4), .val (.int p5), .val (.int u0_1), .unset, .unset, .unset, .unset, .unset] [(.int u0_1)]))
  refine stp (fun t k => XS.iload X0.here hx rfl (hb hby at_12) rfl k) ?_
  show W (s₁.setTop (mkF m 14 #[.val (.long q0), .second, .val (.long q1), .second, .val (.long q2), .second, .val (.long q3), .second, .val (.int p4), .val (.int p5), .val (.int u0_1), .unset, .unset, .unset, .unset, .unset] [(.int p5), (.int u0_1)]))
  refine stp (fun t k => X0.ldcInt hx hown (mvT hZ (hw _ (List.mem_of_getElem? (i := 0) rfl))) (g := (mkF m 14 #[.val (.long q0), .second, .val (.long q1), .second, .val (.long q2), .second, .val (.long q3), .second, .val (.int p4), .val (.int p5), .val (.int u0_1), .unset, .unset, .unset, .unset, .unset] [(.int p5), (.int u0_1)])) rfl (hb hby at_14) _ k) ?_
  show W (s₁.setTop (mkF m 16 #[.val (.long q0), .second, .val (.long q1), .second, .val (.long q2), .second, .val (.long q3), .second, .val (.int p4), .val (.int p5), .val (.int u0_1), .unset, .unset, .unset, .unset, .unset] [(.int (2147483647 : Int32)), (.int p5), (.int u0_1)]))
  refine stp (fun t k => XS.iand X0.here hx rfl (hb hby at_16) rfl k) ?_
  show W (s₁.setTop (mkF m 17 #[.val (.long q0), .second, .val (.long q1), .second, .val (.long q2), .second, .val (.long q3), .second, .val (.int p4), .val (.int p5), .val (.int u0_1), .unset, .unset, .unset, .unset, .unset] [(.int (p5 &&& (2147483647 : Int32))), (.int u0_1)]))
  refine stp (fun t k => XS.bipush X0.here hx rfl (hb hby at_17) k) ?_
  show W (s₁.setTop (mkF m 19 #[.val (.long q0), .second, .val (.long q1), .second, .val (.long q2), .second, .val (.long q3), .second, .val (.int p4), .val (.int p5), .val (.int u0_1), .unset, .unset, .unset, .unset, .unset] [(.int (19 : Int32)), (.int (p5 &&& (2147483647 : Int32))), (.int u0_1)]))
  refine stp (fun t k => XS.iload X0.here hx rfl (hb hby at_19) rfl k) ?_
  show W (s₁.setTop (mkF m 21 #[.val (.long q0), .second, .val (.long q1), .second, .val (.long q2), .second, .val (.long q3), .second, .val (.int p4), .val (.int p5), .val (.int u0_1), .unset, .unset, .unset, .unset, .unset] [(.int u0_1), (.int (19 : Int32)), (.int (p5 &&& (2147483647 : Int32))), (.int u0_1)]))
  refine stp (fun t k => XS.isub X0.here hx rfl (hb hby at_21) rfl k) ?_
  show W (s₁.setTop (mkF m 22 #[.val (.long q0), .second, .val (.long q1), .second, .val (.long q2), .second, .val (.long q3), .second, .val (.int p4), .val (.int p5), .val (.int u0_1), .unset, .unset, .unset, .unset, .unset] [(.int ((19 : Int32) - u0_1)), (.int (p5 &&& (2147483647 : Int32))), (.int u0_1)]))
  refine stp (fun t k => iremM X0 hx rfl (hb hby at_22) rfl ((by subst hu0_1; exact own_0_22_2 q0 q1 q2 q3 p4 p5 wc sx )) k) ?_
  show W (s₁.setTop (mkF m 23 #[.val (.long q0), .second, .val (.long q1), .second, .val (.long q2), .second, .val (.long q3), .second, .val (.int p4), .val (.int p5), .val (.int u0_1), .unset, .unset, .unset, .unset, .unset] [(.int ((p5 &&& (2147483647 : Int32)) % ((19 : Int32) - u0_1))), (.int u0_1)]))
  refine stp (fun t k => XS.iadd X0.here hx rfl (hb hby at_23) rfl k) ?_
  show W (s₁.setTop (mkF m 24 #[.val (.long q0), .second, .val (.long q1), .second, .val (.long q2), .second, .val (.long q3), .second, .val (.int p4), .val (.int p5), .val (.int u0_1), .unset, .unset, .unset, .unset, .unset] [(.int (u0_1 + ((p5 &&& (2147483647 : Int32)) % ((19 : Int32) - u0_1))))]))
  refine stp (fun t k => XS.istore X0.here hx rfl (hb hby at_24) rfl (l' := #[.val (.long q0), .second, .val (.long q1), .second, .val (.long q2), .second, .val (.long q3), .second, .val (.int p4), .val (.int p5), .val (.int u0_1), .val (.int (u0_1 + ((p5 &&& (2147483647 : Int32)) % ((19 : Int32) - u0_1)))), .unset, .unset, .unset, .unset]) rfl k) ?_
  show W (s₁.setTop (mkF m 26 #[.val (.long q0), .second, .val (.long q1), .second, .val (.long q2), .second, .val (.long q3), .second, .val (.int p4), .val (.int p5), .val (.int u0_1), .val (.int (u0_1 + ((p5 &&& (2147483647 : Int32)) % ((19 : Int32) - u0_1)))), .unset, .unset, .unset, .unset] []))
  generalize hu0_3 : (u0_1 + ((p5 &&& (2147483647 : Int32)) % ((19 : Int32) - u0_1))) = u0_3
  show W (s₁.setTop (mkF m 26 #[.val (.long q0), .second, .val (.long q1), .second, .val (.long q2), .second, .val (.long q3), .second, .val (.int p4), .val (.int p5), .val (.int u0_1), .val (.int u0_3), .unset, .unset, .unset, .unset] []))
  obtain ⟨f0, t0, hf, ht, hft, ht18n⟩ : ∃ f0 t0 : Nat, u0_1.toInt = (f0 : Int) ∧ u0_3.toInt = (t0 : Int) ∧ f0 ≤ t0 ∧ t0 ≤ 18 := by subst hu0_1; subst hu0_3; exact own_ft p4 p5
  have hf0 : 0 ≤ u0_1.toInt := by rw [hf]; exact Int.natCast_nonneg _
  have ht18 : u0_3.toInt ≤ 18 := by rw [ht]; exact Int.ofNat_le.mpr ht18n
  show W (s₁.setTop (mkF m 26 #[.val (.long q0), .second, .val (.long q1), .second, .val (.long q2), .second, .val (.long q3), .second, .val (.int p4), .val (.int p5), .val (.int u0_1), .val (.int u0_3), .unset, .unset, .unset, .unset] []))
  refine stp (fun t k => XS.bipush X0.here hx rfl (hb hby at_26) k) ?_
  show W (s₁.setTop (mkF m 28 #[.val (.long q0), .second, .val (.long q1), .second, .val (.long q2), .second, .val (.long q3), .second, .val (.int p4), .val (.int p5), .val (.int u0_1), .val (.int u0_3), .unset, .unset, .unset, .unset] [(.int (18 : Int32))]))
  obtain ⟨T04, h04, k04, X04, e04, E04, A04, st04⟩ := newP X0 hx hZ (hw _ (List.mem_of_getElem? (i := 1) rfl)) e0 (g := (mkF m 28 #[.val (.long q0), .second, .val (.long q1), .second, .val (.long q2), .second, .val (.long q3), .second, .val (.int p4), .val (.int p5), .val (.int u0_1), .val (.int u0_3), .unset, .unset, .unset, .unset] [(.int (18 : Int32))])) rfl (hb hby at_28) rfl (by decide) (cap := 18) (by decide) (by decide) (by decide) (by decide)
  obtain ⟨b04, gq04⟩ : ∃ z, z = h0.size := ⟨_, rfl⟩
  rw [← gq04] at A04 st04
  have g_b04 : n0 ≤ b04 := Nat.le_trans Z0 (Nat.le_of_eq gq04.symm)
  have sz_b04 : h0.size ≤ b04 := Nat.le_trans (Keep.refl h0 []).1 (Nat.le_of_eq gq04.symm)
  have K04 := (Keep.refl h0 []).ext E04
  have Z04 := Nat.le_trans Z0 E04.1
  have O04 := O0.ext E04
  have V_b04 : Arv Z h04 b04 k04 .char (18 : Int32) [(.int (0 : Int32)), (.int (0 : Int32)), (.int (0 : Int32)), (.int (0 : Int32)), (.int (0 : Int32)), (.int (0 : Int32)), (.int (0 : Int32)), (.int (0 : Int32)), (.int (0 : Int32)), (.int (0 : Int32)), (.int (0 : Int32)), (.int (0 : Int32)), (.int (0 : Int32)), (.int (0 : Int32)), (.int (0 : Int32)), (.int (0 : Int32)), (.int (0 : Int32)), (.int (0 : Int32))] (.int (0 : Int32)) := (Arv.new A04 (by decide)).pad (pad_rep [] (.int (0 : Int32)) 18)
  refine stp (fun t k => st04 t k) ?_
  show W (T04.setTop (mkF m 30 #[.val (.long q0), .second, .val (.long q1), .second, .val (.long q2), .second, .val (.long q3), .second, .val (.int p4), .val (.int p5), .val (.int u0_1), .val (.int u0_3), .unset, .unset, .unset, .unset] [(.ref b04)]))
  refine stp (fun t k => XS.astore X04.here hx rfl (hb hby at_30) rfl rfl (l' := #[.val (.long q0), .second, .val (.long q1), .second, .val (.long q2), .second, .val (.long q3), .second, .val (.int p4), .val (.int p5), .val (.int u0_1), .val (.int u0_3), .val (.ref b04), .unset, .unset, .unset]) rfl k) ?_
  show W (T04.setTop (mkF m 32 #[.val (.long q0), .second, .val (.long q1), .second, .val (.long q2), .second, .val (.long q3), .second, .val (.int p4), .val (.int p5), .val (.int u0_1), .val (.int u0_3), .val (.ref b04), .unset, .unset, .unset] []))
  refine stp (fun t k => XS.aload X04.here hx rfl (hb hby at_32) rfl rfl k) ?_
  show W (T04.setTop (mkF m 34 #[.val (.long q0), .second, .val (.long q1), .second, .val (.long q2), .second, .val (.long q3), .second, .val (.int p4), .val (.int p5), .val (.int u0_1), .val (.int u0_3), .val (.ref b04), .unset, .unset, .unset] [(.ref b04)]))
  refine stp (fun t k => XS.iconst X04.here hx rfl (hb hby at_34) k) ?_
  show W (T04.setTop (mkF m 35 #[.val (.long q0), .second, .val (.long q1), .second, .val (.long q2), .second, .val (.long q3), .second, .val (.int p4), .val (.int p5), .val (.int u0_1), .val (.int u0_3), .val (.ref b04), .unset, .unset, .unset] [(.int (0 : Int32)), (.ref b04)]))
  refine stp (fun t k => XS.lloadN X04.here hx rfl (hb hby at_35) rfl k) ?_
  show W (T04.setTop (mkF m 36 #[.val (.long q0), .second, .val (.long q1), .second, .val (.long q2), .second, .val (.long q3), .second, .val (.int p4), .val (.int p5), .val (.int u0_1), .val (.int u0_3), .val (.ref b04), .unset, .unset, .unset] [(.long q0), (.int (0 : Int32)), (.ref b04)]))
  refine stp (fun t k => XS.lloadN X04.here hx rfl (hb hby at_36) rfl k) ?_
  show W (T04.setTop (mkF m 37 #[.val (.long q0), .second, .val (.long q1), .second, .val (.long q2), .second, .val (.long q3), .second, .val (.int p4), .val (.int p5), .val (.int u0_1), .val (.int u0_3), .val (.ref b04), .unset, .unset, .unset] [(.long q1), (.long q0), (.int (0 : Int32)), (.ref b04)]))
  refine stp (fun t k => XS.lload X04.here hx rfl (hb hby at_37) rfl k) ?_
  show W (T04.setTop (mkF m 39 #[.val (.long q0), .second, .val (.long q1), .second, .val (.long q2), .second, .val (.long q3), .second, .val (.int p4), .val (.int p5), .val (.int u0_1), .val (.int u0_3), .val (.ref b04), .unset, .unset, .unset] [(.long q2), (.long q1), (.long q0), (.int (0 : Int32)), (.ref b04)]))
  refine stp (fun t k => XS.lload X04.here hx rfl (hb hby at_39) rfl k) ?_
  show W (T04.setTop (mkF m 41 #[.val (.long q0), .second, .val (.long q1), .second, .val (.long q2), .second, .val (.long q3), .second, .val (.int p4), .val (.int p5), .val (.int u0_1), .val (.int u0_3), .val (.ref b04), .unset, .unset, .unset] [(.long q3), (.long q2), (.long q1), (.long q0), (.int (0 : Int32)), (.ref b04)]))
  refine stp (fun t k => XS.iconst X04.here hx rfl (hb hby at_41) k) ?_
  show W (T04.setTop (mkF m 42 #[.val (.long q0), .second, .val (.long q1), .second, .val (.long q2), .second, .val (.long q3), .second, .val (.int p4), .val (.int p5), .val (.int u0_1), .val (.int u0_3), .val (.ref b04), .unset, .unset, .unset] [(.int (0 : Int32)), (.long q3), (.long q2), (.long q1), (.long q0), (.int (0 : Int32)), (.ref b04)]))
  refine stp (fun t k => XS.iload X04.here hx rfl (hb hby at_42) rfl k) ?_
  show W (T04.setTop (mkF m 44 #[.val (.long q0), .second, .val (.long q1), .second, .val (.long q2), .second, .val (.long q3), .second, .val (.int p4), .val (.int p5), .val (.int u0_1), .val (.int u0_3), .val (.ref b04), .unset, .unset, .unset] [(.int u0_1), (.int (0 : Int32)), (.long q3), (.long q2), (.long q1), (.long q0), (.int (0 : Int32)), (.ref b04)]))
  refine stp (fun t k => XS.iload X04.here hx rfl (hb hby at_44) rfl k) ?_
  show W (T04.setTop (mkF m 46 #[.val (.long q0), .second, .val (.long q1), .second, .val (.long q2), .second, .val (.long q3), .second, .val (.int p4), .val (.int p5), .val (.int u0_1), .val (.int u0_3), .val (.ref b04), .unset, .unset, .unset] [(.int u0_3), (.int u0_1), (.int (0 : Int32)), (.long q3), (.long q2), (.long q1), (.long q0), (.int (0 : Int32)), (.ref b04)]))
  obtain ⟨_, _, ⟨T0c5, L0c5, k0c5, n0c5⟩, -, X0c5, ⟨Lc0c5, hQ0c5, l0c5, y0c5, z0c5⟩, st0c5⟩ := Jvm.LawKit.callS X04 hx (y := (⟨"com/example/fieldgate/fieldgate/record/DigitsValuePinLaw", "at", "(JJJJIII)C"⟩ : MethodName)) hown (mvT hZ (hw _ (List.mem_of_getElem? (i := 2) rfl))) (mvT hZ (hw _ (List.mem_of_getElem? (i := 3) rfl))) (mvT hZ (hw _ (List.mem_of_getElem? (i := 4) rfl))) (mvT hZ (hw _ (List.mem_of_getElem? (i := 5) rfl))) (by decide) (backOf (W := 2) (rmat l Z aa hw [] q0 q1 q2 q3 (0 : Int32) u0_1 u0_3  h04 n0 Z04 ) hZ (hw _ (List.mem_of_getElem? (i := 5) rfl)) (hw _ (List.mem_of_getElem? (i := 4) rfl)) (by decide) (by decide)) (g := (mkF m 46 #[.val (.long q0), .second, .val (.long q1), .second, .val (.long q2), .second, .val (.long q3), .second, .val (.int p4), .val (.int p5), .val (.int u0_1), .val (.int u0_3), .val (.ref b04), .unset, .unset, .unset] [(.int u0_3), (.int u0_1), (.int (0 : Int32)), (.long q3), (.long q2), (.long q1), (.long q0), (.int (0 : Int32)), (.ref b04)])) rfl (by rw [hml]; rfl) (argsL := [(.long q0), (.long q1), (.long q2), (.long q3), (.int (0 : Int32)), (.int u0_1), (.int u0_3)]) (rest := [(.int (0 : Int32)), (.ref b04)]) (lenOf pd0_0 rfl) rfl (by show 2 * 0 + _ ≤ _; exact Nat.le_of_eq rfl) (hb hby at_46) (fun _ _ => ⟨rfl, e04, (by decide : 1 + 0 ≤ _), (by decide : 18 + 0 ≤ _)⟩)
  dsimp only [Pt.U, Pt.locs, Pt.cells, Pt.slots] at X0c5 l0c5 y0c5 z0c5 st0c5 hQ0c5
  subst l0c5 y0c5 z0c5
  obtain ⟨rfl, N0c5q, e0c5⟩ := hQ0c5
  have N0c5 := Fr.app N0 N0c5q
  obtain ⟨lc0t6, X0c5, N0c5⟩ : ∃ lc, Stand p l e room_1 s m #[(.long q0), (.long q1), (.long q2), (.long q3), (.int p4), (.int p5)] below meth c T0c5 lc 1 18 ∧ Fr n0 lc := ⟨_, X0c5, N0c5⟩
  refine stp (fun t k => st0c5 t k) ?_
  show W (T0c5.setTop (mkF m 49 #[.val (.long q0), .second, .val (.long q1), .second, .val (.long q2), .second, .val (.long q3), .second, .val (.int p4), .val (.int p5), .val (.int u0_1), .val (.int u0_3), .val (.ref b04), .unset, .unset, .unset] [(.int (fat q0 q1 q2 q3 (0 : Int32) u0_1 u0_3)), (.int (0 : Int32)), (.ref b04)]))
  obtain ⟨cl07, Ar07, qk07, qs07, qn07, qh07, qg07⟩ := id V_b04
  have hin07 : ¬ ((0 : Int32) < 0 ∨ cl07.slots.size ≤ ((0 : Int32)).toNatClampNeg) := inb_of qs07 ⟨by decide, by decide⟩
  obtain ⟨T07, h07, X07, e07, W07, st07⟩ := stC X0c5 hx hZ e0c5 Ar07 (j := (0 : Int32)) hin07 (g := (mkF m 49 #[.val (.long q0), .second, .val (.long q1), .second, .val (.long q2), .second, .val (.long q3), .second, .val (.int p4), .val (.int p5), .val (.int u0_1), .val (.int u0_3), .val (.ref b04), .unset, .unset, .unset] [(.int (fat q0 q1 q2 q3 (0 : Int32) u0_1 u0_3)), (.int (0 : Int32)), (.ref b04)])) rfl rfl (hb hby at_49)
  have V_b04x := Arv.set Ar07 qk07 qs07 qn07 qh07 qg07 (fits_nar_char _) W07 0 rfl (Nat.le_of_ble_eq_true rfl)
  have N07 := Fr.snoc X07 N0c5 g_b04
  obtain ⟨lc0t8, X07, N07⟩ : ∃ lc, Stand p l e room_1 s m #[(.long q0), (.long q1), (.long q2), (.long q3), (.int p4), (.int p5)] below meth c T07 lc 1 18 ∧ Fr n0 lc := ⟨_, X07, N07⟩
  have K07 := K04.wr W07 (Or.inr sz_b04)
  have Z07 := Nat.le_trans Z04 (Keep.of_wr W07).1
  have O07 := O04.wr W07 g_b04
  replace V_b04 : Arv Z h07 b04 k04 .char (18 : Int32) [(.int (nar .char (fat q0 q1 q2 q3 (0 : Int32) u0_1 u0_3))), (.int (0 : Int32)), (.int (0 : Int32)), (.int (0 : Int32)), (.int (0 : Int32)), (.int (0 : Int32)), (.int (0 : Int32)), (.int (0 : Int32)), (.int (0 : Int32)), (.int (0 : Int32)), (.int (0 : Int32)), (.int (0 : Int32)), (.int (0 : Int32)), (.int (0 : Int32)), (.int (0 : Int32)), (.int (0 : Int32)), (.int (0 : Int32)), (.int (0 : Int32))] (.int (0 : Int32)) := V_b04x
  refine stp (fun t k => st07 t k) ?_
  show W (T07.setTop (mkF m 50 #[.val (.long q0), .second, .val (.long q1), .second, .val (.long q2), .second, .val (.long q3), .second, .val (.int p4), .val (.int p5), .val (.int u0_1), .val (.int u0_3), .val (.ref b04), .unset, .unset, .unset] []))
  refine stp (fun t k => XS.aload X07.here hx rfl (hb hby at_50) rfl rfl k) ?_
  show W (T07.setTop (mkF m 52 #[.val (.long q0), .second, .val (.long q1), .second, .val (.long q2), .second, .val (.long q3), .second, .val (.int p4), .val (.int p5), .val (.int u0_1), .val (.int u0_3), .val (.ref b04), .unset, .unset, .unset] [(.ref b04)]))
  refine stp (fun t k => XS.iconst X07.here hx rfl (hb hby at_52) k) ?_
  show W (T07.setTop (mkF m 53 #[.val (.long q0), .second, .val (.long q1), .second, .val (.long q2), .second, .val (.long q3), .second, .val (.int p4), .val (.int p5), .val (.int u0_1), .val (.int u0_3), .val (.ref b04), .unset, .unset, .unset] [(.int (1 : Int32)), (.ref b04)]))
  refine stp (fun t k => XS.lloadN X07.here hx rfl (hb hby at_53) rfl k) ?_
  show W (T07.setTop (mkF m 54 #[.val (.long q0), .second, .val (.long q1), .second, .val (.long q2), .second, .val (.long q3), .second, .val (.int p4), .val (.int p5), .val (.int u0_1), .val (.int u0_3), .val (.ref b04), .unset, .unset, .unset] [(.long q0), (.int (1 : Int32)), (.ref b04)]))
  refine stp (fun t k => XS.lloadN X07.here hx rfl (hb hby at_54) rfl k) ?_
  show W (T07.setTop (mkF m 55 #[.val (.long q0), .second, .val (.long q1), .second, .val (.long q2), .second, .val (.long q3), .second, .val (.int p4), .val (.int p5), .val (.int u0_1), .val (.int u0_3), .val (.ref b04), .unset, .unset, .unset] [(.long q1), (.long q0), (.int (1 : Int32)), (.ref b04)]))
  refine stp (fun t k => XS.lload X07.here hx rfl (hb hby at_55) rfl k) ?_
  show W (T07.setTop (mkF m 57 #[.val (.long q0), .second, .val (.long q1), .second, .val (.long q2), .second, .val (.long q3), .second, .val (.int p4), .val (.int p5), .val (.int u0_1), .val (.int u0_3), .val (.ref b04), .unset, .unset, .unset] [(.long q2), (.long q1), (.long q0), (.int (1 : Int32)), (.ref b04)]))
  refine stp (fun t k => XS.lload X07.here hx rfl (hb hby at_57) rfl k) ?_
  show W (T07.setTop (mkF m 59 #[.val (.long q0), .second, .val (.long q1), .second, .val (.long q2), .second, .val (.long q3), .second, .val (.int p4), .val (.int p5), .val (.int u0_1), .val (.int u0_3), .val (.ref b04), .unset, .unset, .unset] [(.long q3), (.long q2), (.long q1), (.long q0), (.int (1 : Int32)), (.ref b04)]))
  refine stp (fun t k => XS.iconst X07.here hx rfl (hb hby at_59) k) ?_
  show W (T07.setTop (mkF m 60 #[.val (.long q0), .second, .val (.long q1), .second, .val (.long q2), .second, .val (.long q3), .second, .val (.int p4), .val (.int p5), .val (.int u0_1), .val (.int u0_3), .val (.ref b04), .unset, .unset, .unset] [(.int (1 : Int32)), (.long q3), (.long q2), (.long q1), (.long q0), (.int (1 : Int32)), (.ref b04)]))
  refine stp (fun t k => XS.iload X07.here hx rfl (hb hby at_60) rfl k) ?_
  show W (T07.setTop (mkF m 62 #[.val (.long q0), .second, .val (.long q1), .second, .val (.long q2), .second, .val (.long q3), .second, .val (.int p4), .val (.int p5), .val (.int u0_1), .val (.int u0_3), .val (.ref b04), .unset, .unset, .unset] [(.int u0_1), (.int (1 : Int32)), (.long q3), (.long q2), (.long q1), (.long q0), (.int (1 : Int32)), (.ref b04)]))
  refine stp (fun t k => XS.iload X07.here hx rfl (hb hby at_62) rfl k) ?_
  show W (T07.setTop (mkF m 64 #[.val (.long q0), .second, .val (.long q1), .second, .val (.long q2), .second, .val (.long q3), .second, .val (.int p4), .val (.int p5), .val (.int u0_1), .val (.int u0_3), .val (.ref b04), .unset, .unset, .unset] [(.int u0_3), (.int u0_1), (.int (1 : Int32)), (.long q3), (.long q2), (.long q1), (.long q0), (.int (1 : Int32)), (.ref b04)]))
  obtain ⟨_, _, ⟨T0c9, L0c9, k0c9, n0c9⟩, -, X0c9, ⟨Lc0c9, hQ0c9, l0c9, y0c9, z0c9⟩, st0c9⟩ := Jvm.LawKit.callS X07 hx (y := (⟨"com/example/fieldgate/fieldgate/record/DigitsValuePinLaw", "at", "(JJJJIII)C"⟩ : MethodName)) hown (mvT hZ (hw _ (List.mem_of_getElem? (i := 2) rfl))) (mvT hZ (hw _ (List.mem_of_getElem? (i := 3) rfl))) (mvT hZ (hw _ (List.mem_of_getElem? (i := 4) rfl))) (mvT hZ (hw _ (List.mem_of_getElem? (i := 5) rfl))) (by decide) (backOf (W := 2) (rmat l Z aa hw [] q0 q1 q2 q3 (1 : Int32) u0_1 u0_3  h07 n0 Z07 ) hZ (hw _ (List.mem_of_getElem? (i := 5) rfl)) (hw _ (List.mem_of_getElem? (i := 4) rfl)) (by decide) (by decide)) (g := (mkF m 64 #[.val (.long q0), .second, .val (.long q1), .second, .val (.long q2), .second, .val (.long q3), .second, .val (.int p4), .val (.int p5), .val (.int u0_1), .val (.int u0_3), .val (.ref b04), .unset, .unset, .unset] [(.int u0_3), (.int u0_1), (.int (1 : Int32)), (.long q3), (.long q2), (.long q1), (.long q0), (.int (1 : Int32)), (.ref b04)])) rfl (by rw [hml]; rfl) (argsL := [(.long q0), (.long q1), (.long q2), (.long q3), (.int (1 : Int32)), (.int u0_1), (.int u0_3)]) (rest := [(.int (1 : Int32)), (.ref b04)]) (lenOf pd0_0 rfl) rfl (by show 2 * 0 + _ ≤ _; exact Nat.le_of_eq rfl) (hb hby at_64) (fun _ _ => ⟨rfl, e07, (by decide : 1 + 0 ≤ _), (by decide : 18 + 0 ≤ _)⟩)
  dsimp only [Pt.U, Pt.locs, Pt.cells, Pt.slots] at X0c9 l0c9 y0c9 z0c9 st0c9 hQ0c9
  subst l0c9 y0c9 z0c9
  obtain ⟨rfl, N0c9q, e0c9⟩ := hQ0c9
  have N0c9 := Fr.app N07 N0c9q
  obtain ⟨lc0t10, X0c9, N0c9⟩ : ∃ lc, Stand p l e room_1 s m #[(.long q0), (.long q1), (.long q2), (.long q3), (.int p4), (.int p5)] below meth c T0c9 lc 1 18 ∧ Fr n0 lc := ⟨_, X0c9, N0c9⟩
  refine stp (fun t k => st0c9 t k) ?_
  show W (T0c9.setTop (mkF m 67 #[.val (.long q0), .second, .val (.long q1), .second, .val (.long q2), .second, .val (.long q3), .second, .val (.int p4), .val (.int p5), .val (.int u0_1), .val (.int u0_3), .val (.ref b04), .unset, .unset, .unset] [(.int (fat q0 q1 q2 q3 (1 : Int32) u0_1 u0_3)), (.int (1 : Int32)), (.ref b04)]))
  obtain ⟨cl011, Ar011, qk011, qs011, qn011, qh011, qg011⟩ := id V_b04
  have hin011 : ¬ ((1 : Int32) < 0 ∨ cl011.slots.size ≤ ((1 : Int32)).toNatClampNeg) := inb_of qs011 ⟨by decide, by decide⟩
  obtain ⟨T011, h011, X011, e011, W011, st011⟩ := stC X0c9 hx hZ e0c9 Ar011 (j := (1 : Int32)) hin011 (g := (mkF m 67 #[.val (.long q0), .second, .val (.long q1), .second, .val (.long q2), .second, .val (.long q3), .second, .val (.int p4), .val (.int p5), .val (.int u0_1), .val (.int u0_3), .val (.ref b04), .unset, .unset, .unset] [(.int (fat q0 q1 q2 q3 (1 : Int32) u0_1 u0_3)), (.int (1 : Int32)), (.ref b04)])) rfl rfl (hb hby at_67)
  have V_b04x := Arv.set Ar011 qk011 qs011 qn011 qh011 qg011 (fits_nar_char _) W011 1 rfl (Nat.le_of_ble_eq_true rfl)
  have N011 := Fr.snoc X011 N0c9 g_b04
  obtain ⟨lc0t12, X011, N011⟩ : ∃ lc, Stand p l e room_1 s m #[(.long q0), (.long q1), (.long q2), (.long q3), (.int p4), (.int p5)] below meth c T011 lc 1 18 ∧ Fr n0 lc := ⟨_, X011, N011⟩
  have K011 := K07.wr W011 (Or.inr sz_b04)
  have Z011 := Nat.le_trans Z07 (Keep.of_wr W011).1
  have O011 := O07.wr W011 g_b04
  replace V_b04 : Arv Z h011 b04 k04 .char (18 : Int32) [(.int (nar .char (fat q0 q1 q2 q3 (0 : Int32) u0_1 u0_3))), (.int (nar .char (fat q0 q1 q2 q3 (1 : Int32) u0_1 u0_3))), (.int (0 : Int32)), (.int (0 : Int32)), (.int (0 : Int32)), (.int (0 : Int32)), (.int (0 : Int32)), (.int (0 : Int32)), (.int (0 : Int32)), (.int (0 : Int32)), (.int (0 : Int32)), (.int (0 : Int32)), (.int (0 : Int32)), (.int (0 : Int32)), (.int (0 : Int32)), (.int (0 : Int32)), (.int (0 : Int32)), (.int (0 : Int32))] (.int (0 : Int32)) := V_b04x
  refine stp (fun t k => st011 t k) ?_
  show W (T011.setTop (mkF m 68 #[.val (.long q0), .second, .val (.long q1), .second, .val (.long q2), .second, .val (.long q3), .second, .val (.int p4), .val (.int p5), .val (.int u0_1), .val (.int u0_3), .val (.ref b04), .unset, .unset, .unset] []))
  refine stp (fun t k => XS.aload X011.here hx rfl (hb hby at_68) rfl rfl k) ?_
  show W (T011.setTop (mkF m 70 #[.val (.long q0), .second, .val (.long q1), .second, .val (.long q2), .second, .val (.long q3), .second, .val (.int p4), .val (.int p5), .val (.int u0_1), .val (.int u0_3), .val (.ref b04), .unset, .unset, .unset] [(.ref b04)]))
  refine stp (fun t k => XS.iconst X011.here hx rfl (hb hby at_70) k) ?_
  show W (T011.setTop (mkF m 71 #[.val (.long q0), .second, .val (.long q1), .second, .val (.long q2), .second, .val (.long q3), .second, .val (.int p4), .val (.int p5), .val (.int u0_1), .val (.int u0_3), .val (.ref b04), .unset, .unset, .unset] [(.int (2 : Int32)), (.ref b04)]))
  refine stp (fun t k => XS.lloadN X011.here hx rfl (hb hby at_71) rfl k) ?_
  show W (T011.setTop (mkF m 72 #[.val (.long q0), .second, .val (.long q1), .second, .val (.long q2), .second, .val (.long q3), .second, .val (.int p4), .val (.int p5), .val (.int u0_1), .val (.int u0_3), .val (.ref b04), .unset, .unset, .unset] [(.long q0), (.int (2 : Int32)), (.ref b04)]))
  refine stp (fun t k => XS.lloadN X011.here hx rfl (hb hby at_72) rfl k) ?_
  show W (T011.setTop (mkF m 73 #[.val (.long q0), .second, .val (.long q1), .second, .val (.long q2), .second, .val (.long q3), .second, .val (.int p4), .val (.int p5), .val (.int u0_1), .val (.int u0_3), .val (.ref b04), .unset, .unset, .unset] [(.long q1), (.long q0), (.int (2 : Int32)), (.ref b04)]))
  refine stp (fun t k => XS.lload X011.here hx rfl (hb hby at_73) rfl k) ?_
  show W (T011.setTop (mkF m 75 #[.val (.long q0), .second, .val (.long q1), .second, .val (.long q2), .second, .val (.long q3), .second, .val (.int p4), .val (.int p5), .val (.int u0_1), .val (.int u0_3), .val (.ref b04), .unset, .unset, .unset] [(.long q2), (.long q1), (.long q0), (.int (2 : Int32)), (.ref b04)]))
  refine stp (fun t k => XS.lload X011.here hx rfl (hb hby at_75) rfl k) ?_
  show W (T011.setTop (mkF m 77 #[.val (.long q0), .second, .val (.long q1), .second, .val (.long q2), .second, .val (.long q3), .second, .val (.int p4), .val (.int p5), .val (.int u0_1), .val (.int u0_3), .val (.ref b04), .unset, .unset, .unset] [(.long q3), (.long q2), (.long q1), (.long q0), (.int (2 : Int32)), (.ref b04)]))
  refine stp (fun t k => XS.iconst X011.here hx rfl (hb hby at_77) k) ?_
  show W (T011.setTop (mkF m 78 #[.val (.long q0), .second, .val (.long q1), .second, .val (.long q2), .second, .val (.long q3), .second, .val (.int p4), .val (.int p5), .val (.int u0_1), .val (.int u0_3), .val (.ref b04), .unset, .unset, .unset] [(.int (2 : Int32)), (.long q3), (.long q2), (.long q1), (.long q0), (.int (2 : Int32)), (.ref b04)]))
  refine stp (fun t k => XS.iload X011.here hx rfl (hb hby at_78) rfl k) ?_
  show W (T011.setTop (mkF m 80 #[.val (.long q0), .second, .val (.long q1), .second, .val (.long q2), .second, .val (.long q3), .second, .val (.int p4), .val (.int p5), .val (.int u0_1), .val (.int u0_3), .val (.ref b04), .unset, .unset, .unset] [(.int u0_1), (.int (2 : Int32)), (.long q3), (.long q2), (.long q1), (.long q0), (.int (2 : Int32)), (.ref b04)]))
  refine stp (fun t k => XS.iload X011.here hx rfl (hb hby at_80) rfl k) ?_
  show W (T011.setTop (mkF m 82 #[.val (.long q0), .second, .val (.long q1), .second, .val (.long q2), .second, .val (.long q3), .second, .val (.int p4), .val (.int p5), .val (.int u0_1), .val (.int u0_3), .val (.ref b04), .unset, .unset, .unset] [(.int u0_3), (.int u0_1), (.int (2 : Int32)), (.long q3), (.long q2), (.long q1), (.long q0), (.int (2 : Int32)), (.ref b04)]))
  obtain ⟨_, _, ⟨T0c13, L0c13, k0c13, n0c13⟩, -, X0c13, ⟨Lc0c13, hQ0c13, l0c13, y0c13, z0c13⟩, st0c13⟩ := Jvm.LawKit.callS X011 hx (y := (⟨"com/example/fieldgate/fieldgate/record/DigitsValuePinLaw", "at", "(JJJJIII)C"⟩ : MethodName)) hown (mvT hZ (hw _ (List.mem_of_getElem? (i := 2) rfl))) (mvT hZ (hw _ (List.mem_of_getElem? (i := 3) rfl))) (mvT hZ (hw _ (List.mem_of_getElem? (i := 4) rfl))) (mvT hZ (hw _ (List.mem_of_getElem? (i := 5) rfl))) (by decide) (backOf (W := 2) (rmat l Z aa hw [] q0 q1 q2 q3 (2 : Int32) u0_1 u0_3  h011 n0 Z011 ) hZ (hw _ (List.mem_of_getElem? (i := 5) rfl)) (hw _ (List.mem_of_getElem? (i := 4) rfl)) (by decide) (by decide)) (g := (mkF m 82 #[.val (.long q0), .second, .val (.long q1), .second, .val (.long q2), .second, .val (.long q3), .second, .val (.int p4), .val (.int p5), .val (.int u0_1), .val (.int u0_3), .val (.ref b04), .unset, .unset, .unset] [(.int u0_3), (.int u0_1), (.int (2 : Int32)), (.long q3), (.long q2), (.long q1), (.long q0), (.int (2 : Int32)), (.ref b04)])) rfl (by rw [hml]; rfl) (argsL := [(.long q0), (.long q1), (.long q2), (.long q3), (.int (2 : Int32)), (.int u0_1), (.int u0_3)]) (rest := [(.int (2 : Int32)), (.ref b04)]) (lenOf pd0_0 rfl) rfl (by show 2 * 0 + _ ≤ _; exact Nat.le_of_eq rfl) (hb hby at_82) (fun _ _ => ⟨rfl, e011, (by decide : 1 + 0 ≤ _), (by decide : 18 + 0 ≤ _)⟩)
  dsimp only [Pt.U, Pt.locs, Pt.cells, Pt.slots] at X0c13 l0c13 y0c13 z0c13 st0c13 hQ0c13
  subst l0c13 y0c13 z0c13
  obtain ⟨rfl, N0c13q, e0c13⟩ := hQ0c13
  have N0c13 := Fr.app N011 N0c13q
  obtain ⟨lc0t14, X0c13, N0c13⟩ : ∃ lc, Stand p l e room_1 s m #[(.long q0), (.long q1), (.long q2), (.long q3), (.int p4), (.int p5)] below meth c T0c13 lc 1 18 ∧ Fr n0 lc := ⟨_, X0c13, N0c13⟩
  refine stp (fun t k => st0c13 t k) ?_
  show W (T0c13.setTop (mkF m 85 #[.val (.long q0), .second, .val (.long q1), .second, .val (.long q2), .second, .val (.long q3), .second, .val (.int p4), .val (.int p5), .val (.int u0_1), .val (.int u0_3), .val (.ref b04), .unset, .unset, .unset] [(.int (fat q0 q1 q2 q3 (2 : Int32) u0_1 u0_3)), (.int (2 : Int32)), (.ref b04)]))
  obtain ⟨cl015, Ar015, qk015, qs015, qn015, qh015, qg015⟩ := id V_b04
  have hin015 : ¬ ((2 : Int32) < 0 ∨ cl015.slots.size ≤ ((2 : Int32)).toNatClampNeg) := inb_of qs015 ⟨by decide, by decide⟩
  obtain ⟨T015, h015, X015, e015, W015, st015⟩ := stC X0c13 hx hZ e0c13 Ar015 (j := (2 : Int32)) hin015 (g := (mkF m 85 #[.val (.long q0), .second, .val (.long q1), .second, .val (.long q2), .second, .val (.long q3), .second, .val (.int p4), .val (.int p5), .val (.int u0_1), .val (.int u0_3), .val (.ref b04), .unset, .unset, .unset] [(.int (fat q0 q1 q2 q3 (2 : Int32) u0_1 u0_3)), (.int (2 : Int32)), (.ref b04)])) rfl rfl (hb hby at_85)
  have V_b04x := Arv.set Ar015 qk015 qs015 qn015 qh015 qg015 (fits_nar_char _) W015 2 rfl (Nat.le_of_ble_eq_true rfl)
  have N015 := Fr.snoc X015 N0c13 g_b04
  obtain ⟨lc0t16, X015, N015⟩ : ∃ lc, Stand p l e room_1 s m #[(.long q0), (.long q1), (.long q2), (.long q3), (.int p4), (.int p5)] below meth c T015 lc 1 18 ∧ Fr n0 lc := ⟨_, X015, N015⟩
  have K015 := K011.wr W015 (Or.inr sz_b04)
  have Z015 := Nat.le_trans Z011 (Keep.of_wr W015).1
  have O015 := O011.wr W015 g_b04
  replace V_b04 : Arv Z h015 b04 k04 .char (18 : Int32) [(.int (nar .char (fat q0 q1 q2 q3 (0 : Int32) u0_1 u0_3))), (.int (nar .char (fat q0 q1 q2 q3 (1 : Int32) u0_1 u0_3))), (.int (nar .char (fat q0 q1 q2 q3 (2 : Int32) u0_1 u0_3))), (.int (0 : Int32)), (.int (0 : Int32)), (.int (0 : Int32)), (.int (0 : Int32)), (.int (0 : Int32)), (.int (0 : Int32)), (.int (0 : Int32)), (.int (0 : Int32)), (.int (0 : Int32)), (.int (0 : Int32)), (.int (0 : Int32)), (.int (0 : Int32)), (.int (0 : Int32)), (.int (0 : Int32)), (.int (0 : Int32))] (.int (0 : Int32)) := V_b04x
  refine stp (fun t k => st015 t k) ?_
  show W (T015.setTop (mkF m 86 #[.val (.long q0), .second, .val (.long q1), .second, .val (.long q2), .second, .val (.long q3), .second, .val (.int p4), .val (.int p5), .val (.int u0_1), .val (.int u0_3), .val (.ref b04), .unset, .unset, .unset] []))
  refine stp (fun t k => XS.aload X015.here hx rfl (hb hby at_86) rfl rfl k) ?_
  show W (T015.setTop (mkF m 88 #[.val (.long q0), .second, .val (.long q1), .second, .val (.long q2), .second, .val (.long q3), .second, .val (.int p4), .val (.int p5), .val (.int u0_1), .val (.int u0_3), .val (.ref b04), .unset, .unset, .unset] [(.ref b04)]))
  refine stp (fun t k => XS.iconst X015.here hx rfl (hb hby at_88) k) ?_
  show W (T015.setTop (mkF m 89 #[.val (.long q0), .second, .val (.long q1), .second, .val (.long q2), .second, .val (.long q3), .second, .val (.int p4), .val (.int p5), .val (.int u0_1), .val (.int u0_3), .val (.ref b04), .unset, .unset, .unset] [(.int (3 : Int32)), (.ref b04)]))
  refine stp (fun t k => XS.lloadN X015.here hx rfl (hb hby at_89) rfl k) ?_
  show W (T015.setTop (mkF m 90 #[.val (.long q0), .second, .val (.long q1), .second, .val (.long q2), .second, .val (.long q3), .second, .val (.int p4), .val (.int p5), .val (.int u0_1), .val (.int u0_3), .val (.ref b04), .unset, .unset, .unset] [(.long q0), (.int (3 : Int32)), (.ref b04)]))
  refine stp (fun t k => XS.lloadN X015.here hx rfl (hb hby at_90) rfl k) ?_
  show W (T015.setTop (mkF m 91 #[.val (.long q0), .second, .val (.long q1), .second, .val (.long q2), .second, .val (.long q3), .second, .val (.int p4), .val (.int p5), .val (.int u0_1), .val (.int u0_3), .val (.ref b04), .unset, .unset, .unset] [(.long q1), (.long q0), (.int (3 : Int32)), (.ref b04)]))
  refine stp (fun t k => XS.lload X015.here hx rfl (hb hby at_91) rfl k) ?_
  show W (T015.setTop (mkF m 93 #[.val (.long q0), .second, .val (.long q1), .second, .val (.long q2), .second, .val (.long q3), .second, .val (.int p4), .val (.int p5), .val (.int u0_1), .val (.int u0_3), .val (.ref b04), .unset, .unset, .unset] [(.long q2), (.long q1), (.long q0), (.int (3 : Int32)), (.ref b04)]))
  refine stp (fun t k => XS.lload X015.here hx rfl (hb hby at_93) rfl k) ?_
  show W (T015.setTop (mkF m 95 #[.val (.long q0), .second, .val (.long q1), .second, .val (.long q2), .second, .val (.long q3), .second, .val (.int p4), .val (.int p5), .val (.int u0_1), .val (.int u0_3), .val (.ref b04), .unset, .unset, .unset] [(.long q3), (.long q2), (.long q1), (.long q0), (.int (3 : Int32)), (.ref b04)]))
  refine stp (fun t k => XS.iconst X015.here hx rfl (hb hby at_95) k) ?_
  show W (T015.setTop (mkF m 96 #[.val (.long q0), .second, .val (.long q1), .second, .val (.long q2), .second, .val (.long q3), .second, .val (.int p4), .val (.int p5), .val (.int u0_1), .val (.int u0_3), .val (.ref b04), .unset, .unset, .unset] [(.int (3 : Int32)), (.long q3), (.long q2), (.long q1), (.long q0), (.int (3 : Int32)), (.ref b04)]))
  refine stp (fun t k => XS.iload X015.here hx rfl (hb hby at_96) rfl k) ?_
  show W (T015.setTop (mkF m 98 #[.val (.long q0), .second, .val (.long q1), .second, .val (.long q2), .second, .val (.long q3), .second, .val (.int p4), .val (.int p5), .val (.int u0_1), .val (.int u0_3), .val (.ref b04), .unset, .unset, .unset] [(.int u0_1), (.int (3 : Int32)), (.long q3), (.long q2), (.long q1), (.long q0), (.int (3 : Int32)), (.ref b04)]))
  refine stp (fun t k => XS.iload X015.here hx rfl (hb hby at_98) rfl k) ?_
  show W (T015.setTop (mkF m 100 #[.val (.long q0), .second, .val (.long q1), .second, .val (.long q2), .second, .val (.long q3), .second, .val (.int p4), .val (.int p5), .val (.int u0_1), .val (.int u0_3), .val (.ref b04), .unset, .unset, .unset] [(.int u0_3), (.int u0_1), (.int (3 : Int32)), (.long q3), (.long q2), (.long q1), (.long q0), (.int (3 : Int32)), (.ref b04)]))
  obtain ⟨_, _, ⟨T0c17, L0c17, k0c17, n0c17⟩, -, X0c17, ⟨Lc0c17, hQ0c17, l0c17, y0c17, z0c17⟩, st0c17⟩ := Jvm.LawKit.callS X015 hx (y := (⟨"com/example/fieldgate/fieldgate/record/DigitsValuePinLaw", "at", "(JJJJIII)C"⟩ : MethodName)) hown (mvT hZ (hw _ (List.mem_of_getElem? (i := 2) rfl))) (mvT hZ (hw _ (List.mem_of_getElem? (i := 3) rfl))) (mvT hZ (hw _ (List.mem_of_getElem? (i := 4) rfl))) (mvT hZ (hw _ (List.mem_of_getElem? (i := 5) rfl))) (by decide) (backOf (W := 2) (rmat l Z aa hw [] q0 q1 q2 q3 (3 : Int32) u0_1 u0_3  h015 n0 Z015 ) hZ (hw _ (List.mem_of_getElem? (i := 5) rfl)) (hw _ (List.mem_of_getElem? (i := 4) rfl)) (by decide) (by decide)) (g := (mkF m 100 #[.val (.long q0), .second, .val (.long q1), .second, .val (.long q2), .second, .val (.long q3), .second, .val (.int p4), .val (.int p5), .val (.int u0_1), .val (.int u0_3), .val (.ref b04), .unset, .unset, .unset] [(.int u0_3), (.int u0_1), (.int (3 : Int32)), (.long q3), (.long q2), (.long q1), (.long q0), (.int (3 : Int32)), (.ref b04)])) rfl (by rw [hml]; rfl) (argsL := [(.long q0), (.long q1), (.long q2), (.long q3), (.int (3 : Int32)), (.int u0_1), (.int u0_3)]) (rest := [(.int (3 : Int32)), (.ref b04)]) (lenOf pd0_0 rfl) rfl (by show 2 * 0 + _ ≤ _; exact Nat.le_of_eq rfl) (hb hby at_100) (fun _ _ => ⟨rfl, e015, (by decide : 1 + 0 ≤ _), (by decide : 18 + 0 ≤ _)⟩)
  dsimp only [Pt.U, Pt.locs, Pt.cells, Pt.slots] at X0c17 l0c17 y0c17 z0c17 st0c17 hQ0c17
  subst l0c17 y0c17 z0c17
  obtain ⟨rfl, N0c17q, e0c17⟩ := hQ0c17
  have N0c17 := Fr.app N015 N0c17q
  obtain ⟨lc0t18, X0c17, N0c17⟩ : ∃ lc, Stand p l e room_1 s m #[(.long q0), (.long q1), (.long q2), (.long q3), (.int p4), (.int p5)] below meth c T0c17 lc 1 18 ∧ Fr n0 lc := ⟨_, X0c17, N0c17⟩
  refine stp (fun t k => st0c17 t k) ?_
  show W (T0c17.setTop (mkF m 103 #[.val (.long q0), .second, .val (.long q1), .second, .val (.long q2), .second, .val (.long q3), .second, .val (.int p4), .val (.int p5), .val (.int u0_1), .val (.int u0_3), .val (.ref b04), .unset, .unset, .unset] [(.int (fat q0 q1 q2 q3 (3 : Int32) u0_1 u0_3)), (.int (3 : Int32)), (.ref b04)]))
  obtain ⟨cl019, Ar019, qk019, qs019, qn019, qh019, qg019⟩ := id V_b04
  have hin019 : ¬ ((3 : Int32) < 0 ∨ cl019.slots.size ≤ ((3 : Int32)).toNatClampNeg) := inb_of qs019 ⟨by decide, by decide⟩
  obtain ⟨T019, h019, X019, e019, W019, st019⟩ := stC X0c17 hx hZ e0c17 Ar019 (j := (3 : Int32)) hin019 (g := (mkF m 103 #[.val (.long q0), .second, .val (.long q1), .second, .val (.long q2), .second, .val (.long q3), .second, .val (.int p4), .val (.int p5), .val (.int u0_1), .val (.int u0_3), .val (.ref b04), .unset, .unset, .unset] [(.int (fat q0 q1 q2 q3 (3 : Int32) u0_1 u0_3)), (.int (3 : Int32)), (.ref b04)])) rfl rfl (hb hby at_103)
  have V_b04x := Arv.set Ar019 qk019 qs019 qn019 qh019 qg019 (fits_nar_char _) W019 3 rfl (Nat.le_of_ble_eq_true rfl)
  have N019 := Fr.snoc X019 N0c17 g_b04
  obtain ⟨lc0t20, X019, N019⟩ : ∃ lc, Stand p l e room_1 s m #[(.long q0), (.long q1), (.long q2), (.long q3), (.int p4), (.int p5)] below meth c T019 lc 1 18 ∧ Fr n0 lc := ⟨_, X019, N019⟩
  have K019 := K015.wr W019 (Or.inr sz_b04)
  have Z019 := Nat.le_trans Z015 (Keep.of_wr W019).1
  have O019 := O015.wr W019 g_b04
  replace V_b04 : Arv Z h019 b04 k04 .char (18 : Int32) [(.int (nar .char (fat q0 q1 q2 q3 (0 : Int32) u0_1 u0_3))), (.int (nar .char (fat q0 q1 q2 q3 (1 : Int32) u0_1 u0_3))), (.int (nar .char (fat q0 q1 q2 q3 (2 : Int32) u0_1 u0_3))), (.int (nar .char (fat q0 q1 q2 q3 (3 : Int32) u0_1 u0_3))), (.int (0 : Int32)), (.int (0 : Int32)), (.int (0 : Int32)), (.int (0 : Int32)), (.int (0 : Int32)), (.int (0 : Int32)), (.int (0 : Int32)), (.int (0 : Int32)), (.int (0 : Int32)), (.int (0 : Int32)), (.int (0 : Int32)), (.int (0 : Int32)), (.int (0 : Int32)), (.int (0 : Int32))] (.int (0 : Int32)) := V_b04x
  refine stp (fun t k => st019 t k) ?_
  show W (T019.setTop (mkF m 104 #[.val (.long q0), .second, .val (.long q1), .second, .val (.long q2), .second, .val (.long q3), .second, .val (.int p4), .val (.int p5), .val (.int u0_1), .val (.int u0_3), .val (.ref b04), .unset, .unset, .unset] []))
  refine stp (fun t k => XS.aload X019.here hx rfl (hb hby at_104) rfl rfl k) ?_
  show W (T019.setTop (mkF m 106 #[.val (.long q0), .second, .val (.long q1), .second, .val (.long q2), .second, .val (.long q3), .second, .val (.int p4), .val (.int p5), .val (.int u0_1), .val (.int u0_3), .val (.ref b04), .unset, .unset, .unset] [(.ref b04)]))
  refine stp (fun t k => XS.iconst X019.here hx rfl (hb hby at_106) k) ?_
  show W (T019.setTop (mkF m 107 #[.val (.long q0), .second, .val (.long q1), .second, .val (.long q2), .second, .val (.long q3), .second, .val (.int p4), .val (.int p5), .val (.int u0_1), .val (.int u0_3), .val (.ref b04), .unset, .unset, .unset] [(.int (4 : Int32)), (.ref b04)]))
  refine stp (fun t k => XS.lloadN X019.here hx rfl (hb hby at_107) rfl k) ?_
  show W (T019.setTop (mkF m 108 #[.val (.long q0), .second, .val (.long q1), .second, .val (.long q2), .second, .val (.long q3), .second, .val (.int p4), .val (.int p5), .val (.int u0_1), .val (.int u0_3), .val (.ref b04), .unset, .unset, .unset] [(.long q0), (.int (4 : Int32)), (.ref b04)]))
  refine stp (fun t k => XS.lloadN X019.here hx rfl (hb hby at_108) rfl k) ?_
  show W (T019.setTop (mkF m 109 #[.val (.long q0), .second, .val (.long q1), .second, .val (.long q2), .second, .val (.long q3), .second, .val (.int p4), .val (.int p5), .val (.int u0_1), .val (.int u0_3), .val (.ref b04), .unset, .unset, .unset] [(.long q1), (.long q0), (.int (4 : Int32)), (.ref b04)]))
  refine stp (fun t k => XS.lload X019.here hx rfl (hb hby at_109) rfl k) ?_
  show W (T019.setTop (mkF m 111 #[.val (.long q0), .second, .val (.long q1), .second, .val (.long q2), .second, .val (.long q3), .second, .val (.int p4), .val (.int p5), .val (.int u0_1), .val (.int u0_3), .val (.ref b04), .unset, .unset, .unset] [(.long q2), (.long q1), (.long q0), (.int (4 : Int32)), (.ref b04)]))
  refine stp (fun t k => XS.lload X019.here hx rfl (hb hby at_111) rfl k) ?_
  show W (T019.setTop (mkF m 113 #[.val (.long q0), .second, .val (.long q1), .second, .val (.long q2), .second, .val (.long q3), .second, .val (.int p4), .val (.int p5), .val (.int u0_1), .val (.int u0_3), .val (.ref b04), .unset, .unset, .unset] [(.long q3), (.long q2), (.long q1), (.long q0), (.int (4 : Int32)), (.ref b04)]))
  refine stp (fun t k => XS.iconst X019.here hx rfl (hb hby at_113) k) ?_
  show W (T019.setTop (mkF m 114 #[.val (.long q0), .second, .val (.long q1), .second, .val (.long q2), .second, .val (.long q3), .second, .val (.int p4), .val (.int p5), .val (.int u0_1), .val (.int u0_3), .val (.ref b04), .unset, .unset, .unset] [(.int (4 : Int32)), (.long q3), (.long q2), (.long q1), (.long q0), (.int (4 : Int32)), (.ref b04)]))
  refine stp (fun t k => XS.iload X019.here hx rfl (hb hby at_114) rfl k) ?_
  show W (T019.setTop (mkF m 116 #[.val (.long q0), .second, .val (.long q1), .second, .val (.long q2), .second, .val (.long q3), .second, .val (.int p4), .val (.int p5), .val (.int u0_1), .val (.int u0_3), .val (.ref b04), .unset, .unset, .unset] [(.int u0_1), (.int (4 : Int32)), (.long q3), (.long q2), (.long q1), (.long q0), (.int (4 : Int32)), (.ref b04)]))
  refine stp (fun t k => XS.iload X019.here hx rfl (hb hby at_116) rfl k) ?_
  show W (T019.setTop (mkF m 118 #[.val (.long q0), .second, .val (.long q1), .second, .val (.long q2), .second, .val (.long q3), .second, .val (.int p4), .val (.int p5), .val (.int u0_1), .val (.int u0_3), .val (.ref b04), .unset, .unset, .unset] [(.int u0_3), (.int u0_1), (.int (4 : Int32)), (.long q3), (.long q2), (.long q1), (.long q0), (.int (4 : Int32)), (.ref b04)]))
  obtain ⟨_, _, ⟨T0c21, L0c21, k0c21, n0c21⟩, -, X0c21, ⟨Lc0c21, hQ0c21, l0c21, y0c21, z0c21⟩, st0c21⟩ := Jvm.LawKit.callS X019 hx (y := (⟨"com/example/fieldgate/fieldgate/record/DigitsValuePinLaw", "at", "(JJJJIII)C"⟩ : MethodName)) hown (mvT hZ (hw _ (List.mem_of_getElem? (i := 2) rfl))) (mvT hZ (hw _ (List.mem_of_getElem? (i := 3) rfl))) (mvT hZ (hw _ (List.mem_of_getElem? (i := 4) rfl))) (mvT hZ (hw _ (List.mem_of_getElem? (i := 5) rfl))) (by decide) (backOf (W := 2) (rmat l Z aa hw [] q0 q1 q2 q3 (4 : Int32) u0_1 u0_3  h019 n0 Z019 ) hZ (hw _ (List.mem_of_getElem? (i := 5) rfl)) (hw _ (List.mem_of_getElem? (i := 4) rfl)) (by decide) (by decide)) (g := (mkF m 118 #[.val (.long q0), .second, .val (.long q1), .second, .val (.long q2), .second, .val (.long q3), .second, .val (.int p4), .val (.int p5), .val (.int u0_1), .val (.int u0_3), .val (.ref b04), .unset, .unset, .unset] [(.int u0_3), (.int u0_1), (.int (4 : Int32)), (.long q3), (.long q2), (.long q1), (.long q0), (.int (4 : Int32)), (.ref b04)])) rfl (by rw [hml]; rfl) (argsL := [(.long q0), (.long q1), (.long q2), (.long q3), (.int (4 : Int32)), (.int u0_1), (.int u0_3)]) (rest := [(.int (4 : Int32)), (.ref b04)]) (lenOf pd0_0 rfl) rfl (by show 2 * 0 + _ ≤ _; exact Nat.le_of_eq rfl) (hb hby at_118) (fun _ _ => ⟨rfl, e019, (by decide : 1 + 0 ≤ _), (by decide : 18 + 0 ≤ _)⟩)
  dsimp only [Pt.U, Pt.locs, Pt.cells, Pt.slots] at X0c21 l0c21 y0c21 z0c21 st0c21 hQ0c21
  subst l0c21 y0c21 z0c21
  obtain ⟨rfl, N0c21q, e0c21⟩ := hQ0c21
  have N0c21 := Fr.app N019 N0c21q
  obtain ⟨lc0t22, X0c21, N0c21⟩ : ∃ lc, Stand p l e room_1 s m #[(.long q0), (.long q1), (.long q2), (.long q3), (.int p4), (.int p5)] below meth c T0c21 lc 1 18 ∧ Fr n0 lc := ⟨_, X0c21, N0c21⟩
  refine stp (fun t k => st0c21 t k) ?_
  show W (T0c21.setTop (mkF m 121 #[.val (.long q0), .second, .val (.long q1), .second, .val (.long q2), .second, .val (.long q3), .second, .val (.int p4), .val (.int p5), .val (.int u0_1), .val (.int u0_3), .val (.ref b04), .unset, .unset, .unset] [(.int (fat q0 q1 q2 q3 (4 : Int32) u0_1 u0_3)), (.int (4 : Int32)), (.ref b04)]))
  obtain ⟨cl023, Ar023, qk023, qs023, qn023, qh023, qg023⟩ := id V_b04
  have hin023 : ¬ ((4 : Int32) < 0 ∨ cl023.slots.size ≤ ((4 : Int32)).toNatClampNeg) := inb_of qs023 ⟨by decide, by decide⟩
  obtain ⟨T023, h023, X023, e023, W023, st023⟩ := stC X0c21 hx hZ e0c21 Ar023 (j := (4 : Int32)) hin023 (g := (mkF m 121 #[.val (.long q0), .second, .val (.long q1), .second, .val (.long q2), .second, .val (.long q3), .second, .val (.int p4), .val (.int p5), .val (.int u0_1), .val (.int u0_3), .val (.ref b04), .unset, .unset, .unset] [(.int (fat q0 q1 q2 q3 (4 : Int32) u0_1 u0_3)), (.int (4 : Int32)), (.ref b04)])) rfl rfl (hb hby at_121)
  have V_b04x := Arv.set Ar023 qk023 qs023 qn023 qh023 qg023 (fits_nar_char _) W023 4 rfl (Nat.le_of_ble_eq_true rfl)
  have N023 := Fr.snoc X023 N0c21 g_b04
  obtain ⟨lc0t24, X023, N023⟩ : ∃ lc, Stand p l e room_1 s m #[(.long q0), (.long q1), (.long q2), (.long q3), (.int p4), (.int p5)] below meth c T023 lc 1 18 ∧ Fr n0 lc := ⟨_, X023, N023⟩
  have K023 := K019.wr W023 (Or.inr sz_b04)
  have Z023 := Nat.le_trans Z019 (Keep.of_wr W023).1
  have O023 := O019.wr W023 g_b04
  replace V_b04 : Arv Z h023 b04 k04 .char (18 : Int32) [(.int (nar .char (fat q0 q1 q2 q3 (0 : Int32) u0_1 u0_3))), (.int (nar .char (fat q0 q1 q2 q3 (1 : Int32) u0_1 u0_3))), (.int (nar .char (fat q0 q1 q2 q3 (2 : Int32) u0_1 u0_3))), (.int (nar .char (fat q0 q1 q2 q3 (3 : Int32) u0_1 u0_3))), (.int (nar .char (fat q0 q1 q2 q3 (4 : Int32) u0_1 u0_3))), (.int (0 : Int32)), (.int (0 : Int32)), (.int (0 : Int32)), (.int (0 : Int32)), (.int (0 : Int32)), (.int (0 : Int32)), (.int (0 : Int32)), (.int (0 : Int32)), (.int (0 : Int32)), (.int (0 : Int32)), (.int (0 : Int32)), (.int (0 : Int32)), (.int (0 : Int32))] (.int (0 : Int32)) := V_b04x
  refine stp (fun t k => st023 t k) ?_
  show W (T023.setTop (mkF m 122 #[.val (.long q0), .second, .val (.long q1), .second, .val (.long q2), .second, .val (.long q3), .second, .val (.int p4), .val (.int p5), .val (.int u0_1), .val (.int u0_3), .val (.ref b04), .unset, .unset, .unset] []))
  refine stp (fun t k => XS.aload X023.here hx rfl (hb hby at_122) rfl rfl k) ?_
  show W (T023.setTop (mkF m 124 #[.val (.long q0), .second, .val (.long q1), .second, .val (.long q2), .second, .val (.long q3), .second, .val (.int p4), .val (.int p5), .val (.int u0_1), .val (.int u0_3), .val (.ref b04), .unset, .unset, .unset] [(.ref b04)]))
  refine stp (fun t k => XS.iconst X023.here hx rfl (hb hby at_124) k) ?_
  show W (T023.setTop (mkF m 125 #[.val (.long q0), .second, .val (.long q1), .second, .val (.long q2), .second, .val (.long q3), .second, .val (.int p4), .val (.int p5), .val (.int u0_1), .val (.int u0_3), .val (.ref b04), .unset, .unset, .unset] [(.int (5 : Int32)), (.ref b04)]))
  refine stp (fun t k => XS.lloadN X023.here hx rfl (hb hby at_125) rfl k) ?_
  show W (T023.setTop (mkF m 126 #[.val (.long q0), .second, .val (.long q1), .second, .val (.long q2), .second, .val (.long q3), .second, .val (.int p4), .val (.int p5), .val (.int u0_1), .val (.int u0_3), .val (.ref b04), .unset, .unset, .unset] [(.long q0), (.int (5 : Int32)), (.ref b04)]))
  refine stp (fun t k => XS.lloadN X023.here hx rfl (hb hby at_126) rfl k) ?_
  show W (T023.setTop (mkF m 127 #[.val (.long q0), .second, .val (.long q1), .second, .val (.long q2), .second, .val (.long q3), .second, .val (.int p4), .val (.int p5), .val (.int u0_1), .val (.int u0_3), .val (.ref b04), .unset, .unset, .unset] [(.long q1), (.long q0), (.int (5 : Int32)), (.ref b04)]))
  refine stp (fun t k => XS.lload X023.here hx rfl (hb hby at_127) rfl k) ?_
  show W (T023.setTop (mkF m 129 #[.val (.long q0), .second, .val (.long q1), .second, .val (.long q2), .second, .val (.long q3), .second, .val (.int p4), .val (.int p5), .val (.int u0_1), .val (.int u0_3), .val (.ref b04), .unset, .unset, .unset] [(.long q2), (.long q1), (.long q0), (.int (5 : Int32)), (.ref b04)]))
  refine stp (fun t k => XS.lload X023.here hx rfl (hb hby at_129) rfl k) ?_
  show W (T023.setTop (mkF m 131 #[.val (.long q0), .second, .val (.long q1), .second, .val (.long q2), .second, .val (.long q3), .second, .val (.int p4), .val (.int p5), .val (.int u0_1), .val (.int u0_3), .val (.ref b04), .unset, .unset, .unset] [(.long q3), (.long q2), (.long q1), (.long q0), (.int (5 : Int32)), (.ref b04)]))
  refine stp (fun t k => XS.iconst X023.here hx rfl (hb hby at_131) k) ?_
  show W (T023.setTop (mkF m 132 #[.val (.long q0), .second, .val (.long q1), .second, .val (.long q2), .second, .val (.long q3), .second, .val (.int p4), .val (.int p5), .val (.int u0_1), .val (.int u0_3), .val (.ref b04), .unset, .unset, .unset] [(.int (5 : Int32)), (.long q3), (.long q2), (.long q1), (.long q0), (.int (5 : Int32)), (.ref b04)]))
  refine stp (fun t k => XS.iload X023.here hx rfl (hb hby at_132) rfl k) ?_
  show W (T023.setTop (mkF m 134 #[.val (.long q0), .second, .val (.long q1), .second, .val (.long q2), .second, .val (.long q3), .second, .val (.int p4), .val (.int p5), .val (.int u0_1), .val (.int u0_3), .val (.ref b04), .unset, .unset, .unset] [(.int u0_1), (.int (5 : Int32)), (.long q3), (.long q2), (.long q1), (.long q0), (.int (5 : Int32)), (.ref b04)]))
  refine stp (fun t k => XS.iload X023.here hx rfl (hb hby at_134) rfl k) ?_
  show W (T023.setTop (mkF m 136 #[.val (.long q0), .second, .val (.long q1), .second, .val (.long q2), .second, .val (.long q3), .second, .val (.int p4), .val (.int p5), .val (.int u0_1), .val (.int u0_3), .val (.ref b04), .unset, .unset, .unset] [(.int u0_3), (.int u0_1), (.int (5 : Int32)), (.long q3), (.long q2), (.long q1), (.long q0), (.int (5 : Int32)), (.ref b04)]))
  obtain ⟨_, _, ⟨T0c25, L0c25, k0c25, n0c25⟩, -, X0c25, ⟨Lc0c25, hQ0c25, l0c25, y0c25, z0c25⟩, st0c25⟩ := Jvm.LawKit.callS X023 hx (y := (⟨"com/example/fieldgate/fieldgate/record/DigitsValuePinLaw", "at", "(JJJJIII)C"⟩ : MethodName)) hown (mvT hZ (hw _ (List.mem_of_getElem? (i := 2) rfl))) (mvT hZ (hw _ (List.mem_of_getElem? (i := 3) rfl))) (mvT hZ (hw _ (List.mem_of_getElem? (i := 4) rfl))) (mvT hZ (hw _ (List.mem_of_getElem? (i := 5) rfl))) (by decide) (backOf (W := 2) (rmat l Z aa hw [] q0 q1 q2 q3 (5 : Int32) u0_1 u0_3  h023 n0 Z023 ) hZ (hw _ (List.mem_of_getElem? (i := 5) rfl)) (hw _ (List.mem_of_getElem? (i := 4) rfl)) (by decide) (by decide)) (g := (mkF m 136 #[.val (.long q0), .second, .val (.long q1), .second, .val (.long q2), .second, .val (.long q3), .second, .val (.int p4), .val (.int p5), .val (.int u0_1), .val (.int u0_3), .val (.ref b04), .unset, .unset, .unset] [(.int u0_3), (.int u0_1), (.int (5 : Int32)), (.long q3), (.long q2), (.long q1), (.long q0), (.int (5 : Int32)), (.ref b04)])) rfl (by rw [hml]; rfl) (argsL := [(.long q0), (.long q1), (.long q2), (.long q3), (.int (5 : Int32)), (.int u0_1), (.int u0_3)]) (rest := [(.int (5 : Int32)), (.ref b04)]) (lenOf pd0_0 rfl) rfl (by show 2 * 0 + _ ≤ _; exact Nat.le_of_eq rfl) (hb hby at_136) (fun _ _ => ⟨rfl, e023, (by decide : 1 + 0 ≤ _), (by decide : 18 + 0 ≤ _)⟩)
  dsimp only [Pt.U, Pt.locs, Pt.cells, Pt.slots] at X0c25 l0c25 y0c25 z0c25 st0c25 hQ0c25
  subst l0c25 y0c25 z0c25
  obtain ⟨rfl, N0c25q, e0c25⟩ := hQ0c25
  have N0c25 := Fr.app N023 N0c25q
  obtain ⟨lc0t26, X0c25, N0c25⟩ : ∃ lc, Stand p l e room_1 s m #[(.long q0), (.long q1), (.long q2), (.long q3), (.int p4), (.int p5)] below meth c T0c25 lc 1 18 ∧ Fr n0 lc := ⟨_, X0c25, N0c25⟩
  refine stp (fun t k => st0c25 t k) ?_
  show W (T0c25.setTop (mkF m 139 #[.val (.long q0), .second, .val (.long q1), .second, .val (.long q2), .second, .val (.long q3), .second, .val (.int p4), .val (.int p5), .val (.int u0_1), .val (.int u0_3), .val (.ref b04), .unset, .unset, .unset] [(.int (fat q0 q1 q2 q3 (5 : Int32) u0_1 u0_3)), (.int (5 : Int32)), (.ref b04)]))
  obtain ⟨cl027, Ar027, qk027, qs027, qn027, qh027, qg027⟩ := id V_b04
  have hin027 : ¬ ((5 : Int32) < 0 ∨ cl027.slots.size ≤ ((5 : Int32)).toNatClampNeg) := inb_of qs027 ⟨by decide, by decide⟩
  obtain ⟨T027, h027, X027, e027, W027, st027⟩ := stC X0c25 hx hZ e0c25 Ar027 (j := (5 : Int32)) hin027 (g := (mkF m 139 #[.val (.long q0), .second, .val (.long q1), .second, .val (.long q2), .second, .val (.long q3), .second, .val (.int p4), .val (.int p5), .val (.int u0_1), .val (.int u0_3), .val (.ref b04), .unset, .unset, .unset] [(.int (fat q0 q1 q2 q3 (5 : Int32) u0_1 u0_3)), (.int (5 : Int32)), (.ref b04)])) rfl rfl (hb hby at_139)
  have V_b04x := Arv.set Ar027 qk027 qs027 qn027 qh027 qg027 (fits_nar_char _) W027 5 rfl (Nat.le_of_ble_eq_true rfl)
  have N027 := Fr.snoc X027 N0c25 g_b04
  obtain ⟨lc0t28, X027, N027⟩ : ∃ lc, Stand p l e room_1 s m #[(.long q0), (.long q1), (.long q2), (.long q3), (.int p4), (.int p5)] below meth c T027 lc 1 18 ∧ Fr n0 lc := ⟨_, X027, N027⟩
  have K027 := K023.wr W027 (Or.inr sz_b04)
  have Z027 := Nat.le_trans Z023 (Keep.of_wr W027).1
  have O027 := O023.wr W027 g_b04
  replace V_b04 : Arv Z h027 b04 k04 .char (18 : Int32) [(.int (nar .char (fat q0 q1 q2 q3 (0 : Int32) u0_1 u0_3))), (.int (nar .char (fat q0 q1 q2 q3 (1 : Int32) u0_1 u0_3))), (.int (nar .char (fat q0 q1 q2 q3 (2 : Int32) u0_1 u0_3))), (.int (nar .char (fat q0 q1 q2 q3 (3 : Int32) u0_1 u0_3))), (.int (nar .char (fat q0 q1 q2 q3 (4 : Int32) u0_1 u0_3))), (.int (nar .char (fat q0 q1 q2 q3 (5 : Int32) u0_1 u0_3))), (.int (0 : Int32)), (.int (0 : Int32)), (.int (0 : Int32)), (.int (0 : Int32)), (.int (0 : Int32)), (.int (0 : Int32)), (.int (0 : Int32)), (.int (0 : Int32)), (.int (0 : Int32)), (.int (0 : Int32)), (.int (0 : Int32)), (.int (0 : Int32))] (.int (0 : Int32)) := V_b04x
  refine stp (fun t k => st027 t k) ?_
  show W (T027.setTop (mkF m 140 #[.val (.long q0), .second, .val (.long q1), .second, .val (.long q2), .second, .val (.long q3), .second, .val (.int p4), .val (.int p5), .val (.int u0_1), .val (.int u0_3), .val (.ref b04), .unset, .unset, .unset] []))
  refine stp (fun t k => XS.aload X027.here hx rfl (hb hby at_140) rfl rfl k) ?_
  show W (T027.setTop (mkF m 142 #[.val (.long q0), .second, .val (.long q1), .second, .val (.long q2), .second, .val (.long q3), .second, .val (.int p4), .val (.int p5), .val (.int u0_1), .val (.int u0_3), .val (.ref b04), .unset, .unset, .unset] [(.ref b04)]))
  refine stp (fun t k => XS.bipush X027.here hx rfl (hb hby at_142) k) ?_
  show W (T027.setTop (mkF m 144 #[.val (.long q0), .second, .val (.long q1), .second, .val (.long q2), .second, .val (.long q3), .second, .val (.int p4), .val (.int p5), .val (.int u0_1), .val (.int u0_3), .val (.ref b04), .unset, .unset, .unset] [(.int (6 : Int32)), (.ref b04)]))
  refine stp (fun t k => XS.lloadN X027.here hx rfl (hb hby at_144) rfl k) ?_
  show W (T027.setTop (mkF m 145 #[.val (.long q0), .second, .val (.long q1), .second, .val (.long q2), .second, .val (.long q3), .second, .val (.int p4), .val (.int p5), .val (.int u0_1), .val (.int u0_3), .val (.ref b04), .unset, .unset, .unset] [(.long q0), (.int (6 : Int32)), (.ref b04)]))
  refine stp (fun t k => XS.lloadN X027.here hx rfl (hb hby at_145) rfl k) ?_
  show W (T027.setTop (mkF m 146 #[.val (.long q0), .second, .val (.long q1), .second, .val (.long q2), .second, .val (.long q3), .second, .val (.int p4), .val (.int p5), .val (.int u0_1), .val (.int u0_3), .val (.ref b04), .unset, .unset, .unset] [(.long q1), (.long q0), (.int (6 : Int32)), (.ref b04)]))
  refine stp (fun t k => XS.lload X027.here hx rfl (hb hby at_146) rfl k) ?_
  show W (T027.setTop (mkF m 148 #[.val (.long q0), .second, .val (.long q1), .second, .val (.long q2), .second, .val (.long q3), .second, .val (.int p4), .val (.int p5), .val (.int u0_1), .val (.int u0_3), .val (.ref b04), .unset, .unset, .unset] [(.long q2), (.long q1), (.long q0), (.int (6 : Int32)), (.ref b04)]))
  refine stp (fun t k => XS.lload X027.here hx rfl (hb hby at_148) rfl k) ?_
  show W (T027.setTop (mkF m 150 #[.val (.long q0), .second, .val (.long q1), .second, .val (.long q2), .second, .val (.long q3), .second, .val (.int p4), .val (.int p5), .val (.int u0_1), .val (.int u0_3), .val (.ref b04), .unset, .unset, .unset] [(.long q3), (.long q2), (.long q1), (.long q0), (.int (6 : Int32)), (.ref b04)]))
  refine stp (fun t k => XS.bipush X027.here hx rfl (hb hby at_150) k) ?_
  show W (T027.setTop (mkF m 152 #[.val (.long q0), .second, .val (.long q1), .second, .val (.long q2), .second, .val (.long q3), .second, .val (.int p4), .val (.int p5), .val (.int u0_1), .val (.int u0_3), .val (.ref b04), .unset, .unset, .unset] [(.int (6 : Int32)), (.long q3), (.long q2), (.long q1), (.long q0), (.int (6 : Int32)), (.ref b04)]))
  refine stp (fun t k => XS.iload X027.here hx rfl (hb hby at_152) rfl k) ?_
  show W (T027.setTop (mkF m 154 #[.val (.long q0), .second, .val (.long q1), .second, .val (.long q2), .second, .val (.long q3), .second, .val (.int p4), .val (.int p5), .val (.int u0_1), .val (.int u0_3), .val (.ref b04), .unset, .unset, .unset] [(.int u0_1), (.int (6 : Int32)), (.long q3), (.long q2), (.long q1), (.long q0), (.int (6 : Int32)), (.ref b04)]))
  refine stp (fun t k => XS.iload X027.here hx rfl (hb hby at_154) rfl k) ?_
  show W (T027.setTop (mkF m 156 #[.val (.long q0), .second, .val (.long q1), .second, .val (.long q2), .second, .val (.long q3), .second, .val (.int p4), .val (.int p5), .val (.int u0_1), .val (.int u0_3), .val (.ref b04), .unset, .unset, .unset] [(.int u0_3), (.int u0_1), (.int (6 : Int32)), (.long q3), (.long q2), (.long q1), (.long q0), (.int (6 : Int32)), (.ref b04)]))
  obtain ⟨_, _, ⟨T0c29, L0c29, k0c29, n0c29⟩, -, X0c29, ⟨Lc0c29, hQ0c29, l0c29, y0c29, z0c29⟩, st0c29⟩ := Jvm.LawKit.callS X027 hx (y := (⟨"com/example/fieldgate/fieldgate/record/DigitsValuePinLaw", "at", "(JJJJIII)C"⟩ : MethodName)) hown (mvT hZ (hw _ (List.mem_of_getElem? (i := 2) rfl))) (mvT hZ (hw _ (List.mem_of_getElem? (i := 3) rfl))) (mvT hZ (hw _ (List.mem_of_getElem? (i := 4) rfl))) (mvT hZ (hw _ (List.mem_of_getElem? (i := 5) rfl))) (by decide) (backOf (W := 2) (rmat l Z aa hw [] q0 q1 q2 q3 (6 : Int32) u0_1 u0_3  h027 n0 Z027 ) hZ (hw _ (List.mem_of_getElem? (i := 5) rfl)) (hw _ (List.mem_of_getElem? (i := 4) rfl)) (by decide) (by decide)) (g := (mkF m 156 #[.val (.long q0), .second, .val (.long q1), .second, .val (.long q2), .second, .val (.long q3), .second, .val (.int p4), .val (.int p5), .val (.int u0_1), .val (.int u0_3), .val (.ref b04), .unset, .unset, .unset] [(.int u0_3), (.int u0_1), (.int (6 : Int32)), (.long q3), (.long q2), (.long q1), (.long q0), (.int (6 : Int32)), (.ref b04)])) rfl (by rw [hml]; rfl) (argsL := [(.long q0), (.long q1), (.long q2), (.long q3), (.int (6 : Int32)), (.int u0_1), (.int u0_3)]) (rest := [(.int (6 : Int32)), (.ref b04)]) (lenOf pd0_0 rfl) rfl (by show 2 * 0 + _ ≤ _; exact Nat.le_of_eq rfl) (hb hby at_156) (fun _ _ => ⟨rfl, e027, (by decide : 1 + 0 ≤ _), (by decide : 18 + 0 ≤ _)⟩)
  dsimp only [Pt.U, Pt.locs, Pt.cells, Pt.slots] at X0c29 l0c29 y0c29 z0c29 st0c29 hQ0c29
  subst l0c29 y0c29 z0c29
  obtain ⟨rfl, N0c29q, e0c29⟩ := hQ0c29
  have N0c29 := Fr.app N027 N0c29q
  obtain ⟨lc0t30, X0c29, N0c29⟩ : ∃ lc, Stand p l e room_1 s m #[(.long q0), (.long q1), (.long q2), (.long q3), (.int p4), (.int p5)] below meth c T0c29 lc 1 18 ∧ Fr n0 lc := ⟨_, X0c29, N0c29⟩
  refine stp (fun t k => st0c29 t k) ?_
  show W (T0c29.setTop (mkF m 159 #[.val (.long q0), .second, .val (.long q1), .second, .val (.long q2), .second, .val (.long q3), .second, .val (.int p4), .val (.int p5), .val (.int u0_1), .val (.int u0_3), .val (.ref b04), .unset, .unset, .unset] [(.int (fat q0 q1 q2 q3 (6 : Int32) u0_1 u0_3)), (.int (6 : Int32)), (.ref b04)]))
  obtain ⟨cl031, Ar031, qk031, qs031, qn031, qh031, qg031⟩ := id V_b04
  have hin031 : ¬ ((6 : Int32) < 0 ∨ cl031.slots.size ≤ ((6 : Int32)).toNatClampNeg) := inb_of qs031 ⟨by decide, by decide⟩
  obtain ⟨T031, h031, X031, e031, W031, st031⟩ := stC X0c29 hx hZ e0c29 Ar031 (j := (6 : Int32)) hin031 (g := (mkF m 159 #[.val (.long q0), .second, .val (.long q1), .second, .val (.long q2), .second, .val (.long q3), .second, .val (.int p4), .val (.int p5), .val (.int u0_1), .val (.int u0_3), .val (.ref b04), .unset, .unset, .unset] [(.int (fat q0 q1 q2 q3 (6 : Int32) u0_1 u0_3)), (.int (6 : Int32)), (.ref b04)])) rfl rfl (hb hby at_159)
  have V_b04x := Arv.set Ar031 qk031 qs031 qn031 qh031 qg031 (fits_nar_char _) W031 6 rfl (Nat.le_of_ble_eq_true rfl)
  have N031 := Fr.snoc X031 N0c29 g_b04
  obtain ⟨lc0t32, X031, N031⟩ : ∃ lc, Stand p l e room_1 s m #[(.long q0), (.long q1), (.long q2), (.long q3), (.int p4), (.int p5)] below meth c T031 lc 1 18 ∧ Fr n0 lc := ⟨_, X031, N031⟩
  have K031 := K027.wr W031 (Or.inr sz_b04)
  have Z031 := Nat.le_trans Z027 (Keep.of_wr W031).1
  have O031 := O027.wr W031 g_b04
  replace V_b04 : Arv Z h031 b04 k04 .char (18 : Int32) [(.int (nar .char (fat q0 q1 q2 q3 (0 : Int32) u0_1 u0_3))), (.int (nar .char (fat q0 q1 q2 q3 (1 : Int32) u0_1 u0_3))), (.int (nar .char (fat q0 q1 q2 q3 (2 : Int32) u0_1 u0_3))), (.int (nar .char (fat q0 q1 q2 q3 (3 : Int32) u0_1 u0_3))), (.int (nar .char (fat q0 q1 q2 q3 (4 : Int32) u0_1 u0_3))), (.int (nar .char (fat q0 q1 q2 q3 (5 : Int32) u0_1 u0_3))), (.int (nar .char (fat q0 q1 q2 q3 (6 : Int32) u0_1 u0_3))), (.int (0 : Int32)), (.int (0 : Int32)), (.int (0 : Int32)), (.int (0 : Int32)), (.int (0 : Int32)), (.int (0 : Int32)), (.int (0 : Int32)), (.int (0 : Int32)), (.int (0 : Int32)), (.int (0 : Int32)), (.int (0 : Int32))] (.int (0 : Int32)) := V_b04x
  refine stp (fun t k => st031 t k) ?_
  show W (T031.setTop (mkF m 160 #[.val (.long q0), .second, .val (.long q1), .second, .val (.long q2), .second, .val (.long q3), .second, .val (.int p4), .val (.int p5), .val (.int u0_1), .val (.int u0_3), .val (.ref b04), .unset, .unset, .unset] []))
  refine stp (fun t k => XS.aload X031.here hx rfl (hb hby at_160) rfl rfl k) ?_
  show W (T031.setTop (mkF m 162 #[.val (.long q0), .second, .val (.long q1), .second, .val (.long q2), .second, .val (.long q3), .second, .val (.int p4), .val (.int p5), .val (.int u0_1), .val (.int u0_3), .val (.ref b04), .unset, .unset, .unset] [(.ref b04)]))
  refine stp (fun t k => XS.bipush X031.here hx rfl (hb hby at_162) k) ?_
  show W (T031.setTop (mkF m 164 #[.val (.long q0), .second, .val (.long q1), .second, .val (.long q2), .second, .val (.long q3), .second, .val (.int p4), .val (.int p5), .val (.int u0_1), .val (.int u0_3), .val (.ref b04), .unset, .unset, .unset] [(.int (7 : Int32)), (.ref b04)]))
  refine stp (fun t k => XS.lloadN X031.here hx rfl (hb hby at_164) rfl k) ?_
  show W (T031.setTop (mkF m 165 #[.val (.long q0), .second, .val (.long q1), .second, .val (.long q2), .second, .val (.long q3), .second, .val (.int p4), .val (.int p5), .val (.int u0_1), .val (.int u0_3), .val (.ref b04), .unset, .unset, .unset] [(.long q0), (.int (7 : Int32)), (.ref b04)]))
  refine stp (fun t k => XS.lloadN X031.here hx rfl (hb hby at_165) rfl k) ?_
  show W (T031.setTop (mkF m 166 #[.val (.long q0), .second, .val (.long q1), .second, .val (.long q2), .second, .val (.long q3), .second, .val (.int p4), .val (.int p5), .val (.int u0_1), .val (.int u0_3), .val (.ref b04), .unset, .unset, .unset] [(.long q1), (.long q0), (.int (7 : Int32)), (.ref b04)]))
  refine stp (fun t k => XS.lload X031.here hx rfl (hb hby at_166) rfl k) ?_
  show W (T031.setTop (mkF m 168 #[.val (.long q0), .second, .val (.long q1), .second, .val (.long q2), .second, .val (.long q3), .second, .val (.int p4), .val (.int p5), .val (.int u0_1), .val (.int u0_3), .val (.ref b04), .unset, .unset, .unset] [(.long q2), (.long q1), (.long q0), (.int (7 : Int32)), (.ref b04)]))
  refine stp (fun t k => XS.lload X031.here hx rfl (hb hby at_168) rfl k) ?_
  show W (T031.setTop (mkF m 170 #[.val (.long q0), .second, .val (.long q1), .second, .val (.long q2), .second, .val (.long q3), .second, .val (.int p4), .val (.int p5), .val (.int u0_1), .val (.int u0_3), .val (.ref b04), .unset, .unset, .unset] [(.long q3), (.long q2), (.long q1), (.long q0), (.int (7 : Int32)), (.ref b04)]))
  refine stp (fun t k => XS.bipush X031.here hx rfl (hb hby at_170) k) ?_
  show W (T031.setTop (mkF m 172 #[.val (.long q0), .second, .val (.long q1), .second, .val (.long q2), .second, .val (.long q3), .second, .val (.int p4), .val (.int p5), .val (.int u0_1), .val (.int u0_3), .val (.ref b04), .unset, .unset, .unset] [(.int (7 : Int32)), (.long q3), (.long q2), (.long q1), (.long q0), (.int (7 : Int32)), (.ref b04)]))
  refine stp (fun t k => XS.iload X031.here hx rfl (hb hby at_172) rfl k) ?_
  show W (T031.setTop (mkF m 174 #[.val (.long q0), .second, .val (.long q1), .second, .val (.long q2), .second, .val (.long q3), .second, .val (.int p4), .val (.int p5), .val (.int u0_1), .val (.int u0_3), .val (.ref b04), .unset, .unset, .unset] [(.int u0_1), (.int (7 : Int32)), (.long q3), (.long q2), (.long q1), (.long q0), (.int (7 : Int32)), (.ref b04)]))
  refine stp (fun t k => XS.iload X031.here hx rfl (hb hby at_174) rfl k) ?_
  show W (T031.setTop (mkF m 176 #[.val (.long q0), .second, .val (.long q1), .second, .val (.long q2), .second, .val (.long q3), .second, .val (.int p4), .val (.int p5), .val (.int u0_1), .val (.int u0_3), .val (.ref b04), .unset, .unset, .unset] [(.int u0_3), (.int u0_1), (.int (7 : Int32)), (.long q3), (.long q2), (.long q1), (.long q0), (.int (7 : Int32)), (.ref b04)]))
  obtain ⟨_, _, ⟨T0c33, L0c33, k0c33, n0c33⟩, -, X0c33, ⟨Lc0c33, hQ0c33, l0c33, y0c33, z0c33⟩, st0c33⟩ := Jvm.LawKit.callS X031 hx (y := (⟨"com/example/fieldgate/fieldgate/record/DigitsValuePinLaw", "at", "(JJJJIII)C"⟩ : MethodName)) hown (mvT hZ (hw _ (List.mem_of_getElem? (i := 2) rfl))) (mvT hZ (hw _ (List.mem_of_getElem? (i := 3) rfl))) (mvT hZ (hw _ (List.mem_of_getElem? (i := 4) rfl))) (mvT hZ (hw _ (List.mem_of_getElem? (i := 5) rfl))) (by decide) (backOf (W := 2) (rmat l Z aa hw [] q0 q1 q2 q3 (7 : Int32) u0_1 u0_3  h031 n0 Z031 ) hZ (hw _ (List.mem_of_getElem? (i := 5) rfl)) (hw _ (List.mem_of_getElem? (i := 4) rfl)) (by decide) (by decide)) (g := (mkF m 176 #[.val (.long q0), .second, .val (.long q1), .second, .val (.long q2), .second, .val (.long q3), .second, .val (.int p4), .val (.int p5), .val (.int u0_1), .val (.int u0_3), .val (.ref b04), .unset, .unset, .unset] [(.int u0_3), (.int u0_1), (.int (7 : Int32)), (.long q3), (.long q2), (.long q1), (.long q0), (.int (7 : Int32)), (.ref b04)])) rfl (by rw [hml]; rfl) (argsL := [(.long q0), (.long q1), (.long q2), (.long q3), (.int (7 : Int32)), (.int u0_1), (.int u0_3)]) (rest := [(.int (7 : Int32)), (.ref b04)]) (lenOf pd0_0 rfl) rfl (by show 2 * 0 + _ ≤ _; exact Nat.le_of_eq rfl) (hb hby at_176) (fun _ _ => ⟨rfl, e031, (by decide : 1 + 0 ≤ _), (by decide : 18 + 0 ≤ _)⟩)
  dsimp only [Pt.U, Pt.locs, Pt.cells, Pt.slots] at X0c33 l0c33 y0c33 z0c33 st0c33 hQ0c33
  subst l0c33 y0c33 z0c33
  obtain ⟨rfl, N0c33q, e0c33⟩ := hQ0c33
  have N0c33 := Fr.app N031 N0c33q
  obtain ⟨lc0t34, X0c33, N0c33⟩ : ∃ lc, Stand p l e room_1 s m #[(.long q0), (.long q1), (.long q2), (.long q3), (.int p4), (.int p5)] below meth c T0c33 lc 1 18 ∧ Fr n0 lc := ⟨_, X0c33, N0c33⟩
  refine stp (fun t k => st0c33 t k) ?_
  show W (T0c33.setTop (mkF m 179 #[.val (.long q0), .second, .val (.long q1), .second, .val (.long q2), .second, .val (.long q3), .second, .val (.int p4), .val (.int p5), .val (.int u0_1), .val (.int u0_3), .val (.ref b04), .unset, .unset, .unset] [(.int (fat q0 q1 q2 q3 (7 : Int32) u0_1 u0_3)), (.int (7 : Int32)), (.ref b04)]))
  obtain ⟨cl035, Ar035, qk035, qs035, qn035, qh035, qg035⟩ := id V_b04
  have hin035 : ¬ ((7 : Int32) < 0 ∨ cl035.slots.size ≤ ((7 : Int32)).toNatClampNeg) := inb_of qs035 ⟨by decide, by decide⟩
  obtain ⟨T035, h035, X035, e035, W035, st035⟩ := stC X0c33 hx hZ e0c33 Ar035 (j := (7 : Int32)) hin035 (g := (mkF m 179 #[.val (.long q0), .second, .val (.long q1), .second, .val (.long q2), .second, .val (.long q3), .second, .val (.int p4), .val (.int p5), .val (.int u0_1), .val (.int u0_3), .val (.ref b04), .unset, .unset, .unset] [(.int (fat q0 q1 q2 q3 (7 : Int32) u0_1 u0_3)), (.int (7 : Int32)), (.ref b04)])) rfl rfl (hb hby at_179)
  have V_b04x := Arv.set Ar035 qk035 qs035 qn035 qh035 qg035 (fits_nar_char _) W035 7 rfl (Nat.le_of_ble_eq_true rfl)
  have N035 := Fr.snoc X035 N0c33 g_b04
  obtain ⟨lc0t36, X035, N035⟩ : ∃ lc, Stand p l e room_1 s m #[(.long q0), (.long q1), (.long q2), (.long q3), (.int p4), (.int p5)] below meth c T035 lc 1 18 ∧ Fr n0 lc := ⟨_, X035, N035⟩
  have K035 := K031.wr W035 (Or.inr sz_b04)
  have Z035 := Nat.le_trans Z031 (Keep.of_wr W035).1
  have O035 := O031.wr W035 g_b04
  replace V_b04 : Arv Z h035 b04 k04 .char (18 : Int32) [(.int (nar .char (fat q0 q1 q2 q3 (0 : Int32) u0_1 u0_3))), (.int (nar .char (fat q0 q1 q2 q3 (1 : Int32) u0_1 u0_3))), (.int (nar .char (fat q0 q1 q2 q3 (2 : Int32) u0_1 u0_3))), (.int (nar .char (fat q0 q1 q2 q3 (3 : Int32) u0_1 u0_3))), (.int (nar .char (fat q0 q1 q2 q3 (4 : Int32) u0_1 u0_3))), (.int (nar .char (fat q0 q1 q2 q3 (5 : Int32) u0_1 u0_3))), (.int (nar .char (fat q0 q1 q2 q3 (6 : Int32) u0_1 u0_3))), (.int (nar .char (fat q0 q1 q2 q3 (7 : Int32) u0_1 u0_3))), (.int (0 : Int32)), (.int (0 : Int32)), (.int (0 : Int32)), (.int (0 : Int32)), (.int (0 : Int32)), (.int (0 : Int32)), (.int (0 : Int32)), (.int (0 : Int32)), (.int (0 : Int32)), (.int (0 : Int32))] (.int (0 : Int32)) := V_b04x
  refine stp (fun t k => st035 t k) ?_
  show W (T035.setTop (mkF m 180 #[.val (.long q0), .second, .val (.long q1), .second, .val (.long q2), .second, .val (.long q3), .second, .val (.int p4), .val (.int p5), .val (.int u0_1), .val (.int u0_3), .val (.ref b04), .unset, .unset, .unset] []))
  refine stp (fun t k => XS.aload X035.here hx rfl (hb hby at_180) rfl rfl k) ?_
  show W (T035.setTop (mkF m 182 #[.val (.long q0), .second, .val (.long q1), .second, .val (.long q2), .second, .val (.long q3), .second, .val (.int p4), .val (.int p5), .val (.int u0_1), .val (.int u0_3), .val (.ref b04), .unset, .unset, .unset] [(.ref b04)]))
  refine stp (fun t k => XS.bipush X035.here hx rfl (hb hby at_182) k) ?_
  show W (T035.setTop (mkF m 184 #[.val (.long q0), .second, .val (.long q1), .second, .val (.long q2), .second, .val (.long q3), .second, .val (.int p4), .val (.int p5), .val (.int u0_1), .val (.int u0_3), .val (.ref b04), .unset, .unset, .unset] [(.int (8 : Int32)), (.ref b04)]))
  refine stp (fun t k => XS.lloadN X035.here hx rfl (hb hby at_184) rfl k) ?_
  show W (T035.setTop (mkF m 185 #[.val (.long q0), .second, .val (.long q1), .second, .val (.long q2), .second, .val (.long q3), .second, .val (.int p4), .val (.int p5), .val (.int u0_1), .val (.int u0_3), .val (.ref b04), .unset, .unset, .unset] [(.long q0), (.int (8 : Int32)), (.ref b04)]))
  refine stp (fun t k => XS.lloadN X035.here hx rfl (hb hby at_185) rfl k) ?_
  show W (T035.setTop (mkF m 186 #[.val (.long q0), .second, .val (.long q1), .second, .val (.long q2), .second, .val (.long q3), .second, .val (.int p4), .val (.int p5), .val (.int u0_1), .val (.int u0_3), .val (.ref b04), .unset, .unset, .unset] [(.long q1), (.long q0), (.int (8 : Int32)), (.ref b04)]))
  refine stp (fun t k => XS.lload X035.here hx rfl (hb hby at_186) rfl k) ?_
  show W (T035.setTop (mkF m 188 #[.val (.long q0), .second, .val (.long q1), .second, .val (.long q2), .second, .val (.long q3), .second, .val (.int p4), .val (.int p5), .val (.int u0_1), .val (.int u0_3), .val (.ref b04), .unset, .unset, .unset] [(.long q2), (.long q1), (.long q0), (.int (8 : Int32)), (.ref b04)]))
  refine stp (fun t k => XS.lload X035.here hx rfl (hb hby at_188) rfl k) ?_
  show W (T035.setTop (mkF m 190 #[.val (.long q0), .second, .val (.long q1), .second, .val (.long q2), .second, .val (.long q3), .second, .val (.int p4), .val (.int p5), .val (.int u0_1), .val (.int u0_3), .val (.ref b04), .unset, .unset, .unset] [(.long q3), (.long q2), (.long q1), (.long q0), (.int (8 : Int32)), (.ref b04)]))
  refine stp (fun t k => XS.bipush X035.here hx rfl (hb hby at_190) k) ?_
  show W (T035.setTop (mkF m 192 #[.val (.long q0), .second, .val (.long q1), .second, .val (.long q2), .second, .val (.long q3), .second, .val (.int p4), .val (.int p5), .val (.int u0_1), .val (.int u0_3), .val (.ref b04), .unset, .unset, .unset] [(.int (8 : Int32)), (.long q3), (.long q2), (.long q1), (.long q0), (.int (8 : Int32)), (.ref b04)]))
  refine stp (fun t k => XS.iload X035.here hx rfl (hb hby at_192) rfl k) ?_
  show W (T035.setTop (mkF m 194 #[.val (.long q0), .second, .val (.long q1), .second, .val (.long q2), .second, .val (.long q3), .second, .val (.int p4), .val (.int p5), .val (.int u0_1), .val (.int u0_3), .val (.ref b04), .unset, .unset, .unset] [(.int u0_1), (.int (8 : Int32)), (.long q3), (.long q2), (.long q1), (.long q0), (.int (8 : Int32)), (.ref b04)]))
  refine stp (fun t k => XS.iload X035.here hx rfl (hb hby at_194) rfl k) ?_
  show W (T035.setTop (mkF m 196 #[.val (.long q0), .second, .val (.long q1), .second, .val (.long q2), .second, .val (.long q3), .second, .val (.int p4), .val (.int p5), .val (.int u0_1), .val (.int u0_3), .val (.ref b04), .unset, .unset, .unset] [(.int u0_3), (.int u0_1), (.int (8 : Int32)), (.long q3), (.long q2), (.long q1), (.long q0), (.int (8 : Int32)), (.ref b04)]))
  obtain ⟨_, _, ⟨T0c37, L0c37, k0c37, n0c37⟩, -, X0c37, ⟨Lc0c37, hQ0c37, l0c37, y0c37, z0c37⟩, st0c37⟩ := Jvm.LawKit.callS X035 hx (y := (⟨"com/example/fieldgate/fieldgate/record/DigitsValuePinLaw", "at", "(JJJJIII)C"⟩ : MethodName)) hown (mvT hZ (hw _ (List.mem_of_getElem? (i := 2) rfl))) (mvT hZ (hw _ (List.mem_of_getElem? (i := 3) rfl))) (mvT hZ (hw _ (List.mem_of_getElem? (i := 4) rfl))) (mvT hZ (hw _ (List.mem_of_getElem? (i := 5) rfl))) (by decide) (backOf (W := 2) (rmat l Z aa hw [] q0 q1 q2 q3 (8 : Int32) u0_1 u0_3  h035 n0 Z035 ) hZ (hw _ (List.mem_of_getElem? (i := 5) rfl)) (hw _ (List.mem_of_getElem? (i := 4) rfl)) (by decide) (by decide)) (g := (mkF m 196 #[.val (.long q0), .second, .val (.long q1), .second, .val (.long q2), .second, .val (.long q3), .second, .val (.int p4), .val (.int p5), .val (.int u0_1), .val (.int u0_3), .val (.ref b04), .unset, .unset, .unset] [(.int u0_3), (.int u0_1), (.int (8 : Int32)), (.long q3), (.long q2), (.long q1), (.long q0), (.int (8 : Int32)), (.ref b04)])) rfl (by rw [hml]; rfl) (argsL := [(.long q0), (.long q1), (.long q2), (.long q3), (.int (8 : Int32)), (.int u0_1), (.int u0_3)]) (rest := [(.int (8 : Int32)), (.ref b04)]) (lenOf pd0_0 rfl) rfl (by show 2 * 0 + _ ≤ _; exact Nat.le_of_eq rfl) (hb hby at_196) (fun _ _ => ⟨rfl, e035, (by decide : 1 + 0 ≤ _), (by decide : 18 + 0 ≤ _)⟩)
  dsimp only [Pt.U, Pt.locs, Pt.cells, Pt.slots] at X0c37 l0c37 y0c37 z0c37 st0c37 hQ0c37
  subst l0c37 y0c37 z0c37
  obtain ⟨rfl, N0c37q, e0c37⟩ := hQ0c37
  have N0c37 := Fr.app N035 N0c37q
  obtain ⟨lc0t38, X0c37, N0c37⟩ : ∃ lc, Stand p l e room_1 s m #[(.long q0), (.long q1), (.long q2), (.long q3), (.int p4), (.int p5)] below meth c T0c37 lc 1 18 ∧ Fr n0 lc := ⟨_, X0c37, N0c37⟩
  refine stp (fun t k => st0c37 t k) ?_
  show W (T0c37.setTop (mkF m 199 #[.val (.long q0), .second, .val (.long q1), .second, .val (.long q2), .second, .val (.long q3), .second, .val (.int p4), .val (.int p5), .val (.int u0_1), .val (.int u0_3), .val (.ref b04), .unset, .unset, .unset] [(.int (fat q0 q1 q2 q3 (8 : Int32) u0_1 u0_3)), (.int (8 : Int32)), (.ref b04)]))
  obtain ⟨cl039, Ar039, qk039, qs039, qn039, qh039, qg039⟩ := id V_b04
  have hin039 : ¬ ((8 : Int32) < 0 ∨ cl039.slots.size ≤ ((8 : Int32)).toNatClampNeg) := inb_of qs039 ⟨by decide, by decide⟩
  obtain ⟨T039, h039, X039, e039, W039, st039⟩ := stC X0c37 hx hZ e0c37 Ar039 (j := (8 : Int32)) hin039 (g := (mkF m 199 #[.val (.long q0), .second, .val (.long q1), .second, .val (.long q2), .second, .val (.long q3), .second, .val (.int p4), .val (.int p5), .val (.int u0_1), .val (.int u0_3), .val (.ref b04), .unset, .unset, .unset] [(.int (fat q0 q1 q2 q3 (8 : Int32) u0_1 u0_3)), (.int (8 : Int32)), (.ref b04)])) rfl rfl (hb hby at_199)
  have V_b04x := Arv.set Ar039 qk039 qs039 qn039 qh039 qg039 (fits_nar_char _) W039 8 rfl (Nat.le_of_ble_eq_true rfl)
  have N039 := Fr.snoc X039 N0c37 g_b04
  obtain ⟨lc0t40, X039, N039⟩ : ∃ lc, Stand p l e room_1 s m #[(.long q0), (.long q1), (.long q2), (.long q3), (.int p4), (.int p5)] below meth c T039 lc 1 18 ∧ Fr n0 lc := ⟨_, X039, N039⟩
  have K039 := K035.wr W039 (Or.inr sz_b04)
  have Z039 := Nat.le_trans Z035 (Keep.of_wr W039).1
  have O039 := O035.wr W039 g_b04
  replace V_b04 : Arv Z h039 b04 k04 .char (18 : Int32) [(.int (nar .char (fat q0 q1 q2 q3 (0 : Int32) u0_1 u0_3))), (.int (nar .char (fat q0 q1 q2 q3 (1 : Int32) u0_1 u0_3))), (.int (nar .char (fat q0 q1 q2 q3 (2 : Int32) u0_1 u0_3))), (.int (nar .char (fat q0 q1 q2 q3 (3 : Int32) u0_1 u0_3))), (.int (nar .char (fat q0 q1 q2 q3 (4 : Int32) u0_1 u0_3))), (.int (nar .char (fat q0 q1 q2 q3 (5 : Int32) u0_1 u0_3))), (.int (nar .char (fat q0 q1 q2 q3 (6 : Int32) u0_1 u0_3))), (.int (nar .char (fat q0 q1 q2 q3 (7 : Int32) u0_1 u0_3))), (.int (nar .char (fat q0 q1 q2 q3 (8 : Int32) u0_1 u0_3))), (.int (0 : Int32)), (.int (0 : Int32)), (.int (0 : Int32)), (.int (0 : Int32)), (.int (0 : Int32)), (.int (0 : Int32)), (.int (0 : Int32)), (.int (0 : Int32)), (.int (0 : Int32))] (.int (0 : Int32)) := V_b04x
  refine stp (fun t k => st039 t k) ?_
  show W (T039.setTop (mkF m 200 #[.val (.long q0), .second, .val (.long q1), .second, .val (.long q2), .second, .val (.long q3), .second, .val (.int p4), .val (.int p5), .val (.int u0_1), .val (.int u0_3), .val (.ref b04), .unset, .unset, .unset] []))
  refine stp (fun t k => XS.aload X039.here hx rfl (hb hby at_200) rfl rfl k) ?_
  show W (T039.setTop (mkF m 202 #[.val (.long q0), .second, .val (.long q1), .second, .val (.long q2), .second, .val (.long q3), .second, .val (.int p4), .val (.int p5), .val (.int u0_1), .val (.int u0_3), .val (.ref b04), .unset, .unset, .unset] [(.ref b04)]))
  refine stp (fun t k => XS.bipush X039.here hx rfl (hb hby at_202) k) ?_
  show W (T039.setTop (mkF m 204 #[.val (.long q0), .second, .val (.long q1), .second, .val (.long q2), .second, .val (.long q3), .second, .val (.int p4), .val (.int p5), .val (.int u0_1), .val (.int u0_3), .val (.ref b04), .unset, .unset, .unset] [(.int (9 : Int32)), (.ref b04)]))
  refine stp (fun t k => XS.lloadN X039.here hx rfl (hb hby at_204) rfl k) ?_
  show W (T039.setTop (mkF m 205 #[.val (.long q0), .second, .val (.long q1), .second, .val (.long q2), .second, .val (.long q3), .second, .val (.int p4), .val (.int p5), .val (.int u0_1), .val (.int u0_3), .val (.ref b04), .unset, .unset, .unset] [(.long q0), (.int (9 : Int32)), (.ref b04)]))
  refine stp (fun t k => XS.lloadN X039.here hx rfl (hb hby at_205) rfl k) ?_
  show W (T039.setTop (mkF m 206 #[.val (.long q0), .second, .val (.long q1), .second, .val (.long q2), .second, .val (.long q3), .second, .val (.int p4), .val (.int p5), .val (.int u0_1), .val (.int u0_3), .val (.ref b04), .unset, .unset, .unset] [(.long q1), (.long q0), (.int (9 : Int32)), (.ref b04)]))
  refine stp (fun t k => XS.lload X039.here hx rfl (hb hby at_206) rfl k) ?_
  show W (T039.setTop (mkF m 208 #[.val (.long q0), .second, .val (.long q1), .second, .val (.long q2), .second, .val (.long q3), .second, .val (.int p4), .val (.int p5), .val (.int u0_1), .val (.int u0_3), .val (.ref b04), .unset, .unset, .unset] [(.long q2), (.long q1), (.long q0), (.int (9 : Int32)), (.ref b04)]))
  refine stp (fun t k => XS.lload X039.here hx rfl (hb hby at_208) rfl k) ?_
  show W (T039.setTop (mkF m 210 #[.val (.long q0), .second, .val (.long q1), .second, .val (.long q2), .second, .val (.long q3), .second, .val (.int p4), .val (.int p5), .val (.int u0_1), .val (.int u0_3), .val (.ref b04), .unset, .unset, .unset] [(.long q3), (.long q2), (.long q1), (.long q0), (.int (9 : Int32)), (.ref b04)]))
  refine stp (fun t k => XS.bipush X039.here hx rfl (hb hby at_210) k) ?_
  show W (T039.setTop (mkF m 212 #[.val (.long q0), .second, .val (.long q1), .second, .val (.long q2), .second, .val (.long q3), .second, .val (.int p4), .val (.int p5), .val (.int u0_1), .val (.int u0_3), .val (.ref b04), .unset, .unset, .unset] [(.int (9 : Int32)), (.long q3), (.long q2), (.long q1), (.long q0), (.int (9 : Int32)), (.ref b04)]))
  refine stp (fun t k => XS.iload X039.here hx rfl (hb hby at_212) rfl k) ?_
  show W (T039.setTop (mkF m 214 #[.val (.long q0), .second, .val (.long q1), .second, .val (.long q2), .second, .val (.long q3), .second, .val (.int p4), .val (.int p5), .val (.int u0_1), .val (.int u0_3), .val (.ref b04), .unset, .unset, .unset] [(.int u0_1), (.int (9 : Int32)), (.long q3), (.long q2), (.long q1), (.long q0), (.int (9 : Int32)), (.ref b04)]))
  refine stp (fun t k => XS.iload X039.here hx rfl (hb hby at_214) rfl k) ?_
  show W (T039.setTop (mkF m 216 #[.val (.long q0), .second, .val (.long q1), .second, .val (.long q2), .second, .val (.long q3), .second, .val (.int p4), .val (.int p5), .val (.int u0_1), .val (.int u0_3), .val (.ref b04), .unset, .unset, .unset] [(.int u0_3), (.int u0_1), (.int (9 : Int32)), (.long q3), (.long q2), (.long q1), (.long q0), (.int (9 : Int32)), (.ref b04)]))
  obtain ⟨_, _, ⟨T0c41, L0c41, k0c41, n0c41⟩, -, X0c41, ⟨Lc0c41, hQ0c41, l0c41, y0c41, z0c41⟩, st0c41⟩ := Jvm.LawKit.callS X039 hx (y := (⟨"com/example/fieldgate/fieldgate/record/DigitsValuePinLaw", "at", "(JJJJIII)C"⟩ : MethodName)) hown (mvT hZ (hw _ (List.mem_of_getElem? (i := 2) rfl))) (mvT hZ (hw _ (List.mem_of_getElem? (i := 3) rfl))) (mvT hZ (hw _ (List.mem_of_getElem? (i := 4) rfl))) (mvT hZ (hw _ (List.mem_of_getElem? (i := 5) rfl))) (by decide) (backOf (W := 2) (rmat l Z aa hw [] q0 q1 q2 q3 (9 : Int32) u0_1 u0_3  h039 n0 Z039 ) hZ (hw _ (List.mem_of_getElem? (i := 5) rfl)) (hw _ (List.mem_of_getElem? (i := 4) rfl)) (by decide) (by decide)) (g := (mkF m 216 #[.val (.long q0), .second, .val (.long q1), .second, .val (.long q2), .second, .val (.long q3), .second, .val (.int p4), .val (.int p5), .val (.int u0_1), .val (.int u0_3), .val (.ref b04), .unset, .unset, .unset] [(.int u0_3), (.int u0_1), (.int (9 : Int32)), (.long q3), (.long q2), (.long q1), (.long q0), (.int (9 : Int32)), (.ref b04)])) rfl (by rw [hml]; rfl) (argsL := [(.long q0), (.long q1), (.long q2), (.long q3), (.int (9 : Int32)), (.int u0_1), (.int u0_3)]) (rest := [(.int (9 : Int32)), (.ref b04)]) (lenOf pd0_0 rfl) rfl (by show 2 * 0 + _ ≤ _; exact Nat.le_of_eq rfl) (hb hby at_216) (fun _ _ => ⟨rfl, e039, (by decide : 1 + 0 ≤ _), (by decide : 18 + 0 ≤ _)⟩)
  dsimp only [Pt.U, Pt.locs, Pt.cells, Pt.slots] at X0c41 l0c41 y0c41 z0c41 st0c41 hQ0c41
  subst l0c41 y0c41 z0c41
  obtain ⟨rfl, N0c41q, e0c41⟩ := hQ0c41
  have N0c41 := Fr.app N039 N0c41q
  obtain ⟨lc0t42, X0c41, N0c41⟩ : ∃ lc, Stand p l e room_1 s m #[(.long q0), (.long q1), (.long q2), (.long q3), (.int p4), (.int p5)] below meth c T0c41 lc 1 18 ∧ Fr n0 lc := ⟨_, X0c41, N0c41⟩
  refine stp (fun t k => st0c41 t k) ?_
  show W (T0c41.setTop (mkF m 219 #[.val (.long q0), .second, .val (.long q1), .second, .val (.long q2), .second, .val (.long q3), .second, .val (.int p4), .val (.int p5), .val (.int u0_1), .val (.int u0_3), .val (.ref b04), .unset, .unset, .unset] [(.int (fat q0 q1 q2 q3 (9 : Int32) u0_1 u0_3)), (.int (9 : Int32)), (.ref b04)]))
  obtain ⟨cl043, Ar043, qk043, qs043, qn043, qh043, qg043⟩ := id V_b04
  have hin043 : ¬ ((9 : Int32) < 0 ∨ cl043.slots.size ≤ ((9 : Int32)).toNatClampNeg) := inb_of qs043 ⟨by decide, by decide⟩
  obtain ⟨T043, h043, X043, e043, W043, st043⟩ := stC X0c41 hx hZ e0c41 Ar043 (j := (9 : Int32)) hin043 (g := (mkF m 219 #[.val (.long q0), .second, .val (.long q1), .second, .val (.long q2), .second, .val (.long q3), .second, .val (.int p4), .val (.int p5), .val (.int u0_1), .val (.int u0_3), .val (.ref b04), .unset, .unset, .unset] [(.int (fat q0 q1 q2 q3 (9 : Int32) u0_1 u0_3)), (.int (9 : Int32)), (.ref b04)])) rfl rfl (hb hby at_219)
  have V_b04x := Arv.set Ar043 qk043 qs043 qn043 qh043 qg043 (fits_nar_char _) W043 9 rfl (Nat.le_of_ble_eq_true rfl)
  have N043 := Fr.snoc X043 N0c41 g_b04
  obtain ⟨lc0t44, X043, N043⟩ : ∃ lc, Stand p l e room_1 s m #[(.long q0), (.long q1), (.long q2), (.long q3), (.int p4), (.int p5)] below meth c T043 lc 1 18 ∧ Fr n0 lc := ⟨_, X043, N043⟩
  have K043 := K039.wr W043 (Or.inr sz_b04)
  have Z043 := Nat.le_trans Z039 (Keep.of_wr W043).1
  have O043 := O039.wr W043 g_b04
  replace V_b04 : Arv Z h043 b04 k04 .char (18 : Int32) [(.int (nar .char (fat q0 q1 q2 q3 (0 : Int32) u0_1 u0_3))), (.int (nar .char (fat q0 q1 q2 q3 (1 : Int32) u0_1 u0_3))), (.int (nar .char (fat q0 q1 q2 q3 (2 : Int32) u0_1 u0_3))), (.int (nar .char (fat q0 q1 q2 q3 (3 : Int32) u0_1 u0_3))), (.int (nar .char (fat q0 q1 q2 q3 (4 : Int32) u0_1 u0_3))), (.int (nar .char (fat q0 q1 q2 q3 (5 : Int32) u0_1 u0_3))), (.int (nar .char (fat q0 q1 q2 q3 (6 : Int32) u0_1 u0_3))), (.int (nar .char (fat q0 q1 q2 q3 (7 : Int32) u0_1 u0_3))), (.int (nar .char (fat q0 q1 q2 q3 (8 : Int32) u0_1 u0_3))), (.int (nar .char (fat q0 q1 q2 q3 (9 : Int32) u0_1 u0_3))), (.int (0 : Int32)), (.int (0 : Int32)), (.int (0 : Int32)), (.int (0 : Int32)), (.int (0 : Int32)), (.int (0 : Int32)), (.int (0 : Int32)), (.int (0 : Int32))] (.int (0 : Int32)) := V_b04x
  refine stp (fun t k => st043 t k) ?_
  show W (T043.setTop (mkF m 220 #[.val (.long q0), .second, .val (.long q1), .second, .val (.long q2), .second, .val (.long q3), .second, .val (.int p4), .val (.int p5), .val (.int u0_1), .val (.int u0_3), .val (.ref b04), .unset, .unset, .unset] []))
  refine stp (fun t k => XS.aload X043.here hx rfl (hb hby at_220) rfl rfl k) ?_
  show W (T043.setTop (mkF m 222 #[.val (.long q0), .second, .val (.long q1), .second, .val (.long q2), .second, .val (.long q3), .second, .val (.int p4), .val (.int p5), .val (.int u0_1), .val (.int u0_3), .val (.ref b04), .unset, .unset, .unset] [(.ref b04)]))
  refine stp (fun t k => XS.bipush X043.here hx rfl (hb hby at_222) k) ?_
  show W (T043.setTop (mkF m 224 #[.val (.long q0), .second, .val (.long q1), .second, .val (.long q2), .second, .val (.long q3), .second, .val (.int p4), .val (.int p5), .val (.int u0_1), .val (.int u0_3), .val (.ref b04), .unset, .unset, .unset] [(.int (10 : Int32)), (.ref b04)]))
  refine stp (fun t k => XS.lloadN X043.here hx rfl (hb hby at_224) rfl k) ?_
  show W (T043.setTop (mkF m 225 #[.val (.long q0), .second, .val (.long q1), .second, .val (.long q2), .second, .val (.long q3), .second, .val (.int p4), .val (.int p5), .val (.int u0_1), .val (.int u0_3), .val (.ref b04), .unset, .unset, .unset] [(.long q0), (.int (10 : Int32)), (.ref b04)]))
  refine stp (fun t k => XS.lloadN X043.here hx rfl (hb hby at_225) rfl k) ?_
  show W (T043.setTop (mkF m 226 #[.val (.long q0), .second, .val (.long q1), .second, .val (.long q2), .second, .val (.long q3), .second, .val (.int p4), .val (.int p5), .val (.int u0_1), .val (.int u0_3), .val (.ref b04), .unset, .unset, .unset] [(.long q1), (.long q0), (.int (10 : Int32)), (.ref b04)]))
  refine stp (fun t k => XS.lload X043.here hx rfl (hb hby at_226) rfl k) ?_
  show W (T043.setTop (mkF m 228 #[.val (.long q0), .second, .val (.long q1), .second, .val (.long q2), .second, .val (.long q3), .second, .val (.int p4), .val (.int p5), .val (.int u0_1), .val (.int u0_3), .val (.ref b04), .unset, .unset, .unset] [(.long q2), (.long q1), (.long q0), (.int (10 : Int32)), (.ref b04)]))
  refine stp (fun t k => XS.lload X043.here hx rfl (hb hby at_228) rfl k) ?_
  show W (T043.setTop (mkF m 230 #[.val (.long q0), .second, .val (.long q1), .second, .val (.long q2), .second, .val (.long q3), .second, .val (.int p4), .val (.int p5), .val (.int u0_1), .val (.int u0_3), .val (.ref b04), .unset, .unset, .unset] [(.long q3), (.long q2), (.long q1), (.long q0), (.int (10 : Int32)), (.ref b04)]))
  refine stp (fun t k => XS.bipush X043.here hx rfl (hb hby at_230) k) ?_
  show W (T043.setTop (mkF m 232 #[.val (.long q0), .second, .val (.long q1), .second, .val (.long q2), .second, .val (.long q3), .second, .val (.int p4), .val (.int p5), .val (.int u0_1), .val (.int u0_3), .val (.ref b04), .unset, .unset, .unset] [(.int (10 : Int32)), (.long q3), (.long q2), (.long q1), (.long q0), (.int (10 : Int32)), (.ref b04)]))
  refine stp (fun t k => XS.iload X043.here hx rfl (hb hby at_232) rfl k) ?_
  show W (T043.setTop (mkF m 234 #[.val (.long q0), .second, .val (.long q1), .second, .val (.long q2), .second, .val (.long q3), .second, .val (.int p4), .val (.int p5), .val (.int u0_1), .val (.int u0_3), .val (.ref b04), .unset, .unset, .unset] [(.int u0_1), (.int (10 : Int32)), (.long q3), (.long q2), (.long q1), (.long q0), (.int (10 : Int32)), (.ref b04)]))
  refine stp (fun t k => XS.iload X043.here hx rfl (hb hby at_234) rfl k) ?_
  show W (T043.setTop (mkF m 236 #[.val (.long q0), .second, .val (.long q1), .second, .val (.long q2), .second, .val (.long q3), .second, .val (.int p4), .val (.int p5), .val (.int u0_1), .val (.int u0_3), .val (.ref b04), .unset, .unset, .unset] [(.int u0_3), (.int u0_1), (.int (10 : Int32)), (.long q3), (.long q2), (.long q1), (.long q0), (.int (10 : Int32)), (.ref b04)]))
  obtain ⟨_, _, ⟨T0c45, L0c45, k0c45, n0c45⟩, -, X0c45, ⟨Lc0c45, hQ0c45, l0c45, y0c45, z0c45⟩, st0c45⟩ := Jvm.LawKit.callS X043 hx (y := (⟨"com/example/fieldgate/fieldgate/record/DigitsValuePinLaw", "at", "(JJJJIII)C"⟩ : MethodName)) hown (mvT hZ (hw _ (List.mem_of_getElem? (i := 2) rfl))) (mvT hZ (hw _ (List.mem_of_getElem? (i := 3) rfl))) (mvT hZ (hw _ (List.mem_of_getElem? (i := 4) rfl))) (mvT hZ (hw _ (List.mem_of_getElem? (i := 5) rfl))) (by decide) (backOf (W := 2) (rmat l Z aa hw [] q0 q1 q2 q3 (10 : Int32) u0_1 u0_3  h043 n0 Z043 ) hZ (hw _ (List.mem_of_getElem? (i := 5) rfl)) (hw _ (List.mem_of_getElem? (i := 4) rfl)) (by decide) (by decide)) (g := (mkF m 236 #[.val (.long q0), .second, .val (.long q1), .second, .val (.long q2), .second, .val (.long q3), .second, .val (.int p4), .val (.int p5), .val (.int u0_1), .val (.int u0_3), .val (.ref b04), .unset, .unset, .unset] [(.int u0_3), (.int u0_1), (.int (10 : Int32)), (.long q3), (.long q2), (.long q1), (.long q0), (.int (10 : Int32)), (.ref b04)])) rfl (by rw [hml]; rfl) (argsL := [(.long q0), (.long q1), (.long q2), (.long q3), (.int (10 : Int32)), (.int u0_1), (.int u0_3)]) (rest := [(.int (10 : Int32)), (.ref b04)]) (lenOf pd0_0 rfl) rfl (by show 2 * 0 + _ ≤ _; exact Nat.le_of_eq rfl) (hb hby at_236) (fun _ _ => ⟨rfl, e043, (by decide : 1 + 0 ≤ _), (by decide : 18 + 0 ≤ _)⟩)
  dsimp only [Pt.U, Pt.locs, Pt.cells, Pt.slots] at X0c45 l0c45 y0c45 z0c45 st0c45 hQ0c45
  subst l0c45 y0c45 z0c45
  obtain ⟨rfl, N0c45q, e0c45⟩ := hQ0c45
  have N0c45 := Fr.app N043 N0c45q
  obtain ⟨lc0t46, X0c45, N0c45⟩ : ∃ lc, Stand p l e room_1 s m #[(.long q0), (.long q1), (.long q2), (.long q3), (.int p4), (.int p5)] below meth c T0c45 lc 1 18 ∧ Fr n0 lc := ⟨_, X0c45, N0c45⟩
  refine stp (fun t k => st0c45 t k) ?_
  show W (T0c45.setTop (mkF m 239 #[.val (.long q0), .second, .val (.long q1), .second, .val (.long q2), .second, .val (.long q3), .second, .val (.int p4), .val (.int p5), .val (.int u0_1), .val (.int u0_3), .val (.ref b04), .unset, .unset, .unset] [(.int (fat q0 q1 q2 q3 (10 : Int32) u0_1 u0_3)), (.int (10 : Int32)), (.ref b04)]))
  obtain ⟨cl047, Ar047, qk047, qs047, qn047, qh047, qg047⟩ := id V_b04
  have hin047 : ¬ ((10 : Int32) < 0 ∨ cl047.slots.size ≤ ((10 : Int32)).toNatClampNeg) := inb_of qs047 ⟨by decide, by decide⟩
  obtain ⟨T047, h047, X047, e047, W047, st047⟩ := stC X0c45 hx hZ e0c45 Ar047 (j := (10 : Int32)) hin047 (g := (mkF m 239 #[.val (.long q0), .second, .val (.long q1), .second, .val (.long q2), .second, .val (.long q3), .second, .val (.int p4), .val (.int p5), .val (.int u0_1), .val (.int u0_3), .val (.ref b04), .unset, .unset, .unset] [(.int (fat q0 q1 q2 q3 (10 : Int32) u0_1 u0_3)), (.int (10 : Int32)), (.ref b04)])) rfl rfl (hb hby at_239)
  have V_b04x := Arv.set Ar047 qk047 qs047 qn047 qh047 qg047 (fits_nar_char _) W047 10 rfl (Nat.le_of_ble_eq_true rfl)
  have N047 := Fr.snoc X047 N0c45 g_b04
  obtain ⟨lc0t48, X047, N047⟩ : ∃ lc, Stand p l e room_1 s m #[(.long q0), (.long q1), (.long q2), (.long q3), (.int p4), (.int p5)] below meth c T047 lc 1 18 ∧ Fr n0 lc := ⟨_, X047, N047⟩
  have K047 := K043.wr W047 (Or.inr sz_b04)
  have Z047 := Nat.le_trans Z043 (Keep.of_wr W047).1
  have O047 := O043.wr W047 g_b04
  replace V_b04 : Arv Z h047 b04 k04 .char (18 : Int32) [(.int (nar .char (fat q0 q1 q2 q3 (0 : Int32) u0_1 u0_3))), (.int (nar .char (fat q0 q1 q2 q3 (1 : Int32) u0_1 u0_3))), (.int (nar .char (fat q0 q1 q2 q3 (2 : Int32) u0_1 u0_3))), (.int (nar .char (fat q0 q1 q2 q3 (3 : Int32) u0_1 u0_3))), (.int (nar .char (fat q0 q1 q2 q3 (4 : Int32) u0_1 u0_3))), (.int (nar .char (fat q0 q1 q2 q3 (5 : Int32) u0_1 u0_3))), (.int (nar .char (fat q0 q1 q2 q3 (6 : Int32) u0_1 u0_3))), (.int (nar .char (fat q0 q1 q2 q3 (7 : Int32) u0_1 u0_3))), (.int (nar .char (fat q0 q1 q2 q3 (8 : Int32) u0_1 u0_3))), (.int (nar .char (fat q0 q1 q2 q3 (9 : Int32) u0_1 u0_3))), (.int (nar .char (fat q0 q1 q2 q3 (10 : Int32) u0_1 u0_3))), (.int (0 : Int32)), (.int (0 : Int32)), (.int (0 : Int32)), (.int (0 : Int32)), (.int (0 : Int32)), (.int (0 : Int32)), (.int (0 : Int32))] (.int (0 : Int32)) := V_b04x
  refine stp (fun t k => st047 t k) ?_
  show W (T047.setTop (mkF m 240 #[.val (.long q0), .second, .val (.long q1), .second, .val (.long q2), .second, .val (.long q3), .second, .val (.int p4), .val (.int p5), .val (.int u0_1), .val (.int u0_3), .val (.ref b04), .unset, .unset, .unset] []))
  refine stp (fun t k => XS.aload X047.here hx rfl (hb hby at_240) rfl rfl k) ?_
  show W (T047.setTop (mkF m 242 #[.val (.long q0), .second, .val (.long q1), .second, .val (.long q2), .second, .val (.long q3), .second, .val (.int p4), .val (.int p5), .val (.int u0_1), .val (.int u0_3), .val (.ref b04), .unset, .unset, .unset] [(.ref b04)]))
  refine stp (fun t k => XS.bipush X047.here hx rfl (hb hby at_242) k) ?_
  show W (T047.setTop (mkF m 244 #[.val (.long q0), .second, .val (.long q1), .second, .val (.long q2), .second, .val (.long q3), .second, .val (.int p4), .val (.int p5), .val (.int u0_1), .val (.int u0_3), .val (.ref b04), .unset, .unset, .unset] [(.int (11 : Int32)), (.ref b04)]))
  refine stp (fun t k => XS.lloadN X047.here hx rfl (hb hby at_244) rfl k) ?_
  show W (T047.setTop (mkF m 245 #[.val (.long q0), .second, .val (.long q1), .second, .val (.long q2), .second, .val (.long q3), .second, .val (.int p4), .val (.int p5), .val (.int u0_1), .val (.int u0_3), .val (.ref b04), .unset, .unset, .unset] [(.long q0), (.int (11 : Int32)), (.ref b04)]))
  refine stp (fun t k => XS.lloadN X047.here hx rfl (hb hby at_245) rfl k) ?_
  show W (T047.setTop (mkF m 246 #[.val (.long q0), .second, .val (.long q1), .second, .val (.long q2), .second, .val (.long q3), .second, .val (.int p4), .val (.int p5), .val (.int u0_1), .val (.int u0_3), .val (.ref b04), .unset, .unset, .unset] [(.long q1), (.long q0), (.int (11 : Int32)), (.ref b04)]))
  refine stp (fun t k => XS.lload X047.here hx rfl (hb hby at_246) rfl k) ?_
  show W (T047.setTop (mkF m 248 #[.val (.long q0), .second, .val (.long q1), .second, .val (.long q2), .second, .val (.long q3), .second, .val (.int p4), .val (.int p5), .val (.int u0_1), .val (.int u0_3), .val (.ref b04), .unset, .unset, .unset] [(.long q2), (.long q1), (.long q0), (.int (11 : Int32)), (.ref b04)]))
  refine stp (fun t k => XS.lload X047.here hx rfl (hb hby at_248) rfl k) ?_
  show W (T047.setTop (mkF m 250 #[.val (.long q0), .second, .val (.long q1), .second, .val (.long q2), .second, .val (.long q3), .second, .val (.int p4), .val (.int p5), .val (.int u0_1), .val (.int u0_3), .val (.ref b04), .unset, .unset, .unset] [(.long q3), (.long q2), (.long q1), (.long q0), (.int (11 : Int32)), (.ref b04)]))
  refine stp (fun t k => XS.bipush X047.here hx rfl (hb hby at_250) k) ?_
  show W (T047.setTop (mkF m 252 #[.val (.long q0), .second, .val (.long q1), .second, .val (.long q2), .second, .val (.long q3), .second, .val (.int p4), .val (.int p5), .val (.int u0_1), .val (.int u0_3), .val (.ref b04), .unset, .unset, .unset] [(.int (11 : Int32)), (.long q3), (.long q2), (.long q1), (.long q0), (.int (11 : Int32)), (.ref b04)]))
  refine stp (fun t k => XS.iload X047.here hx rfl (hb hby at_252) rfl k) ?_
  show W (T047.setTop (mkF m 254 #[.val (.long q0), .second, .val (.long q1), .second, .val (.long q2), .second, .val (.long q3), .second, .val (.int p4), .val (.int p5), .val (.int u0_1), .val (.int u0_3), .val (.ref b04), .unset, .unset, .unset] [(.int u0_1), (.int (11 : Int32)), (.long q3), (.long q2), (.long q1), (.long q0), (.int (11 : Int32)), (.ref b04)]))
  refine stp (fun t k => XS.iload X047.here hx rfl (hb hby at_254) rfl k) ?_
  show W (T047.setTop (mkF m 256 #[.val (.long q0), .second, .val (.long q1), .second, .val (.long q2), .second, .val (.long q3), .second, .val (.int p4), .val (.int p5), .val (.int u0_1), .val (.int u0_3), .val (.ref b04), .unset, .unset, .unset] [(.int u0_3), (.int u0_1), (.int (11 : Int32)), (.long q3), (.long q2), (.long q1), (.long q0), (.int (11 : Int32)), (.ref b04)]))
  obtain ⟨_, _, ⟨T0c49, L0c49, k0c49, n0c49⟩, -, X0c49, ⟨Lc0c49, hQ0c49, l0c49, y0c49, z0c49⟩, st0c49⟩ := Jvm.LawKit.callS X047 hx (y := (⟨"com/example/fieldgate/fieldgate/record/DigitsValuePinLaw", "at", "(JJJJIII)C"⟩ : MethodName)) hown (mvT hZ (hw _ (List.mem_of_getElem? (i := 2) rfl))) (mvT hZ (hw _ (List.mem_of_getElem? (i := 3) rfl))) (mvT hZ (hw _ (List.mem_of_getElem? (i := 4) rfl))) (mvT hZ (hw _ (List.mem_of_getElem? (i := 5) rfl))) (by decide) (backOf (W := 2) (rmat l Z aa hw [] q0 q1 q2 q3 (11 : Int32) u0_1 u0_3  h047 n0 Z047 ) hZ (hw _ (List.mem_of_getElem? (i := 5) rfl)) (hw _ (List.mem_of_getElem? (i := 4) rfl)) (by decide) (by decide)) (g := (mkF m 256 #[.val (.long q0), .second, .val (.long q1), .second, .val (.long q2), .second, .val (.long q3), .second, .val (.int p4), .val (.int p5), .val (.int u0_1), .val (.int u0_3), .val (.ref b04), .unset, .unset, .unset] [(.int u0_3), (.int u0_1), (.int (11 : Int32)), (.long q3), (.long q2), (.long q1), (.long q0), (.int (11 : Int32)), (.ref b04)])) rfl (by rw [hml]; rfl) (argsL := [(.long q0), (.long q1), (.long q2), (.long q3), (.int (11 : Int32)), (.int u0_1), (.int u0_3)]) (rest := [(.int (11 : Int32)), (.ref b04)]) (lenOf pd0_0 rfl) rfl (by show 2 * 0 + _ ≤ _; exact Nat.le_of_eq rfl) (hb hby at_256) (fun _ _ => ⟨rfl, e047, (by decide : 1 + 0 ≤ _), (by decide : 18 + 0 ≤ _)⟩)
  dsimp only [Pt.U, Pt.locs, Pt.cells, Pt.slots] at X0c49 l0c49 y0c49 z0c49 st0c49 hQ0c49
  subst l0c49 y0c49 z0c49
  obtain ⟨rfl, N0c49q, e0c49⟩ := hQ0c49
  have N0c49 := Fr.app N047 N0c49q
  obtain ⟨lc0t50, X0c49, N0c49⟩ : ∃ lc, Stand p l e room_1 s m #[(.long q0), (.long q1), (.long q2), (.long q3), (.int p4), (.int p5)] below meth c T0c49 lc 1 18 ∧ Fr n0 lc := ⟨_, X0c49, N0c49⟩
  refine stp (fun t k => st0c49 t k) ?_
  show W (T0c49.setTop (mkF m 259 #[.val (.long q0), .second, .val (.long q1), .second, .val (.long q2), .second, .val (.long q3), .second, .val (.int p4), .val (.int p5), .val (.int u0_1), .val (.int u0_3), .val (.ref b04), .unset, .unset, .unset] [(.int (fat q0 q1 q2 q3 (11 : Int32) u0_1 u0_3)), (.int (11 : Int32)), (.ref b04)]))
  obtain ⟨cl051, Ar051, qk051, qs051, qn051, qh051, qg051⟩ := id V_b04
  have hin051 : ¬ ((11 : Int32) < 0 ∨ cl051.slots.size ≤ ((11 : Int32)).toNatClampNeg) := inb_of qs051 ⟨by decide, by decide⟩
  obtain ⟨T051, h051, X051, e051, W051, st051⟩ := stC X0c49 hx hZ e0c49 Ar051 (j := (11 : Int32)) hin051 (g := (mkF m 259 #[.val (.long q0), .second, .val (.long q1), .second, .val (.long q2), .second, .val (.long q3), .second, .val (.int p4), .val (.int p5), .val (.int u0_1), .val (.int u0_3), .val (.ref b04), .unset, .unset, .unset] [(.int (fat q0 q1 q2 q3 (11 : Int32) u0_1 u0_3)), (.int (11 : Int32)), (.ref b04)])) rfl rfl (hb hby at_259)
  have V_b04x := Arv.set Ar051 qk051 qs051 qn051 qh051 qg051 (fits_nar_char _) W051 11 rfl (Nat.le_of_ble_eq_true rfl)
  have N051 := Fr.snoc X051 N0c49 g_b04
  obtain ⟨lc0t52, X051, N051⟩ : ∃ lc, Stand p l e room_1 s m #[(.long q0), (.long q1), (.long q2), (.long q3), (.int p4), (.int p5)] below meth c T051 lc 1 18 ∧ Fr n0 lc := ⟨_, X051, N051⟩
  have K051 := K047.wr W051 (Or.inr sz_b04)
  have Z051 := Nat.le_trans Z047 (Keep.of_wr W051).1
  have O051 := O047.wr W051 g_b04
  replace V_b04 : Arv Z h051 b04 k04 .char (18 : Int32) [(.int (nar .char (fat q0 q1 q2 q3 (0 : Int32) u0_1 u0_3))), (.int (nar .char (fat q0 q1 q2 q3 (1 : Int32) u0_1 u0_3))), (.int (nar .char (fat q0 q1 q2 q3 (2 : Int32) u0_1 u0_3))), (.int (nar .char (fat q0 q1 q2 q3 (3 : Int32) u0_1 u0_3))), (.int (nar .char (fat q0 q1 q2 q3 (4 : Int32) u0_1 u0_3))), (.int (nar .char (fat q0 q1 q2 q3 (5 : Int32) u0_1 u0_3))), (.int (nar .char (fat q0 q1 q2 q3 (6 : Int32) u0_1 u0_3))), (.int (nar .char (fat q0 q1 q2 q3 (7 : Int32) u0_1 u0_3))), (.int (nar .char (fat q0 q1 q2 q3 (8 : Int32) u0_1 u0_3))), (.int (nar .char (fat q0 q1 q2 q3 (9 : Int32) u0_1 u0_3))), (.int (nar .char (fat q0 q1 q2 q3 (10 : Int32) u0_1 u0_3))), (.int (nar .char (fat q0 q1 q2 q3 (11 : Int32) u0_1 u0_3))), (.int (0 : Int32)), (.int (0 : Int32)), (.int (0 : Int32)), (.int (0 : Int32)), (.int (0 : Int32)), (.int (0 : Int32))] (.int (0 : Int32)) := V_b04x
  refine stp (fun t k => st051 t k) ?_
  show W (T051.setTop (mkF m 260 #[.val (.long q0), .second, .val (.long q1), .second, .val (.long q2), .second, .val (.long q3), .second, .val (.int p4), .val (.int p5), .val (.int u0_1), .val (.int u0_3), .val (.ref b04), .unset, .unset, .unset] []))
  refine stp (fun t k => XS.aload X051.here hx rfl (hb hby at_260) rfl rfl k) ?_
  show W (T051.setTop (mkF m 262 #[.val (.long q0), .second, .val (.long q1), .second, .val (.long q2), .second, .val (.long q3), .second, .val (.int p4), .val (.int p5), .val (.int u0_1), .val (.int u0_3), .val (.ref b04), .unset, .unset, .unset] [(.ref b04)]))
  refine stp (fun t k => XS.bipush X051.here hx rfl (hb hby at_262) k) ?_
  show W (T051.setTop (mkF m 264 #[.val (.long q0), .second, .val (.long q1), .second, .val (.long q2), .second, .val (.long q3), .second, .val (.int p4), .val (.int p5), .val (.int u0_1), .val (.int u0_3), .val (.ref b04), .unset, .unset, .unset] [(.int (12 : Int32)), (.ref b04)]))
  refine stp (fun t k => XS.lloadN X051.here hx rfl (hb hby at_264) rfl k) ?_
  show W (T051.setTop (mkF m 265 #[.val (.long q0), .second, .val (.long q1), .second, .val (.long q2), .second, .val (.long q3), .second, .val (.int p4), .val (.int p5), .val (.int u0_1), .val (.int u0_3), .val (.ref b04), .unset, .unset, .unset] [(.long q0), (.int (12 : Int32)), (.ref b04)]))
  refine stp (fun t k => XS.lloadN X051.here hx rfl (hb hby at_265) rfl k) ?_
  show W (T051.setTop (mkF m 266 #[.val (.long q0), .second, .val (.long q1), .second, .val (.long q2), .second, .val (.long q3), .second, .val (.int p4), .val (.int p5), .val (.int u0_1), .val (.int u0_3), .val (.ref b04), .unset, .unset, .unset] [(.long q1), (.long q0), (.int (12 : Int32)), (.ref b04)]))
  refine stp (fun t k => XS.lload X051.here hx rfl (hb hby at_266) rfl k) ?_
  show W (T051.setTop (mkF m 268 #[.val (.long q0), .second, .val (.long q1), .second, .val (.long q2), .second, .val (.long q3), .second, .val (.int p4), .val (.int p5), .val (.int u0_1), .val (.int u0_3), .val (.ref b04), .unset, .unset, .unset] [(.long q2), (.long q1), (.long q0), (.int (12 : Int32)), (.ref b04)]))
  refine stp (fun t k => XS.lload X051.here hx rfl (hb hby at_268) rfl k) ?_
  show W (T051.setTop (mkF m 270 #[.val (.long q0), .second, .val (.long q1), .second, .val (.long q2), .second, .val (.long q3), .second, .val (.int p4), .val (.int p5), .val (.int u0_1), .val (.int u0_3), .val (.ref b04), .unset, .unset, .unset] [(.long q3), (.long q2), (.long q1), (.long q0), (.int (12 : Int32)), (.ref b04)]))
  refine stp (fun t k => XS.bipush X051.here hx rfl (hb hby at_270) k) ?_
  show W (T051.setTop (mkF m 272 #[.val (.long q0), .second, .val (.long q1), .second, .val (.long q2), .second, .val (.long q3), .second, .val (.int p4), .val (.int p5), .val (.int u0_1), .val (.int u0_3), .val (.ref b04), .unset, .unset, .unset] [(.int (12 : Int32)), (.long q3), (.long q2), (.long q1), (.long q0), (.int (12 : Int32)), (.ref b04)]))
  refine stp (fun t k => XS.iload X051.here hx rfl (hb hby at_272) rfl k) ?_
  show W (T051.setTop (mkF m 274 #[.val (.long q0), .second, .val (.long q1), .second, .val (.long q2), .second, .val (.long q3), .second, .val (.int p4), .val (.int p5), .val (.int u0_1), .val (.int u0_3), .val (.ref b04), .unset, .unset, .unset] [(.int u0_1), (.int (12 : Int32)), (.long q3), (.long q2), (.long q1), (.long q0), (.int (12 : Int32)), (.ref b04)]))
  refine stp (fun t k => XS.iload X051.here hx rfl (hb hby at_274) rfl k) ?_
  show W (T051.setTop (mkF m 276 #[.val (.long q0), .second, .val (.long q1), .second, .val (.long q2), .second, .val (.long q3), .second, .val (.int p4), .val (.int p5), .val (.int u0_1), .val (.int u0_3), .val (.ref b04), .unset, .unset, .unset] [(.int u0_3), (.int u0_1), (.int (12 : Int32)), (.long q3), (.long q2), (.long q1), (.long q0), (.int (12 : Int32)), (.ref b04)]))
  obtain ⟨_, _, ⟨T0c53, L0c53, k0c53, n0c53⟩, -, X0c53, ⟨Lc0c53, hQ0c53, l0c53, y0c53, z0c53⟩, st0c53⟩ := Jvm.LawKit.callS X051 hx (y := (⟨"com/example/fieldgate/fieldgate/record/DigitsValuePinLaw", "at", "(JJJJIII)C"⟩ : MethodName)) hown (mvT hZ (hw _ (List.mem_of_getElem? (i := 2) rfl))) (mvT hZ (hw _ (List.mem_of_getElem? (i := 3) rfl))) (mvT hZ (hw _ (List.mem_of_getElem? (i := 4) rfl))) (mvT hZ (hw _ (List.mem_of_getElem? (i := 5) rfl))) (by decide) (backOf (W := 2) (rmat l Z aa hw [] q0 q1 q2 q3 (12 : Int32) u0_1 u0_3  h051 n0 Z051 ) hZ (hw _ (List.mem_of_getElem? (i := 5) rfl)) (hw _ (List.mem_of_getElem? (i := 4) rfl)) (by decide) (by decide)) (g := (mkF m 276 #[.val (.long q0), .second, .val (.long q1), .second, .val (.long q2), .second, .val (.long q3), .second, .val (.int p4), .val (.int p5), .val (.int u0_1), .val (.int u0_3), .val (.ref b04), .unset, .unset, .unset] [(.int u0_3), (.int u0_1), (.int (12 : Int32)), (.long q3), (.long q2), (.long q1), (.long q0), (.int (12 : Int32)), (.ref b04)])) rfl (by rw [hml]; rfl) (argsL := [(.long q0), (.long q1), (.long q2), (.long q3), (.int (12 : Int32)), (.int u0_1), (.int u0_3)]) (rest := [(.int (12 : Int32)), (.ref b04)]) (lenOf pd0_0 rfl) rfl (by show 2 * 0 + _ ≤ _; exact Nat.le_of_eq rfl) (hb hby at_276) (fun _ _ => ⟨rfl, e051, (by decide : 1 + 0 ≤ _), (by decide : 18 + 0 ≤ _)⟩)
  dsimp only [Pt.U, Pt.locs, Pt.cells, Pt.slots] at X0c53 l0c53 y0c53 z0c53 st0c53 hQ0c53
  subst l0c53 y0c53 z0c53
  obtain ⟨rfl, N0c53q, e0c53⟩ := hQ0c53
  have N0c53 := Fr.app N051 N0c53q
  obtain ⟨lc0t54, X0c53, N0c53⟩ : ∃ lc, Stand p l e room_1 s m #[(.long q0), (.long q1), (.long q2), (.long q3), (.int p4), (.int p5)] below meth c T0c53 lc 1 18 ∧ Fr n0 lc := ⟨_, X0c53, N0c53⟩
  refine stp (fun t k => st0c53 t k) ?_
  show W (T0c53.setTop (mkF m 279 #[.val (.long q0), .second, .val (.long q1), .second, .val (.long q2), .second, .val (.long q3), .second, .val (.int p4), .val (.int p5), .val (.int u0_1), .val (.int u0_3), .val (.ref b04), .unset, .unset, .unset] [(.int (fat q0 q1 q2 q3 (12 : Int32) u0_1 u0_3)), (.int (12 : Int32)), (.ref b04)]))
  obtain ⟨cl055, Ar055, qk055, qs055, qn055, qh055, qg055⟩ := id V_b04
  have hin055 : ¬ ((12 : Int32) < 0 ∨ cl055.slots.size ≤ ((12 : Int32)).toNatClampNeg) := inb_of qs055 ⟨by decide, by decide⟩
  obtain ⟨T055, h055, X055, e055, W055, st055⟩ := stC X0c53 hx hZ e0c53 Ar055 (j := (12 : Int32)) hin055 (g := (mkF m 279 #[.val (.long q0), .second, .val (.long q1), .second, .val (.long q2), .second, .val (.long q3), .second, .val (.int p4), .val (.int p5), .val (.int u0_1), .val (.int u0_3), .val (.ref b04), .unset, .unset, .unset] [(.int (fat q0 q1 q2 q3 (12 : Int32) u0_1 u0_3)), (.int (12 : Int32)), (.ref b04)])) rfl rfl (hb hby at_279)
  have V_b04x := Arv.set Ar055 qk055 qs055 qn055 qh055 qg055 (fits_nar_char _) W055 12 rfl (Nat.le_of_ble_eq_true rfl)
  have N055 := Fr.snoc X055 N0c53 g_b04
  obtain ⟨lc0t56, X055, N055⟩ : ∃ lc, Stand p l e room_1 s m #[(.long q0), (.long q1), (.long q2), (.long q3), (.int p4), (.int p5)] below meth c T055 lc 1 18 ∧ Fr n0 lc := ⟨_, X055, N055⟩
  have K055 := K051.wr W055 (Or.inr sz_b04)
  have Z055 := Nat.le_trans Z051 (Keep.of_wr W055).1
  have O055 := O051.wr W055 g_b04
  replace V_b04 : Arv Z h055 b04 k04 .char (18 : Int32) [(.int (nar .char (fat q0 q1 q2 q3 (0 : Int32) u0_1 u0_3))), (.int (nar .char (fat q0 q1 q2 q3 (1 : Int32) u0_1 u0_3))), (.int (nar .char (fat q0 q1 q2 q3 (2 : Int32) u0_1 u0_3))), (.int (nar .char (fat q0 q1 q2 q3 (3 : Int32) u0_1 u0_3))), (.int (nar .char (fat q0 q1 q2 q3 (4 : Int32) u0_1 u0_3))), (.int (nar .char (fat q0 q1 q2 q3 (5 : Int32) u0_1 u0_3))), (.int (nar .char (fat q0 q1 q2 q3 (6 : Int32) u0_1 u0_3))), (.int (nar .char (fat q0 q1 q2 q3 (7 : Int32) u0_1 u0_3))), (.int (nar .char (fat q0 q1 q2 q3 (8 : Int32) u0_1 u0_3))), (.int (nar .char (fat q0 q1 q2 q3 (9 : Int32) u0_1 u0_3))), (.int (nar .char (fat q0 q1 q2 q3 (10 : Int32) u0_1 u0_3))), (.int (nar .char (fat q0 q1 q2 q3 (11 : Int32) u0_1 u0_3))), (.int (nar .char (fat q0 q1 q2 q3 (12 : Int32) u0_1 u0_3))), (.int (0 : Int32)), (.int (0 : Int32)), (.int (0 : Int32)), (.int (0 : Int32)), (.int (0 : Int32))] (.int (0 : Int32)) := V_b04x
  refine stp (fun t k => st055 t k) ?_
  show W (T055.setTop (mkF m 280 #[.val (.long q0), .second, .val (.long q1), .second, .val (.long q2), .second, .val (.long q3), .second, .val (.int p4), .val (.int p5), .val (.int u0_1), .val (.int u0_3), .val (.ref b04), .unset, .unset, .unset] []))
  refine stp (fun t k => XS.aload X055.here hx rfl (hb hby at_280) rfl rfl k) ?_
  show W (T055.setTop (mkF m 282 #[.val (.long q0), .second, .val (.long q1), .second, .val (.long q2), .second, .val (.long q3), .second, .val (.int p4), .val (.int p5), .val (.int u0_1), .val (.int u0_3), .val (.ref b04), .unset, .unset, .unset] [(.ref b04)]))
  refine stp (fun t k => XS.bipush X055.here hx rfl (hb hby at_282) k) ?_
  show W (T055.setTop (mkF m 284 #[.val (.long q0), .second, .val (.long q1), .second, .val (.long q2), .second, .val (.long q3), .second, .val (.int p4), .val (.int p5), .val (.int u0_1), .val (.int u0_3), .val (.ref b04), .unset, .unset, .unset] [(.int (13 : Int32)), (.ref b04)]))
  refine stp (fun t k => XS.lloadN X055.here hx rfl (hb hby at_284) rfl k) ?_
  show W (T055.setTop (mkF m 285 #[.val (.long q0), .second, .val (.long q1), .second, .val (.long q2), .second, .val (.long q3), .second, .val (.int p4), .val (.int p5), .val (.int u0_1), .val (.int u0_3), .val (.ref b04), .unset, .unset, .unset] [(.long q0), (.int (13 : Int32)), (.ref b04)]))
  refine stp (fun t k => XS.lloadN X055.here hx rfl (hb hby at_285) rfl k) ?_
  show W (T055.setTop (mkF m 286 #[.val (.long q0), .second, .val (.long q1), .second, .val (.long q2), .second, .val (.long q3), .second, .val (.int p4), .val (.int p5), .val (.int u0_1), .val (.int u0_3), .val (.ref b04), .unset, .unset, .unset] [(.long q1), (.long q0), (.int (13 : Int32)), (.ref b04)]))
  refine stp (fun t k => XS.lload X055.here hx rfl (hb hby at_286) rfl k) ?_
  show W (T055.setTop (mkF m 288 #[.val (.long q0), .second, .val (.long q1), .second, .val (.long q2), .second, .val (.long q3), .second, .val (.int p4), .val (.int p5), .val (.int u0_1), .val (.int u0_3), .val (.ref b04), .unset, .unset, .unset] [(.long q2), (.long q1), (.long q0), (.int (13 : Int32)), (.ref b04)]))
  refine stp (fun t k => XS.lload X055.here hx rfl (hb hby at_288) rfl k) ?_
  show W (T055.setTop (mkF m 290 #[.val (.long q0), .second, .val (.long q1), .second, .val (.long q2), .second, .val (.long q3), .second, .val (.int p4), .val (.int p5), .val (.int u0_1), .val (.int u0_3), .val (.ref b04), .unset, .unset, .unset] [(.long q3), (.long q2), (.long q1), (.long q0), (.int (13 : Int32)), (.ref b04)]))
  refine stp (fun t k => XS.bipush X055.here hx rfl (hb hby at_290) k) ?_
  show W (T055.setTop (mkF m 292 #[.val (.long q0), .second, .val (.long q1), .second, .val (.long q2), .second, .val (.long q3), .second, .val (.int p4), .val (.int p5), .val (.int u0_1), .val (.int u0_3), .val (.ref b04), .unset, .unset, .unset] [(.int (13 : Int32)), (.long q3), (.long q2), (.long q1), (.long q0), (.int (13 : Int32)), (.ref b04)]))
  refine stp (fun t k => XS.iload X055.here hx rfl (hb hby at_292) rfl k) ?_
  show W (T055.setTop (mkF m 294 #[.val (.long q0), .second, .val (.long q1), .second, .val (.long q2), .second, .val (.long q3), .second, .val (.int p4), .val (.int p5), .val (.int u0_1), .val (.int u0_3), .val (.ref b04), .unset, .unset, .unset] [(.int u0_1), (.int (13 : Int32)), (.long q3), (.long q2), (.long q1), (.long q0), (.int (13 : Int32)), (.ref b04)]))
  refine stp (fun t k => XS.iload X055.here hx rfl (hb hby at_294) rfl k) ?_
  show W (T055.setTop (mkF m 296 #[.val (.long q0), .second, .val (.long q1), .second, .val (.long q2), .second, .val (.long q3), .second, .val (.int p4), .val (.int p5), .val (.int u0_1), .val (.int u0_3), .val (.ref b04), .unset, .unset, .unset] [(.int u0_3), (.int u0_1), (.int (13 : Int32)), (.long q3), (.long q2), (.long q1), (.long q0), (.int (13 : Int32)), (.ref b04)]))
  obtain ⟨_, _, ⟨T0c57, L0c57, k0c57, n0c57⟩, -, X0c57, ⟨Lc0c57, hQ0c57, l0c57, y0c57, z0c57⟩, st0c57⟩ := Jvm.LawKit.callS X055 hx (y := (⟨"com/example/fieldgate/fieldgate/record/DigitsValuePinLaw", "at", "(JJJJIII)C"⟩ : MethodName)) hown (mvT hZ (hw _ (List.mem_of_getElem? (i := 2) rfl))) (mvT hZ (hw _ (List.mem_of_getElem? (i := 3) rfl))) (mvT hZ (hw _ (List.mem_of_getElem? (i := 4) rfl))) (mvT hZ (hw _ (List.mem_of_getElem? (i := 5) rfl))) (by decide) (backOf (W := 2) (rmat l Z aa hw [] q0 q1 q2 q3 (13 : Int32) u0_1 u0_3  h055 n0 Z055 ) hZ (hw _ (List.mem_of_getElem? (i := 5) rfl)) (hw _ (List.mem_of_getElem? (i := 4) rfl)) (by decide) (by decide)) (g := (mkF m 296 #[.val (.long q0), .second, .val (.long q1), .second, .val (.long q2), .second, .val (.long q3), .second, .val (.int p4), .val (.int p5), .val (.int u0_1), .val (.int u0_3), .val (.ref b04), .unset, .unset, .unset] [(.int u0_3), (.int u0_1), (.int (13 : Int32)), (.long q3), (.long q2), (.long q1), (.long q0), (.int (13 : Int32)), (.ref b04)])) rfl (by rw [hml]; rfl) (argsL := [(.long q0), (.long q1), (.long q2), (.long q3), (.int (13 : Int32)), (.int u0_1), (.int u0_3)]) (rest := [(.int (13 : Int32)), (.ref b04)]) (lenOf pd0_0 rfl) rfl (by show 2 * 0 + _ ≤ _; exact Nat.le_of_eq rfl) (hb hby at_296) (fun _ _ => ⟨rfl, e055, (by decide : 1 + 0 ≤ _), (by decide : 18 + 0 ≤ _)⟩)
  dsimp only [Pt.U, Pt.locs, Pt.cells, Pt.slots] at X0c57 l0c57 y0c57 z0c57 st0c57 hQ0c57
  subst l0c57 y0c57 z0c57
  obtain ⟨rfl, N0c57q, e0c57⟩ := hQ0c57
  have N0c57 := Fr.app N055 N0c57q
  obtain ⟨lc0t58, X0c57, N0c57⟩ : ∃ lc, Stand p l e room_1 s m #[(.long q0), (.long q1), (.long q2), (.long q3), (.int p4), (.int p5)] below meth c T0c57 lc 1 18 ∧ Fr n0 lc := ⟨_, X0c57, N0c57⟩
  refine stp (fun t k => st0c57 t k) ?_
  show W (T0c57.setTop (mkF m 299 #[.val (.long q0), .second, .val (.long q1), .second, .val (.long q2), .second, .val (.long q3), .second, .val (.int p4), .val (.int p5), .val (.int u0_1), .val (.int u0_3), .val (.ref b04), .unset, .unset, .unset] [(.int (fat q0 q1 q2 q3 (13 : Int32) u0_1 u0_3)), (.int (13 : Int32)), (.ref b04)]))
  obtain ⟨cl059, Ar059, qk059, qs059, qn059, qh059, qg059⟩ := id V_b04
  have hin059 : ¬ ((13 : Int32) < 0 ∨ cl059.slots.size ≤ ((13 : Int32)).toNatClampNeg) := inb_of qs059 ⟨by decide, by decide⟩
  obtain ⟨T059, h059, X059, e059, W059, st059⟩ := stC X0c57 hx hZ e0c57 Ar059 (j := (13 : Int32)) hin059 (g := (mkF m 299 #[.val (.long q0), .second, .val (.long q1), .second, .val (.long q2), .second, .val (.long q3), .second, .val (.int p4), .val (.int p5), .val (.int u0_1), .val (.int u0_3), .val (.ref b04), .unset, .unset, .unset] [(.int (fat q0 q1 q2 q3 (13 : Int32) u0_1 u0_3)), (.int (13 : Int32)), (.ref b04)])) rfl rfl (hb hby at_299)
  have V_b04x := Arv.set Ar059 qk059 qs059 qn059 qh059 qg059 (fits_nar_char _) W059 13 rfl (Nat.le_of_ble_eq_true rfl)
  have N059 := Fr.snoc X059 N0c57 g_b04
  obtain ⟨lc0t60, X059, N059⟩ : ∃ lc, Stand p l e room_1 s m #[(.long q0), (.long q1), (.long q2), (.long q3), (.int p4), (.int p5)] below meth c T059 lc 1 18 ∧ Fr n0 lc := ⟨_, X059, N059⟩
  have K059 := K055.wr W059 (Or.inr sz_b04)
  have Z059 := Nat.le_trans Z055 (Keep.of_wr W059).1
  have O059 := O055.wr W059 g_b04
  replace V_b04 : Arv Z h059 b04 k04 .char (18 : Int32) [(.int (nar .char (fat q0 q1 q2 q3 (0 : Int32) u0_1 u0_3))), (.int (nar .char (fat q0 q1 q2 q3 (1 : Int32) u0_1 u0_3))), (.int (nar .char (fat q0 q1 q2 q3 (2 : Int32) u0_1 u0_3))), (.int (nar .char (fat q0 q1 q2 q3 (3 : Int32) u0_1 u0_3))), (.int (nar .char (fat q0 q1 q2 q3 (4 : Int32) u0_1 u0_3))), (.int (nar .char (fat q0 q1 q2 q3 (5 : Int32) u0_1 u0_3))), (.int (nar .char (fat q0 q1 q2 q3 (6 : Int32) u0_1 u0_3))), (.int (nar .char (fat q0 q1 q2 q3 (7 : Int32) u0_1 u0_3))), (.int (nar .char (fat q0 q1 q2 q3 (8 : Int32) u0_1 u0_3))), (.int (nar .char (fat q0 q1 q2 q3 (9 : Int32) u0_1 u0_3))), (.int (nar .char (fat q0 q1 q2 q3 (10 : Int32) u0_1 u0_3))), (.int (nar .char (fat q0 q1 q2 q3 (11 : Int32) u0_1 u0_3))), (.int (nar .char (fat q0 q1 q2 q3 (12 : Int32) u0_1 u0_3))), (.int (nar .char (fat q0 q1 q2 q3 (13 : Int32) u0_1 u0_3))), (.int (0 : Int32)), (.int (0 : Int32)), (.int (0 : Int32)), (.int (0 : Int32))] (.int (0 : Int32)) := V_b04x
  refine stp (fun t k => st059 t k) ?_
  show W (T059.setTop (mkF m 300 #[.val (.long q0), .second, .val (.long q1), .second, .val (.long q2), .second, .val (.long q3), .second, .val (.int p4), .val (.int p5), .val (.int u0_1), .val (.int u0_3), .val (.ref b04), .unset, .unset, .unset] []))
  refine stp (fun t k => XS.aload X059.here hx rfl (hb hby at_300) rfl rfl k) ?_
  show W (T059.setTop (mkF m 302 #[.val (.long q0), .second, .val (.long q1), .second, .val (.long q2), .second, .val (.long q3), .second, .val (.int p4), .val (.int p5), .val (.int u0_1), .val (.int u0_3), .val (.ref b04), .unset, .unset, .unset] [(.ref b04)]))
  refine stp (fun t k => XS.bipush X059.here hx rfl (hb hby at_302) k) ?_
  show W (T059.setTop (mkF m 304 #[.val (.long q0), .second, .val (.long q1), .second, .val (.long q2), .second, .val (.long q3), .second, .val (.int p4), .val (.int p5), .val (.int u0_1), .val (.int u0_3), .val (.ref b04), .unset, .unset, .unset] [(.int (14 : Int32)), (.ref b04)]))
  refine stp (fun t k => XS.lloadN X059.here hx rfl (hb hby at_304) rfl k) ?_
  show W (T059.setTop (mkF m 305 #[.val (.long q0), .second, .val (.long q1), .second, .val (.long q2), .second, .val (.long q3), .second, .val (.int p4), .val (.int p5), .val (.int u0_1), .val (.int u0_3), .val (.ref b04), .unset, .unset, .unset] [(.long q0), (.int (14 : Int32)), (.ref b04)]))
  refine stp (fun t k => XS.lloadN X059.here hx rfl (hb hby at_305) rfl k) ?_
  show W (T059.setTop (mkF m 306 #[.val (.long q0), .second, .val (.long q1), .second, .val (.long q2), .second, .val (.long q3), .second, .val (.int p4), .val (.int p5), .val (.int u0_1), .val (.int u0_3), .val (.ref b04), .unset, .unset, .unset] [(.long q1), (.long q0), (.int (14 : Int32)), (.ref b04)]))
  refine stp (fun t k => XS.lload X059.here hx rfl (hb hby at_306) rfl k) ?_
  show W (T059.setTop (mkF m 308 #[.val (.long q0), .second, .val (.long q1), .second, .val (.long q2), .second, .val (.long q3), .second, .val (.int p4), .val (.int p5), .val (.int u0_1), .val (.int u0_3), .val (.ref b04), .unset, .unset, .unset] [(.long q2), (.long q1), (.long q0), (.int (14 : Int32)), (.ref b04)]))
  refine stp (fun t k => XS.lload X059.here hx rfl (hb hby at_308) rfl k) ?_
  show W (T059.setTop (mkF m 310 #[.val (.long q0), .second, .val (.long q1), .second, .val (.long q2), .second, .val (.long q3), .second, .val (.int p4), .val (.int p5), .val (.int u0_1), .val (.int u0_3), .val (.ref b04), .unset, .unset, .unset] [(.long q3), (.long q2), (.long q1), (.long q0), (.int (14 : Int32)), (.ref b04)]))
  refine stp (fun t k => XS.bipush X059.here hx rfl (hb hby at_310) k) ?_
  show W (T059.setTop (mkF m 312 #[.val (.long q0), .second, .val (.long q1), .second, .val (.long q2), .second, .val (.long q3), .second, .val (.int p4), .val (.int p5), .val (.int u0_1), .val (.int u0_3), .val (.ref b04), .unset, .unset, .unset] [(.int (14 : Int32)), (.long q3), (.long q2), (.long q1), (.long q0), (.int (14 : Int32)), (.ref b04)]))
  refine stp (fun t k => XS.iload X059.here hx rfl (hb hby at_312) rfl k) ?_
  show W (T059.setTop (mkF m 314 #[.val (.long q0), .second, .val (.long q1), .second, .val (.long q2), .second, .val (.long q3), .second, .val (.int p4), .val (.int p5), .val (.int u0_1), .val (.int u0_3), .val (.ref b04), .unset, .unset, .unset] [(.int u0_1), (.int (14 : Int32)), (.long q3), (.long q2), (.long q1), (.long q0), (.int (14 : Int32)), (.ref b04)]))
  refine stp (fun t k => XS.iload X059.here hx rfl (hb hby at_314) rfl k) ?_
  show W (T059.setTop (mkF m 316 #[.val (.long q0), .second, .val (.long q1), .second, .val (.long q2), .second, .val (.long q3), .second, .val (.int p4), .val (.int p5), .val (.int u0_1), .val (.int u0_3), .val (.ref b04), .unset, .unset, .unset] [(.int u0_3), (.int u0_1), (.int (14 : Int32)), (.long q3), (.long q2), (.long q1), (.long q0), (.int (14 : Int32)), (.ref b04)]))
  obtain ⟨_, _, ⟨T0c61, L0c61, k0c61, n0c61⟩, -, X0c61, ⟨Lc0c61, hQ0c61, l0c61, y0c61, z0c61⟩, st0c61⟩ := Jvm.LawKit.callS X059 hx (y := (⟨"com/example/fieldgate/fieldgate/record/DigitsValuePinLaw", "at", "(JJJJIII)C"⟩ : MethodName)) hown (mvT hZ (hw _ (List.mem_of_getElem? (i := 2) rfl))) (mvT hZ (hw _ (List.mem_of_getElem? (i := 3) rfl))) (mvT hZ (hw _ (List.mem_of_getElem? (i := 4) rfl))) (mvT hZ (hw _ (List.mem_of_getElem? (i := 5) rfl))) (by decide) (backOf (W := 2) (rmat l Z aa hw [] q0 q1 q2 q3 (14 : Int32) u0_1 u0_3  h059 n0 Z059 ) hZ (hw _ (List.mem_of_getElem? (i := 5) rfl)) (hw _ (List.mem_of_getElem? (i := 4) rfl)) (by decide) (by decide)) (g := (mkF m 316 #[.val (.long q0), .second, .val (.long q1), .second, .val (.long q2), .second, .val (.long q3), .second, .val (.int p4), .val (.int p5), .val (.int u0_1), .val (.int u0_3), .val (.ref b04), .unset, .unset, .unset] [(.int u0_3), (.int u0_1), (.int (14 : Int32)), (.long q3), (.long q2), (.long q1), (.long q0), (.int (14 : Int32)), (.ref b04)])) rfl (by rw [hml]; rfl) (argsL := [(.long q0), (.long q1), (.long q2), (.long q3), (.int (14 : Int32)), (.int u0_1), (.int u0_3)]) (rest := [(.int (14 : Int32)), (.ref b04)]) (lenOf pd0_0 rfl) rfl (by show 2 * 0 + _ ≤ _; exact Nat.le_of_eq rfl) (hb hby at_316) (fun _ _ => ⟨rfl, e059, (by decide : 1 + 0 ≤ _), (by decide : 18 + 0 ≤ _)⟩)
  dsimp only [Pt.U, Pt.locs, Pt.cells, Pt.slots] at X0c61 l0c61 y0c61 z0c61 st0c61 hQ0c61
  subst l0c61 y0c61 z0c61
  obtain ⟨rfl, N0c61q, e0c61⟩ := hQ0c61
  have N0c61 := Fr.app N059 N0c61q
  obtain ⟨lc0t62, X0c61, N0c61⟩ : ∃ lc, Stand p l e room_1 s m #[(.long q0), (.long q1), (.long q2), (.long q3), (.int p4), (.int p5)] below meth c T0c61 lc 1 18 ∧ Fr n0 lc := ⟨_, X0c61, N0c61⟩
  refine stp (fun t k => st0c61 t k) ?_
  show W (T0c61.setTop (mkF m 319 #[.val (.long q0), .second, .val (.long q1), .second, .val (.long q2), .second, .val (.long q3), .second, .val (.int p4), .val (.int p5), .val (.int u0_1), .val (.int u0_3), .val (.ref b04), .unset, .unset, .unset] [(.int (fat q0 q1 q2 q3 (14 : Int32) u0_1 u0_3)), (.int (14 : Int32)), (.ref b04)]))
  obtain ⟨cl063, Ar063, qk063, qs063, qn063, qh063, qg063⟩ := id V_b04
  have hin063 : ¬ ((14 : Int32) < 0 ∨ cl063.slots.size ≤ ((14 : Int32)).toNatClampNeg) := inb_of qs063 ⟨by decide, by decide⟩
  obtain ⟨T063, h063, X063, e063, W063, st063⟩ := stC X0c61 hx hZ e0c61 Ar063 (j := (14 : Int32)) hin063 (g := (mkF m 319 #[.val (.long q0), .second, .val (.long q1), .second, .val (.long q2), .second, .val (.long q3), .second, .val (.int p4), .val (.int p5), .val (.int u0_1), .val (.int u0_3), .val (.ref b04), .unset, .unset, .unset] [(.int (fat q0 q1 q2 q3 (14 : Int32) u0_1 u0_3)), (.int (14 : Int32)), (.ref b04)])) rfl rfl (hb hby at_319)
  have V_b04x := Arv.set Ar063 qk063 qs063 qn063 qh063 qg063 (fits_nar_char _) W063 14 rfl (Nat.le_of_ble_eq_true rfl)
  have N063 := Fr.snoc X063 N0c61 g_b04
  obtain ⟨lc0t64, X063, N063⟩ : ∃ lc, Stand p l e room_1 s m #[(.long q0), (.long q1), (.long q2), (.long q3), (.int p4), (.int p5)] below meth c T063 lc 1 18 ∧ Fr n0 lc := ⟨_, X063, N063⟩
  have K063 := K059.wr W063 (Or.inr sz_b04)
  have Z063 := Nat.le_trans Z059 (Keep.of_wr W063).1
  have O063 := O059.wr W063 g_b04
  replace V_b04 : Arv Z h063 b04 k04 .char (18 : Int32) [(.int (nar .char (fat q0 q1 q2 q3 (0 : Int32) u0_1 u0_3))), (.int (nar .char (fat q0 q1 q2 q3 (1 : Int32) u0_1 u0_3))), (.int (nar .char (fat q0 q1 q2 q3 (2 : Int32) u0_1 u0_3))), (.int (nar .char (fat q0 q1 q2 q3 (3 : Int32) u0_1 u0_3))), (.int (nar .char (fat q0 q1 q2 q3 (4 : Int32) u0_1 u0_3))), (.int (nar .char (fat q0 q1 q2 q3 (5 : Int32) u0_1 u0_3))), (.int (nar .char (fat q0 q1 q2 q3 (6 : Int32) u0_1 u0_3))), (.int (nar .char (fat q0 q1 q2 q3 (7 : Int32) u0_1 u0_3))), (.int (nar .char (fat q0 q1 q2 q3 (8 : Int32) u0_1 u0_3))), (.int (nar .char (fat q0 q1 q2 q3 (9 : Int32) u0_1 u0_3))), (.int (nar .char (fat q0 q1 q2 q3 (10 : Int32) u0_1 u0_3))), (.int (nar .char (fat q0 q1 q2 q3 (11 : Int32) u0_1 u0_3))), (.int (nar .char (fat q0 q1 q2 q3 (12 : Int32) u0_1 u0_3))), (.int (nar .char (fat q0 q1 q2 q3 (13 : Int32) u0_1 u0_3))), (.int (nar .char (fat q0 q1 q2 q3 (14 : Int32) u0_1 u0_3))), (.int (0 : Int32)), (.int (0 : Int32)), (.int (0 : Int32))] (.int (0 : Int32)) := V_b04x
  refine stp (fun t k => st063 t k) ?_
  show W (T063.setTop (mkF m 320 #[.val (.long q0), .second, .val (.long q1), .second, .val (.long q2), .second, .val (.long q3), .second, .val (.int p4), .val (.int p5), .val (.int u0_1), .val (.int u0_3), .val (.ref b04), .unset, .unset, .unset] []))
  refine stp (fun t k => XS.aload X063.here hx rfl (hb hby at_320) rfl rfl k) ?_
  show W (T063.setTop (mkF m 322 #[.val (.long q0), .second, .val (.long q1), .second, .val (.long q2), .second, .val (.long q3), .second, .val (.int p4), .val (.int p5), .val (.int u0_1), .val (.int u0_3), .val (.ref b04), .unset, .unset, .unset] [(.ref b04)]))
  refine stp (fun t k => XS.bipush X063.here hx rfl (hb hby at_322) k) ?_
  show W (T063.setTop (mkF m 324 #[.val (.long q0), .second, .val (.long q1), .second, .val (.long q2), .second, .val (.long q3), .second, .val (.int p4), .val (.int p5), .val (.int u0_1), .val (.int u0_3), .val (.ref b04), .unset, .unset, .unset] [(.int (15 : Int32)), (.ref b04)]))
  refine stp (fun t k => XS.lloadN X063.here hx rfl (hb hby at_324) rfl k) ?_
  show W (T063.setTop (mkF m 325 #[.val (.long q0), .second, .val (.long q1), .second, .val (.long q2), .second, .val (.long q3), .second, .val (.int p4), .val (.int p5), .val (.int u0_1), .val (.int u0_3), .val (.ref b04), .unset, .unset, .unset] [(.long q0), (.int (15 : Int32)), (.ref b04)]))
  refine stp (fun t k => XS.lloadN X063.here hx rfl (hb hby at_325) rfl k) ?_
  show W (T063.setTop (mkF m 326 #[.val (.long q0), .second, .val (.long q1), .second, .val (.long q2), .second, .val (.long q3), .second, .val (.int p4), .val (.int p5), .val (.int u0_1), .val (.int u0_3), .val (.ref b04), .unset, .unset, .unset] [(.long q1), (.long q0), (.int (15 : Int32)), (.ref b04)]))
  refine stp (fun t k => XS.lload X063.here hx rfl (hb hby at_326) rfl k) ?_
  show W (T063.setTop (mkF m 328 #[.val (.long q0), .second, .val (.long q1), .second, .val (.long q2), .second, .val (.long q3), .second, .val (.int p4), .val (.int p5), .val (.int u0_1), .val (.int u0_3), .val (.ref b04), .unset, .unset, .unset] [(.long q2), (.long q1), (.long q0), (.int (15 : Int32)), (.ref b04)]))
  refine stp (fun t k => XS.lload X063.here hx rfl (hb hby at_328) rfl k) ?_
  show W (T063.setTop (mkF m 330 #[.val (.long q0), .second, .val (.long q1), .second, .val (.long q2), .second, .val (.long q3), .second, .val (.int p4), .val (.int p5), .val (.int u0_1), .val (.int u0_3), .val (.ref b04), .unset, .unset, .unset] [(.long q3), (.long q2), (.long q1), (.long q0), (.int (15 : Int32)), (.ref b04)]))
  refine stp (fun t k => XS.bipush X063.here hx rfl (hb hby at_330) k) ?_
  show W (T063.setTop (mkF m 332 #[.val (.long q0), .second, .val (.long q1), .second, .val (.long q2), .second, .val (.long q3), .second, .val (.int p4), .val (.int p5), .val (.int u0_1), .val (.int u0_3), .val (.ref b04), .unset, .unset, .unset] [(.int (15 : Int32)), (.long q3), (.long q2), (.long q1), (.long q0), (.int (15 : Int32)), (.ref b04)]))
  refine stp (fun t k => XS.iload X063.here hx rfl (hb hby at_332) rfl k) ?_
  show W (T063.setTop (mkF m 334 #[.val (.long q0), .second, .val (.long q1), .second, .val (.long q2), .second, .val (.long q3), .second, .val (.int p4), .val (.int p5), .val (.int u0_1), .val (.int u0_3), .val (.ref b04), .unset, .unset, .unset] [(.int u0_1), (.int (15 : Int32)), (.long q3), (.long q2), (.long q1), (.long q0), (.int (15 : Int32)), (.ref b04)]))
  refine stp (fun t k => XS.iload X063.here hx rfl (hb hby at_334) rfl k) ?_
  show W (T063.setTop (mkF m 336 #[.val (.long q0), .second, .val (.long q1), .second, .val (.long q2), .second, .val (.long q3), .second, .val (.int p4), .val (.int p5), .val (.int u0_1), .val (.int u0_3), .val (.ref b04), .unset, .unset, .unset] [(.int u0_3), (.int u0_1), (.int (15 : Int32)), (.long q3), (.long q2), (.long q1), (.long q0), (.int (15 : Int32)), (.ref b04)]))
  obtain ⟨_, _, ⟨T0c65, L0c65, k0c65, n0c65⟩, -, X0c65, ⟨Lc0c65, hQ0c65, l0c65, y0c65, z0c65⟩, st0c65⟩ := Jvm.LawKit.callS X063 hx (y := (⟨"com/example/fieldgate/fieldgate/record/DigitsValuePinLaw", "at", "(JJJJIII)C"⟩ : MethodName)) hown (mvT hZ (hw _ (List.mem_of_getElem? (i := 2) rfl))) (mvT hZ (hw _ (List.mem_of_getElem? (i := 3) rfl))) (mvT hZ (hw _ (List.mem_of_getElem? (i := 4) rfl))) (mvT hZ (hw _ (List.mem_of_getElem? (i := 5) rfl))) (by decide) (backOf (W := 2) (rmat l Z aa hw [] q0 q1 q2 q3 (15 : Int32) u0_1 u0_3  h063 n0 Z063 ) hZ (hw _ (List.mem_of_getElem? (i := 5) rfl)) (hw _ (List.mem_of_getElem? (i := 4) rfl)) (by decide) (by decide)) (g := (mkF m 336 #[.val (.long q0), .second, .val (.long q1), .second, .val (.long q2), .second, .val (.long q3), .second, .val (.int p4), .val (.int p5), .val (.int u0_1), .val (.int u0_3), .val (.ref b04), .unset, .unset, .unset] [(.int u0_3), (.int u0_1), (.int (15 : Int32)), (.long q3), (.long q2), (.long q1), (.long q0), (.int (15 : Int32)), (.ref b04)])) rfl (by rw [hml]; rfl) (argsL := [(.long q0), (.long q1), (.long q2), (.long q3), (.int (15 : Int32)), (.int u0_1), (.int u0_3)]) (rest := [(.int (15 : Int32)), (.ref b04)]) (lenOf pd0_0 rfl) rfl (by show 2 * 0 + _ ≤ _; exact Nat.le_of_eq rfl) (hb hby at_336) (fun _ _ => ⟨rfl, e063, (by decide : 1 + 0 ≤ _), (by decide : 18 + 0 ≤ _)⟩)
  dsimp only [Pt.U, Pt.locs, Pt.cells, Pt.slots] at X0c65 l0c65 y0c65 z0c65 st0c65 hQ0c65
  subst l0c65 y0c65 z0c65
  obtain ⟨rfl, N0c65q, e0c65⟩ := hQ0c65
  have N0c65 := Fr.app N063 N0c65q
  obtain ⟨lc0t66, X0c65, N0c65⟩ : ∃ lc, Stand p l e room_1 s m #[(.long q0), (.long q1), (.long q2), (.long q3), (.int p4), (.int p5)] below meth c T0c65 lc 1 18 ∧ Fr n0 lc := ⟨_, X0c65, N0c65⟩
  refine stp (fun t k => st0c65 t k) ?_
  show W (T0c65.setTop (mkF m 339 #[.val (.long q0), .second, .val (.long q1), .second, .val (.long q2), .second, .val (.long q3), .second, .val (.int p4), .val (.int p5), .val (.int u0_1), .val (.int u0_3), .val (.ref b04), .unset, .unset, .unset] [(.int (fat q0 q1 q2 q3 (15 : Int32) u0_1 u0_3)), (.int (15 : Int32)), (.ref b04)]))
  obtain ⟨cl067, Ar067, qk067, qs067, qn067, qh067, qg067⟩ := id V_b04
  have hin067 : ¬ ((15 : Int32) < 0 ∨ cl067.slots.size ≤ ((15 : Int32)).toNatClampNeg) := inb_of qs067 ⟨by decide, by decide⟩
  obtain ⟨T067, h067, X067, e067, W067, st067⟩ := stC X0c65 hx hZ e0c65 Ar067 (j := (15 : Int32)) hin067 (g := (mkF m 339 #[.val (.long q0), .second, .val (.long q1), .second, .val (.long q2), .second, .val (.long q3), .second, .val (.int p4), .val (.int p5), .val (.int u0_1), .val (.int u0_3), .val (.ref b04), .unset, .unset, .unset] [(.int (fat q0 q1 q2 q3 (15 : Int32) u0_1 u0_3)), (.int (15 : Int32)), (.ref b04)])) rfl rfl (hb hby at_339)
  have V_b04x := Arv.set Ar067 qk067 qs067 qn067 qh067 qg067 (fits_nar_char _) W067 15 rfl (Nat.le_of_ble_eq_true rfl)
  have N067 := Fr.snoc X067 N0c65 g_b04
  obtain ⟨lc0t68, X067, N067⟩ : ∃ lc, Stand p l e room_1 s m #[(.long q0), (.long q1), (.long q2), (.long q3), (.int p4), (.int p5)] below meth c T067 lc 1 18 ∧ Fr n0 lc := ⟨_, X067, N067⟩
  have K067 := K063.wr W067 (Or.inr sz_b04)
  have Z067 := Nat.le_trans Z063 (Keep.of_wr W067).1
  have O067 := O063.wr W067 g_b04
  replace V_b04 : Arv Z h067 b04 k04 .char (18 : Int32) [(.int (nar .char (fat q0 q1 q2 q3 (0 : Int32) u0_1 u0_3))), (.int (nar .char (fat q0 q1 q2 q3 (1 : Int32) u0_1 u0_3))), (.int (nar .char (fat q0 q1 q2 q3 (2 : Int32) u0_1 u0_3))), (.int (nar .char (fat q0 q1 q2 q3 (3 : Int32) u0_1 u0_3))), (.int (nar .char (fat q0 q1 q2 q3 (4 : Int32) u0_1 u0_3))), (.int (nar .char (fat q0 q1 q2 q3 (5 : Int32) u0_1 u0_3))), (.int (nar .char (fat q0 q1 q2 q3 (6 : Int32) u0_1 u0_3))), (.int (nar .char (fat q0 q1 q2 q3 (7 : Int32) u0_1 u0_3))), (.int (nar .char (fat q0 q1 q2 q3 (8 : Int32) u0_1 u0_3))), (.int (nar .char (fat q0 q1 q2 q3 (9 : Int32) u0_1 u0_3))), (.int (nar .char (fat q0 q1 q2 q3 (10 : Int32) u0_1 u0_3))), (.int (nar .char (fat q0 q1 q2 q3 (11 : Int32) u0_1 u0_3))), (.int (nar .char (fat q0 q1 q2 q3 (12 : Int32) u0_1 u0_3))), (.int (nar .char (fat q0 q1 q2 q3 (13 : Int32) u0_1 u0_3))), (.int (nar .char (fat q0 q1 q2 q3 (14 : Int32) u0_1 u0_3))), (.int (nar .char (fat q0 q1 q2 q3 (15 : Int32) u0_1 u0_3))), (.int (0 : Int32)), (.int (0 : Int32))] (.int (0 : Int32)) := V_b04x
  refine stp (fun t k => st067 t k) ?_
  show W (T067.setTop (mkF m 340 #[.val (.long q0), .second, .val (.long q1), .second, .val (.long q2), .second, .val (.long q3), .second, .val (.int p4), .val (.int p5), .val (.int u0_1), .val (.int u0_3), .val (.ref b04), .unset, .unset, .unset] []))
  refine stp (fun t k => XS.aload X067.here hx rfl (hb hby at_340) rfl rfl k) ?_
  show W (T067.setTop (mkF m 342 #[.val (.long q0), .second, .val (.long q1), .second, .val (.long q2), .second, .val (.long q3), .second, .val (.int p4), .val (.int p5), .val (.int u0_1), .val (.int u0_3), .val (.ref b04), .unset, .unset, .unset] [(.ref b04)]))
  refine stp (fun t k => XS.bipush X067.here hx rfl (hb hby at_342) k) ?_
  show W (T067.setTop (mkF m 344 #[.val (.long q0), .second, .val (.long q1), .second, .val (.long q2), .second, .val (.long q3), .second, .val (.int p4), .val (.int p5), .val (.int u0_1), .val (.int u0_3), .val (.ref b04), .unset, .unset, .unset] [(.int (16 : Int32)), (.ref b04)]))
  refine stp (fun t k => XS.lloadN X067.here hx rfl (hb hby at_344) rfl k) ?_
  show W (T067.setTop (mkF m 345 #[.val (.long q0), .second, .val (.long q1), .second, .val (.long q2), .second, .val (.long q3), .second, .val (.int p4), .val (.int p5), .val (.int u0_1), .val (.int u0_3), .val (.ref b04), .unset, .unset, .unset] [(.long q0), (.int (16 : Int32)), (.ref b04)]))
  refine stp (fun t k => XS.lloadN X067.here hx rfl (hb hby at_345) rfl k) ?_
  show W (T067.setTop (mkF m 346 #[.val (.long q0), .second, .val (.long q1), .second, .val (.long q2), .second, .val (.long q3), .second, .val (.int p4), .val (.int p5), .val (.int u0_1), .val (.int u0_3), .val (.ref b04), .unset, .unset, .unset] [(.long q1), (.long q0), (.int (16 : Int32)), (.ref b04)]))
  refine stp (fun t k => XS.lload X067.here hx rfl (hb hby at_346) rfl k) ?_
  show W (T067.setTop (mkF m 348 #[.val (.long q0), .second, .val (.long q1), .second, .val (.long q2), .second, .val (.long q3), .second, .val (.int p4), .val (.int p5), .val (.int u0_1), .val (.int u0_3), .val (.ref b04), .unset, .unset, .unset] [(.long q2), (.long q1), (.long q0), (.int (16 : Int32)), (.ref b04)]))
  refine stp (fun t k => XS.lload X067.here hx rfl (hb hby at_348) rfl k) ?_
  show W (T067.setTop (mkF m 350 #[.val (.long q0), .second, .val (.long q1), .second, .val (.long q2), .second, .val (.long q3), .second, .val (.int p4), .val (.int p5), .val (.int u0_1), .val (.int u0_3), .val (.ref b04), .unset, .unset, .unset] [(.long q3), (.long q2), (.long q1), (.long q0), (.int (16 : Int32)), (.ref b04)]))
  refine stp (fun t k => XS.bipush X067.here hx rfl (hb hby at_350) k) ?_
  show W (T067.setTop (mkF m 352 #[.val (.long q0), .second, .val (.long q1), .second, .val (.long q2), .second, .val (.long q3), .second, .val (.int p4), .val (.int p5), .val (.int u0_1), .val (.int u0_3), .val (.ref b04), .unset, .unset, .unset] [(.int (16 : Int32)), (.long q3), (.long q2), (.long q1), (.long q0), (.int (16 : Int32)), (.ref b04)]))
  refine stp (fun t k => XS.iload X067.here hx rfl (hb hby at_352) rfl k) ?_
  show W (T067.setTop (mkF m 354 #[.val (.long q0), .second, .val (.long q1), .second, .val (.long q2), .second, .val (.long q3), .second, .val (.int p4), .val (.int p5), .val (.int u0_1), .val (.int u0_3), .val (.ref b04), .unset, .unset, .unset] [(.int u0_1), (.int (16 : Int32)), (.long q3), (.long q2), (.long q1), (.long q0), (.int (16 : Int32)), (.ref b04)]))
  refine stp (fun t k => XS.iload X067.here hx rfl (hb hby at_354) rfl k) ?_
  show W (T067.setTop (mkF m 356 #[.val (.long q0), .second, .val (.long q1), .second, .val (.long q2), .second, .val (.long q3), .second, .val (.int p4), .val (.int p5), .val (.int u0_1), .val (.int u0_3), .val (.ref b04), .unset, .unset, .unset] [(.int u0_3), (.int u0_1), (.int (16 : Int32)), (.long q3), (.long q2), (.long q1), (.long q0), (.int (16 : Int32)), (.ref b04)]))
  obtain ⟨_, _, ⟨T0c69, L0c69, k0c69, n0c69⟩, -, X0c69, ⟨Lc0c69, hQ0c69, l0c69, y0c69, z0c69⟩, st0c69⟩ := Jvm.LawKit.callS X067 hx (y := (⟨"com/example/fieldgate/fieldgate/record/DigitsValuePinLaw", "at", "(JJJJIII)C"⟩ : MethodName)) hown (mvT hZ (hw _ (List.mem_of_getElem? (i := 2) rfl))) (mvT hZ (hw _ (List.mem_of_getElem? (i := 3) rfl))) (mvT hZ (hw _ (List.mem_of_getElem? (i := 4) rfl))) (mvT hZ (hw _ (List.mem_of_getElem? (i := 5) rfl))) (by decide) (backOf (W := 2) (rmat l Z aa hw [] q0 q1 q2 q3 (16 : Int32) u0_1 u0_3  h067 n0 Z067 ) hZ (hw _ (List.mem_of_getElem? (i := 5) rfl)) (hw _ (List.mem_of_getElem? (i := 4) rfl)) (by decide) (by decide)) (g := (mkF m 356 #[.val (.long q0), .second, .val (.long q1), .second, .val (.long q2), .second, .val (.long q3), .second, .val (.int p4), .val (.int p5), .val (.int u0_1), .val (.int u0_3), .val (.ref b04), .unset, .unset, .unset] [(.int u0_3), (.int u0_1), (.int (16 : Int32)), (.long q3), (.long q2), (.long q1), (.long q0), (.int (16 : Int32)), (.ref b04)])) rfl (by rw [hml]; rfl) (argsL := [(.long q0), (.long q1), (.long q2), (.long q3), (.int (16 : Int32)), (.int u0_1), (.int u0_3)]) (rest := [(.int (16 : Int32)), (.ref b04)]) (lenOf pd0_0 rfl) rfl (by show 2 * 0 + _ ≤ _; exact Nat.le_of_eq rfl) (hb hby at_356) (fun _ _ => ⟨rfl, e067, (by decide : 1 + 0 ≤ _), (by decide : 18 + 0 ≤ _)⟩)
  dsimp only [Pt.U, Pt.locs, Pt.cells, Pt.slots] at X0c69 l0c69 y0c69 z0c69 st0c69 hQ0c69
  subst l0c69 y0c69 z0c69
  obtain ⟨rfl, N0c69q, e0c69⟩ := hQ0c69
  have N0c69 := Fr.app N067 N0c69q
  obtain ⟨lc0t70, X0c69, N0c69⟩ : ∃ lc, Stand p l e room_1 s m #[(.long q0), (.long q1), (.long q2), (.long q3), (.int p4), (.int p5)] below meth c T0c69 lc 1 18 ∧ Fr n0 lc := ⟨_, X0c69, N0c69⟩
  refine stp (fun t k => st0c69 t k) ?_
  show W (T0c69.setTop (mkF m 359 #[.val (.long q0), .second, .val (.long q1), .second, .val (.long q2), .second, .val (.long q3), .second, .val (.int p4), .val (.int p5), .val (.int u0_1), .val (.int u0_3), .val (.ref b04), .unset, .unset, .unset] [(.int (fat q0 q1 q2 q3 (16 : Int32) u0_1 u0_3)), (.int (16 : Int32)), (.ref b04)]))
  obtain ⟨cl071, Ar071, qk071, qs071, qn071, qh071, qg071⟩ := id V_b04
  have hin071 : ¬ ((16 : Int32) < 0 ∨ cl071.slots.size ≤ ((16 : Int32)).toNatClampNeg) := inb_of qs071 ⟨by decide, by decide⟩
  obtain ⟨T071, h071, X071, e071, W071, st071⟩ := stC X0c69 hx hZ e0c69 Ar071 (j := (16 : Int32)) hin071 (g := (mkF m 359 #[.val (.long q0), .second, .val (.long q1), .second, .val (.long q2), .second, .val (.long q3), .second, .val (.int p4), .val (.int p5), .val (.int u0_1), .val (.int u0_3), .val (.ref b04), .unset, .unset, .unset] [(.int (fat q0 q1 q2 q3 (16 : Int32) u0_1 u0_3)), (.int (16 : Int32)), (.ref b04)])) rfl rfl (hb hby at_359)
  have V_b04x := Arv.set Ar071 qk071 qs071 qn071 qh071 qg071 (fits_nar_char _) W071 16 rfl (Nat.le_of_ble_eq_true rfl)
  have N071 := Fr.snoc X071 N0c69 g_b04
  obtain ⟨lc0t72, X071, N071⟩ : ∃ lc, Stand p l e room_1 s m #[(.long q0), (.long q1), (.long q2), (.long q3), (.int p4), (.int p5)] below meth c T071 lc 1 18 ∧ Fr n0 lc := ⟨_, X071, N071⟩
  have K071 := K067.wr W071 (Or.inr sz_b04)
  have Z071 := Nat.le_trans Z067 (Keep.of_wr W071).1
  have O071 := O067.wr W071 g_b04
  replace V_b04 : Arv Z h071 b04 k04 .char (18 : Int32) [(.int (nar .char (fat q0 q1 q2 q3 (0 : Int32) u0_1 u0_3))), (.int (nar .char (fat q0 q1 q2 q3 (1 : Int32) u0_1 u0_3))), (.int (nar .char (fat q0 q1 q2 q3 (2 : Int32) u0_1 u0_3))), (.int (nar .char (fat q0 q1 q2 q3 (3 : Int32) u0_1 u0_3))), (.int (nar .char (fat q0 q1 q2 q3 (4 : Int32) u0_1 u0_3))), (.int (nar .char (fat q0 q1 q2 q3 (5 : Int32) u0_1 u0_3))), (.int (nar .char (fat q0 q1 q2 q3 (6 : Int32) u0_1 u0_3))), (.int (nar .char (fat q0 q1 q2 q3 (7 : Int32) u0_1 u0_3))), (.int (nar .char (fat q0 q1 q2 q3 (8 : Int32) u0_1 u0_3))), (.int (nar .char (fat q0 q1 q2 q3 (9 : Int32) u0_1 u0_3))), (.int (nar .char (fat q0 q1 q2 q3 (10 : Int32) u0_1 u0_3))), (.int (nar .char (fat q0 q1 q2 q3 (11 : Int32) u0_1 u0_3))), (.int (nar .char (fat q0 q1 q2 q3 (12 : Int32) u0_1 u0_3))), (.int (nar .char (fat q0 q1 q2 q3 (13 : Int32) u0_1 u0_3))), (.int (nar .char (fat q0 q1 q2 q3 (14 : Int32) u0_1 u0_3))), (.int (nar .char (fat q0 q1 q2 q3 (15 : Int32) u0_1 u0_3))), (.int (nar .char (fat q0 q1 q2 q3 (16 : Int32) u0_1 u0_3))), (.int (0 : Int32))] (.int (0 : Int32)) := V_b04x
  refine stp (fun t k => st071 t k) ?_
  show W (T071.setTop (mkF m 360 #[.val (.long q0), .second, .val (.long q1), .second, .val (.long q2), .second, .val (.long q3), .second, .val (.int p4), .val (.int p5), .val (.int u0_1), .val (.int u0_3), .val (.ref b04), .unset, .unset, .unset] []))
  refine stp (fun t k => XS.aload X071.here hx rfl (hb hby at_360) rfl rfl k) ?_
  show W (T071.setTop (mkF m 362 #[.val (.long q0), .second, .val (.long q1), .second, .val (.long q2), .second, .val (.long q3), .second, .val (.int p4), .val (.int p5), .val (.int u0_1), .val (.int u0_3), .val (.ref b04), .unset, .unset, .unset] [(.ref b04)]))
  refine stp (fun t k => XS.bipush X071.here hx rfl (hb hby at_362) k) ?_
  show W (T071.setTop (mkF m 364 #[.val (.long q0), .second, .val (.long q1), .second, .val (.long q2), .second, .val (.long q3), .second, .val (.int p4), .val (.int p5), .val (.int u0_1), .val (.int u0_3), .val (.ref b04), .unset, .unset, .unset] [(.int (17 : Int32)), (.ref b04)]))
  refine stp (fun t k => XS.lloadN X071.here hx rfl (hb hby at_364) rfl k) ?_
  show W (T071.setTop (mkF m 365 #[.val (.long q0), .second, .val (.long q1), .second, .val (.long q2), .second, .val (.long q3), .second, .val (.int p4), .val (.int p5), .val (.int u0_1), .val (.int u0_3), .val (.ref b04), .unset, .unset, .unset] [(.long q0), (.int (17 : Int32)), (.ref b04)]))
  refine stp (fun t k => XS.lloadN X071.here hx rfl (hb hby at_365) rfl k) ?_
  show W (T071.setTop (mkF m 366 #[.val (.long q0), .second, .val (.long q1), .second, .val (.long q2), .second, .val (.long q3), .second, .val (.int p4), .val (.int p5), .val (.int u0_1), .val (.int u0_3), .val (.ref b04), .unset, .unset, .unset] [(.long q1), (.long q0), (.int (17 : Int32)), (.ref b04)]))
  refine stp (fun t k => XS.lload X071.here hx rfl (hb hby at_366) rfl k) ?_
  show W (T071.setTop (mkF m 368 #[.val (.long q0), .second, .val (.long q1), .second, .val (.long q2), .second, .val (.long q3), .second, .val (.int p4), .val (.int p5), .val (.int u0_1), .val (.int u0_3), .val (.ref b04), .unset, .unset, .unset] [(.long q2), (.long q1), (.long q0), (.int (17 : Int32)), (.ref b04)]))
  refine stp (fun t k => XS.lload X071.here hx rfl (hb hby at_368) rfl k) ?_
  show W (T071.setTop (mkF m 370 #[.val (.long q0), .second, .val (.long q1), .second, .val (.long q2), .second, .val (.long q3), .second, .val (.int p4), .val (.int p5), .val (.int u0_1), .val (.int u0_3), .val (.ref b04), .unset, .unset, .unset] [(.long q3), (.long q2), (.long q1), (.long q0), (.int (17 : Int32)), (.ref b04)]))
  refine stp (fun t k => XS.bipush X071.here hx rfl (hb hby at_370) k) ?_
  show W (T071.setTop (mkF m 372 #[.val (.long q0), .second, .val (.long q1), .second, .val (.long q2), .second, .val (.long q3), .second, .val (.int p4), .val (.int p5), .val (.int u0_1), .val (.int u0_3), .val (.ref b04), .unset, .unset, .unset] [(.int (17 : Int32)), (.long q3), (.long q2), (.long q1), (.long q0), (.int (17 : Int32)), (.ref b04)]))
  refine stp (fun t k => XS.iload X071.here hx rfl (hb hby at_372) rfl k) ?_
  show W (T071.setTop (mkF m 374 #[.val (.long q0), .second, .val (.long q1), .second, .val (.long q2), .second, .val (.long q3), .second, .val (.int p4), .val (.int p5), .val (.int u0_1), .val (.int u0_3), .val (.ref b04), .unset, .unset, .unset] [(.int u0_1), (.int (17 : Int32)), (.long q3), (.long q2), (.long q1), (.long q0), (.int (17 : Int32)), (.ref b04)]))
  refine stp (fun t k => XS.iload X071.here hx rfl (hb hby at_374) rfl k) ?_
  show W (T071.setTop (mkF m 376 #[.val (.long q0), .second, .val (.long q1), .second, .val (.long q2), .second, .val (.long q3), .second, .val (.int p4), .val (.int p5), .val (.int u0_1), .val (.int u0_3), .val (.ref b04), .unset, .unset, .unset] [(.int u0_3), (.int u0_1), (.int (17 : Int32)), (.long q3), (.long q2), (.long q1), (.long q0), (.int (17 : Int32)), (.ref b04)]))
  obtain ⟨_, _, ⟨T0c73, L0c73, k0c73, n0c73⟩, -, X0c73, ⟨Lc0c73, hQ0c73, l0c73, y0c73, z0c73⟩, st0c73⟩ := Jvm.LawKit.callS X071 hx (y := (⟨"com/example/fieldgate/fieldgate/record/DigitsValuePinLaw", "at", "(JJJJIII)C"⟩ : MethodName)) hown (mvT hZ (hw _ (List.mem_of_getElem? (i := 2) rfl))) (mvT hZ (hw _ (List.mem_of_getElem? (i := 3) rfl))) (mvT hZ (hw _ (List.mem_of_getElem? (i := 4) rfl))) (mvT hZ (hw _ (List.mem_of_getElem? (i := 5) rfl))) (by decide) (backOf (W := 2) (rmat l Z aa hw [] q0 q1 q2 q3 (17 : Int32) u0_1 u0_3  h071 n0 Z071 ) hZ (hw _ (List.mem_of_getElem? (i := 5) rfl)) (hw _ (List.mem_of_getElem? (i := 4) rfl)) (by decide) (by decide)) (g := (mkF m 376 #[.val (.long q0), .second, .val (.long q1), .second, .val (.long q2), .second, .val (.long q3), .second, .val (.int p4), .val (.int p5), .val (.int u0_1), .val (.int u0_3), .val (.ref b04), .unset, .unset, .unset] [(.int u0_3), (.int u0_1), (.int (17 : Int32)), (.long q3), (.long q2), (.long q1), (.long q0), (.int (17 : Int32)), (.ref b04)])) rfl (by rw [hml]; rfl) (argsL := [(.long q0), (.long q1), (.long q2), (.long q3), (.int (17 : Int32)), (.int u0_1), (.int u0_3)]) (rest := [(.int (17 : Int32)), (.ref b04)]) (lenOf pd0_0 rfl) rfl (by show 2 * 0 + _ ≤ _; exact Nat.le_of_eq rfl) (hb hby at_376) (fun _ _ => ⟨rfl, e071, (by decide : 1 + 0 ≤ _), (by decide : 18 + 0 ≤ _)⟩)
  dsimp only [Pt.U, Pt.locs, Pt.cells, Pt.slots] at X0c73 l0c73 y0c73 z0c73 st0c73 hQ0c73
  subst l0c73 y0c73 z0c73
  obtain ⟨rfl, N0c73q, e0c73⟩ := hQ0c73
  have N0c73 := Fr.app N071 N0c73q
  obtain ⟨lc0t74, X0c73, N0c73⟩ : ∃ lc, Stand p l e room_1 s m #[(.long q0), (.long q1), (.long q2), (.long q3), (.int p4), (.int p5)] below meth c T0c73 lc 1 18 ∧ Fr n0 lc := ⟨_, X0c73, N0c73⟩
  refine stp (fun t k => st0c73 t k) ?_
  show W (T0c73.setTop (mkF m 379 #[.val (.long q0), .second, .val (.long q1), .second, .val (.long q2), .second, .val (.long q3), .second, .val (.int p4), .val (.int p5), .val (.int u0_1), .val (.int u0_3), .val (.ref b04), .unset, .unset, .unset] [(.int (fat q0 q1 q2 q3 (17 : Int32) u0_1 u0_3)), (.int (17 : Int32)), (.ref b04)]))
  obtain ⟨cl075, Ar075, qk075, qs075, qn075, qh075, qg075⟩ := id V_b04
  have hin075 : ¬ ((17 : Int32) < 0 ∨ cl075.slots.size ≤ ((17 : Int32)).toNatClampNeg) := inb_of qs075 ⟨by decide, by decide⟩
  obtain ⟨T075, h075, X075, e075, W075, st075⟩ := stC X0c73 hx hZ e0c73 Ar075 (j := (17 : Int32)) hin075 (g := (mkF m 379 #[.val (.long q0), .second, .val (.long q1), .second, .val (.long q2), .second, .val (.long q3), .second, .val (.int p4), .val (.int p5), .val (.int u0_1), .val (.int u0_3), .val (.ref b04), .unset, .unset, .unset] [(.int (fat q0 q1 q2 q3 (17 : Int32) u0_1 u0_3)), (.int (17 : Int32)), (.ref b04)])) rfl rfl (hb hby at_379)
  have V_b04x := Arv.set Ar075 qk075 qs075 qn075 qh075 qg075 (fits_nar_char _) W075 17 rfl (Nat.le_of_ble_eq_true rfl)
  have N075 := Fr.snoc X075 N0c73 g_b04
  obtain ⟨lc0t76, X075, N075⟩ : ∃ lc, Stand p l e room_1 s m #[(.long q0), (.long q1), (.long q2), (.long q3), (.int p4), (.int p5)] below meth c T075 lc 1 18 ∧ Fr n0 lc := ⟨_, X075, N075⟩
  have K075 := K071.wr W075 (Or.inr sz_b04)
  have Z075 := Nat.le_trans Z071 (Keep.of_wr W075).1
  have O075 := O071.wr W075 g_b04
  replace V_b04 : Arv Z h075 b04 k04 .char (18 : Int32) [(.int (nar .char (fat q0 q1 q2 q3 (0 : Int32) u0_1 u0_3))), (.int (nar .char (fat q0 q1 q2 q3 (1 : Int32) u0_1 u0_3))), (.int (nar .char (fat q0 q1 q2 q3 (2 : Int32) u0_1 u0_3))), (.int (nar .char (fat q0 q1 q2 q3 (3 : Int32) u0_1 u0_3))), (.int (nar .char (fat q0 q1 q2 q3 (4 : Int32) u0_1 u0_3))), (.int (nar .char (fat q0 q1 q2 q3 (5 : Int32) u0_1 u0_3))), (.int (nar .char (fat q0 q1 q2 q3 (6 : Int32) u0_1 u0_3))), (.int (nar .char (fat q0 q1 q2 q3 (7 : Int32) u0_1 u0_3))), (.int (nar .char (fat q0 q1 q2 q3 (8 : Int32) u0_1 u0_3))), (.int (nar .char (fat q0 q1 q2 q3 (9 : Int32) u0_1 u0_3))), (.int (nar .char (fat q0 q1 q2 q3 (10 : Int32) u0_1 u0_3))), (.int (nar .char (fat q0 q1 q2 q3 (11 : Int32) u0_1 u0_3))), (.int (nar .char (fat q0 q1 q2 q3 (12 : Int32) u0_1 u0_3))), (.int (nar .char (fat q0 q1 q2 q3 (13 : Int32) u0_1 u0_3))), (.int (nar .char (fat q0 q1 q2 q3 (14 : Int32) u0_1 u0_3))), (.int (nar .char (fat q0 q1 q2 q3 (15 : Int32) u0_1 u0_3))), (.int (nar .char (fat q0 q1 q2 q3 (16 : Int32) u0_1 u0_3))), (.int (nar .char (fat q0 q1 q2 q3 (17 : Int32) u0_1 u0_3)))] (.int (0 : Int32)) := V_b04x
  refine stp (fun t k => st075 t k) ?_
  show W (T075.setTop (mkF m 380 #[.val (.long q0), .second, .val (.long q1), .second, .val (.long q2), .second, .val (.long q3), .second, .val (.int p4), .val (.int p5), .val (.int u0_1), .val (.int u0_3), .val (.ref b04), .unset, .unset, .unset] []))
  obtain ⟨T077, h077, X077, e077, E077, A077, D077, -, st077⟩ := newO X075 hx hZ hown (hw _ (List.mem_of_getElem? (i := 10) rfl)) (hw _ (List.mem_of_getElem? (i := 11) rfl)) (hw _ (List.mem_of_getElem? (i := 12) rfl)) e075 (g := (mkF m 380 #[.val (.long q0), .second, .val (.long q1), .second, .val (.long q2), .second, .val (.long q3), .second, .val (.int p4), .val (.int p5), .val (.int u0_1), .val (.int u0_3), .val (.ref b04), .unset, .unset, .unset] [])) rfl (hb hby at_380) (by decide) (by decide)
  obtain ⟨b077, gq077⟩ : ∃ z, z = h075.size := ⟨_, rfl⟩
  rw [← gq077] at A077 D077 st077
  have ne_b04_b077 : b04 ≠ b077 := Nat.ne_of_lt (Nat.lt_of_lt_of_le V_b04.lt (Nat.le_of_eq gq077.symm))
  have g_b077 : n0 ≤ b077 := Nat.le_trans Z075 (Nat.le_of_eq gq077.symm)
  have sz_b077 : h0.size ≤ b077 := Nat.le_trans K075.1 (Nat.le_of_eq gq077.symm)
  replace V_b04 := V_b04.ext E077
  have K077 := K075.ext E077
  have Z077 := Nat.le_trans Z075 E077.1
  have O077 := O075.ext E077
  have E_b077 := A077
  have F_coder_b077 : Fld Z h077 b077 "java/lang/String" "coder" "B" (.int (0 : Int32)) := D077 (Or.inr (hw _ (List.mem_of_getElem? (i := 36) rfl))) (ty := .byte) (by decide)
  have F_value_b077 : Fld Z h077 b077 "java/lang/String" "value" "[B" .null := D077 (Or.inr (hw _ (List.mem_of_getElem? (i := 38) rfl))) (ty := (.array .byte)) (by decide)
  refine stp (fun t k => st077 t k) ?_
  show W (T077.setTop (mkF m 383 #[.val (.long q0), .second, .val (.long q1), .second, .val (.long q2), .second, .val (.long q3), .second, .val (.int p4), .val (.int p5), .val (.int u0_1), .val (.int u0_3), .val (.ref b04), .unset, .unset, .unset] [(.ref b077)]))
  refine stp (fun t k => XS.dup X077.here hx rfl (hb hby at_383) rfl rfl k) ?_
  show W (T077.setTop (mkF m 384 #[.val (.long q0), .second, .val (.long q1), .second, .val (.long q2), .second, .val (.long q3), .second, .val (.int p4), .val (.int p5), .val (.int u0_1), .val (.int u0_3), .val (.ref b04), .unset, .unset, .unset] [(.ref b077), (.ref b077)]))
  refine stp (fun t k => XS.aload X077.here hx rfl (hb hby at_384) rfl rfl k) ?_
  show W (T077.setTop (mkF m 386 #[.val (.long q0), .second, .val (.long q1), .second, .val (.long q2), .second, .val (.long q3), .second, .val (.int p4), .val (.int p5), .val (.int u0_1), .val (.int u0_3), .val (.ref b04), .unset, .unset, .unset] [(.ref b04), (.ref b077), (.ref b077)]))
  obtain ⟨g, hg⟩ : ∃ g : Nat → Int32, g = own_g q0 q1 q2 q3 u0_1 u0_3 := ⟨_, rfl⟩
  have hch := hg ▸ own_gch q0 q1 q2 q3 u0_1 u0_3
  have hasc := hg ▸ own_gasc q0 q1 q2 q3 u0_1 u0_3
  have V1_b04 : Arv Z h077 b04 k04 .char (Int32.ofNat 18) (own_vs 18 g) (.int (0 : Int32)) := (by rw [hg]; exact V_b04)
  obtain ⟨_, _, ⟨T0c78, L0c78, k0c78, n0c78⟩, -, X0c78, ⟨Lc0c78, hQ0c78, l0c78, y0c78, z0c78⟩, st0c78⟩ := X077.specialBack hx (y := (⟨"java/lang/String", "<init>", "([C)V"⟩ : MethodName)) rfl hown (mvT hZ (hw _ (List.mem_of_getElem? (i := 13) rfl))) (mvT hZ (hw _ (List.mem_of_getElem? (i := 14) rfl))) (mvT hZ (hw _ (List.mem_of_getElem? (i := 15) rfl))) (by decide) (backOf (W := 1) (rmi1 l Z aa hw [] b077 b04 wc sx 18 g k04 h077 n0 Z077 BW O077 (by decide) (fun j _ => ⟨(hch j).1, (hch j).2⟩) (fun j _ => hasc j) E_b077 F_value_b077 F_coder_b077 g_b077 V1_b04 (Ne.symm ne_b04_b077) (by decide)) hZ (hw _ (List.mem_of_getElem? (i := 15) rfl)) (hw _ (List.mem_of_getElem? (i := 12) rfl)) (by decide) (by decide)) (g := (mkF m 386 #[.val (.long q0), .second, .val (.long q1), .second, .val (.long q2), .second, .val (.long q3), .second, .val (.int p4), .val (.int p5), .val (.int u0_1), .val (.int u0_3), .val (.ref b04), .unset, .unset, .unset] [(.ref b04), (.ref b077), (.ref b077)])) rfl (by rw [hml]; rfl) (Steps.refl _) (a := b077) (argsL := [(.ref b04)]) (rest := [(.ref b077)]) (lenOf pd0_1 rfl) rfl (by show 2 * 0 + _ ≤ _; exact Nat.le_of_eq rfl) (hb hby at_386) (fun _ _ => ⟨rfl, e077, (by decide : 2 + 1 ≤ _), (by decide : 22 + 18 ≤ _)⟩)
  dsimp only [Pt.U, Pt.locs, Pt.cells, Pt.slots] at X0c78 l0c78 y0c78 z0c78 st0c78 hQ0c78
  subst l0c78 y0c78 z0c78
  obtain ⟨rfl, N0c78q, Kq0c78, b0c78, sz_b0c78, S_0c78⟩ := hQ0c78
  have N0c78 := Fr.app N075 N0c78q
  obtain ⟨lc0t79, X0c78, N0c78⟩ : ∃ lc, Stand p l e room_1 s m #[(.long q0), (.long q1), (.long q2), (.long q3), (.int p4), (.int p5)] below meth c T0c78 lc 3 40 ∧ Fr n0 lc := ⟨_, X0c78, N0c78⟩
  obtain ⟨h0c78, e0c78⟩ : ∃ h, T0c78.heap = h := ⟨_, rfl⟩
  rw [e0c78] at Kq0c78 S_0c78
  have ne_b04_b0c78 : b04 ≠ b0c78 := Nat.ne_of_lt (Nat.lt_of_lt_of_le V_b04.lt sz_b0c78)
  have ne_b077_b0c78 : b077 ≠ b0c78 := Nat.ne_of_lt (Nat.lt_of_lt_of_le E_b077.lt sz_b0c78)
  have g_b0c78 : n0 ≤ b0c78 := Nat.le_trans Z077 sz_b0c78
  replace V_b04 := V_b04.keep Kq0c78 (ninS ne_b04_b077 nin0)
  have KK0c78 := Keep.trans K077 Kq0c78 (allS (Or.inr sz_b077) all0)
  have Z0c78 := Nat.le_trans Z077 Kq0c78.1
  have O0c78 := O077.keep Kq0c78 (allS g_b077 all0)
  refine stp (fun t k => st0c78.trans k) ?_
  show W (T0c78.setTop (mkF m 389 #[.val (.long q0), .second, .val (.long q1), .second, .val (.long q2), .second, .val (.long q3), .second, .val (.int p4), .val (.int p5), .val (.int u0_1), .val (.int u0_3), .val (.ref b04), .unset, .unset, .unset] [(.ref b077)]))
  refine stp (fun t k => XS.astore X0c78.here hx rfl (hb hby at_389) rfl rfl (l' := #[.val (.long q0), .second, .val (.long q1), .second, .val (.long q2), .second, .val (.long q3), .second, .val (.int p4), .val (.int p5), .val (.int u0_1), .val (.int u0_3), .val (.ref b04), .val (.ref b077), .unset, .unset]) rfl k) ?_
  show W (T0c78.setTop (mkF m 391 #[.val (.long q0), .second, .val (.long q1), .second, .val (.long q2), .second, .val (.long q3), .second, .val (.int p4), .val (.int p5), .val (.int u0_1), .val (.int u0_3), .val (.ref b04), .val (.ref b077), .unset, .unset] []))
  refine stp (fun t k => XS.lloadN X0c78.here hx rfl (hb hby at_391) rfl k) ?_
  show W (T0c78.setTop (mkF m 392 #[.val (.long q0), .second, .val (.long q1), .second, .val (.long q2), .second, .val (.long q3), .second, .val (.int p4), .val (.int p5), .val (.int u0_1), .val (.int u0_3), .val (.ref b04), .val (.ref b077), .unset, .unset] [(.long q0)]))
  refine stp (fun t k => XS.lloadN X0c78.here hx rfl (hb hby at_392) rfl k) ?_
  show W (T0c78.setTop (mkF m 393 #[.val (.long q0), .second, .val (.long q1), .second, .val (.long q2), .second, .val (.long q3), .second, .val (.int p4), .val (.int p5), .val (.int u0_1), .val (.int u0_3), .val (.ref b04), .val (.ref b077), .unset, .unset] [(.long q1), (.long q0)]))
  refine stp (fun t k => XS.iconst X0c78.here hx rfl (hb hby at_393) k) ?_
  show W (T0c78.setTop (mkF m 394 #[.val (.long q0), .second, .val (.long q1), .second, .val (.long q2), .second, .val (.long q3), .second, .val (.int p4), .val (.int p5), .val (.int u0_1), .val (.int u0_3), .val (.ref b04), .val (.ref b077), .unset, .unset] [(.int (0 : Int32)), (.long q1), (.long q0)]))
  refine stp (fun t k => XS.iload X0c78.here hx rfl (hb hby at_394) rfl k) ?_
  show W (T0c78.setTop (mkF m 396 #[.val (.long q0), .second, .val (.long q1), .second, .val (.long q2), .second, .val (.long q3), .second, .val (.int p4), .val (.int p5), .val (.int u0_1), .val (.int u0_3), .val (.ref b04), .val (.ref b077), .unset, .unset] [(.int u0_1), (.int (0 : Int32)), (.long q1), (.long q0)]))
  refine stp (fun t k => XS.iload X0c78.here hx rfl (hb hby at_396) rfl k) ?_
  show W (T0c78.setTop (mkF m 398 #[.val (.long q0), .second, .val (.long q1), .second, .val (.long q2), .second, .val (.long q3), .second, .val (.int p4), .val (.int p5), .val (.int u0_1), .val (.int u0_3), .val (.ref b04), .val (.ref b077), .unset, .unset] [(.int u0_3), (.int u0_1), (.int (0 : Int32)), (.long q1), (.long q0)]))
  obtain ⟨_, _, ⟨T0c80, L0c80, k0c80, n0c80⟩, -, X0c80, ⟨Lc0c80, hQ0c80, l0c80, y0c80, z0c80⟩, st0c80⟩ := Jvm.LawKit.callS X0c78 hx (y := (⟨"com/example/fieldgate/fieldgate/record/DigitsValuePinLaw", "term", "(JJIII)J"⟩ : MethodName)) hown (mvT hZ (hw _ (List.mem_of_getElem? (i := 39) rfl))) (mvT hZ (hw _ (List.mem_of_getElem? (i := 40) rfl))) (mvT hZ (hw _ (List.mem_of_getElem? (i := 4) rfl))) (mvT hZ (hw _ (List.mem_of_getElem? (i := 41) rfl))) (by decide) (backOf (W := 0) (rmtm l Z aa hw [] q0 q1 (0 : Int32) u0_1 u0_3  h0c78 n0 Z0c78 hf0 ht18) hZ (hw _ (List.mem_of_getElem? (i := 41) rfl)) (hw _ (List.mem_of_getElem? (i := 4) rfl)) (by decide) (by decide)) (g := (mkF m 398 #[.val (.long q0), .second, .val (.long q1), .second, .val (.long q2), .second, .val (.long q3), .second, .val (.int p4), .val (.int p5), .val (.int u0_1), .val (.int u0_3), .val (.ref b04), .val (.ref b077), .unset, .unset] [(.int u0_3), (.int u0_1), (.int (0 : Int32)), (.long q1), (.long q0)])) rfl (by rw [hml]; rfl) (argsL := [(.long q0), (.long q1), (.int (0 : Int32)), (.int u0_1), (.int u0_3)]) (rest := []) (lenOf pd0_2 rfl) rfl (by show 2 * 0 + _ ≤ _; exact Nat.le_of_eq rfl) (hb hby at_398) (fun _ _ => ⟨rfl, e0c78, (by decide : 3 + 1 ≤ _), (by decide : 40 + 18 ≤ _)⟩)
  dsimp only [Pt.U, Pt.locs, Pt.cells, Pt.slots] at X0c80 l0c80 y0c80 z0c80 st0c80 hQ0c80
  subst l0c80 y0c80 z0c80
  obtain ⟨rfl, N0c80q, Kq0c80⟩ := hQ0c80
  have N0c80 := Fr.app N0c78 N0c80q
  obtain ⟨lc0t81, X0c80, N0c80⟩ : ∃ lc, Stand p l e room_1 s m #[(.long q0), (.long q1), (.long q2), (.long q3), (.int p4), (.int p5)] below meth c T0c80 lc 4 58 ∧ Fr n0 lc := ⟨_, X0c80, N0c80⟩
  obtain ⟨h0c80, e0c80⟩ : ∃ h, T0c80.heap = h := ⟨_, rfl⟩
  rw [e0c80] at Kq0c80 
  replace V_b04 := V_b04.keep Kq0c80 nin0
  replace S_0c78 := S_0c78.keep Kq0c80 nin0 nin0
  have KK0c80 := Keep.trans KK0c78 Kq0c80 all0
  have Z0c80 := Nat.le_trans Z0c78 Kq0c80.1
  have O0c80 := O0c78.keep Kq0c80 all0
  refine stp (fun t k => st0c80 t k) ?_
  show W (T0c80.setTop (mkF m 401 #[.val (.long q0), .second, .val (.long q1), .second, .val (.long q2), .second, .val (.long q3), .second, .val (.int p4), .val (.int p5), .val (.int u0_1), .val (.int u0_3), .val (.ref b04), .val (.ref b077), .unset, .unset] [(.long (ftm q0 q1 (0 : Int32) u0_1 u0_3))]))
  refine stp (fun t k => XS.lloadN X0c80.here hx rfl (hb hby at_401) rfl k) ?_
  show W (T0c80.setTop (mkF m 402 #[.val (.long q0), .second, .val (.long q1), .second, .val (.long q2), .second, .val (.long q3), .second, .val (.int p4), .val (.int p5), .val (.int u0_1), .val (.int u0_3), .val (.ref b04), .val (.ref b077), .unset, .unset] [(.long q0), (.long (ftm q0 q1 (0 : Int32) u0_1 u0_3))]))
  refine stp (fun t k => XS.lloadN X0c80.here hx rfl (hb hby at_402) rfl k) ?_
  show W (T0c80.setTop (mkF m 403 #[.val (.long q0), .second, .val (.long q1), .second, .val (.long q2), .second, .val (.long q3), .second, .val (.int p4), .val (.int p5), .val (.int u0_1), .val (.int u0_3), .val (.ref b04), .val (.ref b077), .unset, .unset] [(.long q1), (.long q0), (.long (ftm q0 q1 (0 : Int32) u0_1 u0_3))]))
  refine stp (fun t k => XS.iconst X0c80.here hx rfl (hb hby at_403) k) ?_
  show W (T0c80.setTop (mkF m 404 #[.val (.long q0), .second, .val (.long q1), .second, .val (.long q2), .second, .val (.long q3), .second, .val (.int p4), .val (.int p5), .val (.int u0_1), .val (.int u0_3), .val (.ref b04), .val (.ref b077), .unset, .unset] [(.int (1 : Int32)), (.long q1), (.long q0), (.long (ftm q0 q1 (0 : Int32) u0_1 u0_3))]))
  refine stp (fun t k => XS.iload X0c80.here hx rfl (hb hby at_404) rfl k) ?_
  show W (T0c80.setTop (mkF m 406 #[.val (.long q0), .second, .val (.long q1), .second, .val (.long q2), .second, .val (.long q3), .second, .val (.int p4), .val (.int p5), .val (.int u0_1), .val (.int u0_3), .val (.ref b04), .val (.ref b077), .unset, .unset] [(.int u0_1), (.int (1 : Int32)), (.long q1), (.long q0), (.long (ftm q0 q1 (0 : Int32) u0_1 u0_3))]))
  refine stp (fun t k => XS.iload X0c80.here hx rfl (hb hby at_406) rfl k) ?_
  show W (T0c80.setTop (mkF m 408 #[.val (.long q0), .second, .val (.long q1), .second, .val (.long q2), .second, .val (.long q3), .second, .val (.int p4), .val (.int p5), .val (.int u0_1), .val (.int u0_3), .val (.ref b04), .val (.ref b077), .unset, .unset] [(.int u0_3), (.int u0_1), (.int (1 : Int32)), (.long q1), (.long q0), (.long (ftm q0 q1 (0 : Int32) u0_1 u0_3))]))
  obtain ⟨_, _, ⟨T0c82, L0c82, k0c82, n0c82⟩, -, X0c82, ⟨Lc0c82, hQ0c82, l0c82, y0c82, z0c82⟩, st0c82⟩ := Jvm.LawKit.callS X0c80 hx (y := (⟨"com/example/fieldgate/fieldgate/record/DigitsValuePinLaw", "term", "(JJIII)J"⟩ : MethodName)) hown (mvT hZ (hw _ (List.mem_of_getElem? (i := 39) rfl))) (mvT hZ (hw _ (List.mem_of_getElem? (i := 40) rfl))) (mvT hZ (hw _ (List.mem_of_getElem? (i := 4) rfl))) (mvT hZ (hw _ (List.mem_of_getElem? (i := 41) rfl))) (by decide) (backOf (W := 2) (rmtm l Z aa hw [] q0 q1 (1 : Int32) u0_1 u0_3  h0c80 n0 Z0c80 hf0 ht18) hZ (hw _ (List.mem_of_getElem? (i := 41) rfl)) (hw _ (List.mem_of_getElem? (i := 4) rfl)) (by decide) (by decide)) (g := (mkF m 408 #[.val (.long q0), .second, .val (.long q1), .second, .val (.long q2), .second, .val (.long q3), .second, .val (.int p4), .val (.int p5), .val (.int u0_1), .val (.int u0_3), .val (.ref b04), .val (.ref b077), .unset, .unset] [(.int u0_3), (.int u0_1), (.int (1 : Int32)), (.long q1), (.long q0), (.long (ftm q0 q1 (0 : Int32) u0_1 u0_3))])) rfl (by rw [hml]; rfl) (argsL := [(.long q0), (.long q1), (.int (1 : Int32)), (.int u0_1), (.int u0_3)]) (rest := [(.long (ftm q0 q1 (0 : Int32) u0_1 u0_3))]) (lenOf pd0_2 rfl) rfl (by show 2 * 0 + _ ≤ _; exact Nat.le_of_eq rfl) (hb hby at_408) (fun _ _ => ⟨rfl, e0c80, (by decide : 4 + 1 ≤ _), (by decide : 58 + 18 ≤ _)⟩)
  dsimp only [Pt.U, Pt.locs, Pt.cells, Pt.slots] at X0c82 l0c82 y0c82 z0c82 st0c82 hQ0c82
  subst l0c82 y0c82 z0c82
  obtain ⟨rfl, N0c82q, Kq0c82⟩ := hQ0c82
  have N0c82 := Fr.app N0c80 N0c82q
  obtain ⟨lc0t83, X0c82, N0c82⟩ : ∃ lc, Stand p l e room_1 s m #[(.long q0), (.long q1), (.long q2), (.long q3), (.int p4), (.int p5)] below meth c T0c82 lc 5 76 ∧ Fr n0 lc := ⟨_, X0c82, N0c82⟩
  obtain ⟨h0c82, e0c82⟩ : ∃ h, T0c82.heap = h := ⟨_, rfl⟩
  rw [e0c82] at Kq0c82 
  replace V_b04 := V_b04.keep Kq0c82 nin0
  replace S_0c78 := S_0c78.keep Kq0c82 nin0 nin0
  have KK0c82 := Keep.trans KK0c80 Kq0c82 all0
  have Z0c82 := Nat.le_trans Z0c80 Kq0c82.1
  have O0c82 := O0c80.keep Kq0c82 all0
  refine stp (fun t k => st0c82 t k) ?_
  show W (T0c82.setTop (mkF m 411 #[.val (.long q0), .second, .val (.long q1), .second, .val (.long q2), .second, .val (.long q3), .second, .val (.int p4), .val (.int p5), .val (.int u0_1), .val (.int u0_3), .val (.ref b04), .val (.ref b077), .unset, .unset] [(.long (ftm q0 q1 (1 : Int32) u0_1 u0_3)), (.long (ftm q0 q1 (0 : Int32) u0_1 u0_3))]))
  refine stp (fun t k => XS.ladd X0c82.here hx rfl (hb hby at_411) rfl k) ?_
  show W (T0c82.setTop (mkF m 412 #[.val (.long q0), .second, .val (.long q1), .second, .val (.long q2), .second, .val (.long q3), .second, .val (.int p4), .val (.int p5), .val (.int u0_1), .val (.int u0_3), .val (.ref b04), .val (.ref b077), .unset, .unset] [(.long ((ftm q0 q1 (0 : Int32) u0_1 u0_3) + (ftm q0 q1 (1 : Int32) u0_1 u0_3)))]))
  refine stp (fun t k => XS.lloadN X0c82.here hx rfl (hb hby at_412) rfl k) ?_
  show W (T0c82.setTop (mkF m 413 #[.val (.long q0), .second, .val (.long q1), .second, .val (.long q2), .second, .val (.long q3), .second, .val (.int p4), .val (.int p5), .val (.int u0_1), .val (.int u0_3), .val (.ref b04), .val (.ref b077), .unset, .unset] [(.long q0), (.long ((ftm q0 q1 (0 : Int32) u0_1 u0_3) + (ftm q0 q1 (1 : Int32) u0_1 u0_3)))]))
  refine stp (fun t k => XS.lloadN X0c82.here hx rfl (hb hby at_413) rfl k) ?_
  show W (T0c82.setTop (mkF m 414 #[.val (.long q0), .second, .val (.long q1), .second, .val (.long q2), .second, .val (.long q3), .second, .val (.int p4), .val (.int p5), .val (.int u0_1), .val (.int u0_3), .val (.ref b04), .val (.ref b077), .unset, .unset] [(.long q1), (.long q0), (.long ((ftm q0 q1 (0 : Int32) u0_1 u0_3) + (ftm q0 q1 (1 : Int32) u0_1 u0_3)))]))
  refine stp (fun t k => XS.iconst X0c82.here hx rfl (hb hby at_414) k) ?_
  show W (T0c82.setTop (mkF m 415 #[.val (.long q0), .second, .val (.long q1), .second, .val (.long q2), .second, .val (.long q3), .second, .val (.int p4), .val (.int p5), .val (.int u0_1), .val (.int u0_3), .val (.ref b04), .val (.ref b077), .unset, .unset] [(.int (2 : Int32)), (.long q1), (.long q0), (.long ((ftm q0 q1 (0 : Int32) u0_1 u0_3) + (ftm q0 q1 (1 : Int32) u0_1 u0_3)))]))
  refine stp (fun t k => XS.iload X0c82.here hx rfl (hb hby at_415) rfl k) ?_
  show W (T0c82.setTop (mkF m 417 #[.val (.long q0), .second, .val (.long q1), .second, .val (.long q2), .second, .val (.long q3), .second, .val (.int p4), .val (.int p5), .val (.int u0_1), .val (.int u0_3), .val (.ref b04), .val (.ref b077), .unset, .unset] [(.int u0_1), (.int (2 : Int32)), (.long q1), (.long q0), (.long ((ftm q0 q1 (0 : Int32) u0_1 u0_3) + (ftm q0 q1 (1 : Int32) u0_1 u0_3)))]))
  refine stp (fun t k => XS.iload X0c82.here hx rfl (hb hby at_417) rfl k) ?_
  show W (T0c82.setTop (mkF m 419 #[.val (.long q0), .second, .val (.long q1), .second, .val (.long q2), .second, .val (.long q3), .second, .val (.int p4), .val (.int p5), .val (.int u0_1), .val (.int u0_3), .val (.ref b04), .val (.ref b077), .unset, .unset] [(.int u0_3), (.int u0_1), (.int (2 : Int32)), (.long q1), (.long q0), (.long ((ftm q0 q1 (0 : Int32) u0_1 u0_3) + (ftm q0 q1 (1 : Int32) u0_1 u0_3)))]))
  obtain ⟨_, _, ⟨T0c84, L0c84, k0c84, n0c84⟩, -, X0c84, ⟨Lc0c84, hQ0c84, l0c84, y0c84, z0c84⟩, st0c84⟩ := Jvm.LawKit.callS X0c82 hx (y := (⟨"com/example/fieldgate/fieldgate/record/DigitsValuePinLaw", "term", "(JJIII)J"⟩ : MethodName)) hown (mvT hZ (hw _ (List.mem_of_getElem? (i := 39) rfl))) (mvT hZ (hw _ (List.mem_of_getElem? (i := 40) rfl))) (mvT hZ (hw _ (List.mem_of_getElem? (i := 4) rfl))) (mvT hZ (hw _ (List.mem_of_getElem? (i := 41) rfl))) (by decide) (backOf (W := 2) (rmtm l Z aa hw [] q0 q1 (2 : Int32) u0_1 u0_3  h0c82 n0 Z0c82 hf0 ht18) hZ (hw _ (List.mem_of_getElem? (i := 41) rfl)) (hw _ (List.mem_of_getElem? (i := 4) rfl)) (by decide) (by decide)) (g := (mkF m 419 #[.val (.long q0), .second, .val (.long q1), .second, .val (.long q2), .second, .val (.long q3), .second, .val (.int p4), .val (.int p5), .val (.int u0_1), .val (.int u0_3), .val (.ref b04), .val (.ref b077), .unset, .unset] [(.int u0_3), (.int u0_1), (.int (2 : Int32)), (.long q1), (.long q0), (.long ((ftm q0 q1 (0 : Int32) u0_1 u0_3) + (ftm q0 q1 (1 : Int32) u0_1 u0_3)))])) rfl (by rw [hml]; rfl) (argsL := [(.long q0), (.long q1), (.int (2 : Int32)), (.int u0_1), (.int u0_3)]) (rest := [(.long ((ftm q0 q1 (0 : Int32) u0_1 u0_3) + (ftm q0 q1 (1 : Int32) u0_1 u0_3)))]) (lenOf pd0_2 rfl) rfl (by show 2 * 0 + _ ≤ _; exact Nat.le_of_eq rfl) (hb hby at_419) (fun _ _ => ⟨rfl, e0c82, (by decide : 5 + 1 ≤ _), (by decide : 76 + 18 ≤ _)⟩)
  dsimp only [Pt.U, Pt.locs, Pt.cells, Pt.slots] at X0c84 l0c84 y0c84 z0c84 st0c84 hQ0c84
  subst l0c84 y0c84 z0c84
  obtain ⟨rfl, N0c84q, Kq0c84⟩ := hQ0c84
  have N0c84 := Fr.app N0c82 N0c84q
  obtain ⟨lc0t85, X0c84, N0c84⟩ : ∃ lc, Stand p l e room_1 s m #[(.long q0), (.long q1), (.long q2), (.long q3), (.int p4), (.int p5)] below meth c T0c84 lc 6 94 ∧ Fr n0 lc := ⟨_, X0c84, N0c84⟩
  obtain ⟨h0c84, e0c84⟩ : ∃ h, T0c84.heap = h := ⟨_, rfl⟩
  rw [e0c84] at Kq0c84 
  replace V_b04 := V_b04.keep Kq0c84 nin0
  replace S_0c78 := S_0c78.keep Kq0c84 nin0 nin0
  have KK0c84 := Keep.trans KK0c82 Kq0c84 all0
  have Z0c84 := Nat.le_trans Z0c82 Kq0c84.1
  have O0c84 := O0c82.keep Kq0c84 all0
  refine stp (fun t k => st0c84 t k) ?_
  show W (T0c84.setTop (mkF m 422 #[.val (.long q0), .second, .val (.long q1), .second, .val (.long q2), .second, .val (.long q3), .second, .val (.int p4), .val (.int p5), .val (.int u0_1), .val (.int u0_3), .val (.ref b04), .val (.ref b077), .unset, .unset] [(.long (ftm q0 q1 (2 : Int32) u0_1 u0_3)), (.long ((ftm q0 q1 (0 : Int32) u0_1 u0_3) + (ftm q0 q1 (1 : Int32) u0_1 u0_3)))]))
  refine stp (fun t k => XS.ladd X0c84.here hx rfl (hb hby at_422) rfl k) ?_
  show W (T0c84.setTop (mkF m 423 #[.val (.long q0), .second, .val (.long q1), .second, .val (.long q2), .second, .val (.long q3), .second, .val (.int p4), .val (.int p5), .val (.int u0_1), .val (.int u0_3), .val (.ref b04), .val (.ref b077), .unset, .unset] [(.long (((ftm q0 q1 (0 : Int32) u0_1 u0_3) + (ftm q0 q1 (1 : Int32) u0_1 u0_3)) + (ftm q0 q1 (2 : Int32) u0_1 u0_3)))]))
  refine stp (fun t k => XS.lloadN X0c84.here hx rfl (hb hby at_423) rfl k) ?_
  show W (T0c84.setTop (mkF m 424 #[.val (.long q0), .second, .val (.long q1), .second, .val (.long q2), .second, .val (.long q3), .second, .val (.int p4), .val (.int p5), .val (.int u0_1), .val (.int u0_3), .val (.ref b04), .val (.ref b077), .unset, .unset] [(.long q0), (.long (((ftm q0 q1 (0 : Int32) u0_1 u0_3) + (ftm q0 q1 (1 : Int32) u0_1 u0_3)) + (ftm q0 q1 (2 : Int32) u0_1 u0_3)))]))
  refine stp (fun t k => XS.lloadN X0c84.here hx rfl (hb hby at_424) rfl k) ?_
  show W (T0c84.setTop (mkF m 425 #[.val (.long q0), .second, .val (.long q1), .second, .val (.long q2), .second, .val (.long q3), .second, .val (.int p4), .val (.int p5), .val (.int u0_1), .val (.int u0_3), .val (.ref b04), .val (.ref b077), .unset, .unset] [(.long q1), (.long q0), (.long (((ftm q0 q1 (0 : Int32) u0_1 u0_3) + (ftm q0 q1 (1 : Int32) u0_1 u0_3)) + (ftm q0 q1 (2 : Int32) u0_1 u0_3)))]))
  refine stp (fun t k => XS.iconst X0c84.here hx rfl (hb hby at_425) k) ?_
  show W (T0c84.setTop (mkF m 426 #[.val (.long q0), .second, .val (.long q1), .second, .val (.long q2), .second, .val (.long q3), .second, .val (.int p4), .val (.int p5), .val (.int u0_1), .val (.int u0_3), .val (.ref b04), .val (.ref b077), .unset, .unset] [(.int (3 : Int32)), (.long q1), (.long q0), (.long (((ftm q0 q1 (0 : Int32) u0_1 u0_3) + (ftm q0 q1 (1 : Int32) u0_1 u0_3)) + (ftm q0 q1 (2 : Int32) u0_1 u0_3)))]))
  refine stp (fun t k => XS.iload X0c84.here hx rfl (hb hby at_426) rfl k) ?_
  show W (T0c84.setTop (mkF m 428 #[.val (.long q0), .second, .val (.long q1), .second, .val (.long q2), .second, .val (.long q3), .second, .val (.int p4), .val (.int p5), .val (.int u0_1), .val (.int u0_3), .val (.ref b04), .val (.ref b077), .unset, .unset] [(.int u0_1), (.int (3 : Int32)), (.long q1), (.long q0), (.long (((ftm q0 q1 (0 : Int32) u0_1 u0_3) + (ftm q0 q1 (1 : Int32) u0_1 u0_3)) + (ftm q0 q1 (2 : Int32) u0_1 u0_3)))]))
  refine stp (fun t k => XS.iload X0c84.here hx rfl (hb hby at_428) rfl k) ?_
  show W (T0c84.setTop (mkF m 430 #[.val (.long q0), .second, .val (.long q1), .second, .val (.long q2), .second, .val (.long q3), .second, .val (.int p4), .val (.int p5), .val (.int u0_1), .val (.int u0_3), .val (.ref b04), .val (.ref b077), .unset, .unset] [(.int u0_3), (.int u0_1), (.int (3 : Int32)), (.long q1), (.long q0), (.long (((ftm q0 q1 (0 : Int32) u0_1 u0_3) + (ftm q0 q1 (1 : Int32) u0_1 u0_3)) + (ftm q0 q1 (2 : Int32) u0_1 u0_3)))]))
  obtain ⟨_, _, ⟨T0c86, L0c86, k0c86, n0c86⟩, -, X0c86, ⟨Lc0c86, hQ0c86, l0c86, y0c86, z0c86⟩, st0c86⟩ := Jvm.LawKit.callS X0c84 hx (y := (⟨"com/example/fieldgate/fieldgate/record/DigitsValuePinLaw", "term", "(JJIII)J"⟩ : MethodName)) hown (mvT hZ (hw _ (List.mem_of_getElem? (i := 39) rfl))) (mvT hZ (hw _ (List.mem_of_getElem? (i := 40) rfl))) (mvT hZ (hw _ (List.mem_of_getElem? (i := 4) rfl))) (mvT hZ (hw _ (List.mem_of_getElem? (i := 41) rfl))) (by decide) (backOf (W := 2) (rmtm l Z aa hw [] q0 q1 (3 : Int32) u0_1 u0_3  h0c84 n0 Z0c84 hf0 ht18) hZ (hw _ (List.mem_of_getElem? (i := 41) rfl)) (hw _ (List.mem_of_getElem? (i := 4) rfl)) (by decide) (by decide)) (g := (mkF m 430 #[.val (.long q0), .second, .val (.long q1), .second, .val (.long q2), .second, .val (.long q3), .second, .val (.int p4), .val (.int p5), .val (.int u0_1), .val (.int u0_3), .val (.ref b04), .val (.ref b077), .unset, .unset] [(.int u0_3), (.int u0_1), (.int (3 : Int32)), (.long q1), (.long q0), (.long (((ftm q0 q1 (0 : Int32) u0_1 u0_3) + (ftm q0 q1 (1 : Int32) u0_1 u0_3)) + (ftm q0 q1 (2 : Int32) u0_1 u0_3)))])) rfl (by rw [hml]; rfl) (argsL := [(.long q0), (.long q1), (.int (3 : Int32)), (.int u0_1), (.int u0_3)]) (rest := [(.long (((ftm q0 q1 (0 : Int32) u0_1 u0_3) + (ftm q0 q1 (1 : Int32) u0_1 u0_3)) + (ftm q0 q1 (2 : Int32) u0_1 u0_3)))]) (lenOf pd0_2 rfl) rfl (by show 2 * 0 + _ ≤ _; exact Nat.le_of_eq rfl) (hb hby at_430) (fun _ _ => ⟨rfl, e0c84, (by decide : 6 + 1 ≤ _), (by decide : 94 + 18 ≤ _)⟩)
  dsimp only [Pt.U, Pt.locs, Pt.cells, Pt.slots] at X0c86 l0c86 y0c86 z0c86 st0c86 hQ0c86
  subst l0c86 y0c86 z0c86
  obtain ⟨rfl, N0c86q, Kq0c86⟩ := hQ0c86
  have N0c86 := Fr.app N0c84 N0c86q
  obtain ⟨lc0t87, X0c86, N0c86⟩ : ∃ lc, Stand p l e room_1 s m #[(.long q0), (.long q1), (.long q2), (.long q3), (.int p4), (.int p5)] below meth c T0c86 lc 7 112 ∧ Fr n0 lc := ⟨_, X0c86, N0c86⟩
  obtain ⟨h0c86, e0c86⟩ : ∃ h, T0c86.heap = h := ⟨_, rfl⟩
  rw [e0c86] at Kq0c86 
  replace V_b04 := V_b04.keep Kq0c86 nin0
  replace S_0c78 := S_0c78.keep Kq0c86 nin0 nin0
  have KK0c86 := Keep.trans KK0c84 Kq0c86 all0
  have Z0c86 := Nat.le_trans Z0c84 Kq0c86.1
  have O0c86 := O0c84.keep Kq0c86 all0
  refine stp (fun t k => st0c86 t k) ?_
  show W (T0c86.setTop (mkF m 433 #[.val (.long q0), .second, .val (.long q1), .second, .val (.long q2), .second, .val (.long q3), .second, .val (.int p4), .val (.int p5), .val (.int u0_1), .val (.int u0_3), .val (.ref b04), .val (.ref b077), .unset, .unset] [(.long (ftm q0 q1 (3 : Int32) u0_1 u0_3)), (.long (((ftm q0 q1 (0 : Int32) u0_1 u0_3) + (ftm q0 q1 (1 : Int32) u0_1 u0_3)) + (ftm q0 q1 (2 : Int32) u0_1 u0_3)))]))
  refine stp (fun t k => XS.ladd X0c86.here hx rfl (hb hby at_433) rfl k) ?_
  show W (T0c86.setTop (mkF m 434 #[.val (.long q0), .second, .val (.long q1), .second, .val (.long q2), .second, .val (.long q3), .second, .val (.int p4), .val (.int p5), .val (.int u0_1), .val (.int u0_3), .val (.ref b04), .val (.ref b077), .unset, .unset] [(.long ((((ftm q0 q1 (0 : Int32) u0_1 u0_3) + (ftm q0 q1 (1 : Int32) u0_1 u0_3)) + (ftm q0 q1 (2 : Int32) u0_1 u0_3)) + (ftm q0 q1 (3 : Int32) u0_1 u0_3)))]))
  refine stp (fun t k => XS.lloadN X0c86.here hx rfl (hb hby at_434) rfl k) ?_
  show W (T0c86.setTop (mkF m 435 #[.val (.long q0), .second, .val (.long q1), .second, .val (.long q2), .second, .val (.long q3), .second, .val (.int p4), .val (.int p5), .val (.int u0_1), .val (.int u0_3), .val (.ref b04), .val (.ref b077), .unset, .unset] [(.long q0), (.long ((((ftm q0 q1 (0 : Int32) u0_1 u0_3) + (ftm q0 q1 (1 : Int32) u0_1 u0_3)) + (ftm q0 q1 (2 : Int32) u0_1 u0_3)) + (ftm q0 q1 (3 : Int32) u0_1 u0_3)))]))
  refine stp (fun t k => XS.lloadN X0c86.here hx rfl (hb hby at_435) rfl k) ?_
  show W (T0c86.setTop (mkF m 436 #[.val (.long q0), .second, .val (.long q1), .second, .val (.long q2), .second, .val (.long q3), .second, .val (.int p4), .val (.int p5), .val (.int u0_1), .val (.int u0_3), .val (.ref b04), .val (.ref b077), .unset, .unset] [(.long q1), (.long q0), (.long ((((ftm q0 q1 (0 : Int32) u0_1 u0_3) + (ftm q0 q1 (1 : Int32) u0_1 u0_3)) + (ftm q0 q1 (2 : Int32) u0_1 u0_3)) + (ftm q0 q1 (3 : Int32) u0_1 u0_3)))]))
  refine stp (fun t k => XS.iconst X0c86.here hx rfl (hb hby at_436) k) ?_
  show W (T0c86.setTop (mkF m 437 #[.val (.long q0), .second, .val (.long q1), .second, .val (.long q2), .second, .val (.long q3), .second, .val (.int p4), .val (.int p5), .val (.int u0_1), .val (.int u0_3), .val (.ref b04), .val (.ref b077), .unset, .unset] [(.int (4 : Int32)), (.long q1), (.long q0), (.long ((((ftm q0 q1 (0 : Int32) u0_1 u0_3) + (ftm q0 q1 (1 : Int32) u0_1 u0_3)) + (ftm q0 q1 (2 : Int32) u0_1 u0_3)) + (ftm q0 q1 (3 : Int32) u0_1 u0_3)))]))
  refine stp (fun t k => XS.iload X0c86.here hx rfl (hb hby at_437) rfl k) ?_
  show W (T0c86.setTop (mkF m 439 #[.val (.long q0), .second, .val (.long q1), .second, .val (.long q2), .second, .val (.long q3), .second, .val (.int p4), .val (.int p5), .val (.int u0_1), .val (.int u0_3), .val (.ref b04), .val (.ref b077), .unset, .unset] [(.int u0_1), (.int (4 : Int32)), (.long q1), (.long q0), (.long ((((ftm q0 q1 (0 : Int32) u0_1 u0_3) + (ftm q0 q1 (1 : Int32) u0_1 u0_3)) + (ftm q0 q1 (2 : Int32) u0_1 u0_3)) + (ftm q0 q1 (3 : Int32) u0_1 u0_3)))]))
  refine stp (fun t k => XS.iload X0c86.here hx rfl (hb hby at_439) rfl k) ?_
  show W (T0c86.setTop (mkF m 441 #[.val (.long q0), .second, .val (.long q1), .second, .val (.long q2), .second, .val (.long q3), .second, .val (.int p4), .val (.int p5), .val (.int u0_1), .val (.int u0_3), .val (.ref b04), .val (.ref b077), .unset, .unset] [(.int u0_3), (.int u0_1), (.int (4 : Int32)), (.long q1), (.long q0), (.long ((((ftm q0 q1 (0 : Int32) u0_1 u0_3) + (ftm q0 q1 (1 : Int32) u0_1 u0_3)) + (ftm q0 q1 (2 : Int32) u0_1 u0_3)) + (ftm q0 q1 (3 : Int32) u0_1 u0_3)))]))
  obtain ⟨_, _, ⟨T0c88, L0c88, k0c88, n0c88⟩, -, X0c88, ⟨Lc0c88, hQ0c88, l0c88, y0c88, z0c88⟩, st0c88⟩ := Jvm.LawKit.callS X0c86 hx (y := (⟨"com/example/fieldgate/fieldgate/record/DigitsValuePinLaw", "term", "(JJIII)J"⟩ : MethodName)) hown (mvT hZ (hw _ (List.mem_of_getElem? (i := 39) rfl))) (mvT hZ (hw _ (List.mem_of_getElem? (i := 40) rfl))) (mvT hZ (hw _ (List.mem_of_getElem? (i := 4) rfl))) (mvT hZ (hw _ (List.mem_of_getElem? (i := 41) rfl))) (by decide) (backOf (W := 2) (rmtm l Z aa hw [] q0 q1 (4 : Int32) u0_1 u0_3  h0c86 n0 Z0c86 hf0 ht18) hZ (hw _ (List.mem_of_getElem? (i := 41) rfl)) (hw _ (List.mem_of_getElem? (i := 4) rfl)) (by decide) (by decide)) (g := (mkF m 441 #[.val (.long q0), .second, .val (.long q1), .second, .val (.long q2), .second, .val (.long q3), .second, .val (.int p4), .val (.int p5), .val (.int u0_1), .val (.int u0_3), .val (.ref b04), .val (.ref b077), .unset, .unset] [(.int u0_3), (.int u0_1), (.int (4 : Int32)), (.long q1), (.long q0), (.long ((((ftm q0 q1 (0 : Int32) u0_1 u0_3) + (ftm q0 q1 (1 : Int32) u0_1 u0_3)) + (ftm q0 q1 (2 : Int32) u0_1 u0_3)) + (ftm q0 q1 (3 : Int32) u0_1 u0_3)))])) rfl (by rw [hml]; rfl) (argsL := [(.long q0), (.long q1), (.int (4 : Int32)), (.int u0_1), (.int u0_3)]) (rest := [(.long ((((ftm q0 q1 (0 : Int32) u0_1 u0_3) + (ftm q0 q1 (1 : Int32) u0_1 u0_3)) + (ftm q0 q1 (2 : Int32) u0_1 u0_3)) + (ftm q0 q1 (3 : Int32) u0_1 u0_3)))]) (lenOf pd0_2 rfl) rfl (by show 2 * 0 + _ ≤ _; exact Nat.le_of_eq rfl) (hb hby at_441) (fun _ _ => ⟨rfl, e0c86, (by decide : 7 + 1 ≤ _), (by decide : 112 + 18 ≤ _)⟩)
  dsimp only [Pt.U, Pt.locs, Pt.cells, Pt.slots] at X0c88 l0c88 y0c88 z0c88 st0c88 hQ0c88
  subst l0c88 y0c88 z0c88
  obtain ⟨rfl, N0c88q, Kq0c88⟩ := hQ0c88
  have N0c88 := Fr.app N0c86 N0c88q
  obtain ⟨lc0t89, X0c88, N0c88⟩ : ∃ lc, Stand p l e room_1 s m #[(.long q0), (.long q1), (.long q2), (.long q3), (.int p4), (.int p5)] below meth c T0c88 lc 8 130 ∧ Fr n0 lc := ⟨_, X0c88, N0c88⟩
  obtain ⟨h0c88, e0c88⟩ : ∃ h, T0c88.heap = h := ⟨_, rfl⟩
  rw [e0c88] at Kq0c88 
  replace V_b04 := V_b04.keep Kq0c88 nin0
  replace S_0c78 := S_0c78.keep Kq0c88 nin0 nin0
  have KK0c88 := Keep.trans KK0c86 Kq0c88 all0
  have Z0c88 := Nat.le_trans Z0c86 Kq0c88.1
  have O0c88 := O0c86.keep Kq0c88 all0
  refine stp (fun t k => st0c88 t k) ?_
  show W (T0c88.setTop (mkF m 444 #[.val (.long q0), .second, .val (.long q1), .second, .val (.long q2), .second, .val (.long q3), .second, .val (.int p4), .val (.int p5), .val (.int u0_1), .val (.int u0_3), .val (.ref b04), .val (.ref b077), .unset, .unset] [(.long (ftm q0 q1 (4 : Int32) u0_1 u0_3)), (.long ((((ftm q0 q1 (0 : Int32) u0_1 u0_3) + (ftm q0 q1 (1 : Int32) u0_1 u0_3)) + (ftm q0 q1 (2 : Int32) u0_1 u0_3)) + (ftm q0 q1 (3 : Int32) u0_1 u0_3)))]))
  refine stp (fun t k => XS.ladd X0c88.here hx rfl (hb hby at_444) rfl k) ?_
  show W (T0c88.setTop (mkF m 445 #[.val (.long q0), .second, .val (.long q1), .second, .val (.long q2), .second, .val (.long q3), .second, .val (.int p4), .val (.int p5), .val (.int u0_1), .val (.int u0_3), .val (.ref b04), .val (.ref b077), .unset, .unset] [(.long (((((ftm q0 q1 (0 : Int32) u0_1 u0_3) + (ftm q0 q1 (1 : Int32) u0_1 u0_3)) + (ftm q0 q1 (2 : Int32) u0_1 u0_3)) + (ftm q0 q1 (3 : Int32) u0_1 u0_3)) + (ftm q0 q1 (4 : Int32) u0_1 u0_3)))]))
  refine stp (fun t k => XS.lloadN X0c88.here hx rfl (hb hby at_445) rfl k) ?_
  show W (T0c88.setTop (mkF m 446 #[.val (.long q0), .second, .val (.long q1), .second, .val (.long q2), .second, .val (.long q3), .second, .val (.int p4), .val (.int p5), .val (.int u0_1), .val (.int u0_3), .val (.ref b04), .val (.ref b077), .unset, .unset] [(.long q0), (.long (((((ftm q0 q1 (0 : Int32) u0_1 u0_3) + (ftm q0 q1 (1 : Int32) u0_1 u0_3)) + (ftm q0 q1 (2 : Int32) u0_1 u0_3)) + (ftm q0 q1 (3 : Int32) u0_1 u0_3)) + (ftm q0 q1 (4 : Int32) u0_1 u0_3)))]))
  refine stp (fun t k => XS.lloadN X0c88.here hx rfl (hb hby at_446) rfl k) ?_
  show W (T0c88.setTop (mkF m 447 #[.val (.long q0), .second, .val (.long q1), .second, .val (.long q2), .second, .val (.long q3), .second, .val (.int p4), .val (.int p5), .val (.int u0_1), .val (.int u0_3), .val (.ref b04), .val (.ref b077), .unset, .unset] [(.long q1), (.long q0), (.long (((((ftm q0 q1 (0 : Int32) u0_1 u0_3) + (ftm q0 q1 (1 : Int32) u0_1 u0_3)) + (ftm q0 q1 (2 : Int32) u0_1 u0_3)) + (ftm q0 q1 (3 : Int32) u0_1 u0_3)) + (ftm q0 q1 (4 : Int32) u0_1 u0_3)))]))
  refine stp (fun t k => XS.iconst X0c88.here hx rfl (hb hby at_447) k) ?_
  show W (T0c88.setTop (mkF m 448 #[.val (.long q0), .second, .val (.long q1), .second, .val (.long q2), .second, .val (.long q3), .second, .val (.int p4), .val (.int p5), .val (.int u0_1), .val (.int u0_3), .val (.ref b04), .val (.ref b077), .unset, .unset] [(.int (5 : Int32)), (.long q1), (.long q0), (.long (((((ftm q0 q1 (0 : Int32) u0_1 u0_3) + (ftm q0 q1 (1 : Int32) u0_1 u0_3)) + (ftm q0 q1 (2 : Int32) u0_1 u0_3)) + (ftm q0 q1 (3 : Int32) u0_1 u0_3)) + (ftm q0 q1 (4 : Int32) u0_1 u0_3)))]))
  refine stp (fun t k => XS.iload X0c88.here hx rfl (hb hby at_448) rfl k) ?_
  show W (T0c88.setTop (mkF m 450 #[.val (.long q0), .second, .val (.long q1), .second, .val (.long q2), .second, .val (.long q3), .second, .val (.int p4), .val (.int p5), .val (.int u0_1), .val (.int u0_3), .val (.ref b04), .val (.ref b077), .unset, .unset] [(.int u0_1), (.int (5 : Int32)), (.long q1), (.long q0), (.long (((((ftm q0 q1 (0 : Int32) u0_1 u0_3) + (ftm q0 q1 (1 : Int32) u0_1 u0_3)) + (ftm q0 q1 (2 : Int32) u0_1 u0_3)) + (ftm q0 q1 (3 : Int32) u0_1 u0_3)) + (ftm q0 q1 (4 : Int32) u0_1 u0_3)))]))
  refine stp (fun t k => XS.iload X0c88.here hx rfl (hb hby at_450) rfl k) ?_
  show W (T0c88.setTop (mkF m 452 #[.val (.long q0), .second, .val (.long q1), .second, .val (.long q2), .second, .val (.long q3), .second, .val (.int p4), .val (.int p5), .val (.int u0_1), .val (.int u0_3), .val (.ref b04), .val (.ref b077), .unset, .unset] [(.int u0_3), (.int u0_1), (.int (5 : Int32)), (.long q1), (.long q0), (.long (((((ftm q0 q1 (0 : Int32) u0_1 u0_3) + (ftm q0 q1 (1 : Int32) u0_1 u0_3)) + (ftm q0 q1 (2 : Int32) u0_1 u0_3)) + (ftm q0 q1 (3 : Int32) u0_1 u0_3)) + (ftm q0 q1 (4 : Int32) u0_1 u0_3)))]))
  obtain ⟨_, _, ⟨T0c90, L0c90, k0c90, n0c90⟩, -, X0c90, ⟨Lc0c90, hQ0c90, l0c90, y0c90, z0c90⟩, st0c90⟩ := Jvm.LawKit.callS X0c88 hx (y := (⟨"com/example/fieldgate/fieldgate/record/DigitsValuePinLaw", "term", "(JJIII)J"⟩ : MethodName)) hown (mvT hZ (hw _ (List.mem_of_getElem? (i := 39) rfl))) (mvT hZ (hw _ (List.mem_of_getElem? (i := 40) rfl))) (mvT hZ (hw _ (List.mem_of_getElem? (i := 4) rfl))) (mvT hZ (hw _ (List.mem_of_getElem? (i := 41) rfl))) (by decide) (backOf (W := 2) (rmtm l Z aa hw [] q0 q1 (5 : Int32) u0_1 u0_3  h0c88 n0 Z0c88 hf0 ht18) hZ (hw _ (List.mem_of_getElem? (i := 41) rfl)) (hw _ (List.mem_of_getElem? (i := 4) rfl)) (by decide) (by decide)) (g := (mkF m 452 #[.val (.long q0), .second, .val (.long q1), .second, .val (.long q2), .second, .val (.long q3), .second, .val (.int p4), .val (.int p5), .val (.int u0_1), .val (.int u0_3), .val (.ref b04), .val (.ref b077), .unset, .unset] [(.int u0_3), (.int u0_1), (.int (5 : Int32)), (.long q1), (.long q0), (.long (((((ftm q0 q1 (0 : Int32) u0_1 u0_3) + (ftm q0 q1 (1 : Int32) u0_1 u0_3)) + (ftm q0 q1 (2 : Int32) u0_1 u0_3)) + (ftm q0 q1 (3 : Int32) u0_1 u0_3)) + (ftm q0 q1 (4 : Int32) u0_1 u0_3)))])) rfl (by rw [hml]; rfl) (argsL := [(.long q0), (.long q1), (.int (5 : Int32)), (.int u0_1), (.int u0_3)]) (rest := [(.long (((((ftm q0 q1 (0 : Int32) u0_1 u0_3) + (ftm q0 q1 (1 : Int32) u0_1 u0_3)) + (ftm q0 q1 (2 : Int32) u0_1 u0_3)) + (ftm q0 q1 (3 : Int32) u0_1 u0_3)) + (ftm q0 q1 (4 : Int32) u0_1 u0_3)))]) (lenOf pd0_2 rfl) rfl (by show 2 * 0 + _ ≤ _; exact Nat.le_of_eq rfl) (hb hby at_452) (fun _ _ => ⟨rfl, e0c88, (by decide : 8 + 1 ≤ _), (by decide : 130 + 18 ≤ _)⟩)
  dsimp only [Pt.U, Pt.locs, Pt.cells, Pt.slots] at X0c90 l0c90 y0c90 z0c90 st0c90 hQ0c90
  subst l0c90 y0c90 z0c90
  obtain ⟨rfl, N0c90q, Kq0c90⟩ := hQ0c90
  have N0c90 := Fr.app N0c88 N0c90q
  obtain ⟨lc0t91, X0c90, N0c90⟩ : ∃ lc, Stand p l e room_1 s m #[(.long q0), (.long q1), (.long q2), (.long q3), (.int p4), (.int p5)] below meth c T0c90 lc 9 148 ∧ Fr n0 lc := ⟨_, X0c90, N0c90⟩
  obtain ⟨h0c90, e0c90⟩ : ∃ h, T0c90.heap = h := ⟨_, rfl⟩
  rw [e0c90] at Kq0c90 
  replace V_b04 := V_b04.keep Kq0c90 nin0
  replace S_0c78 := S_0c78.keep Kq0c90 nin0 nin0
  have KK0c90 := Keep.trans KK0c88 Kq0c90 all0
  have Z0c90 := Nat.le_trans Z0c88 Kq0c90.1
  have O0c90 := O0c88.keep Kq0c90 all0
  refine stp (fun t k => st0c90 t k) ?_
  show W (T0c90.setTop (mkF m 455 #[.val (.long q0), .second, .val (.long q1), .second, .val (.long q2), .second, .val (.long q3), .second, .val (.int p4), .val (.int p5), .val (.int u0_1), .val (.int u0_3), .val (.ref b04), .val (.ref b077), .unset, .unset] [(.long (ftm q0 q1 (5 : Int32) u0_1 u0_3)), (.long (((((ftm q0 q1 (0 : Int32) u0_1 u0_3) + (ftm q0 q1 (1 : Int32) u0_1 u0_3)) + (ftm q0 q1 (2 : Int32) u0_1 u0_3)) + (ftm q0 q1 (3 : Int32) u0_1 u0_3)) + (ftm q0 q1 (4 : Int32) u0_1 u0_3)))]))
  refine stp (fun t k => XS.ladd X0c90.here hx rfl (hb hby at_455) rfl k) ?_
  show W (T0c90.setTop (mkF m 456 #[.val (.long q0), .second, .val (.long q1), .second, .val (.long q2), .second, .val (.long q3), .second, .val (.int p4), .val (.int p5), .val (.int u0_1), .val (.int u0_3), .val (.ref b04), .val (.ref b077), .unset, .unset] [(.long ((((((ftm q0 q1 (0 : Int32) u0_1 u0_3) + (ftm q0 q1 (1 : Int32) u0_1 u0_3)) + (ftm q0 q1 (2 : Int32) u0_1 u0_3)) + (ftm q0 q1 (3 : Int32) u0_1 u0_3)) + (ftm q0 q1 (4 : Int32) u0_1 u0_3)) + (ftm q0 q1 (5 : Int32) u0_1 u0_3)))]))
  refine stp (fun t k => XS.lloadN X0c90.here hx rfl (hb hby at_456) rfl k) ?_
  show W (T0c90.setTop (mkF m 457 #[.val (.long q0), .second, .val (.long q1), .second, .val (.long q2), .second, .val (.long q3), .second, .val (.int p4), .val (.int p5), .val (.int u0_1), .val (.int u0_3), .val (.ref b04), .val (.ref b077), .unset, .unset] [(.long q0), (.long ((((((ftm q0 q1 (0 : Int32) u0_1 u0_3) + (ftm q0 q1 (1 : Int32) u0_1 u0_3)) + (ftm q0 q1 (2 : Int32) u0_1 u0_3)) + (ftm q0 q1 (3 : Int32) u0_1 u0_3)) + (ftm q0 q1 (4 : Int32) u0_1 u0_3)) + (ftm q0 q1 (5 : Int32) u0_1 u0_3)))]))
  refine stp (fun t k => XS.lloadN X0c90.here hx rfl (hb hby at_457) rfl k) ?_
  show W (T0c90.setTop (mkF m 458 #[.val (.long q0), .second, .val (.long q1), .second, .val (.long q2), .second, .val (.long q3), .second, .val (.int p4), .val (.int p5), .val (.int u0_1), .val (.int u0_3), .val (.ref b04), .val (.ref b077), .unset, .unset] [(.long q1), (.long q0), (.long ((((((ftm q0 q1 (0 : Int32) u0_1 u0_3) + (ftm q0 q1 (1 : Int32) u0_1 u0_3)) + (ftm q0 q1 (2 : Int32) u0_1 u0_3)) + (ftm q0 q1 (3 : Int32) u0_1 u0_3)) + (ftm q0 q1 (4 : Int32) u0_1 u0_3)) + (ftm q0 q1 (5 : Int32) u0_1 u0_3)))]))
  refine stp (fun t k => XS.bipush X0c90.here hx rfl (hb hby at_458) k) ?_
  show W (T0c90.setTop (mkF m 460 #[.val (.long q0), .second, .val (.long q1), .second, .val (.long q2), .second, .val (.long q3), .second, .val (.int p4), .val (.int p5), .val (.int u0_1), .val (.int u0_3), .val (.ref b04), .val (.ref b077), .unset, .unset] [(.int (6 : Int32)), (.long q1), (.long q0), (.long ((((((ftm q0 q1 (0 : Int32) u0_1 u0_3) + (ftm q0 q1 (1 : Int32) u0_1 u0_3)) + (ftm q0 q1 (2 : Int32) u0_1 u0_3)) + (ftm q0 q1 (3 : Int32) u0_1 u0_3)) + (ftm q0 q1 (4 : Int32) u0_1 u0_3)) + (ftm q0 q1 (5 : Int32) u0_1 u0_3)))]))
  refine stp (fun t k => XS.iload X0c90.here hx rfl (hb hby at_460) rfl k) ?_
  show W (T0c90.setTop (mkF m 462 #[.val (.long q0), .second, .val (.long q1), .second, .val (.long q2), .second, .val (.long q3), .second, .val (.int p4), .val (.int p5), .val (.int u0_1), .val (.int u0_3), .val (.ref b04), .val (.ref b077), .unset, .unset] [(.int u0_1), (.int (6 : Int32)), (.long q1), (.long q0), (.long ((((((ftm q0 q1 (0 : Int32) u0_1 u0_3) + (ftm q0 q1 (1 : Int32) u0_1 u0_3)) + (ftm q0 q1 (2 : Int32) u0_1 u0_3)) + (ftm q0 q1 (3 : Int32) u0_1 u0_3)) + (ftm q0 q1 (4 : Int32) u0_1 u0_3)) + (ftm q0 q1 (5 : Int32) u0_1 u0_3)))]))
  refine stp (fun t k => XS.iload X0c90.here hx rfl (hb hby at_462) rfl k) ?_
  show W (T0c90.setTop (mkF m 464 #[.val (.long q0), .second, .val (.long q1), .second, .val (.long q2), .second, .val (.long q3), .second, .val (.int p4), .val (.int p5), .val (.int u0_1), .val (.int u0_3), .val (.ref b04), .val (.ref b077), .unset, .unset] [(.int u0_3), (.int u0_1), (.int (6 : Int32)), (.long q1), (.long q0), (.long ((((((ftm q0 q1 (0 : Int32) u0_1 u0_3) + (ftm q0 q1 (1 : Int32) u0_1 u0_3)) + (ftm q0 q1 (2 : Int32) u0_1 u0_3)) + (ftm q0 q1 (3 : Int32) u0_1 u0_3)) + (ftm q0 q1 (4 : Int32) u0_1 u0_3)) + (ftm q0 q1 (5 : Int32) u0_1 u0_3)))]))
  obtain ⟨_, _, ⟨T0c92, L0c92, k0c92, n0c92⟩, -, X0c92, ⟨Lc0c92, hQ0c92, l0c92, y0c92, z0c92⟩, st0c92⟩ := Jvm.LawKit.callS X0c90 hx (y := (⟨"com/example/fieldgate/fieldgate/record/DigitsValuePinLaw", "term", "(JJIII)J"⟩ : MethodName)) hown (mvT hZ (hw _ (List.mem_of_getElem? (i := 39) rfl))) (mvT hZ (hw _ (List.mem_of_getElem? (i := 40) rfl))) (mvT hZ (hw _ (List.mem_of_getElem? (i := 4) rfl))) (mvT hZ (hw _ (List.mem_of_getElem? (i := 41) rfl))) (by decide) (backOf (W := 2) (rmtm l Z aa hw [] q0 q1 (6 : Int32) u0_1 u0_3  h0c90 n0 Z0c90 hf0 ht18) hZ (hw _ (List.mem_of_getElem? (i := 41) rfl)) (hw _ (List.mem_of_getElem? (i := 4) rfl)) (by decide) (by decide)) (g := (mkF m 464 #[.val (.long q0), .second, .val (.long q1), .second, .val (.long q2), .second, .val (.long q3), .second, .val (.int p4), .val (.int p5), .val (.int u0_1), .val (.int u0_3), .val (.ref b04), .val (.ref b077), .unset, .unset] [(.int u0_3), (.int u0_1), (.int (6 : Int32)), (.long q1), (.long q0), (.long ((((((ftm q0 q1 (0 : Int32) u0_1 u0_3) + (ftm q0 q1 (1 : Int32) u0_1 u0_3)) + (ftm q0 q1 (2 : Int32) u0_1 u0_3)) + (ftm q0 q1 (3 : Int32) u0_1 u0_3)) + (ftm q0 q1 (4 : Int32) u0_1 u0_3)) + (ftm q0 q1 (5 : Int32) u0_1 u0_3)))])) rfl (by rw [hml]; rfl) (argsL := [(.long q0), (.long q1), (.int (6 : Int32)), (.int u0_1), (.int u0_3)]) (rest := [(.long ((((((ftm q0 q1 (0 : Int32) u0_1 u0_3) + (ftm q0 q1 (1 : Int32) u0_1 u0_3)) + (ftm q0 q1 (2 : Int32) u0_1 u0_3)) + (ftm q0 q1 (3 : Int32) u0_1 u0_3)) + (ftm q0 q1 (4 : Int32) u0_1 u0_3)) + (ftm q0 q1 (5 : Int32) u0_1 u0_3)))]) (lenOf pd0_2 rfl) rfl (by show 2 * 0 + _ ≤ _; exact Nat.le_of_eq rfl) (hb hby at_464) (fun _ _ => ⟨rfl, e0c90, (by decide : 9 + 1 ≤ _), (by decide : 148 + 18 ≤ _)⟩)
  dsimp only [Pt.U, Pt.locs, Pt.cells, Pt.slots] at X0c92 l0c92 y0c92 z0c92 st0c92 hQ0c92
  subst l0c92 y0c92 z0c92
  obtain ⟨rfl, N0c92q, Kq0c92⟩ := hQ0c92
  have N0c92 := Fr.app N0c90 N0c92q
  obtain ⟨lc0t93, X0c92, N0c92⟩ : ∃ lc, Stand p l e room_1 s m #[(.long q0), (.long q1), (.long q2), (.long q3), (.int p4), (.int p5)] below meth c T0c92 lc 10 166 ∧ Fr n0 lc := ⟨_, X0c92, N0c92⟩
  obtain ⟨h0c92, e0c92⟩ : ∃ h, T0c92.heap = h := ⟨_, rfl⟩
  rw [e0c92] at Kq0c92 
  replace V_b04 := V_b04.keep Kq0c92 nin0
  replace S_0c78 := S_0c78.keep Kq0c92 nin0 nin0
  have KK0c92 := Keep.trans KK0c90 Kq0c92 all0
  have Z0c92 := Nat.le_trans Z0c90 Kq0c92.1
  have O0c92 := O0c90.keep Kq0c92 all0
  refine stp (fun t k => st0c92 t k) ?_
  show W (T0c92.setTop (mkF m 467 #[.val (.long q0), .second, .val (.long q1), .second, .val (.long q2), .second, .val (.long q3), .second, .val (.int p4), .val (.int p5), .val (.int u0_1), .val (.int u0_3), .val (.ref b04), .val (.ref b077), .unset, .unset] [(.long (ftm q0 q1 (6 : Int32) u0_1 u0_3)), (.long ((((((ftm q0 q1 (0 : Int32) u0_1 u0_3) + (ftm q0 q1 (1 : Int32) u0_1 u0_3)) + (ftm q0 q1 (2 : Int32) u0_1 u0_3)) + (ftm q0 q1 (3 : Int32) u0_1 u0_3)) + (ftm q0 q1 (4 : Int32) u0_1 u0_3)) + (ftm q0 q1 (5 : Int32) u0_1 u0_3)))]))
  refine stp (fun t k => XS.ladd X0c92.here hx rfl (hb hby at_467) rfl k) ?_
  show W (T0c92.setTop (mkF m 468 #[.val (.long q0), .second, .val (.long q1), .second, .val (.long q2), .second, .val (.long q3), .second, .val (.int p4), .val (.int p5), .val (.int u0_1), .val (.int u0_3), .val (.ref b04), .val (.ref b077), .unset, .unset] [(.long (((((((ftm q0 q1 (0 : Int32) u0_1 u0_3) + (ftm q0 q1 (1 : Int32) u0_1 u0_3)) + (ftm q0 q1 (2 : Int32) u0_1 u0_3)) + (ftm q0 q1 (3 : Int32) u0_1 u0_3)) + (ftm q0 q1 (4 : Int32) u0_1 u0_3)) + (ftm q0 q1 (5 : Int32) u0_1 u0_3)) + (ftm q0 q1 (6 : Int32) u0_1 u0_3)))]))
  refine stp (fun t k => XS.lloadN X0c92.here hx rfl (hb hby at_468) rfl k) ?_
  show W (T0c92.setTop (mkF m 469 #[.val (.long q0), .second, .val (.long q1), .second, .val (.long q2), .second, .val (.long q3), .second, .val (.int p4), .val (.int p5), .val (.int u0_1), .val (.int u0_3), .val (.ref b04), .val (.ref b077), .unset, .unset] [(.long q0), (.long (((((((ftm q0 q1 (0 : Int32) u0_1 u0_3) + (ftm q0 q1 (1 : Int32) u0_1 u0_3)) + (ftm q0 q1 (2 : Int32) u0_1 u0_3)) + (ftm q0 q1 (3 : Int32) u0_1 u0_3)) + (ftm q0 q1 (4 : Int32) u0_1 u0_3)) + (ftm q0 q1 (5 : Int32) u0_1 u0_3)) + (ftm q0 q1 (6 : Int32) u0_1 u0_3)))]))
  refine stp (fun t k => XS.lloadN X0c92.here hx rfl (hb hby at_469) rfl k) ?_
  show W (T0c92.setTop (mkF m 470 #[.val (.long q0), .second, .val (.long q1), .second, .val (.long q2), .second, .val (.long q3), .second, .val (.int p4), .val (.int p5), .val (.int u0_1), .val (.int u0_3), .val (.ref b04), .val (.ref b077), .unset, .unset] [(.long q1), (.long q0), (.long (((((((ftm q0 q1 (0 : Int32) u0_1 u0_3) + (ftm q0 q1 (1 : Int32) u0_1 u0_3)) + (ftm q0 q1 (2 : Int32) u0_1 u0_3)) + (ftm q0 q1 (3 : Int32) u0_1 u0_3)) + (ftm q0 q1 (4 : Int32) u0_1 u0_3)) + (ftm q0 q1 (5 : Int32) u0_1 u0_3)) + (ftm q0 q1 (6 : Int32) u0_1 u0_3)))]))
  refine stp (fun t k => XS.bipush X0c92.here hx rfl (hb hby at_470) k) ?_
  show W (T0c92.setTop (mkF m 472 #[.val (.long q0), .second, .val (.long q1), .second, .val (.long q2), .second, .val (.long q3), .second, .val (.int p4), .val (.int p5), .val (.int u0_1), .val (.int u0_3), .val (.ref b04), .val (.ref b077), .unset, .unset] [(.int (7 : Int32)), (.long q1), (.long q0), (.long (((((((ftm q0 q1 (0 : Int32) u0_1 u0_3) + (ftm q0 q1 (1 : Int32) u0_1 u0_3)) + (ftm q0 q1 (2 : Int32) u0_1 u0_3)) + (ftm q0 q1 (3 : Int32) u0_1 u0_3)) + (ftm q0 q1 (4 : Int32) u0_1 u0_3)) + (ftm q0 q1 (5 : Int32) u0_1 u0_3)) + (ftm q0 q1 (6 : Int32) u0_1 u0_3)))]))
  refine stp (fun t k => XS.iload X0c92.here hx rfl (hb hby at_472) rfl k) ?_
  show W (T0c92.setTop (mkF m 474 #[.val (.long q0), .second, .val (.long q1), .second, .val (.long q2), .second, .val (.long q3), .second, .val (.int p4), .val (.int p5), .val (.int u0_1), .val (.int u0_3), .val (.ref b04), .val (.ref b077), .unset, .unset] [(.int u0_1), (.int (7 : Int32)), (.long q1), (.long q0), (.long (((((((ftm q0 q1 (0 : Int32) u0_1 u0_3) + (ftm q0 q1 (1 : Int32) u0_1 u0_3)) + (ftm q0 q1 (2 : Int32) u0_1 u0_3)) + (ftm q0 q1 (3 : Int32) u0_1 u0_3)) + (ftm q0 q1 (4 : Int32) u0_1 u0_3)) + (ftm q0 q1 (5 : Int32) u0_1 u0_3)) + (ftm q0 q1 (6 : Int32) u0_1 u0_3)))]))
  refine stp (fun t k => XS.iload X0c92.here hx rfl (hb hby at_474) rfl k) ?_
  show W (T0c92.setTop (mkF m 476 #[.val (.long q0), .second, .val (.long q1), .second, .val (.long q2), .second, .val (.long q3), .second, .val (.int p4), .val (.int p5), .val (.int u0_1), .val (.int u0_3), .val (.ref b04), .val (.ref b077), .unset, .unset] [(.int u0_3), (.int u0_1), (.int (7 : Int32)), (.long q1), (.long q0), (.long (((((((ftm q0 q1 (0 : Int32) u0_1 u0_3) + (ftm q0 q1 (1 : Int32) u0_1 u0_3)) + (ftm q0 q1 (2 : Int32) u0_1 u0_3)) + (ftm q0 q1 (3 : Int32) u0_1 u0_3)) + (ftm q0 q1 (4 : Int32) u0_1 u0_3)) + (ftm q0 q1 (5 : Int32) u0_1 u0_3)) + (ftm q0 q1 (6 : Int32) u0_1 u0_3)))]))
  obtain ⟨_, _, ⟨T0c94, L0c94, k0c94, n0c94⟩, -, X0c94, ⟨Lc0c94, hQ0c94, l0c94, y0c94, z0c94⟩, st0c94⟩ := Jvm.LawKit.callS X0c92 hx (y := (⟨"com/example/fieldgate/fieldgate/record/DigitsValuePinLaw", "term", "(JJIII)J"⟩ : MethodName)) hown (mvT hZ (hw _ (List.mem_of_getElem? (i := 39) rfl))) (mvT hZ (hw _ (List.mem_of_getElem? (i := 40) rfl))) (mvT hZ (hw _ (List.mem_of_getElem? (i := 4) rfl))) (mvT hZ (hw _ (List.mem_of_getElem? (i := 41) rfl))) (by decide) (backOf (W := 2) (rmtm l Z aa hw [] q0 q1 (7 : Int32) u0_1 u0_3  h0c92 n0 Z0c92 hf0 ht18) hZ (hw _ (List.mem_of_getElem? (i := 41) rfl)) (hw _ (List.mem_of_getElem? (i := 4) rfl)) (by decide) (by decide)) (g := (mkF m 476 #[.val (.long q0), .second, .val (.long q1), .second, .val (.long q2), .second, .val (.long q3), .second, .val (.int p4), .val (.int p5), .val (.int u0_1), .val (.int u0_3), .val (.ref b04), .val (.ref b077), .unset, .unset] [(.int u0_3), (.int u0_1), (.int (7 : Int32)), (.long q1), (.long q0), (.long (((((((ftm q0 q1 (0 : Int32) u0_1 u0_3) + (ftm q0 q1 (1 : Int32) u0_1 u0_3)) + (ftm q0 q1 (2 : Int32) u0_1 u0_3)) + (ftm q0 q1 (3 : Int32) u0_1 u0_3)) + (ftm q0 q1 (4 : Int32) u0_1 u0_3)) + (ftm q0 q1 (5 : Int32) u0_1 u0_3)) + (ftm q0 q1 (6 : Int32) u0_1 u0_3)))])) rfl (by rw [hml]; rfl) (argsL := [(.long q0), (.long q1), (.int (7 : Int32)), (.int u0_1), (.int u0_3)]) (rest := [(.long (((((((ftm q0 q1 (0 : Int32) u0_1 u0_3) + (ftm q0 q1 (1 : Int32) u0_1 u0_3)) + (ftm q0 q1 (2 : Int32) u0_1 u0_3)) + (ftm q0 q1 (3 : Int32) u0_1 u0_3)) + (ftm q0 q1 (4 : Int32) u0_1 u0_3)) + (ftm q0 q1 (5 : Int32) u0_1 u0_3)) + (ftm q0 q1 (6 : Int32) u0_1 u0_3)))]) (lenOf pd0_2 rfl) rfl (by show 2 * 0 + _ ≤ _; exact Nat.le_of_eq rfl) (hb hby at_476) (fun _ _ => ⟨rfl, e0c92, (by decide : 10 + 1 ≤ _), (by decide : 166 + 18 ≤ _)⟩)
  dsimp only [Pt.U, Pt.locs, Pt.cells, Pt.slots] at X0c94 l0c94 y0c94 z0c94 st0c94 hQ0c94
  subst l0c94 y0c94 z0c94
  obtain ⟨rfl, N0c94q, Kq0c94⟩ := hQ0c94
  have N0c94 := Fr.app N0c92 N0c94q
  obtain ⟨lc0t95, X0c94, N0c94⟩ : ∃ lc, Stand p l e room_1 s m #[(.long q0), (.long q1), (.long q2), (.long q3), (.int p4), (.int p5)] below meth c T0c94 lc 11 184 ∧ Fr n0 lc := ⟨_, X0c94, N0c94⟩
  obtain ⟨h0c94, e0c94⟩ : ∃ h, T0c94.heap = h := ⟨_, rfl⟩
  rw [e0c94] at Kq0c94 
  replace V_b04 := V_b04.keep Kq0c94 nin0
  replace S_0c78 := S_0c78.keep Kq0c94 nin0 nin0
  have KK0c94 := Keep.trans KK0c92 Kq0c94 all0
  have Z0c94 := Nat.le_trans Z0c92 Kq0c94.1
  have O0c94 := O0c92.keep Kq0c94 all0
  refine stp (fun t k => st0c94 t k) ?_
  show W (T0c94.setTop (mkF m 479 #[.val (.long q0), .second, .val (.long q1), .second, .val (.long q2), .second, .val (.long q3), .second, .val (.int p4), .val (.int p5), .val (.int u0_1), .val (.int u0_3), .val (.ref b04), .val (.ref b077), .unset, .unset] [(.long (ftm q0 q1 (7 : Int32) u0_1 u0_3)), (.long (((((((ftm q0 q1 (0 : Int32) u0_1 u0_3) + (ftm q0 q1 (1 : Int32) u0_1 u0_3)) + (ftm q0 q1 (2 : Int32) u0_1 u0_3)) + (ftm q0 q1 (3 : Int32) u0_1 u0_3)) + (ftm q0 q1 (4 : Int32) u0_1 u0_3)) + (ftm q0 q1 (5 : Int32) u0_1 u0_3)) + (ftm q0 q1 (6 : Int32) u0_1 u0_3)))]))
  refine stp (fun t k => XS.ladd X0c94.here hx rfl (hb hby at_479) rfl k) ?_
  show W (T0c94.setTop (mkF m 480 #[.val (.long q0), .second, .val (.long q1), .second, .val (.long q2), .second, .val (.long q3), .second, .val (.int p4), .val (.int p5), .val (.int u0_1), .val (.int u0_3), .val (.ref b04), .val (.ref b077), .unset, .unset] [(.long ((((((((ftm q0 q1 (0 : Int32) u0_1 u0_3) + (ftm q0 q1 (1 : Int32) u0_1 u0_3)) + (ftm q0 q1 (2 : Int32) u0_1 u0_3)) + (ftm q0 q1 (3 : Int32) u0_1 u0_3)) + (ftm q0 q1 (4 : Int32) u0_1 u0_3)) + (ftm q0 q1 (5 : Int32) u0_1 u0_3)) + (ftm q0 q1 (6 : Int32) u0_1 u0_3)) + (ftm q0 q1 (7 : Int32) u0_1 u0_3)))]))
  refine stp (fun t k => XS.lloadN X0c94.here hx rfl (hb hby at_480) rfl k) ?_
  show W (T0c94.setTop (mkF m 481 #[.val (.long q0), .second, .val (.long q1), .second, .val (.long q2), .second, .val (.long q3), .second, .val (.int p4), .val (.int p5), .val (.int u0_1), .val (.int u0_3), .val (.ref b04), .val (.ref b077), .unset, .unset] [(.long q0), (.long ((((((((ftm q0 q1 (0 : Int32) u0_1 u0_3) + (ftm q0 q1 (1 : Int32) u0_1 u0_3)) + (ftm q0 q1 (2 : Int32) u0_1 u0_3)) + (ftm q0 q1 (3 : Int32) u0_1 u0_3)) + (ftm q0 q1 (4 : Int32) u0_1 u0_3)) + (ftm q0 q1 (5 : Int32) u0_1 u0_3)) + (ftm q0 q1 (6 : Int32) u0_1 u0_3)) + (ftm q0 q1 (7 : Int32) u0_1 u0_3)))]))
  refine stp (fun t k => XS.lloadN X0c94.here hx rfl (hb hby at_481) rfl k) ?_
  show W (T0c94.setTop (mkF m 482 #[.val (.long q0), .second, .val (.long q1), .second, .val (.long q2), .second, .val (.long q3), .second, .val (.int p4), .val (.int p5), .val (.int u0_1), .val (.int u0_3), .val (.ref b04), .val (.ref b077), .unset, .unset] [(.long q1), (.long q0), (.long ((((((((ftm q0 q1 (0 : Int32) u0_1 u0_3) + (ftm q0 q1 (1 : Int32) u0_1 u0_3)) + (ftm q0 q1 (2 : Int32) u0_1 u0_3)) + (ftm q0 q1 (3 : Int32) u0_1 u0_3)) + (ftm q0 q1 (4 : Int32) u0_1 u0_3)) + (ftm q0 q1 (5 : Int32) u0_1 u0_3)) + (ftm q0 q1 (6 : Int32) u0_1 u0_3)) + (ftm q0 q1 (7 : Int32) u0_1 u0_3)))]))
  refine stp (fun t k => XS.bipush X0c94.here hx rfl (hb hby at_482) k) ?_
  show W (T0c94.setTop (mkF m 484 #[.val (.long q0), .second, .val (.long q1), .second, .val (.long q2), .second, .val (.long q3), .second, .val (.int p4), .val (.int p5), .val (.int u0_1), .val (.int u0_3), .val (.ref b04), .val (.ref b077), .unset, .unset] [(.int (8 : Int32)), (.long q1), (.long q0), (.long ((((((((ftm q0 q1 (0 : Int32) u0_1 u0_3) + (ftm q0 q1 (1 : Int32) u0_1 u0_3)) + (ftm q0 q1 (2 : Int32) u0_1 u0_3)) + (ftm q0 q1 (3 : Int32) u0_1 u0_3)) + (ftm q0 q1 (4 : Int32) u0_1 u0_3)) + (ftm q0 q1 (5 : Int32) u0_1 u0_3)) + (ftm q0 q1 (6 : Int32) u0_1 u0_3)) + (ftm q0 q1 (7 : Int32) u0_1 u0_3)))]))
  refine stp (fun t k => XS.iload X0c94.here hx rfl (hb hby at_484) rfl k) ?_
  show W (T0c94.setTop (mkF m 486 #[.val (.long q0), .second, .val (.long q1), .second, .val (.long q2), .second, .val (.long q3), .second, .val (.int p4), .val (.int p5), .val (.int u0_1), .val (.int u0_3), .val (.ref b04), .val (.ref b077), .unset, .unset] [(.int u0_1), (.int (8 : Int32)), (.long q1), (.long q0), (.long ((((((((ftm q0 q1 (0 : Int32) u0_1 u0_3) + (ftm q0 q1 (1 : Int32) u0_1 u0_3)) + (ftm q0 q1 (2 : Int32) u0_1 u0_3)) + (ftm q0 q1 (3 : Int32) u0_1 u0_3)) + (ftm q0 q1 (4 : Int32) u0_1 u0_3)) + (ftm q0 q1 (5 : Int32) u0_1 u0_3)) + (ftm q0 q1 (6 : Int32) u0_1 u0_3)) + (ftm q0 q1 (7 : Int32) u0_1 u0_3)))]))
  refine stp (fun t k => XS.iload X0c94.here hx rfl (hb hby at_486) rfl k) ?_
  show W (T0c94.setTop (mkF m 488 #[.val (.long q0), .second, .val (.long q1), .second, .val (.long q2), .second, .val (.long q3), .second, .val (.int p4), .val (.int p5), .val (.int u0_1), .val (.int u0_3), .val (.ref b04), .val (.ref b077), .unset, .unset] [(.int u0_3), (.int u0_1), (.int (8 : Int32)), (.long q1), (.long q0), (.long ((((((((ftm q0 q1 (0 : Int32) u0_1 u0_3) + (ftm q0 q1 (1 : Int32) u0_1 u0_3)) + (ftm q0 q1 (2 : Int32) u0_1 u0_3)) + (ftm q0 q1 (3 : Int32) u0_1 u0_3)) + (ftm q0 q1 (4 : Int32) u0_1 u0_3)) + (ftm q0 q1 (5 : Int32) u0_1 u0_3)) + (ftm q0 q1 (6 : Int32) u0_1 u0_3)) + (ftm q0 q1 (7 : Int32) u0_1 u0_3)))]))
  obtain ⟨_, _, ⟨T0c96, L0c96, k0c96, n0c96⟩, -, X0c96, ⟨Lc0c96, hQ0c96, l0c96, y0c96, z0c96⟩, st0c96⟩ := Jvm.LawKit.callS X0c94 hx (y := (⟨"com/example/fieldgate/fieldgate/record/DigitsValuePinLaw", "term", "(JJIII)J"⟩ : MethodName)) hown (mvT hZ (hw _ (List.mem_of_getElem? (i := 39) rfl))) (mvT hZ (hw _ (List.mem_of_getElem? (i := 40) rfl))) (mvT hZ (hw _ (List.mem_of_getElem? (i := 4) rfl))) (mvT hZ (hw _ (List.mem_of_getElem? (i := 41) rfl))) (by decide) (backOf (W := 2) (rmtm l Z aa hw [] q0 q1 (8 : Int32) u0_1 u0_3  h0c94 n0 Z0c94 hf0 ht18) hZ (hw _ (List.mem_of_getElem? (i := 41) rfl)) (hw _ (List.mem_of_getElem? (i := 4) rfl)) (by decide) (by decide)) (g := (mkF m 488 #[.val (.long q0), .second, .val (.long q1), .second, .val (.long q2), .second, .val (.long q3), .second, .val (.int p4), .val (.int p5), .val (.int u0_1), .val (.int u0_3), .val (.ref b04), .val (.ref b077), .unset, .unset] [(.int u0_3), (.int u0_1), (.int (8 : Int32)), (.long q1), (.long q0), (.long ((((((((ftm q0 q1 (0 : Int32) u0_1 u0_3) + (ftm q0 q1 (1 : Int32) u0_1 u0_3)) + (ftm q0 q1 (2 : Int32) u0_1 u0_3)) + (ftm q0 q1 (3 : Int32) u0_1 u0_3)) + (ftm q0 q1 (4 : Int32) u0_1 u0_3)) + (ftm q0 q1 (5 : Int32) u0_1 u0_3)) + (ftm q0 q1 (6 : Int32) u0_1 u0_3)) + (ftm q0 q1 (7 : Int32) u0_1 u0_3)))])) rfl (by rw [hml]; rfl) (argsL := [(.long q0), (.long q1), (.int (8 : Int32)), (.int u0_1), (.int u0_3)]) (rest := [(.long ((((((((ftm q0 q1 (0 : Int32) u0_1 u0_3) + (ftm q0 q1 (1 : Int32) u0_1 u0_3)) + (ftm q0 q1 (2 : Int32) u0_1 u0_3)) + (ftm q0 q1 (3 : Int32) u0_1 u0_3)) + (ftm q0 q1 (4 : Int32) u0_1 u0_3)) + (ftm q0 q1 (5 : Int32) u0_1 u0_3)) + (ftm q0 q1 (6 : Int32) u0_1 u0_3)) + (ftm q0 q1 (7 : Int32) u0_1 u0_3)))]) (lenOf pd0_2 rfl) rfl (by show 2 * 0 + _ ≤ _; exact Nat.le_of_eq rfl) (hb hby at_488) (fun _ _ => ⟨rfl, e0c94, (by decide : 11 + 1 ≤ _), (by decide : 184 + 18 ≤ _)⟩)
  dsimp only [Pt.U, Pt.locs, Pt.cells, Pt.slots] at X0c96 l0c96 y0c96 z0c96 st0c96 hQ0c96
  subst l0c96 y0c96 z0c96
  obtain ⟨rfl, N0c96q, Kq0c96⟩ := hQ0c96
  have N0c96 := Fr.app N0c94 N0c96q
  obtain ⟨lc0t97, X0c96, N0c96⟩ : ∃ lc, Stand p l e room_1 s m #[(.long q0), (.long q1), (.long q2), (.long q3), (.int p4), (.int p5)] below meth c T0c96 lc 12 202 ∧ Fr n0 lc := ⟨_, X0c96, N0c96⟩
  obtain ⟨h0c96, e0c96⟩ : ∃ h, T0c96.heap = h := ⟨_, rfl⟩
  rw [e0c96] at Kq0c96 
  replace V_b04 := V_b04.keep Kq0c96 nin0
  replace S_0c78 := S_0c78.keep Kq0c96 nin0 nin0
  have KK0c96 := Keep.trans KK0c94 Kq0c96 all0
  have Z0c96 := Nat.le_trans Z0c94 Kq0c96.1
  have O0c96 := O0c94.keep Kq0c96 all0
  refine stp (fun t k => st0c96 t k) ?_
  show W (T0c96.setTop (mkF m 491 #[.val (.long q0), .second, .val (.long q1), .second, .val (.long q2), .second, .val (.long q3), .second, .val (.int p4), .val (.int p5), .val (.int u0_1), .val (.int u0_3), .val (.ref b04), .val (.ref b077), .unset, .unset] [(.long (ftm q0 q1 (8 : Int32) u0_1 u0_3)), (.long ((((((((ftm q0 q1 (0 : Int32) u0_1 u0_3) + (ftm q0 q1 (1 : Int32) u0_1 u0_3)) + (ftm q0 q1 (2 : Int32) u0_1 u0_3)) + (ftm q0 q1 (3 : Int32) u0_1 u0_3)) + (ftm q0 q1 (4 : Int32) u0_1 u0_3)) + (ftm q0 q1 (5 : Int32) u0_1 u0_3)) + (ftm q0 q1 (6 : Int32) u0_1 u0_3)) + (ftm q0 q1 (7 : Int32) u0_1 u0_3)))]))
  refine stp (fun t k => XS.ladd X0c96.here hx rfl (hb hby at_491) rfl k) ?_
  show W (T0c96.setTop (mkF m 492 #[.val (.long q0), .second, .val (.long q1), .second, .val (.long q2), .second, .val (.long q3), .second, .val (.int p4), .val (.int p5), .val (.int u0_1), .val (.int u0_3), .val (.ref b04), .val (.ref b077), .unset, .unset] [(.long (((((((((ftm q0 q1 (0 : Int32) u0_1 u0_3) + (ftm q0 q1 (1 : Int32) u0_1 u0_3)) + (ftm q0 q1 (2 : Int32) u0_1 u0_3)) + (ftm q0 q1 (3 : Int32) u0_1 u0_3)) + (ftm q0 q1 (4 : Int32) u0_1 u0_3)) + (ftm q0 q1 (5 : Int32) u0_1 u0_3)) + (ftm q0 q1 (6 : Int32) u0_1 u0_3)) + (ftm q0 q1 (7 : Int32) u0_1 u0_3)) + (ftm q0 q1 (8 : Int32) u0_1 u0_3)))]))
  refine stp (fun t k => XS.lloadN X0c96.here hx rfl (hb hby at_492) rfl k) ?_
  show W (T0c96.setTop (mkF m 493 #[.val (.long q0), .second, .val (.long q1), .second, .val (.long q2), .second, .val (.long q3), .second, .val (.int p4), .val (.int p5), .val (.int u0_1), .val (.int u0_3), .val (.ref b04), .val (.ref b077), .unset, .unset] [(.long q0), (.long (((((((((ftm q0 q1 (0 : Int32) u0_1 u0_3) + (ftm q0 q1 (1 : Int32) u0_1 u0_3)) + (ftm q0 q1 (2 : Int32) u0_1 u0_3)) + (ftm q0 q1 (3 : Int32) u0_1 u0_3)) + (ftm q0 q1 (4 : Int32) u0_1 u0_3)) + (ftm q0 q1 (5 : Int32) u0_1 u0_3)) + (ftm q0 q1 (6 : Int32) u0_1 u0_3)) + (ftm q0 q1 (7 : Int32) u0_1 u0_3)) + (ftm q0 q1 (8 : Int32) u0_1 u0_3)))]))
  refine stp (fun t k => XS.lloadN X0c96.here hx rfl (hb hby at_493) rfl k) ?_
  show W (T0c96.setTop (mkF m 494 #[.val (.long q0), .second, .val (.long q1), .second, .val (.long q2), .second, .val (.long q3), .second, .val (.int p4), .val (.int p5), .val (.int u0_1), .val (.int u0_3), .val (.ref b04), .val (.ref b077), .unset, .unset] [(.long q1), (.long q0), (.long (((((((((ftm q0 q1 (0 : Int32) u0_1 u0_3) + (ftm q0 q1 (1 : Int32) u0_1 u0_3)) + (ftm q0 q1 (2 : Int32) u0_1 u0_3)) + (ftm q0 q1 (3 : Int32) u0_1 u0_3)) + (ftm q0 q1 (4 : Int32) u0_1 u0_3)) + (ftm q0 q1 (5 : Int32) u0_1 u0_3)) + (ftm q0 q1 (6 : Int32) u0_1 u0_3)) + (ftm q0 q1 (7 : Int32) u0_1 u0_3)) + (ftm q0 q1 (8 : Int32) u0_1 u0_3)))]))
  refine stp (fun t k => XS.bipush X0c96.here hx rfl (hb hby at_494) k) ?_
  show W (T0c96.setTop (mkF m 496 #[.val (.long q0), .second, .val (.long q1), .second, .val (.long q2), .second, .val (.long q3), .second, .val (.int p4), .val (.int p5), .val (.int u0_1), .val (.int u0_3), .val (.ref b04), .val (.ref b077), .unset, .unset] [(.int (9 : Int32)), (.long q1), (.long q0), (.long (((((((((ftm q0 q1 (0 : Int32) u0_1 u0_3) + (ftm q0 q1 (1 : Int32) u0_1 u0_3)) + (ftm q0 q1 (2 : Int32) u0_1 u0_3)) + (ftm q0 q1 (3 : Int32) u0_1 u0_3)) + (ftm q0 q1 (4 : Int32) u0_1 u0_3)) + (ftm q0 q1 (5 : Int32) u0_1 u0_3)) + (ftm q0 q1 (6 : Int32) u0_1 u0_3)) + (ftm q0 q1 (7 : Int32) u0_1 u0_3)) + (ftm q0 q1 (8 : Int32) u0_1 u0_3)))]))
  refine stp (fun t k => XS.iload X0c96.here hx rfl (hb hby at_496) rfl k) ?_
  show W (T0c96.setTop (mkF m 498 #[.val (.long q0), .second, .val (.long q1), .second, .val (.long q2), .second, .val (.long q3), .second, .val (.int p4), .val (.int p5), .val (.int u0_1), .val (.int u0_3), .val (.ref b04), .val (.ref b077), .unset, .unset] [(.int u0_1), (.int (9 : Int32)), (.long q1), (.long q0), (.long (((((((((ftm q0 q1 (0 : Int32) u0_1 u0_3) + (ftm q0 q1 (1 : Int32) u0_1 u0_3)) + (ftm q0 q1 (2 : Int32) u0_1 u0_3)) + (ftm q0 q1 (3 : Int32) u0_1 u0_3)) + (ftm q0 q1 (4 : Int32) u0_1 u0_3)) + (ftm q0 q1 (5 : Int32) u0_1 u0_3)) + (ftm q0 q1 (6 : Int32) u0_1 u0_3)) + (ftm q0 q1 (7 : Int32) u0_1 u0_3)) + (ftm q0 q1 (8 : Int32) u0_1 u0_3)))]))
  refine stp (fun t k => XS.iload X0c96.here hx rfl (hb hby at_498) rfl k) ?_
  show W (T0c96.setTop (mkF m 500 #[.val (.long q0), .second, .val (.long q1), .second, .val (.long q2), .second, .val (.long q3), .second, .val (.int p4), .val (.int p5), .val (.int u0_1), .val (.int u0_3), .val (.ref b04), .val (.ref b077), .unset, .unset] [(.int u0_3), (.int u0_1), (.int (9 : Int32)), (.long q1), (.long q0), (.long (((((((((ftm q0 q1 (0 : Int32) u0_1 u0_3) + (ftm q0 q1 (1 : Int32) u0_1 u0_3)) + (ftm q0 q1 (2 : Int32) u0_1 u0_3)) + (ftm q0 q1 (3 : Int32) u0_1 u0_3)) + (ftm q0 q1 (4 : Int32) u0_1 u0_3)) + (ftm q0 q1 (5 : Int32) u0_1 u0_3)) + (ftm q0 q1 (6 : Int32) u0_1 u0_3)) + (ftm q0 q1 (7 : Int32) u0_1 u0_3)) + (ftm q0 q1 (8 : Int32) u0_1 u0_3)))]))
  obtain ⟨_, _, ⟨T0c98, L0c98, k0c98, n0c98⟩, -, X0c98, ⟨Lc0c98, hQ0c98, l0c98, y0c98, z0c98⟩, st0c98⟩ := Jvm.LawKit.callS X0c96 hx (y := (⟨"com/example/fieldgate/fieldgate/record/DigitsValuePinLaw", "term", "(JJIII)J"⟩ : MethodName)) hown (mvT hZ (hw _ (List.mem_of_getElem? (i := 39) rfl))) (mvT hZ (hw _ (List.mem_of_getElem? (i := 40) rfl))) (mvT hZ (hw _ (List.mem_of_getElem? (i := 4) rfl))) (mvT hZ (hw _ (List.mem_of_getElem? (i := 41) rfl))) (by decide) (backOf (W := 2) (rmtm l Z aa hw [] q0 q1 (9 : Int32) u0_1 u0_3  h0c96 n0 Z0c96 hf0 ht18) hZ (hw _ (List.mem_of_getElem? (i := 41) rfl)) (hw _ (List.mem_of_getElem? (i := 4) rfl)) (by decide) (by decide)) (g := (mkF m 500 #[.val (.long q0), .second, .val (.long q1), .second, .val (.long q2), .second, .val (.long q3), .second, .val (.int p4), .val (.int p5), .val (.int u0_1), .val (.int u0_3), .val (.ref b04), .val (.ref b077), .unset, .unset] [(.int u0_3), (.int u0_1), (.int (9 : Int32)), (.long q1), (.long q0), (.long (((((((((ftm q0 q1 (0 : Int32) u0_1 u0_3) + (ftm q0 q1 (1 : Int32) u0_1 u0_3)) + (ftm q0 q1 (2 : Int32) u0_1 u0_3)) + (ftm q0 q1 (3 : Int32) u0_1 u0_3)) + (ftm q0 q1 (4 : Int32) u0_1 u0_3)) + (ftm q0 q1 (5 : Int32) u0_1 u0_3)) + (ftm q0 q1 (6 : Int32) u0_1 u0_3)) + (ftm q0 q1 (7 : Int32) u0_1 u0_3)) + (ftm q0 q1 (8 : Int32) u0_1 u0_3)))])) rfl (by rw [hml]; rfl) (argsL := [(.long q0), (.long q1), (.int (9 : Int32)), (.int u0_1), (.int u0_3)]) (rest := [(.long (((((((((ftm q0 q1 (0 : Int32) u0_1 u0_3) + (ftm q0 q1 (1 : Int32) u0_1 u0_3)) + (ftm q0 q1 (2 : Int32) u0_1 u0_3)) + (ftm q0 q1 (3 : Int32) u0_1 u0_3)) + (ftm q0 q1 (4 : Int32) u0_1 u0_3)) + (ftm q0 q1 (5 : Int32) u0_1 u0_3)) + (ftm q0 q1 (6 : Int32) u0_1 u0_3)) + (ftm q0 q1 (7 : Int32) u0_1 u0_3)) + (ftm q0 q1 (8 : Int32) u0_1 u0_3)))]) (lenOf pd0_2 rfl) rfl (by show 2 * 0 + _ ≤ _; exact Nat.le_of_eq rfl) (hb hby at_500) (fun _ _ => ⟨rfl, e0c96, (by decide : 12 + 1 ≤ _), (by decide : 202 + 18 ≤ _)⟩)
  dsimp only [Pt.U, Pt.locs, Pt.cells, Pt.slots] at X0c98 l0c98 y0c98 z0c98 st0c98 hQ0c98
  subst l0c98 y0c98 z0c98
  obtain ⟨rfl, N0c98q, Kq0c98⟩ := hQ0c98
  have N0c98 := Fr.app N0c96 N0c98q
  obtain ⟨lc0t99, X0c98, N0c98⟩ : ∃ lc, Stand p l e room_1 s m #[(.long q0), (.long q1), (.long q2), (.long q3), (.int p4), (.int p5)] below meth c T0c98 lc 13 220 ∧ Fr n0 lc := ⟨_, X0c98, N0c98⟩
  obtain ⟨h0c98, e0c98⟩ : ∃ h, T0c98.heap = h := ⟨_, rfl⟩
  rw [e0c98] at Kq0c98 
  replace V_b04 := V_b04.keep Kq0c98 nin0
  replace S_0c78 := S_0c78.keep Kq0c98 nin0 nin0
  have KK0c98 := Keep.trans KK0c96 Kq0c98 all0
  have Z0c98 := Nat.le_trans Z0c96 Kq0c98.1
  have O0c98 := O0c96.keep Kq0c98 all0
  refine stp (fun t k => st0c98 t k) ?_
  show W (T0c98.setTop (mkF m 503 #[.val (.long q0), .second, .val (.long q1), .second, .val (.long q2), .second, .val (.long q3), .second, .val (.int p4), .val (.int p5), .val (.int u0_1), .val (.int u0_3), .val (.ref b04), .val (.ref b077), .unset, .unset] [(.long (ftm q0 q1 (9 : Int32) u0_1 u0_3)), (.long (((((((((ftm q0 q1 (0 : Int32) u0_1 u0_3) + (ftm q0 q1 (1 : Int32) u0_1 u0_3)) + (ftm q0 q1 (2 : Int32) u0_1 u0_3)) + (ftm q0 q1 (3 : Int32) u0_1 u0_3)) + (ftm q0 q1 (4 : Int32) u0_1 u0_3)) + (ftm q0 q1 (5 : Int32) u0_1 u0_3)) + (ftm q0 q1 (6 : Int32) u0_1 u0_3)) + (ftm q0 q1 (7 : Int32) u0_1 u0_3)) + (ftm q0 q1 (8 : Int32) u0_1 u0_3)))]))
  refine stp (fun t k => XS.ladd X0c98.here hx rfl (hb hby at_503) rfl k) ?_
  show W (T0c98.setTop (mkF m 504 #[.val (.long q0), .second, .val (.long q1), .second, .val (.long q2), .second, .val (.long q3), .second, .val (.int p4), .val (.int p5), .val (.int u0_1), .val (.int u0_3), .val (.ref b04), .val (.ref b077), .unset, .unset] [(.long ((((((((((ftm q0 q1 (0 : Int32) u0_1 u0_3) + (ftm q0 q1 (1 : Int32) u0_1 u0_3)) + (ftm q0 q1 (2 : Int32) u0_1 u0_3)) + (ftm q0 q1 (3 : Int32) u0_1 u0_3)) + (ftm q0 q1 (4 : Int32) u0_1 u0_3)) + (ftm q0 q1 (5 : Int32) u0_1 u0_3)) + (ftm q0 q1 (6 : Int32) u0_1 u0_3)) + (ftm q0 q1 (7 : Int32) u0_1 u0_3)) + (ftm q0 q1 (8 : Int32) u0_1 u0_3)) + (ftm q0 q1 (9 : Int32) u0_1 u0_3)))]))
  refine stp (fun t k => XS.lloadN X0c98.here hx rfl (hb hby at_504) rfl k) ?_
  show W (T0c98.setTop (mkF m 505 #[.val (.long q0), .second, .val (.long q1), .second, .val (.long q2), .second, .val (.long q3), .second, .val (.int p4), .val (.int p5), .val (.int u0_1), .val (.int u0_3), .val (.ref b04), .val (.ref b077), .unset, .unset] [(.long q0), (.long ((((((((((ftm q0 q1 (0 : Int32) u0_1 u0_3) + (ftm q0 q1 (1 : Int32) u0_1 u0_3)) + (ftm q0 q1 (2 : Int32) u0_1 u0_3)) + (ftm q0 q1 (3 : Int32) u0_1 u0_3)) + (ftm q0 q1 (4 : Int32) u0_1 u0_3)) + (ftm q0 q1 (5 : Int32) u0_1 u0_3)) + (ftm q0 q1 (6 : Int32) u0_1 u0_3)) + (ftm q0 q1 (7 : Int32) u0_1 u0_3)) + (ftm q0 q1 (8 : Int32) u0_1 u0_3)) + (ftm q0 q1 (9 : Int32) u0_1 u0_3)))]))
  refine stp (fun t k => XS.lloadN X0c98.here hx rfl (hb hby at_505) rfl k) ?_
  show W (T0c98.setTop (mkF m 506 #[.val (.long q0), .second, .val (.long q1), .second, .val (.long q2), .second, .val (.long q3), .second, .val (.int p4), .val (.int p5), .val (.int u0_1), .val (.int u0_3), .val (.ref b04), .val (.ref b077), .unset, .unset] [(.long q1), (.long q0), (.long ((((((((((ftm q0 q1 (0 : Int32) u0_1 u0_3) + (ftm q0 q1 (1 : Int32) u0_1 u0_3)) + (ftm q0 q1 (2 : Int32) u0_1 u0_3)) + (ftm q0 q1 (3 : Int32) u0_1 u0_3)) + (ftm q0 q1 (4 : Int32) u0_1 u0_3)) + (ftm q0 q1 (5 : Int32) u0_1 u0_3)) + (ftm q0 q1 (6 : Int32) u0_1 u0_3)) + (ftm q0 q1 (7 : Int32) u0_1 u0_3)) + (ftm q0 q1 (8 : Int32) u0_1 u0_3)) + (ftm q0 q1 (9 : Int32) u0_1 u0_3)))]))
  refine stp (fun t k => XS.bipush X0c98.here hx rfl (hb hby at_506) k) ?_
  show W (T0c98.setTop (mkF m 508 #[.val (.long q0), .second, .val (.long q1), .second, .val (.long q2), .second, .val (.long q3), .second, .val (.int p4), .val (.int p5), .val (.int u0_1), .val (.int u0_3), .val (.ref b04), .val (.ref b077), .unset, .unset] [(.int (10 : Int32)), (.long q1), (.long q0), (.long ((((((((((ftm q0 q1 (0 : Int32) u0_1 u0_3) + (ftm q0 q1 (1 : Int32) u0_1 u0_3)) + (ftm q0 q1 (2 : Int32) u0_1 u0_3)) + (ftm q0 q1 (3 : Int32) u0_1 u0_3)) + (ftm q0 q1 (4 : Int32) u0_1 u0_3)) + (ftm q0 q1 (5 : Int32) u0_1 u0_3)) + (ftm q0 q1 (6 : Int32) u0_1 u0_3)) + (ftm q0 q1 (7 : Int32) u0_1 u0_3)) + (ftm q0 q1 (8 : Int32) u0_1 u0_3)) + (ftm q0 q1 (9 : Int32) u0_1 u0_3)))]))
  refine stp (fun t k => XS.iload X0c98.here hx rfl (hb hby at_508) rfl k) ?_
  show W (T0c98.setTop (mkF m 510 #[.val (.long q0), .second, .val (.long q1), .second, .val (.long q2), .second, .val (.long q3), .second, .val (.int p4), .val (.int p5), .val (.int u0_1), .val (.int u0_3), .val (.ref b04), .val (.ref b077), .unset, .unset] [(.int u0_1), (.int (10 : Int32)), (.long q1), (.long q0), (.long ((((((((((ftm q0 q1 (0 : Int32) u0_1 u0_3) + (ftm q0 q1 (1 : Int32) u0_1 u0_3)) + (ftm q0 q1 (2 : Int32) u0_1 u0_3)) + (ftm q0 q1 (3 : Int32) u0_1 u0_3)) + (ftm q0 q1 (4 : Int32) u0_1 u0_3)) + (ftm q0 q1 (5 : Int32) u0_1 u0_3)) + (ftm q0 q1 (6 : Int32) u0_1 u0_3)) + (ftm q0 q1 (7 : Int32) u0_1 u0_3)) + (ftm q0 q1 (8 : Int32) u0_1 u0_3)) + (ftm q0 q1 (9 : Int32) u0_1 u0_3)))]))
  refine stp (fun t k => XS.iload X0c98.here hx rfl (hb hby at_510) rfl k) ?_
  show W (T0c98.setTop (mkF m 512 #[.val (.long q0), .second, .val (.long q1), .second, .val (.long q2), .second, .val (.long q3), .second, .val (.int p4), .val (.int p5), .val (.int u0_1), .val (.int u0_3), .val (.ref b04), .val (.ref b077), .unset, .unset] [(.int u0_3), (.int u0_1), (.int (10 : Int32)), (.long q1), (.long q0), (.long ((((((((((ftm q0 q1 (0 : Int32) u0_1 u0_3) + (ftm q0 q1 (1 : Int32) u0_1 u0_3)) + (ftm q0 q1 (2 : Int32) u0_1 u0_3)) + (ftm q0 q1 (3 : Int32) u0_1 u0_3)) + (ftm q0 q1 (4 : Int32) u0_1 u0_3)) + (ftm q0 q1 (5 : Int32) u0_1 u0_3)) + (ftm q0 q1 (6 : Int32) u0_1 u0_3)) + (ftm q0 q1 (7 : Int32) u0_1 u0_3)) + (ftm q0 q1 (8 : Int32) u0_1 u0_3)) + (ftm q0 q1 (9 : Int32) u0_1 u0_3)))]))
  obtain ⟨_, _, ⟨T0c100, L0c100, k0c100, n0c100⟩, -, X0c100, ⟨Lc0c100, hQ0c100, l0c100, y0c100, z0c100⟩, st0c100⟩ := Jvm.LawKit.callS X0c98 hx (y := (⟨"com/example/fieldgate/fieldgate/record/DigitsValuePinLaw", "term", "(JJIII)J"⟩ : MethodName)) hown (mvT hZ (hw _ (List.mem_of_getElem? (i := 39) rfl))) (mvT hZ (hw _ (List.mem_of_getElem? (i := 40) rfl))) (mvT hZ (hw _ (List.mem_of_getElem? (i := 4) rfl))) (mvT hZ (hw _ (List.mem_of_getElem? (i := 41) rfl))) (by decide) (backOf (W := 2) (rmtm l Z aa hw [] q0 q1 (10 : Int32) u0_1 u0_3  h0c98 n0 Z0c98 hf0 ht18) hZ (hw _ (List.mem_of_getElem? (i := 41) rfl)) (hw _ (List.mem_of_getElem? (i := 4) rfl)) (by decide) (by decide)) (g := (mkF m 512 #[.val (.long q0), .second, .val (.long q1), .second, .val (.long q2), .second, .val (.long q3), .second, .val (.int p4), .val (.int p5), .val (.int u0_1), .val (.int u0_3), .val (.ref b04), .val (.ref b077), .unset, .unset] [(.int u0_3), (.int u0_1), (.int (10 : Int32)), (.long q1), (.long q0), (.long ((((((((((ftm q0 q1 (0 : Int32) u0_1 u0_3) + (ftm q0 q1 (1 : Int32) u0_1 u0_3)) + (ftm q0 q1 (2 : Int32) u0_1 u0_3)) + (ftm q0 q1 (3 : Int32) u0_1 u0_3)) + (ftm q0 q1 (4 : Int32) u0_1 u0_3)) + (ftm q0 q1 (5 : Int32) u0_1 u0_3)) + (ftm q0 q1 (6 : Int32) u0_1 u0_3)) + (ftm q0 q1 (7 : Int32) u0_1 u0_3)) + (ftm q0 q1 (8 : Int32) u0_1 u0_3)) + (ftm q0 q1 (9 : Int32) u0_1 u0_3)))])) rfl (by rw [hml]; rfl) (argsL := [(.long q0), (.long q1), (.int (10 : Int32)), (.int u0_1), (.int u0_3)]) (rest := [(.long ((((((((((ftm q0 q1 (0 : Int32) u0_1 u0_3) + (ftm q0 q1 (1 : Int32) u0_1 u0_3)) + (ftm q0 q1 (2 : Int32) u0_1 u0_3)) + (ftm q0 q1 (3 : Int32) u0_1 u0_3)) + (ftm q0 q1 (4 : Int32) u0_1 u0_3)) + (ftm q0 q1 (5 : Int32) u0_1 u0_3)) + (ftm q0 q1 (6 : Int32) u0_1 u0_3)) + (ftm q0 q1 (7 : Int32) u0_1 u0_3)) + (ftm q0 q1 (8 : Int32) u0_1 u0_3)) + (ftm q0 q1 (9 : Int32) u0_1 u0_3)))]) (lenOf pd0_2 rfl) rfl (by show 2 * 0 + _ ≤ _; exact Nat.le_of_eq rfl) (hb hby at_512) (fun _ _ => ⟨rfl, e0c98, (by decide : 13 + 1 ≤ _), (by decide : 220 + 18 ≤ _)⟩)
  dsimp only [Pt.U, Pt.locs, Pt.cells, Pt.slots] at X0c100 l0c100 y0c100 z0c100 st0c100 hQ0c100
  subst l0c100 y0c100 z0c100
  obtain ⟨rfl, N0c100q, Kq0c100⟩ := hQ0c100
  have N0c100 := Fr.app N0c98 N0c100q
  obtain ⟨lc0t101, X0c100, N0c100⟩ : ∃ lc, Stand p l e room_1 s m #[(.long q0), (.long q1), (.long q2), (.long q3), (.int p4), (.int p5)] below meth c T0c100 lc 14 238 ∧ Fr n0 lc := ⟨_, X0c100, N0c100⟩
  obtain ⟨h0c100, e0c100⟩ : ∃ h, T0c100.heap = h := ⟨_, rfl⟩
  rw [e0c100] at Kq0c100 
  replace V_b04 := V_b04.keep Kq0c100 nin0
  replace S_0c78 := S_0c78.keep Kq0c100 nin0 nin0
  have KK0c100 := Keep.trans KK0c98 Kq0c100 all0
  have Z0c100 := Nat.le_trans Z0c98 Kq0c100.1
  have O0c100 := O0c98.keep Kq0c100 all0
  refine stp (fun t k => st0c100 t k) ?_
  show W (T0c100.setTop (mkF m 515 #[.val (.long q0), .second, .val (.long q1), .second, .val (.long q2), .second, .val (.long q3), .second, .val (.int p4), .val (.int p5), .val (.int u0_1), .val (.int u0_3), .val (.ref b04), .val (.ref b077), .unset, .unset] [(.long (ftm q0 q1 (10 : Int32) u0_1 u0_3)), (.long ((((((((((ftm q0 q1 (0 : Int32) u0_1 u0_3) + (ftm q0 q1 (1 : Int32) u0_1 u0_3)) + (ftm q0 q1 (2 : Int32) u0_1 u0_3)) + (ftm q0 q1 (3 : Int32) u0_1 u0_3)) + (ftm q0 q1 (4 : Int32) u0_1 u0_3)) + (ftm q0 q1 (5 : Int32) u0_1 u0_3)) + (ftm q0 q1 (6 : Int32) u0_1 u0_3)) + (ftm q0 q1 (7 : Int32) u0_1 u0_3)) + (ftm q0 q1 (8 : Int32) u0_1 u0_3)) + (ftm q0 q1 (9 : Int32) u0_1 u0_3)))]))
  refine stp (fun t k => XS.ladd X0c100.here hx rfl (hb hby at_515) rfl k) ?_
  show W (T0c100.setTop (mkF m 516 #[.val (.long q0), .second, .val (.long q1), .second, .val (.long q2), .second, .val (.long q3), .second, .val (.int p4), .val (.int p5), .val (.int u0_1), .val (.int u0_3), .val (.ref b04), .val (.ref b077), .unset, .unset] [(.long (((((((((((ftm q0 q1 (0 : Int32) u0_1 u0_3) + (ftm q0 q1 (1 : Int32) u0_1 u0_3)) + (ftm q0 q1 (2 : Int32) u0_1 u0_3)) + (ftm q0 q1 (3 : Int32) u0_1 u0_3)) + (ftm q0 q1 (4 : Int32) u0_1 u0_3)) + (ftm q0 q1 (5 : Int32) u0_1 u0_3)) + (ftm q0 q1 (6 : Int32) u0_1 u0_3)) + (ftm q0 q1 (7 : Int32) u0_1 u0_3)) + (ftm q0 q1 (8 : Int32) u0_1 u0_3)) + (ftm q0 q1 (9 : Int32) u0_1 u0_3)) + (ftm q0 q1 (10 : Int32) u0_1 u0_3)))]))
  refine stp (fun t k => XS.lloadN X0c100.here hx rfl (hb hby at_516) rfl k) ?_
  show W (T0c100.setTop (mkF m 517 #[.val (.long q0), .second, .val (.long q1), .second, .val (.long q2), .second, .val (.long q3), .second, .val (.int p4), .val (.int p5), .val (.int u0_1), .val (.int u0_3), .val (.ref b04), .val (.ref b077), .unset, .unset] [(.long q0), (.long (((((((((((ftm q0 q1 (0 : Int32) u0_1 u0_3) + (ftm q0 q1 (1 : Int32) u0_1 u0_3)) + (ftm q0 q1 (2 : Int32) u0_1 u0_3)) + (ftm q0 q1 (3 : Int32) u0_1 u0_3)) + (ftm q0 q1 (4 : Int32) u0_1 u0_3)) + (ftm q0 q1 (5 : Int32) u0_1 u0_3)) + (ftm q0 q1 (6 : Int32) u0_1 u0_3)) + (ftm q0 q1 (7 : Int32) u0_1 u0_3)) + (ftm q0 q1 (8 : Int32) u0_1 u0_3)) + (ftm q0 q1 (9 : Int32) u0_1 u0_3)) + (ftm q0 q1 (10 : Int32) u0_1 u0_3)))]))
  refine stp (fun t k => XS.lloadN X0c100.here hx rfl (hb hby at_517) rfl k) ?_
  show W (T0c100.setTop (mkF m 518 #[.val (.long q0), .second, .val (.long q1), .second, .val (.long q2), .second, .val (.long q3), .second, .val (.int p4), .val (.int p5), .val (.int u0_1), .val (.int u0_3), .val (.ref b04), .val (.ref b077), .unset, .unset] [(.long q1), (.long q0), (.long (((((((((((ftm q0 q1 (0 : Int32) u0_1 u0_3) + (ftm q0 q1 (1 : Int32) u0_1 u0_3)) + (ftm q0 q1 (2 : Int32) u0_1 u0_3)) + (ftm q0 q1 (3 : Int32) u0_1 u0_3)) + (ftm q0 q1 (4 : Int32) u0_1 u0_3)) + (ftm q0 q1 (5 : Int32) u0_1 u0_3)) + (ftm q0 q1 (6 : Int32) u0_1 u0_3)) + (ftm q0 q1 (7 : Int32) u0_1 u0_3)) + (ftm q0 q1 (8 : Int32) u0_1 u0_3)) + (ftm q0 q1 (9 : Int32) u0_1 u0_3)) + (ftm q0 q1 (10 : Int32) u0_1 u0_3)))]))
  refine stp (fun t k => XS.bipush X0c100.here hx rfl (hb hby at_518) k) ?_
  show W (T0c100.setTop (mkF m 520 #[.val (.long q0), .second, .val (.long q1), .second, .val (.long q2), .second, .val (.long q3), .second, .val (.int p4), .val (.int p5), .val (.int u0_1), .val (.int u0_3), .val (.ref b04), .val (.ref b077), .unset, .unset] [(.int (11 : Int32)), (.long q1), (.long q0), (.long (((((((((((ftm q0 q1 (0 : Int32) u0_1 u0_3) + (ftm q0 q1 (1 : Int32) u0_1 u0_3)) + (ftm q0 q1 (2 : Int32) u0_1 u0_3)) + (ftm q0 q1 (3 : Int32) u0_1 u0_3)) + (ftm q0 q1 (4 : Int32) u0_1 u0_3)) + (ftm q0 q1 (5 : Int32) u0_1 u0_3)) + (ftm q0 q1 (6 : Int32) u0_1 u0_3)) + (ftm q0 q1 (7 : Int32) u0_1 u0_3)) + (ftm q0 q1 (8 : Int32) u0_1 u0_3)) + (ftm q0 q1 (9 : Int32) u0_1 u0_3)) + (ftm q0 q1 (10 : Int32) u0_1 u0_3)))]))
  refine stp (fun t k => XS.iload X0c100.here hx rfl (hb hby at_520) rfl k) ?_
  show W (T0c100.setTop (mkF m 522 #[.val (.long q0), .second, .val (.long q1), .second, .val (.long q2), .second, .val (.long q3), .second, .val (.int p4), .val (.int p5), .val (.int u0_1), .val (.int u0_3), .val (.ref b04), .val (.ref b077), .unset, .unset] [(.int u0_1), (.int (11 : Int32)), (.long q1), (.long q0), (.long (((((((((((ftm q0 q1 (0 : Int32) u0_1 u0_3) + (ftm q0 q1 (1 : Int32) u0_1 u0_3)) + (ftm q0 q1 (2 : Int32) u0_1 u0_3)) + (ftm q0 q1 (3 : Int32) u0_1 u0_3)) + (ftm q0 q1 (4 : Int32) u0_1 u0_3)) + (ftm q0 q1 (5 : Int32) u0_1 u0_3)) + (ftm q0 q1 (6 : Int32) u0_1 u0_3)) + (ftm q0 q1 (7 : Int32) u0_1 u0_3)) + (ftm q0 q1 (8 : Int32) u0_1 u0_3)) + (ftm q0 q1 (9 : Int32) u0_1 u0_3)) + (ftm q0 q1 (10 : Int32) u0_1 u0_3)))]))
  refine stp (fun t k => XS.iload X0c100.here hx rfl (hb hby at_522) rfl k) ?_
  show W (T0c100.setTop (mkF m 524 #[.val (.long q0), .second, .val (.long q1), .second, .val (.long q2), .second, .val (.long q3), .second, .val (.int p4), .val (.int p5), .val (.int u0_1), .val (.int u0_3), .val (.ref b04), .val (.ref b077), .unset, .unset] [(.int u0_3), (.int u0_1), (.int (11 : Int32)), (.long q1), (.long q0), (.long (((((((((((ftm q0 q1 (0 : Int32) u0_1 u0_3) + (ftm q0 q1 (1 : Int32) u0_1 u0_3)) + (ftm q0 q1 (2 : Int32) u0_1 u0_3)) + (ftm q0 q1 (3 : Int32) u0_1 u0_3)) + (ftm q0 q1 (4 : Int32) u0_1 u0_3)) + (ftm q0 q1 (5 : Int32) u0_1 u0_3)) + (ftm q0 q1 (6 : Int32) u0_1 u0_3)) + (ftm q0 q1 (7 : Int32) u0_1 u0_3)) + (ftm q0 q1 (8 : Int32) u0_1 u0_3)) + (ftm q0 q1 (9 : Int32) u0_1 u0_3)) + (ftm q0 q1 (10 : Int32) u0_1 u0_3)))]))
  obtain ⟨_, _, ⟨T0c102, L0c102, k0c102, n0c102⟩, -, X0c102, ⟨Lc0c102, hQ0c102, l0c102, y0c102, z0c102⟩, st0c102⟩ := Jvm.LawKit.callS X0c100 hx (y := (⟨"com/example/fieldgate/fieldgate/record/DigitsValuePinLaw", "term", "(JJIII)J"⟩ : MethodName)) hown (mvT hZ (hw _ (List.mem_of_getElem? (i := 39) rfl))) (mvT hZ (hw _ (List.mem_of_getElem? (i := 40) rfl))) (mvT hZ (hw _ (List.mem_of_getElem? (i := 4) rfl))) (mvT hZ (hw _ (List.mem_of_getElem? (i := 41) rfl))) (by decide) (backOf (W := 2) (rmtm l Z aa hw [] q0 q1 (11 : Int32) u0_1 u0_3  h0c100 n0 Z0c100 hf0 ht18) hZ (hw _ (List.mem_of_getElem? (i := 41) rfl)) (hw _ (List.mem_of_getElem? (i := 4) rfl)) (by decide) (by decide)) (g := (mkF m 524 #[.val (.long q0), .second, .val (.long q1), .second, .val (.long q2), .second, .val (.long q3), .second, .val (.int p4), .val (.int p5), .val (.int u0_1), .val (.int u0_3), .val (.ref b04), .val (.ref b077), .unset, .unset] [(.int u0_3), (.int u0_1), (.int (11 : Int32)), (.long q1), (.long q0), (.long (((((((((((ftm q0 q1 (0 : Int32) u0_1 u0_3) + (ftm q0 q1 (1 : Int32) u0_1 u0_3)) + (ftm q0 q1 (2 : Int32) u0_1 u0_3)) + (ftm q0 q1 (3 : Int32) u0_1 u0_3)) + (ftm q0 q1 (4 : Int32) u0_1 u0_3)) + (ftm q0 q1 (5 : Int32) u0_1 u0_3)) + (ftm q0 q1 (6 : Int32) u0_1 u0_3)) + (ftm q0 q1 (7 : Int32) u0_1 u0_3)) + (ftm q0 q1 (8 : Int32) u0_1 u0_3)) + (ftm q0 q1 (9 : Int32) u0_1 u0_3)) + (ftm q0 q1 (10 : Int32) u0_1 u0_3)))])) rfl (by rw [hml]; rfl) (argsL := [(.long q0), (.long q1), (.int (11 : Int32)), (.int u0_1), (.int u0_3)]) (rest := [(.long (((((((((((ftm q0 q1 (0 : Int32) u0_1 u0_3) + (ftm q0 q1 (1 : Int32) u0_1 u0_3)) + (ftm q0 q1 (2 : Int32) u0_1 u0_3)) + (ftm q0 q1 (3 : Int32) u0_1 u0_3)) + (ftm q0 q1 (4 : Int32) u0_1 u0_3)) + (ftm q0 q1 (5 : Int32) u0_1 u0_3)) + (ftm q0 q1 (6 : Int32) u0_1 u0_3)) + (ftm q0 q1 (7 : Int32) u0_1 u0_3)) + (ftm q0 q1 (8 : Int32) u0_1 u0_3)) + (ftm q0 q1 (9 : Int32) u0_1 u0_3)) + (ftm q0 q1 (10 : Int32) u0_1 u0_3)))]) (lenOf pd0_2 rfl) rfl (by show 2 * 0 + _ ≤ _; exact Nat.le_of_eq rfl) (hb hby at_524) (fun _ _ => ⟨rfl, e0c100, (by decide : 14 + 1 ≤ _), (by decide : 238 + 18 ≤ _)⟩)
  dsimp only [Pt.U, Pt.locs, Pt.cells, Pt.slots] at X0c102 l0c102 y0c102 z0c102 st0c102 hQ0c102
  subst l0c102 y0c102 z0c102
  obtain ⟨rfl, N0c102q, Kq0c102⟩ := hQ0c102
  have N0c102 := Fr.app N0c100 N0c102q
  obtain ⟨lc0t103, X0c102, N0c102⟩ : ∃ lc, Stand p l e room_1 s m #[(.long q0), (.long q1), (.long q2), (.long q3), (.int p4), (.int p5)] below meth c T0c102 lc 15 256 ∧ Fr n0 lc := ⟨_, X0c102, N0c102⟩
  obtain ⟨h0c102, e0c102⟩ : ∃ h, T0c102.heap = h := ⟨_, rfl⟩
  rw [e0c102] at Kq0c102 
  replace V_b04 := V_b04.keep Kq0c102 nin0
  replace S_0c78 := S_0c78.keep Kq0c102 nin0 nin0
  have KK0c102 := Keep.trans KK0c100 Kq0c102 all0
  have Z0c102 := Nat.le_trans Z0c100 Kq0c102.1
  have O0c102 := O0c100.keep Kq0c102 all0
  refine stp (fun t k => st0c102 t k) ?_
  show W (T0c102.setTop (mkF m 527 #[.val (.long q0), .second, .val (.long q1), .second, .val (.long q2), .second, .val (.long q3), .second, .val (.int p4), .val (.int p5), .val (.int u0_1), .val (.int u0_3), .val (.ref b04), .val (.ref b077), .unset, .unset] [(.long (ftm q0 q1 (11 : Int32) u0_1 u0_3)), (.long (((((((((((ftm q0 q1 (0 : Int32) u0_1 u0_3) + (ftm q0 q1 (1 : Int32) u0_1 u0_3)) + (ftm q0 q1 (2 : Int32) u0_1 u0_3)) + (ftm q0 q1 (3 : Int32) u0_1 u0_3)) + (ftm q0 q1 (4 : Int32) u0_1 u0_3)) + (ftm q0 q1 (5 : Int32) u0_1 u0_3)) + (ftm q0 q1 (6 : Int32) u0_1 u0_3)) + (ftm q0 q1 (7 : Int32) u0_1 u0_3)) + (ftm q0 q1 (8 : Int32) u0_1 u0_3)) + (ftm q0 q1 (9 : Int32) u0_1 u0_3)) + (ftm q0 q1 (10 : Int32) u0_1 u0_3)))]))
  refine stp (fun t k => XS.ladd X0c102.here hx rfl (hb hby at_527) rfl k) ?_
  show W (T0c102.setTop (mkF m 528 #[.val (.long q0), .second, .val (.long q1), .second, .val (.long q2), .second, .val (.long q3), .second, .val (.int p4), .val (.int p5), .val (.int u0_1), .val (.int u0_3), .val (.ref b04), .val (.ref b077), .unset, .unset] [(.long ((((((((((((ftm q0 q1 (0 : Int32) u0_1 u0_3) + (ftm q0 q1 (1 : Int32) u0_1 u0_3)) + (ftm q0 q1 (2 : Int32) u0_1 u0_3)) + (ftm q0 q1 (3 : Int32) u0_1 u0_3)) + (ftm q0 q1 (4 : Int32) u0_1 u0_3)) + (ftm q0 q1 (5 : Int32) u0_1 u0_3)) + (ftm q0 q1 (6 : Int32) u0_1 u0_3)) + (ftm q0 q1 (7 : Int32) u0_1 u0_3)) + (ftm q0 q1 (8 : Int32) u0_1 u0_3)) + (ftm q0 q1 (9 : Int32) u0_1 u0_3)) + (ftm q0 q1 (10 : Int32) u0_1 u0_3)) + (ftm q0 q1 (11 : Int32) u0_1 u0_3)))]))
  refine stp (fun t k => XS.lloadN X0c102.here hx rfl (hb hby at_528) rfl k) ?_
  show W (T0c102.setTop (mkF m 529 #[.val (.long q0), .second, .val (.long q1), .second, .val (.long q2), .second, .val (.long q3), .second, .val (.int p4), .val (.int p5), .val (.int u0_1), .val (.int u0_3), .val (.ref b04), .val (.ref b077), .unset, .unset] [(.long q0), (.long ((((((((((((ftm q0 q1 (0 : Int32) u0_1 u0_3) + (ftm q0 q1 (1 : Int32) u0_1 u0_3)) + (ftm q0 q1 (2 : Int32) u0_1 u0_3)) + (ftm q0 q1 (3 : Int32) u0_1 u0_3)) + (ftm q0 q1 (4 : Int32) u0_1 u0_3)) + (ftm q0 q1 (5 : Int32) u0_1 u0_3)) + (ftm q0 q1 (6 : Int32) u0_1 u0_3)) + (ftm q0 q1 (7 : Int32) u0_1 u0_3)) + (ftm q0 q1 (8 : Int32) u0_1 u0_3)) + (ftm q0 q1 (9 : Int32) u0_1 u0_3)) + (ftm q0 q1 (10 : Int32) u0_1 u0_3)) + (ftm q0 q1 (11 : Int32) u0_1 u0_3)))]))
  refine stp (fun t k => XS.lloadN X0c102.here hx rfl (hb hby at_529) rfl k) ?_
  show W (T0c102.setTop (mkF m 530 #[.val (.long q0), .second, .val (.long q1), .second, .val (.long q2), .second, .val (.long q3), .second, .val (.int p4), .val (.int p5), .val (.int u0_1), .val (.int u0_3), .val (.ref b04), .val (.ref b077), .unset, .unset] [(.long q1), (.long q0), (.long ((((((((((((ftm q0 q1 (0 : Int32) u0_1 u0_3) + (ftm q0 q1 (1 : Int32) u0_1 u0_3)) + (ftm q0 q1 (2 : Int32) u0_1 u0_3)) + (ftm q0 q1 (3 : Int32) u0_1 u0_3)) + (ftm q0 q1 (4 : Int32) u0_1 u0_3)) + (ftm q0 q1 (5 : Int32) u0_1 u0_3)) + (ftm q0 q1 (6 : Int32) u0_1 u0_3)) + (ftm q0 q1 (7 : Int32) u0_1 u0_3)) + (ftm q0 q1 (8 : Int32) u0_1 u0_3)) + (ftm q0 q1 (9 : Int32) u0_1 u0_3)) + (ftm q0 q1 (10 : Int32) u0_1 u0_3)) + (ftm q0 q1 (11 : Int32) u0_1 u0_3)))]))
  refine stp (fun t k => XS.bipush X0c102.here hx rfl (hb hby at_530) k) ?_
  show W (T0c102.setTop (mkF m 532 #[.val (.long q0), .second, .val (.long q1), .second, .val (.long q2), .second, .val (.long q3), .second, .val (.int p4), .val (.int p5), .val (.int u0_1), .val (.int u0_3), .val (.ref b04), .val (.ref b077), .unset, .unset] [(.int (12 : Int32)), (.long q1), (.long q0), (.long ((((((((((((ftm q0 q1 (0 : Int32) u0_1 u0_3) + (ftm q0 q1 (1 : Int32) u0_1 u0_3)) + (ftm q0 q1 (2 : Int32) u0_1 u0_3)) + (ftm q0 q1 (3 : Int32) u0_1 u0_3)) + (ftm q0 q1 (4 : Int32) u0_1 u0_3)) + (ftm q0 q1 (5 : Int32) u0_1 u0_3)) + (ftm q0 q1 (6 : Int32) u0_1 u0_3)) + (ftm q0 q1 (7 : Int32) u0_1 u0_3)) + (ftm q0 q1 (8 : Int32) u0_1 u0_3)) + (ftm q0 q1 (9 : Int32) u0_1 u0_3)) + (ftm q0 q1 (10 : Int32) u0_1 u0_3)) + (ftm q0 q1 (11 : Int32) u0_1 u0_3)))]))
  refine stp (fun t k => XS.iload X0c102.here hx rfl (hb hby at_532) rfl k) ?_
  show W (T0c102.setTop (mkF m 534 #[.val (.long q0), .second, .val (.long q1), .second, .val (.long q2), .second, .val (.long q3), .second, .val (.int p4), .val (.int p5), .val (.int u0_1), .val (.int u0_3), .val (.ref b04), .val (.ref b077), .unset, .unset] [(.int u0_1), (.int (12 : Int32)), (.long q1), (.long q0), (.long ((((((((((((ftm q0 q1 (0 : Int32) u0_1 u0_3) + (ftm q0 q1 (1 : Int32) u0_1 u0_3)) + (ftm q0 q1 (2 : Int32) u0_1 u0_3)) + (ftm q0 q1 (3 : Int32) u0_1 u0_3)) + (ftm q0 q1 (4 : Int32) u0_1 u0_3)) + (ftm q0 q1 (5 : Int32) u0_1 u0_3)) + (ftm q0 q1 (6 : Int32) u0_1 u0_3)) + (ftm q0 q1 (7 : Int32) u0_1 u0_3)) + (ftm q0 q1 (8 : Int32) u0_1 u0_3)) + (ftm q0 q1 (9 : Int32) u0_1 u0_3)) + (ftm q0 q1 (10 : Int32) u0_1 u0_3)) + (ftm q0 q1 (11 : Int32) u0_1 u0_3)))]))
  refine stp (fun t k => XS.iload X0c102.here hx rfl (hb hby at_534) rfl k) ?_
  show W (T0c102.setTop (mkF m 536 #[.val (.long q0), .second, .val (.long q1), .second, .val (.long q2), .second, .val (.long q3), .second, .val (.int p4), .val (.int p5), .val (.int u0_1), .val (.int u0_3), .val (.ref b04), .val (.ref b077), .unset, .unset] [(.int u0_3), (.int u0_1), (.int (12 : Int32)), (.long q1), (.long q0), (.long ((((((((((((ftm q0 q1 (0 : Int32) u0_1 u0_3) + (ftm q0 q1 (1 : Int32) u0_1 u0_3)) + (ftm q0 q1 (2 : Int32) u0_1 u0_3)) + (ftm q0 q1 (3 : Int32) u0_1 u0_3)) + (ftm q0 q1 (4 : Int32) u0_1 u0_3)) + (ftm q0 q1 (5 : Int32) u0_1 u0_3)) + (ftm q0 q1 (6 : Int32) u0_1 u0_3)) + (ftm q0 q1 (7 : Int32) u0_1 u0_3)) + (ftm q0 q1 (8 : Int32) u0_1 u0_3)) + (ftm q0 q1 (9 : Int32) u0_1 u0_3)) + (ftm q0 q1 (10 : Int32) u0_1 u0_3)) + (ftm q0 q1 (11 : Int32) u0_1 u0_3)))]))
  obtain ⟨_, _, ⟨T0c104, L0c104, k0c104, n0c104⟩, -, X0c104, ⟨Lc0c104, hQ0c104, l0c104, y0c104, z0c104⟩, st0c104⟩ := Jvm.LawKit.callS X0c102 hx (y := (⟨"com/example/fieldgate/fieldgate/record/DigitsValuePinLaw", "term", "(JJIII)J"⟩ : MethodName)) hown (mvT hZ (hw _ (List.mem_of_getElem? (i := 39) rfl))) (mvT hZ (hw _ (List.mem_of_getElem? (i := 40) rfl))) (mvT hZ (hw _ (List.mem_of_getElem? (i := 4) rfl))) (mvT hZ (hw _ (List.mem_of_getElem? (i := 41) rfl))) (by decide) (backOf (W := 2) (rmtm l Z aa hw [] q0 q1 (12 : Int32) u0_1 u0_3  h0c102 n0 Z0c102 hf0 ht18) hZ (hw _ (List.mem_of_getElem? (i := 41) rfl)) (hw _ (List.mem_of_getElem? (i := 4) rfl)) (by decide) (by decide)) (g := (mkF m 536 #[.val (.long q0), .second, .val (.long q1), .second, .val (.long q2), .second, .val (.long q3), .second, .val (.int p4), .val (.int p5), .val (.int u0_1), .val (.int u0_3), .val (.ref b04), .val (.ref b077), .unset, .unset] [(.int u0_3), (.int u0_1), (.int (12 : Int32)), (.long q1), (.long q0), (.long ((((((((((((ftm q0 q1 (0 : Int32) u0_1 u0_3) + (ftm q0 q1 (1 : Int32) u0_1 u0_3)) + (ftm q0 q1 (2 : Int32) u0_1 u0_3)) + (ftm q0 q1 (3 : Int32) u0_1 u0_3)) + (ftm q0 q1 (4 : Int32) u0_1 u0_3)) + (ftm q0 q1 (5 : Int32) u0_1 u0_3)) + (ftm q0 q1 (6 : Int32) u0_1 u0_3)) + (ftm q0 q1 (7 : Int32) u0_1 u0_3)) + (ftm q0 q1 (8 : Int32) u0_1 u0_3)) + (ftm q0 q1 (9 : Int32) u0_1 u0_3)) + (ftm q0 q1 (10 : Int32) u0_1 u0_3)) + (ftm q0 q1 (11 : Int32) u0_1 u0_3)))])) rfl (by rw [hml]; rfl) (argsL := [(.long q0), (.long q1), (.int (12 : Int32)), (.int u0_1), (.int u0_3)]) (rest := [(.long ((((((((((((ftm q0 q1 (0 : Int32) u0_1 u0_3) + (ftm q0 q1 (1 : Int32) u0_1 u0_3)) + (ftm q0 q1 (2 : Int32) u0_1 u0_3)) + (ftm q0 q1 (3 : Int32) u0_1 u0_3)) + (ftm q0 q1 (4 : Int32) u0_1 u0_3)) + (ftm q0 q1 (5 : Int32) u0_1 u0_3)) + (ftm q0 q1 (6 : Int32) u0_1 u0_3)) + (ftm q0 q1 (7 : Int32) u0_1 u0_3)) + (ftm q0 q1 (8 : Int32) u0_1 u0_3)) + (ftm q0 q1 (9 : Int32) u0_1 u0_3)) + (ftm q0 q1 (10 : Int32) u0_1 u0_3)) + (ftm q0 q1 (11 : Int32) u0_1 u0_3)))]) (lenOf pd0_2 rfl) rfl (by show 2 * 0 + _ ≤ _; exact Nat.le_of_eq rfl) (hb hby at_536) (fun _ _ => ⟨rfl, e0c102, (by decide : 15 + 1 ≤ _), (by decide : 256 + 18 ≤ _)⟩)
  dsimp only [Pt.U, Pt.locs, Pt.cells, Pt.slots] at X0c104 l0c104 y0c104 z0c104 st0c104 hQ0c104
  subst l0c104 y0c104 z0c104
  obtain ⟨rfl, N0c104q, Kq0c104⟩ := hQ0c104
  have N0c104 := Fr.app N0c102 N0c104q
  obtain ⟨lc0t105, X0c104, N0c104⟩ : ∃ lc, Stand p l e room_1 s m #[(.long q0), (.long q1), (.long q2), (.long q3), (.int p4), (.int p5)] below meth c T0c104 lc 16 274 ∧ Fr n0 lc := ⟨_, X0c104, N0c104⟩
  obtain ⟨h0c104, e0c104⟩ : ∃ h, T0c104.heap = h := ⟨_, rfl⟩
  rw [e0c104] at Kq0c104 
  replace V_b04 := V_b04.keep Kq0c104 nin0
  replace S_0c78 := S_0c78.keep Kq0c104 nin0 nin0
  have KK0c104 := Keep.trans KK0c102 Kq0c104 all0
  have Z0c104 := Nat.le_trans Z0c102 Kq0c104.1
  have O0c104 := O0c102.keep Kq0c104 all0
  refine stp (fun t k => st0c104 t k) ?_
  show W (T0c104.setTop (mkF m 539 #[.val (.long q0), .second, .val (.long q1), .second, .val (.long q2), .second, .val (.long q3), .second, .val (.int p4), .val (.int p5), .val (.int u0_1), .val (.int u0_3), .val (.ref b04), .val (.ref b077), .unset, .unset] [(.long (ftm q0 q1 (12 : Int32) u0_1 u0_3)), (.long ((((((((((((ftm q0 q1 (0 : Int32) u0_1 u0_3) + (ftm q0 q1 (1 : Int32) u0_1 u0_3)) + (ftm q0 q1 (2 : Int32) u0_1 u0_3)) + (ftm q0 q1 (3 : Int32) u0_1 u0_3)) + (ftm q0 q1 (4 : Int32) u0_1 u0_3)) + (ftm q0 q1 (5 : Int32) u0_1 u0_3)) + (ftm q0 q1 (6 : Int32) u0_1 u0_3)) + (ftm q0 q1 (7 : Int32) u0_1 u0_3)) + (ftm q0 q1 (8 : Int32) u0_1 u0_3)) + (ftm q0 q1 (9 : Int32) u0_1 u0_3)) + (ftm q0 q1 (10 : Int32) u0_1 u0_3)) + (ftm q0 q1 (11 : Int32) u0_1 u0_3)))]))
  refine stp (fun t k => XS.ladd X0c104.here hx rfl (hb hby at_539) rfl k) ?_
  show W (T0c104.setTop (mkF m 540 #[.val (.long q0), .second, .val (.long q1), .second, .val (.long q2), .second, .val (.long q3), .second, .val (.int p4), .val (.int p5), .val (.int u0_1), .val (.int u0_3), .val (.ref b04), .val (.ref b077), .unset, .unset] [(.long (((((((((((((ftm q0 q1 (0 : Int32) u0_1 u0_3) + (ftm q0 q1 (1 : Int32) u0_1 u0_3)) + (ftm q0 q1 (2 : Int32) u0_1 u0_3)) + (ftm q0 q1 (3 : Int32) u0_1 u0_3)) + (ftm q0 q1 (4 : Int32) u0_1 u0_3)) + (ftm q0 q1 (5 : Int32) u0_1 u0_3)) + (ftm q0 q1 (6 : Int32) u0_1 u0_3)) + (ftm q0 q1 (7 : Int32) u0_1 u0_3)) + (ftm q0 q1 (8 : Int32) u0_1 u0_3)) + (ftm q0 q1 (9 : Int32) u0_1 u0_3)) + (ftm q0 q1 (10 : Int32) u0_1 u0_3)) + (ftm q0 q1 (11 : Int32) u0_1 u0_3)) + (ftm q0 q1 (12 : Int32) u0_1 u0_3)))]))
  refine stp (fun t k => XS.lloadN X0c104.here hx rfl (hb hby at_540) rfl k) ?_
  show W (T0c104.setTop (mkF m 541 #[.val (.long q0), .second, .val (.long q1), .second, .val (.long q2), .second, .val (.long q3), .second, .val (.int p4), .val (.int p5), .val (.int u0_1), .val (.int u0_3), .val (.ref b04), .val (.ref b077), .unset, .unset] [(.long q0), (.long (((((((((((((ftm q0 q1 (0 : Int32) u0_1 u0_3) + (ftm q0 q1 (1 : Int32) u0_1 u0_3)) + (ftm q0 q1 (2 : Int32) u0_1 u0_3)) + (ftm q0 q1 (3 : Int32) u0_1 u0_3)) + (ftm q0 q1 (4 : Int32) u0_1 u0_3)) + (ftm q0 q1 (5 : Int32) u0_1 u0_3)) + (ftm q0 q1 (6 : Int32) u0_1 u0_3)) + (ftm q0 q1 (7 : Int32) u0_1 u0_3)) + (ftm q0 q1 (8 : Int32) u0_1 u0_3)) + (ftm q0 q1 (9 : Int32) u0_1 u0_3)) + (ftm q0 q1 (10 : Int32) u0_1 u0_3)) + (ftm q0 q1 (11 : Int32) u0_1 u0_3)) + (ftm q0 q1 (12 : Int32) u0_1 u0_3)))]))
  refine stp (fun t k => XS.lloadN X0c104.here hx rfl (hb hby at_541) rfl k) ?_
  show W (T0c104.setTop (mkF m 542 #[.val (.long q0), .second, .val (.long q1), .second, .val (.long q2), .second, .val (.long q3), .second, .val (.int p4), .val (.int p5), .val (.int u0_1), .val (.int u0_3), .val (.ref b04), .val (.ref b077), .unset, .unset] [(.long q1), (.long q0), (.long (((((((((((((ftm q0 q1 (0 : Int32) u0_1 u0_3) + (ftm q0 q1 (1 : Int32) u0_1 u0_3)) + (ftm q0 q1 (2 : Int32) u0_1 u0_3)) + (ftm q0 q1 (3 : Int32) u0_1 u0_3)) + (ftm q0 q1 (4 : Int32) u0_1 u0_3)) + (ftm q0 q1 (5 : Int32) u0_1 u0_3)) + (ftm q0 q1 (6 : Int32) u0_1 u0_3)) + (ftm q0 q1 (7 : Int32) u0_1 u0_3)) + (ftm q0 q1 (8 : Int32) u0_1 u0_3)) + (ftm q0 q1 (9 : Int32) u0_1 u0_3)) + (ftm q0 q1 (10 : Int32) u0_1 u0_3)) + (ftm q0 q1 (11 : Int32) u0_1 u0_3)) + (ftm q0 q1 (12 : Int32) u0_1 u0_3)))]))
  refine stp (fun t k => XS.bipush X0c104.here hx rfl (hb hby at_542) k) ?_
  show W (T0c104.setTop (mkF m 544 #[.val (.long q0), .second, .val (.long q1), .second, .val (.long q2), .second, .val (.long q3), .second, .val (.int p4), .val (.int p5), .val (.int u0_1), .val (.int u0_3), .val (.ref b04), .val (.ref b077), .unset, .unset] [(.int (13 : Int32)), (.long q1), (.long q0), (.long (((((((((((((ftm q0 q1 (0 : Int32) u0_1 u0_3) + (ftm q0 q1 (1 : Int32) u0_1 u0_3)) + (ftm q0 q1 (2 : Int32) u0_1 u0_3)) + (ftm q0 q1 (3 : Int32) u0_1 u0_3)) + (ftm q0 q1 (4 : Int32) u0_1 u0_3)) + (ftm q0 q1 (5 : Int32) u0_1 u0_3)) + (ftm q0 q1 (6 : Int32) u0_1 u0_3)) + (ftm q0 q1 (7 : Int32) u0_1 u0_3)) + (ftm q0 q1 (8 : Int32) u0_1 u0_3)) + (ftm q0 q1 (9 : Int32) u0_1 u0_3)) + (ftm q0 q1 (10 : Int32) u0_1 u0_3)) + (ftm q0 q1 (11 : Int32) u0_1 u0_3)) + (ftm q0 q1 (12 : Int32) u0_1 u0_3)))]))
  refine stp (fun t k => XS.iload X0c104.here hx rfl (hb hby at_544) rfl k) ?_
  show W (T0c104.setTop (mkF m 546 #[.val (.long q0), .second, .val (.long q1), .second, .val (.long q2), .second, .val (.long q3), .second, .val (.int p4), .val (.int p5), .val (.int u0_1), .val (.int u0_3), .val (.ref b04), .val (.ref b077), .unset, .unset] [(.int u0_1), (.int (13 : Int32)), (.long q1), (.long q0), (.long (((((((((((((ftm q0 q1 (0 : Int32) u0_1 u0_3) + (ftm q0 q1 (1 : Int32) u0_1 u0_3)) + (ftm q0 q1 (2 : Int32) u0_1 u0_3)) + (ftm q0 q1 (3 : Int32) u0_1 u0_3)) + (ftm q0 q1 (4 : Int32) u0_1 u0_3)) + (ftm q0 q1 (5 : Int32) u0_1 u0_3)) + (ftm q0 q1 (6 : Int32) u0_1 u0_3)) + (ftm q0 q1 (7 : Int32) u0_1 u0_3)) + (ftm q0 q1 (8 : Int32) u0_1 u0_3)) + (ftm q0 q1 (9 : Int32) u0_1 u0_3)) + (ftm q0 q1 (10 : Int32) u0_1 u0_3)) + (ftm q0 q1 (11 : Int32) u0_1 u0_3)) + (ftm q0 q1 (12 : Int32) u0_1 u0_3)))]))
  refine stp (fun t k => XS.iload X0c104.here hx rfl (hb hby at_546) rfl k) ?_
  show W (T0c104.setTop (mkF m 548 #[.val (.long q0), .second, .val (.long q1), .second, .val (.long q2), .second, .val (.long q3), .second, .val (.int p4), .val (.int p5), .val (.int u0_1), .val (.int u0_3), .val (.ref b04), .val (.ref b077), .unset, .unset] [(.int u0_3), (.int u0_1), (.int (13 : Int32)), (.long q1), (.long q0), (.long (((((((((((((ftm q0 q1 (0 : Int32) u0_1 u0_3) + (ftm q0 q1 (1 : Int32) u0_1 u0_3)) + (ftm q0 q1 (2 : Int32) u0_1 u0_3)) + (ftm q0 q1 (3 : Int32) u0_1 u0_3)) + (ftm q0 q1 (4 : Int32) u0_1 u0_3)) + (ftm q0 q1 (5 : Int32) u0_1 u0_3)) + (ftm q0 q1 (6 : Int32) u0_1 u0_3)) + (ftm q0 q1 (7 : Int32) u0_1 u0_3)) + (ftm q0 q1 (8 : Int32) u0_1 u0_3)) + (ftm q0 q1 (9 : Int32) u0_1 u0_3)) + (ftm q0 q1 (10 : Int32) u0_1 u0_3)) + (ftm q0 q1 (11 : Int32) u0_1 u0_3)) + (ftm q0 q1 (12 : Int32) u0_1 u0_3)))]))
  obtain ⟨_, _, ⟨T0c106, L0c106, k0c106, n0c106⟩, -, X0c106, ⟨Lc0c106, hQ0c106, l0c106, y0c106, z0c106⟩, st0c106⟩ := Jvm.LawKit.callS X0c104 hx (y := (⟨"com/example/fieldgate/fieldgate/record/DigitsValuePinLaw", "term", "(JJIII)J"⟩ : MethodName)) hown (mvT hZ (hw _ (List.mem_of_getElem? (i := 39) rfl))) (mvT hZ (hw _ (List.mem_of_getElem? (i := 40) rfl))) (mvT hZ (hw _ (List.mem_of_getElem? (i := 4) rfl))) (mvT hZ (hw _ (List.mem_of_getElem? (i := 41) rfl))) (by decide) (backOf (W := 2) (rmtm l Z aa hw [] q0 q1 (13 : Int32) u0_1 u0_3  h0c104 n0 Z0c104 hf0 ht18) hZ (hw _ (List.mem_of_getElem? (i := 41) rfl)) (hw _ (List.mem_of_getElem? (i := 4) rfl)) (by decide) (by decide)) (g := (mkF m 548 #[.val (.long q0), .second, .val (.long q1), .second, .val (.long q2), .second, .val (.long q3), .second, .val (.int p4), .val (.int p5), .val (.int u0_1), .val (.int u0_3), .val (.ref b04), .val (.ref b077), .unset, .unset] [(.int u0_3), (.int u0_1), (.int (13 : Int32)), (.long q1), (.long q0), (.long (((((((((((((ftm q0 q1 (0 : Int32) u0_1 u0_3) + (ftm q0 q1 (1 : Int32) u0_1 u0_3)) + (ftm q0 q1 (2 : Int32) u0_1 u0_3)) + (ftm q0 q1 (3 : Int32) u0_1 u0_3)) + (ftm q0 q1 (4 : Int32) u0_1 u0_3)) + (ftm q0 q1 (5 : Int32) u0_1 u0_3)) + (ftm q0 q1 (6 : Int32) u0_1 u0_3)) + (ftm q0 q1 (7 : Int32) u0_1 u0_3)) + (ftm q0 q1 (8 : Int32) u0_1 u0_3)) + (ftm q0 q1 (9 : Int32) u0_1 u0_3)) + (ftm q0 q1 (10 : Int32) u0_1 u0_3)) + (ftm q0 q1 (11 : Int32) u0_1 u0_3)) + (ftm q0 q1 (12 : Int32) u0_1 u0_3)))])) rfl (by rw [hml]; rfl) (argsL := [(.long q0), (.long q1), (.int (13 : Int32)), (.int u0_1), (.int u0_3)]) (rest := [(.long (((((((((((((ftm q0 q1 (0 : Int32) u0_1 u0_3) + (ftm q0 q1 (1 : Int32) u0_1 u0_3)) + (ftm q0 q1 (2 : Int32) u0_1 u0_3)) + (ftm q0 q1 (3 : Int32) u0_1 u0_3)) + (ftm q0 q1 (4 : Int32) u0_1 u0_3)) + (ftm q0 q1 (5 : Int32) u0_1 u0_3)) + (ftm q0 q1 (6 : Int32) u0_1 u0_3)) + (ftm q0 q1 (7 : Int32) u0_1 u0_3)) + (ftm q0 q1 (8 : Int32) u0_1 u0_3)) + (ftm q0 q1 (9 : Int32) u0_1 u0_3)) + (ftm q0 q1 (10 : Int32) u0_1 u0_3)) + (ftm q0 q1 (11 : Int32) u0_1 u0_3)) + (ftm q0 q1 (12 : Int32) u0_1 u0_3)))]) (lenOf pd0_2 rfl) rfl (by show 2 * 0 + _ ≤ _; exact Nat.le_of_eq rfl) (hb hby at_548) (fun _ _ => ⟨rfl, e0c104, (by decide : 16 + 1 ≤ _), (by decide : 274 + 18 ≤ _)⟩)
  dsimp only [Pt.U, Pt.locs, Pt.cells, Pt.slots] at X0c106 l0c106 y0c106 z0c106 st0c106 hQ0c106
  subst l0c106 y0c106 z0c106
  obtain ⟨rfl, N0c106q, Kq0c106⟩ := hQ0c106
  have N0c106 := Fr.app N0c104 N0c106q
  obtain ⟨lc0t107, X0c106, N0c106⟩ : ∃ lc, Stand p l e room_1 s m #[(.long q0), (.long q1), (.long q2), (.long q3), (.int p4), (.int p5)] below meth c T0c106 lc 17 292 ∧ Fr n0 lc := ⟨_, X0c106, N0c106⟩
  obtain ⟨h0c106, e0c106⟩ : ∃ h, T0c106.heap = h := ⟨_, rfl⟩
  rw [e0c106] at Kq0c106 
  replace V_b04 := V_b04.keep Kq0c106 nin0
  replace S_0c78 := S_0c78.keep Kq0c106 nin0 nin0
  have KK0c106 := Keep.trans KK0c104 Kq0c106 all0
  have Z0c106 := Nat.le_trans Z0c104 Kq0c106.1
  have O0c106 := O0c104.keep Kq0c106 all0
  refine stp (fun t k => st0c106 t k) ?_
  show W (T0c106.setTop (mkF m 551 #[.val (.long q0), .second, .val (.long q1), .second, .val (.long q2), .second, .val (.long q3), .second, .val (.int p4), .val (.int p5), .val (.int u0_1), .val (.int u0_3), .val (.ref b04), .val (.ref b077), .unset, .unset] [(.long (ftm q0 q1 (13 : Int32) u0_1 u0_3)), (.long (((((((((((((ftm q0 q1 (0 : Int32) u0_1 u0_3) + (ftm q0 q1 (1 : Int32) u0_1 u0_3)) + (ftm q0 q1 (2 : Int32) u0_1 u0_3)) + (ftm q0 q1 (3 : Int32) u0_1 u0_3)) + (ftm q0 q1 (4 : Int32) u0_1 u0_3)) + (ftm q0 q1 (5 : Int32) u0_1 u0_3)) + (ftm q0 q1 (6 : Int32) u0_1 u0_3)) + (ftm q0 q1 (7 : Int32) u0_1 u0_3)) + (ftm q0 q1 (8 : Int32) u0_1 u0_3)) + (ftm q0 q1 (9 : Int32) u0_1 u0_3)) + (ftm q0 q1 (10 : Int32) u0_1 u0_3)) + (ftm q0 q1 (11 : Int32) u0_1 u0_3)) + (ftm q0 q1 (12 : Int32) u0_1 u0_3)))]))
  refine stp (fun t k => XS.ladd X0c106.here hx rfl (hb hby at_551) rfl k) ?_
  show W (T0c106.setTop (mkF m 552 #[.val (.long q0), .second, .val (.long q1), .second, .val (.long q2), .second, .val (.long q3), .second, .val (.int p4), .val (.int p5), .val (.int u0_1), .val (.int u0_3), .val (.ref b04), .val (.ref b077), .unset, .unset] [(.long ((((((((((((((ftm q0 q1 (0 : Int32) u0_1 u0_3) + (ftm q0 q1 (1 : Int32) u0_1 u0_3)) + (ftm q0 q1 (2 : Int32) u0_1 u0_3)) + (ftm q0 q1 (3 : Int32) u0_1 u0_3)) + (ftm q0 q1 (4 : Int32) u0_1 u0_3)) + (ftm q0 q1 (5 : Int32) u0_1 u0_3)) + (ftm q0 q1 (6 : Int32) u0_1 u0_3)) + (ftm q0 q1 (7 : Int32) u0_1 u0_3)) + (ftm q0 q1 (8 : Int32) u0_1 u0_3)) + (ftm q0 q1 (9 : Int32) u0_1 u0_3)) + (ftm q0 q1 (10 : Int32) u0_1 u0_3)) + (ftm q0 q1 (11 : Int32) u0_1 u0_3)) + (ftm q0 q1 (12 : Int32) u0_1 u0_3)) + (ftm q0 q1 (13 : Int32) u0_1 u0_3)))]))
  refine stp (fun t k => XS.lloadN X0c106.here hx rfl (hb hby at_552) rfl k) ?_
  show W (T0c106.setTop (mkF m 553 #[.val (.long q0), .second, .val (.long q1), .second, .val (.long q2), .second, .val (.long q3), .second, .val (.int p4), .val (.int p5), .val (.int u0_1), .val (.int u0_3), .val (.ref b04), .val (.ref b077), .unset, .unset] [(.long q0), (.long ((((((((((((((ftm q0 q1 (0 : Int32) u0_1 u0_3) + (ftm q0 q1 (1 : Int32) u0_1 u0_3)) + (ftm q0 q1 (2 : Int32) u0_1 u0_3)) + (ftm q0 q1 (3 : Int32) u0_1 u0_3)) + (ftm q0 q1 (4 : Int32) u0_1 u0_3)) + (ftm q0 q1 (5 : Int32) u0_1 u0_3)) + (ftm q0 q1 (6 : Int32) u0_1 u0_3)) + (ftm q0 q1 (7 : Int32) u0_1 u0_3)) + (ftm q0 q1 (8 : Int32) u0_1 u0_3)) + (ftm q0 q1 (9 : Int32) u0_1 u0_3)) + (ftm q0 q1 (10 : Int32) u0_1 u0_3)) + (ftm q0 q1 (11 : Int32) u0_1 u0_3)) + (ftm q0 q1 (12 : Int32) u0_1 u0_3)) + (ftm q0 q1 (13 : Int32) u0_1 u0_3)))]))
  refine stp (fun t k => XS.lloadN X0c106.here hx rfl (hb hby at_553) rfl k) ?_
  show W (T0c106.setTop (mkF m 554 #[.val (.long q0), .second, .val (.long q1), .second, .val (.long q2), .second, .val (.long q3), .second, .val (.int p4), .val (.int p5), .val (.int u0_1), .val (.int u0_3), .val (.ref b04), .val (.ref b077), .unset, .unset] [(.long q1), (.long q0), (.long ((((((((((((((ftm q0 q1 (0 : Int32) u0_1 u0_3) + (ftm q0 q1 (1 : Int32) u0_1 u0_3)) + (ftm q0 q1 (2 : Int32) u0_1 u0_3)) + (ftm q0 q1 (3 : Int32) u0_1 u0_3)) + (ftm q0 q1 (4 : Int32) u0_1 u0_3)) + (ftm q0 q1 (5 : Int32) u0_1 u0_3)) + (ftm q0 q1 (6 : Int32) u0_1 u0_3)) + (ftm q0 q1 (7 : Int32) u0_1 u0_3)) + (ftm q0 q1 (8 : Int32) u0_1 u0_3)) + (ftm q0 q1 (9 : Int32) u0_1 u0_3)) + (ftm q0 q1 (10 : Int32) u0_1 u0_3)) + (ftm q0 q1 (11 : Int32) u0_1 u0_3)) + (ftm q0 q1 (12 : Int32) u0_1 u0_3)) + (ftm q0 q1 (13 : Int32) u0_1 u0_3)))]))
  refine stp (fun t k => XS.bipush X0c106.here hx rfl (hb hby at_554) k) ?_
  show W (T0c106.setTop (mkF m 556 #[.val (.long q0), .second, .val (.long q1), .second, .val (.long q2), .second, .val (.long q3), .second, .val (.int p4), .val (.int p5), .val (.int u0_1), .val (.int u0_3), .val (.ref b04), .val (.ref b077), .unset, .unset] [(.int (14 : Int32)), (.long q1), (.long q0), (.long ((((((((((((((ftm q0 q1 (0 : Int32) u0_1 u0_3) + (ftm q0 q1 (1 : Int32) u0_1 u0_3)) + (ftm q0 q1 (2 : Int32) u0_1 u0_3)) + (ftm q0 q1 (3 : Int32) u0_1 u0_3)) + (ftm q0 q1 (4 : Int32) u0_1 u0_3)) + (ftm q0 q1 (5 : Int32) u0_1 u0_3)) + (ftm q0 q1 (6 : Int32) u0_1 u0_3)) + (ftm q0 q1 (7 : Int32) u0_1 u0_3)) + (ftm q0 q1 (8 : Int32) u0_1 u0_3)) + (ftm q0 q1 (9 : Int32) u0_1 u0_3)) + (ftm q0 q1 (10 : Int32) u0_1 u0_3)) + (ftm q0 q1 (11 : Int32) u0_1 u0_3)) + (ftm q0 q1 (12 : Int32) u0_1 u0_3)) + (ftm q0 q1 (13 : Int32) u0_1 u0_3)))]))
  refine stp (fun t k => XS.iload X0c106.here hx rfl (hb hby at_556) rfl k) ?_
  show W (T0c106.setTop (mkF m 558 #[.val (.long q0), .second, .val (.long q1), .second, .val (.long q2), .second, .val (.long q3), .second, .val (.int p4), .val (.int p5), .val (.int u0_1), .val (.int u0_3), .val (.ref b04), .val (.ref b077), .unset, .unset] [(.int u0_1), (.int (14 : Int32)), (.long q1), (.long q0), (.long ((((((((((((((ftm q0 q1 (0 : Int32) u0_1 u0_3) + (ftm q0 q1 (1 : Int32) u0_1 u0_3)) + (ftm q0 q1 (2 : Int32) u0_1 u0_3)) + (ftm q0 q1 (3 : Int32) u0_1 u0_3)) + (ftm q0 q1 (4 : Int32) u0_1 u0_3)) + (ftm q0 q1 (5 : Int32) u0_1 u0_3)) + (ftm q0 q1 (6 : Int32) u0_1 u0_3)) + (ftm q0 q1 (7 : Int32) u0_1 u0_3)) + (ftm q0 q1 (8 : Int32) u0_1 u0_3)) + (ftm q0 q1 (9 : Int32) u0_1 u0_3)) + (ftm q0 q1 (10 : Int32) u0_1 u0_3)) + (ftm q0 q1 (11 : Int32) u0_1 u0_3)) + (ftm q0 q1 (12 : Int32) u0_1 u0_3)) + (ftm q0 q1 (13 : Int32) u0_1 u0_3)))]))
  refine stp (fun t k => XS.iload X0c106.here hx rfl (hb hby at_558) rfl k) ?_
  show W (T0c106.setTop (mkF m 560 #[.val (.long q0), .second, .val (.long q1), .second, .val (.long q2), .second, .val (.long q3), .second, .val (.int p4), .val (.int p5), .val (.int u0_1), .val (.int u0_3), .val (.ref b04), .val (.ref b077), .unset, .unset] [(.int u0_3), (.int u0_1), (.int (14 : Int32)), (.long q1), (.long q0), (.long ((((((((((((((ftm q0 q1 (0 : Int32) u0_1 u0_3) + (ftm q0 q1 (1 : Int32) u0_1 u0_3)) + (ftm q0 q1 (2 : Int32) u0_1 u0_3)) + (ftm q0 q1 (3 : Int32) u0_1 u0_3)) + (ftm q0 q1 (4 : Int32) u0_1 u0_3)) + (ftm q0 q1 (5 : Int32) u0_1 u0_3)) + (ftm q0 q1 (6 : Int32) u0_1 u0_3)) + (ftm q0 q1 (7 : Int32) u0_1 u0_3)) + (ftm q0 q1 (8 : Int32) u0_1 u0_3)) + (ftm q0 q1 (9 : Int32) u0_1 u0_3)) + (ftm q0 q1 (10 : Int32) u0_1 u0_3)) + (ftm q0 q1 (11 : Int32) u0_1 u0_3)) + (ftm q0 q1 (12 : Int32) u0_1 u0_3)) + (ftm q0 q1 (13 : Int32) u0_1 u0_3)))]))
  obtain ⟨_, _, ⟨T0c108, L0c108, k0c108, n0c108⟩, -, X0c108, ⟨Lc0c108, hQ0c108, l0c108, y0c108, z0c108⟩, st0c108⟩ := Jvm.LawKit.callS X0c106 hx (y := (⟨"com/example/fieldgate/fieldgate/record/DigitsValuePinLaw", "term", "(JJIII)J"⟩ : MethodName)) hown (mvT hZ (hw _ (List.mem_of_getElem? (i := 39) rfl))) (mvT hZ (hw _ (List.mem_of_getElem? (i := 40) rfl))) (mvT hZ (hw _ (List.mem_of_getElem? (i := 4) rfl))) (mvT hZ (hw _ (List.mem_of_getElem? (i := 41) rfl))) (by decide) (backOf (W := 2) (rmtm l Z aa hw [] q0 q1 (14 : Int32) u0_1 u0_3  h0c106 n0 Z0c106 hf0 ht18) hZ (hw _ (List.mem_of_getElem? (i := 41) rfl)) (hw _ (List.mem_of_getElem? (i := 4) rfl)) (by decide) (by decide)) (g := (mkF m 560 #[.val (.long q0), .second, .val (.long q1), .second, .val (.long q2), .second, .val (.long q3), .second, .val (.int p4), .val (.int p5), .val (.int u0_1), .val (.int u0_3), .val (.ref b04), .val (.ref b077), .unset, .unset] [(.int u0_3), (.int u0_1), (.int (14 : Int32)), (.long q1), (.long q0), (.long ((((((((((((((ftm q0 q1 (0 : Int32) u0_1 u0_3) + (ftm q0 q1 (1 : Int32) u0_1 u0_3)) + (ftm q0 q1 (2 : Int32) u0_1 u0_3)) + (ftm q0 q1 (3 : Int32) u0_1 u0_3)) + (ftm q0 q1 (4 : Int32) u0_1 u0_3)) + (ftm q0 q1 (5 : Int32) u0_1 u0_3)) + (ftm q0 q1 (6 : Int32) u0_1 u0_3)) + (ftm q0 q1 (7 : Int32) u0_1 u0_3)) + (ftm q0 q1 (8 : Int32) u0_1 u0_3)) + (ftm q0 q1 (9 : Int32) u0_1 u0_3)) + (ftm q0 q1 (10 : Int32) u0_1 u0_3)) + (ftm q0 q1 (11 : Int32) u0_1 u0_3)) + (ftm q0 q1 (12 : Int32) u0_1 u0_3)) + (ftm q0 q1 (13 : Int32) u0_1 u0_3)))])) rfl (by rw [hml]; rfl) (argsL := [(.long q0), (.long q1), (.int (14 : Int32)), (.int u0_1), (.int u0_3)]) (rest := [(.long ((((((((((((((ftm q0 q1 (0 : Int32) u0_1 u0_3) + (ftm q0 q1 (1 : Int32) u0_1 u0_3)) + (ftm q0 q1 (2 : Int32) u0_1 u0_3)) + (ftm q0 q1 (3 : Int32) u0_1 u0_3)) + (ftm q0 q1 (4 : Int32) u0_1 u0_3)) + (ftm q0 q1 (5 : Int32) u0_1 u0_3)) + (ftm q0 q1 (6 : Int32) u0_1 u0_3)) + (ftm q0 q1 (7 : Int32) u0_1 u0_3)) + (ftm q0 q1 (8 : Int32) u0_1 u0_3)) + (ftm q0 q1 (9 : Int32) u0_1 u0_3)) + (ftm q0 q1 (10 : Int32) u0_1 u0_3)) + (ftm q0 q1 (11 : Int32) u0_1 u0_3)) + (ftm q0 q1 (12 : Int32) u0_1 u0_3)) + (ftm q0 q1 (13 : Int32) u0_1 u0_3)))]) (lenOf pd0_2 rfl) rfl (by show 2 * 0 + _ ≤ _; exact Nat.le_of_eq rfl) (hb hby at_560) (fun _ _ => ⟨rfl, e0c106, (by decide : 17 + 1 ≤ _), (by decide : 292 + 18 ≤ _)⟩)
  dsimp only [Pt.U, Pt.locs, Pt.cells, Pt.slots] at X0c108 l0c108 y0c108 z0c108 st0c108 hQ0c108
  subst l0c108 y0c108 z0c108
  obtain ⟨rfl, N0c108q, Kq0c108⟩ := hQ0c108
  have N0c108 := Fr.app N0c106 N0c108q
  obtain ⟨lc0t109, X0c108, N0c108⟩ : ∃ lc, Stand p l e room_1 s m #[(.long q0), (.long q1), (.long q2), (.long q3), (.int p4), (.int p5)] below meth c T0c108 lc 18 310 ∧ Fr n0 lc := ⟨_, X0c108, N0c108⟩
  obtain ⟨h0c108, e0c108⟩ : ∃ h, T0c108.heap = h := ⟨_, rfl⟩
  rw [e0c108] at Kq0c108 
  replace V_b04 := V_b04.keep Kq0c108 nin0
  replace S_0c78 := S_0c78.keep Kq0c108 nin0 nin0
  have KK0c108 := Keep.trans KK0c106 Kq0c108 all0
  have Z0c108 := Nat.le_trans Z0c106 Kq0c108.1
  have O0c108 := O0c106.keep Kq0c108 all0
  refine stp (fun t k => st0c108 t k) ?_
  show W (T0c108.setTop (mkF m 563 #[.val (.long q0), .second, .val (.long q1), .second, .val (.long q2), .second, .val (.long q3), .second, .val (.int p4), .val (.int p5), .val (.int u0_1), .val (.int u0_3), .val (.ref b04), .val (.ref b077), .unset, .unset] [(.long (ftm q0 q1 (14 : Int32) u0_1 u0_3)), (.long ((((((((((((((ftm q0 q1 (0 : Int32) u0_1 u0_3) + (ftm q0 q1 (1 : Int32) u0_1 u0_3)) + (ftm q0 q1 (2 : Int32) u0_1 u0_3)) + (ftm q0 q1 (3 : Int32) u0_1 u0_3)) + (ftm q0 q1 (4 : Int32) u0_1 u0_3)) + (ftm q0 q1 (5 : Int32) u0_1 u0_3)) + (ftm q0 q1 (6 : Int32) u0_1 u0_3)) + (ftm q0 q1 (7 : Int32) u0_1 u0_3)) + (ftm q0 q1 (8 : Int32) u0_1 u0_3)) + (ftm q0 q1 (9 : Int32) u0_1 u0_3)) + (ftm q0 q1 (10 : Int32) u0_1 u0_3)) + (ftm q0 q1 (11 : Int32) u0_1 u0_3)) + (ftm q0 q1 (12 : Int32) u0_1 u0_3)) + (ftm q0 q1 (13 : Int32) u0_1 u0_3)))]))
  refine stp (fun t k => XS.ladd X0c108.here hx rfl (hb hby at_563) rfl k) ?_
  show W (T0c108.setTop (mkF m 564 #[.val (.long q0), .second, .val (.long q1), .second, .val (.long q2), .second, .val (.long q3), .second, .val (.int p4), .val (.int p5), .val (.int u0_1), .val (.int u0_3), .val (.ref b04), .val (.ref b077), .unset, .unset] [(.long (((((((((((((((ftm q0 q1 (0 : Int32) u0_1 u0_3) + (ftm q0 q1 (1 : Int32) u0_1 u0_3)) + (ftm q0 q1 (2 : Int32) u0_1 u0_3)) + (ftm q0 q1 (3 : Int32) u0_1 u0_3)) + (ftm q0 q1 (4 : Int32) u0_1 u0_3)) + (ftm q0 q1 (5 : Int32) u0_1 u0_3)) + (ftm q0 q1 (6 : Int32) u0_1 u0_3)) + (ftm q0 q1 (7 : Int32) u0_1 u0_3)) + (ftm q0 q1 (8 : Int32) u0_1 u0_3)) + (ftm q0 q1 (9 : Int32) u0_1 u0_3)) + (ftm q0 q1 (10 : Int32) u0_1 u0_3)) + (ftm q0 q1 (11 : Int32) u0_1 u0_3)) + (ftm q0 q1 (12 : Int32) u0_1 u0_3)) + (ftm q0 q1 (13 : Int32) u0_1 u0_3)) + (ftm q0 q1 (14 : Int32) u0_1 u0_3)))]))
  refine stp (fun t k => XS.lloadN X0c108.here hx rfl (hb hby at_564) rfl k) ?_
  show W (T0c108.setTop (mkF m 565 #[.val (.long q0), .second, .val (.long q1), .second, .val (.long q2), .second, .val (.long q3), .second, .val (.int p4), .val (.int p5), .val (.int u0_1), .val (.int u0_3), .val (.ref b04), .val (.ref b077), .unset, .unset] [(.long q0), (.long (((((((((((((((ftm q0 q1 (0 : Int32) u0_1 u0_3) + (ftm q0 q1 (1 : Int32) u0_1 u0_3)) + (ftm q0 q1 (2 : Int32) u0_1 u0_3)) + (ftm q0 q1 (3 : Int32) u0_1 u0_3)) + (ftm q0 q1 (4 : Int32) u0_1 u0_3)) + (ftm q0 q1 (5 : Int32) u0_1 u0_3)) + (ftm q0 q1 (6 : Int32) u0_1 u0_3)) + (ftm q0 q1 (7 : Int32) u0_1 u0_3)) + (ftm q0 q1 (8 : Int32) u0_1 u0_3)) + (ftm q0 q1 (9 : Int32) u0_1 u0_3)) + (ftm q0 q1 (10 : Int32) u0_1 u0_3)) + (ftm q0 q1 (11 : Int32) u0_1 u0_3)) + (ftm q0 q1 (12 : Int32) u0_1 u0_3)) + (ftm q0 q1 (13 : Int32) u0_1 u0_3)) + (ftm q0 q1 (14 : Int32) u0_1 u0_3)))]))
  refine stp (fun t k => XS.lloadN X0c108.here hx rfl (hb hby at_565) rfl k) ?_
  show W (T0c108.setTop (mkF m 566 #[.val (.long q0), .second, .val (.long q1), .second, .val (.long q2), .second, .val (.long q3), .second, .val (.int p4), .val (.int p5), .val (.int u0_1), .val (.int u0_3), .val (.ref b04), .val (.ref b077), .unset, .unset] [(.long q1), (.long q0), (.long (((((((((((((((ftm q0 q1 (0 : Int32) u0_1 u0_3) + (ftm q0 q1 (1 : Int32) u0_1 u0_3)) + (ftm q0 q1 (2 : Int32) u0_1 u0_3)) + (ftm q0 q1 (3 : Int32) u0_1 u0_3)) + (ftm q0 q1 (4 : Int32) u0_1 u0_3)) + (ftm q0 q1 (5 : Int32) u0_1 u0_3)) + (ftm q0 q1 (6 : Int32) u0_1 u0_3)) + (ftm q0 q1 (7 : Int32) u0_1 u0_3)) + (ftm q0 q1 (8 : Int32) u0_1 u0_3)) + (ftm q0 q1 (9 : Int32) u0_1 u0_3)) + (ftm q0 q1 (10 : Int32) u0_1 u0_3)) + (ftm q0 q1 (11 : Int32) u0_1 u0_3)) + (ftm q0 q1 (12 : Int32) u0_1 u0_3)) + (ftm q0 q1 (13 : Int32) u0_1 u0_3)) + (ftm q0 q1 (14 : Int32) u0_1 u0_3)))]))
  refine stp (fun t k => XS.bipush X0c108.here hx rfl (hb hby at_566) k) ?_
  show W (T0c108.setTop (mkF m 568 #[.val (.long q0), .second, .val (.long q1), .second, .val (.long q2), .second, .val (.long q3), .second, .val (.int p4), .val (.int p5), .val (.int u0_1), .val (.int u0_3), .val (.ref b04), .val (.ref b077), .unset, .unset] [(.int (15 : Int32)), (.long q1), (.long q0), (.long (((((((((((((((ftm q0 q1 (0 : Int32) u0_1 u0_3) + (ftm q0 q1 (1 : Int32) u0_1 u0_3)) + (ftm q0 q1 (2 : Int32) u0_1 u0_3)) + (ftm q0 q1 (3 : Int32) u0_1 u0_3)) + (ftm q0 q1 (4 : Int32) u0_1 u0_3)) + (ftm q0 q1 (5 : Int32) u0_1 u0_3)) + (ftm q0 q1 (6 : Int32) u0_1 u0_3)) + (ftm q0 q1 (7 : Int32) u0_1 u0_3)) + (ftm q0 q1 (8 : Int32) u0_1 u0_3)) + (ftm q0 q1 (9 : Int32) u0_1 u0_3)) + (ftm q0 q1 (10 : Int32) u0_1 u0_3)) + (ftm q0 q1 (11 : Int32) u0_1 u0_3)) + (ftm q0 q1 (12 : Int32) u0_1 u0_3)) + (ftm q0 q1 (13 : Int32) u0_1 u0_3)) + (ftm q0 q1 (14 : Int32) u0_1 u0_3)))]))
  refine stp (fun t k => XS.iload X0c108.here hx rfl (hb hby at_568) rfl k) ?_
  show W (T0c108.setTop (mkF m 570 #[.val (.long q0), .second, .val (.long q1), .second, .val (.long q2), .second, .val (.long q3), .second, .val (.int p4), .val (.int p5), .val (.int u0_1), .val (.int u0_3), .val (.ref b04), .val (.ref b077), .unset, .unset] [(.int u0_1), (.int (15 : Int32)), (.long q1), (.long q0), (.long (((((((((((((((ftm q0 q1 (0 : Int32) u0_1 u0_3) + (ftm q0 q1 (1 : Int32) u0_1 u0_3)) + (ftm q0 q1 (2 : Int32) u0_1 u0_3)) + (ftm q0 q1 (3 : Int32) u0_1 u0_3)) + (ftm q0 q1 (4 : Int32) u0_1 u0_3)) + (ftm q0 q1 (5 : Int32) u0_1 u0_3)) + (ftm q0 q1 (6 : Int32) u0_1 u0_3)) + (ftm q0 q1 (7 : Int32) u0_1 u0_3)) + (ftm q0 q1 (8 : Int32) u0_1 u0_3)) + (ftm q0 q1 (9 : Int32) u0_1 u0_3)) + (ftm q0 q1 (10 : Int32) u0_1 u0_3)) + (ftm q0 q1 (11 : Int32) u0_1 u0_3)) + (ftm q0 q1 (12 : Int32) u0_1 u0_3)) + (ftm q0 q1 (13 : Int32) u0_1 u0_3)) + (ftm q0 q1 (14 : Int32) u0_1 u0_3)))]))
  refine stp (fun t k => XS.iload X0c108.here hx rfl (hb hby at_570) rfl k) ?_
  show W (T0c108.setTop (mkF m 572 #[.val (.long q0), .second, .val (.long q1), .second, .val (.long q2), .second, .val (.long q3), .second, .val (.int p4), .val (.int p5), .val (.int u0_1), .val (.int u0_3), .val (.ref b04), .val (.ref b077), .unset, .unset] [(.int u0_3), (.int u0_1), (.int (15 : Int32)), (.long q1), (.long q0), (.long (((((((((((((((ftm q0 q1 (0 : Int32) u0_1 u0_3) + (ftm q0 q1 (1 : Int32) u0_1 u0_3)) + (ftm q0 q1 (2 : Int32) u0_1 u0_3)) + (ftm q0 q1 (3 : Int32) u0_1 u0_3)) + (ftm q0 q1 (4 : Int32) u0_1 u0_3)) + (ftm q0 q1 (5 : Int32) u0_1 u0_3)) + (ftm q0 q1 (6 : Int32) u0_1 u0_3)) + (ftm q0 q1 (7 : Int32) u0_1 u0_3)) + (ftm q0 q1 (8 : Int32) u0_1 u0_3)) + (ftm q0 q1 (9 : Int32) u0_1 u0_3)) + (ftm q0 q1 (10 : Int32) u0_1 u0_3)) + (ftm q0 q1 (11 : Int32) u0_1 u0_3)) + (ftm q0 q1 (12 : Int32) u0_1 u0_3)) + (ftm q0 q1 (13 : Int32) u0_1 u0_3)) + (ftm q0 q1 (14 : Int32) u0_1 u0_3)))]))
  obtain ⟨_, _, ⟨T0c110, L0c110, k0c110, n0c110⟩, -, X0c110, ⟨Lc0c110, hQ0c110, l0c110, y0c110, z0c110⟩, st0c110⟩ := Jvm.LawKit.callS X0c108 hx (y := (⟨"com/example/fieldgate/fieldgate/record/DigitsValuePinLaw", "term", "(JJIII)J"⟩ : MethodName)) hown (mvT hZ (hw _ (List.mem_of_getElem? (i := 39) rfl))) (mvT hZ (hw _ (List.mem_of_getElem? (i := 40) rfl))) (mvT hZ (hw _ (List.mem_of_getElem? (i := 4) rfl))) (mvT hZ (hw _ (List.mem_of_getElem? (i := 41) rfl))) (by decide) (backOf (W := 2) (rmtm l Z aa hw [] q0 q1 (15 : Int32) u0_1 u0_3  h0c108 n0 Z0c108 hf0 ht18) hZ (hw _ (List.mem_of_getElem? (i := 41) rfl)) (hw _ (List.mem_of_getElem? (i := 4) rfl)) (by decide) (by decide)) (g := (mkF m 572 #[.val (.long q0), .second, .val (.long q1), .second, .val (.long q2), .second, .val (.long q3), .second, .val (.int p4), .val (.int p5), .val (.int u0_1), .val (.int u0_3), .val (.ref b04), .val (.ref b077), .unset, .unset] [(.int u0_3), (.int u0_1), (.int (15 : Int32)), (.long q1), (.long q0), (.long (((((((((((((((ftm q0 q1 (0 : Int32) u0_1 u0_3) + (ftm q0 q1 (1 : Int32) u0_1 u0_3)) + (ftm q0 q1 (2 : Int32) u0_1 u0_3)) + (ftm q0 q1 (3 : Int32) u0_1 u0_3)) + (ftm q0 q1 (4 : Int32) u0_1 u0_3)) + (ftm q0 q1 (5 : Int32) u0_1 u0_3)) + (ftm q0 q1 (6 : Int32) u0_1 u0_3)) + (ftm q0 q1 (7 : Int32) u0_1 u0_3)) + (ftm q0 q1 (8 : Int32) u0_1 u0_3)) + (ftm q0 q1 (9 : Int32) u0_1 u0_3)) + (ftm q0 q1 (10 : Int32) u0_1 u0_3)) + (ftm q0 q1 (11 : Int32) u0_1 u0_3)) + (ftm q0 q1 (12 : Int32) u0_1 u0_3)) + (ftm q0 q1 (13 : Int32) u0_1 u0_3)) + (ftm q0 q1 (14 : Int32) u0_1 u0_3)))])) rfl (by rw [hml]; rfl) (argsL := [(.long q0), (.long q1), (.int (15 : Int32)), (.int u0_1), (.int u0_3)]) (rest := [(.long (((((((((((((((ftm q0 q1 (0 : Int32) u0_1 u0_3) + (ftm q0 q1 (1 : Int32) u0_1 u0_3)) + (ftm q0 q1 (2 : Int32) u0_1 u0_3)) + (ftm q0 q1 (3 : Int32) u0_1 u0_3)) + (ftm q0 q1 (4 : Int32) u0_1 u0_3)) + (ftm q0 q1 (5 : Int32) u0_1 u0_3)) + (ftm q0 q1 (6 : Int32) u0_1 u0_3)) + (ftm q0 q1 (7 : Int32) u0_1 u0_3)) + (ftm q0 q1 (8 : Int32) u0_1 u0_3)) + (ftm q0 q1 (9 : Int32) u0_1 u0_3)) + (ftm q0 q1 (10 : Int32) u0_1 u0_3)) + (ftm q0 q1 (11 : Int32) u0_1 u0_3)) + (ftm q0 q1 (12 : Int32) u0_1 u0_3)) + (ftm q0 q1 (13 : Int32) u0_1 u0_3)) + (ftm q0 q1 (14 : Int32) u0_1 u0_3)))]) (lenOf pd0_2 rfl) rfl (by show 2 * 0 + _ ≤ _; exact Nat.le_of_eq rfl) (hb hby at_572) (fun _ _ => ⟨rfl, e0c108, (by decide : 18 + 1 ≤ _), (by decide : 310 + 18 ≤ _)⟩)
  dsimp only [Pt.U, Pt.locs, Pt.cells, Pt.slots] at X0c110 l0c110 y0c110 z0c110 st0c110 hQ0c110
  subst l0c110 y0c110 z0c110
  obtain ⟨rfl, N0c110q, Kq0c110⟩ := hQ0c110
  have N0c110 := Fr.app N0c108 N0c110q
  obtain ⟨lc0t111, X0c110, N0c110⟩ : ∃ lc, Stand p l e room_1 s m #[(.long q0), (.long q1), (.long q2), (.long q3), (.int p4), (.int p5)] below meth c T0c110 lc 19 328 ∧ Fr n0 lc := ⟨_, X0c110, N0c110⟩
  obtain ⟨h0c110, e0c110⟩ : ∃ h, T0c110.heap = h := ⟨_, rfl⟩
  rw [e0c110] at Kq0c110 
  replace V_b04 := V_b04.keep Kq0c110 nin0
  replace S_0c78 := S_0c78.keep Kq0c110 nin0 nin0
  have KK0c110 := Keep.trans KK0c108 Kq0c110 all0
  have Z0c110 := Nat.le_trans Z0c108 Kq0c110.1
  have O0c110 := O0c108.keep Kq0c110 all0
  refine stp (fun t k => st0c110 t k) ?_
  show W (T0c110.setTop (mkF m 575 #[.val (.long q0), .second, .val (.long q1), .second, .val (.long q2), .second, .val (.long q3), .second, .val (.int p4), .val (.int p5), .val (.int u0_1), .val (.int u0_3), .val (.ref b04), .val (.ref b077), .unset, .unset] [(.long (ftm q0 q1 (15 : Int32) u0_1 u0_3)), (.long (((((((((((((((ftm q0 q1 (0 : Int32) u0_1 u0_3) + (ftm q0 q1 (1 : Int32) u0_1 u0_3)) + (ftm q0 q1 (2 : Int32) u0_1 u0_3)) + (ftm q0 q1 (3 : Int32) u0_1 u0_3)) + (ftm q0 q1 (4 : Int32) u0_1 u0_3)) + (ftm q0 q1 (5 : Int32) u0_1 u0_3)) + (ftm q0 q1 (6 : Int32) u0_1 u0_3)) + (ftm q0 q1 (7 : Int32) u0_1 u0_3)) + (ftm q0 q1 (8 : Int32) u0_1 u0_3)) + (ftm q0 q1 (9 : Int32) u0_1 u0_3)) + (ftm q0 q1 (10 : Int32) u0_1 u0_3)) + (ftm q0 q1 (11 : Int32) u0_1 u0_3)) + (ftm q0 q1 (12 : Int32) u0_1 u0_3)) + (ftm q0 q1 (13 : Int32) u0_1 u0_3)) + (ftm q0 q1 (14 : Int32) u0_1 u0_3)))]))
  refine stp (fun t k => XS.ladd X0c110.here hx rfl (hb hby at_575) rfl k) ?_
  show W (T0c110.setTop (mkF m 576 #[.val (.long q0), .second, .val (.long q1), .second, .val (.long q2), .second, .val (.long q3), .second, .val (.int p4), .val (.int p5), .val (.int u0_1), .val (.int u0_3), .val (.ref b04), .val (.ref b077), .unset, .unset] [(.long ((((((((((((((((ftm q0 q1 (0 : Int32) u0_1 u0_3) + (ftm q0 q1 (1 : Int32) u0_1 u0_3)) + (ftm q0 q1 (2 : Int32) u0_1 u0_3)) + (ftm q0 q1 (3 : Int32) u0_1 u0_3)) + (ftm q0 q1 (4 : Int32) u0_1 u0_3)) + (ftm q0 q1 (5 : Int32) u0_1 u0_3)) + (ftm q0 q1 (6 : Int32) u0_1 u0_3)) + (ftm q0 q1 (7 : Int32) u0_1 u0_3)) + (ftm q0 q1 (8 : Int32) u0_1 u0_3)) + (ftm q0 q1 (9 : Int32) u0_1 u0_3)) + (ftm q0 q1 (10 : Int32) u0_1 u0_3)) + (ftm q0 q1 (11 : Int32) u0_1 u0_3)) + (ftm q0 q1 (12 : Int32) u0_1 u0_3)) + (ftm q0 q1 (13 : Int32) u0_1 u0_3)) + (ftm q0 q1 (14 : Int32) u0_1 u0_3)) + (ftm q0 q1 (15 : Int32) u0_1 u0_3)))]))
  refine stp (fun t k => XS.lloadN X0c110.here hx rfl (hb hby at_576) rfl k) ?_
  show W (T0c110.setTop (mkF m 577 #[.val (.long q0), .second, .val (.long q1), .second, .val (.long q2), .second, .val (.long q3), .second, .val (.int p4), .val (.int p5), .val (.int u0_1), .val (.int u0_3), .val (.ref b04), .val (.ref b077), .unset, .unset] [(.long q0), (.long ((((((((((((((((ftm q0 q1 (0 : Int32) u0_1 u0_3) + (ftm q0 q1 (1 : Int32) u0_1 u0_3)) + (ftm q0 q1 (2 : Int32) u0_1 u0_3)) + (ftm q0 q1 (3 : Int32) u0_1 u0_3)) + (ftm q0 q1 (4 : Int32) u0_1 u0_3)) + (ftm q0 q1 (5 : Int32) u0_1 u0_3)) + (ftm q0 q1 (6 : Int32) u0_1 u0_3)) + (ftm q0 q1 (7 : Int32) u0_1 u0_3)) + (ftm q0 q1 (8 : Int32) u0_1 u0_3)) + (ftm q0 q1 (9 : Int32) u0_1 u0_3)) + (ftm q0 q1 (10 : Int32) u0_1 u0_3)) + (ftm q0 q1 (11 : Int32) u0_1 u0_3)) + (ftm q0 q1 (12 : Int32) u0_1 u0_3)) + (ftm q0 q1 (13 : Int32) u0_1 u0_3)) + (ftm q0 q1 (14 : Int32) u0_1 u0_3)) + (ftm q0 q1 (15 : Int32) u0_1 u0_3)))]))
  refine stp (fun t k => XS.lloadN X0c110.here hx rfl (hb hby at_577) rfl k) ?_
  show W (T0c110.setTop (mkF m 578 #[.val (.long q0), .second, .val (.long q1), .second, .val (.long q2), .second, .val (.long q3), .second, .val (.int p4), .val (.int p5), .val (.int u0_1), .val (.int u0_3), .val (.ref b04), .val (.ref b077), .unset, .unset] [(.long q1), (.long q0), (.long ((((((((((((((((ftm q0 q1 (0 : Int32) u0_1 u0_3) + (ftm q0 q1 (1 : Int32) u0_1 u0_3)) + (ftm q0 q1 (2 : Int32) u0_1 u0_3)) + (ftm q0 q1 (3 : Int32) u0_1 u0_3)) + (ftm q0 q1 (4 : Int32) u0_1 u0_3)) + (ftm q0 q1 (5 : Int32) u0_1 u0_3)) + (ftm q0 q1 (6 : Int32) u0_1 u0_3)) + (ftm q0 q1 (7 : Int32) u0_1 u0_3)) + (ftm q0 q1 (8 : Int32) u0_1 u0_3)) + (ftm q0 q1 (9 : Int32) u0_1 u0_3)) + (ftm q0 q1 (10 : Int32) u0_1 u0_3)) + (ftm q0 q1 (11 : Int32) u0_1 u0_3)) + (ftm q0 q1 (12 : Int32) u0_1 u0_3)) + (ftm q0 q1 (13 : Int32) u0_1 u0_3)) + (ftm q0 q1 (14 : Int32) u0_1 u0_3)) + (ftm q0 q1 (15 : Int32) u0_1 u0_3)))]))
  refine stp (fun t k => XS.bipush X0c110.here hx rfl (hb hby at_578) k) ?_
  show W (T0c110.setTop (mkF m 580 #[.val (.long q0), .second, .val (.long q1), .second, .val (.long q2), .second, .val (.long q3), .second, .val (.int p4), .val (.int p5), .val (.int u0_1), .val (.int u0_3), .val (.ref b04), .val (.ref b077), .unset, .unset] [(.int (16 : Int32)), (.long q1), (.long q0), (.long ((((((((((((((((ftm q0 q1 (0 : Int32) u0_1 u0_3) + (ftm q0 q1 (1 : Int32) u0_1 u0_3)) + (ftm q0 q1 (2 : Int32) u0_1 u0_3)) + (ftm q0 q1 (3 : Int32) u0_1 u0_3)) + (ftm q0 q1 (4 : Int32) u0_1 u0_3)) + (ftm q0 q1 (5 : Int32) u0_1 u0_3)) + (ftm q0 q1 (6 : Int32) u0_1 u0_3)) + (ftm q0 q1 (7 : Int32) u0_1 u0_3)) + (ftm q0 q1 (8 : Int32) u0_1 u0_3)) + (ftm q0 q1 (9 : Int32) u0_1 u0_3)) + (ftm q0 q1 (10 : Int32) u0_1 u0_3)) + (ftm q0 q1 (11 : Int32) u0_1 u0_3)) + (ftm q0 q1 (12 : Int32) u0_1 u0_3)) + (ftm q0 q1 (13 : Int32) u0_1 u0_3)) + (ftm q0 q1 (14 : Int32) u0_1 u0_3)) + (ftm q0 q1 (15 : Int32) u0_1 u0_3)))]))
  refine stp (fun t k => XS.iload X0c110.here hx rfl (hb hby at_580) rfl k) ?_
  show W (T0c110.setTop (mkF m 582 #[.val (.long q0), .second, .val (.long q1), .second, .val (.long q2), .second, .val (.long q3), .second, .val (.int p4), .val (.int p5), .val (.int u0_1), .val (.int u0_3), .val (.ref b04), .val (.ref b077), .unset, .unset] [(.int u0_1), (.int (16 : Int32)), (.long q1), (.long q0), (.long ((((((((((((((((ftm q0 q1 (0 : Int32) u0_1 u0_3) + (ftm q0 q1 (1 : Int32) u0_1 u0_3)) + (ftm q0 q1 (2 : Int32) u0_1 u0_3)) + (ftm q0 q1 (3 : Int32) u0_1 u0_3)) + (ftm q0 q1 (4 : Int32) u0_1 u0_3)) + (ftm q0 q1 (5 : Int32) u0_1 u0_3)) + (ftm q0 q1 (6 : Int32) u0_1 u0_3)) + (ftm q0 q1 (7 : Int32) u0_1 u0_3)) + (ftm q0 q1 (8 : Int32) u0_1 u0_3)) + (ftm q0 q1 (9 : Int32) u0_1 u0_3)) + (ftm q0 q1 (10 : Int32) u0_1 u0_3)) + (ftm q0 q1 (11 : Int32) u0_1 u0_3)) + (ftm q0 q1 (12 : Int32) u0_1 u0_3)) + (ftm q0 q1 (13 : Int32) u0_1 u0_3)) + (ftm q0 q1 (14 : Int32) u0_1 u0_3)) + (ftm q0 q1 (15 : Int32) u0_1 u0_3)))]))
  refine stp (fun t k => XS.iload X0c110.here hx rfl (hb hby at_582) rfl k) ?_
  show W (T0c110.setTop (mkF m 584 #[.val (.long q0), .second, .val (.long q1), .second, .val (.long q2), .second, .val (.long q3), .second, .val (.int p4), .val (.int p5), .val (.int u0_1), .val (.int u0_3), .val (.ref b04), .val (.ref b077), .unset, .unset] [(.int u0_3), (.int u0_1), (.int (16 : Int32)), (.long q1), (.long q0), (.long ((((((((((((((((ftm q0 q1 (0 : Int32) u0_1 u0_3) + (ftm q0 q1 (1 : Int32) u0_1 u0_3)) + (ftm q0 q1 (2 : Int32) u0_1 u0_3)) + (ftm q0 q1 (3 : Int32) u0_1 u0_3)) + (ftm q0 q1 (4 : Int32) u0_1 u0_3)) + (ftm q0 q1 (5 : Int32) u0_1 u0_3)) + (ftm q0 q1 (6 : Int32) u0_1 u0_3)) + (ftm q0 q1 (7 : Int32) u0_1 u0_3)) + (ftm q0 q1 (8 : Int32) u0_1 u0_3)) + (ftm q0 q1 (9 : Int32) u0_1 u0_3)) + (ftm q0 q1 (10 : Int32) u0_1 u0_3)) + (ftm q0 q1 (11 : Int32) u0_1 u0_3)) + (ftm q0 q1 (12 : Int32) u0_1 u0_3)) + (ftm q0 q1 (13 : Int32) u0_1 u0_3)) + (ftm q0 q1 (14 : Int32) u0_1 u0_3)) + (ftm q0 q1 (15 : Int32) u0_1 u0_3)))]))
  obtain ⟨_, _, ⟨T0c112, L0c112, k0c112, n0c112⟩, -, X0c112, ⟨Lc0c112, hQ0c112, l0c112, y0c112, z0c112⟩, st0c112⟩ := Jvm.LawKit.callS X0c110 hx (y := (⟨"com/example/fieldgate/fieldgate/record/DigitsValuePinLaw", "term", "(JJIII)J"⟩ : MethodName)) hown (mvT hZ (hw _ (List.mem_of_getElem? (i := 39) rfl))) (mvT hZ (hw _ (List.mem_of_getElem? (i := 40) rfl))) (mvT hZ (hw _ (List.mem_of_getElem? (i := 4) rfl))) (mvT hZ (hw _ (List.mem_of_getElem? (i := 41) rfl))) (by decide) (backOf (W := 2) (rmtm l Z aa hw [] q0 q1 (16 : Int32) u0_1 u0_3  h0c110 n0 Z0c110 hf0 ht18) hZ (hw _ (List.mem_of_getElem? (i := 41) rfl)) (hw _ (List.mem_of_getElem? (i := 4) rfl)) (by decide) (by decide)) (g := (mkF m 584 #[.val (.long q0), .second, .val (.long q1), .second, .val (.long q2), .second, .val (.long q3), .second, .val (.int p4), .val (.int p5), .val (.int u0_1), .val (.int u0_3), .val (.ref b04), .val (.ref b077), .unset, .unset] [(.int u0_3), (.int u0_1), (.int (16 : Int32)), (.long q1), (.long q0), (.long ((((((((((((((((ftm q0 q1 (0 : Int32) u0_1 u0_3) + (ftm q0 q1 (1 : Int32) u0_1 u0_3)) + (ftm q0 q1 (2 : Int32) u0_1 u0_3)) + (ftm q0 q1 (3 : Int32) u0_1 u0_3)) + (ftm q0 q1 (4 : Int32) u0_1 u0_3)) + (ftm q0 q1 (5 : Int32) u0_1 u0_3)) + (ftm q0 q1 (6 : Int32) u0_1 u0_3)) + (ftm q0 q1 (7 : Int32) u0_1 u0_3)) + (ftm q0 q1 (8 : Int32) u0_1 u0_3)) + (ftm q0 q1 (9 : Int32) u0_1 u0_3)) + (ftm q0 q1 (10 : Int32) u0_1 u0_3)) + (ftm q0 q1 (11 : Int32) u0_1 u0_3)) + (ftm q0 q1 (12 : Int32) u0_1 u0_3)) + (ftm q0 q1 (13 : Int32) u0_1 u0_3)) + (ftm q0 q1 (14 : Int32) u0_1 u0_3)) + (ftm q0 q1 (15 : Int32) u0_1 u0_3)))])) rfl (by rw [hml]; rfl) (argsL := [(.long q0), (.long q1), (.int (16 : Int32)), (.int u0_1), (.int u0_3)]) (rest := [(.long ((((((((((((((((ftm q0 q1 (0 : Int32) u0_1 u0_3) + (ftm q0 q1 (1 : Int32) u0_1 u0_3)) + (ftm q0 q1 (2 : Int32) u0_1 u0_3)) + (ftm q0 q1 (3 : Int32) u0_1 u0_3)) + (ftm q0 q1 (4 : Int32) u0_1 u0_3)) + (ftm q0 q1 (5 : Int32) u0_1 u0_3)) + (ftm q0 q1 (6 : Int32) u0_1 u0_3)) + (ftm q0 q1 (7 : Int32) u0_1 u0_3)) + (ftm q0 q1 (8 : Int32) u0_1 u0_3)) + (ftm q0 q1 (9 : Int32) u0_1 u0_3)) + (ftm q0 q1 (10 : Int32) u0_1 u0_3)) + (ftm q0 q1 (11 : Int32) u0_1 u0_3)) + (ftm q0 q1 (12 : Int32) u0_1 u0_3)) + (ftm q0 q1 (13 : Int32) u0_1 u0_3)) + (ftm q0 q1 (14 : Int32) u0_1 u0_3)) + (ftm q0 q1 (15 : Int32) u0_1 u0_3)))]) (lenOf pd0_2 rfl) rfl (by show 2 * 0 + _ ≤ _; exact Nat.le_of_eq rfl) (hb hby at_584) (fun _ _ => ⟨rfl, e0c110, (by decide : 19 + 1 ≤ _), (by decide : 328 + 18 ≤ _)⟩)
  dsimp only [Pt.U, Pt.locs, Pt.cells, Pt.slots] at X0c112 l0c112 y0c112 z0c112 st0c112 hQ0c112
  subst l0c112 y0c112 z0c112
  obtain ⟨rfl, N0c112q, Kq0c112⟩ := hQ0c112
  have N0c112 := Fr.app N0c110 N0c112q
  obtain ⟨lc0t113, X0c112, N0c112⟩ : ∃ lc, Stand p l e room_1 s m #[(.long q0), (.long q1), (.long q2), (.long q3), (.int p4), (.int p5)] below meth c T0c112 lc 20 346 ∧ Fr n0 lc := ⟨_, X0c112, N0c112⟩
  obtain ⟨h0c112, e0c112⟩ : ∃ h, T0c112.heap = h := ⟨_, rfl⟩
  rw [e0c112] at Kq0c112 
  replace V_b04 := V_b04.keep Kq0c112 nin0
  replace S_0c78 := S_0c78.keep Kq0c112 nin0 nin0
  have KK0c112 := Keep.trans KK0c110 Kq0c112 all0
  have Z0c112 := Nat.le_trans Z0c110 Kq0c112.1
  have O0c112 := O0c110.keep Kq0c112 all0
  refine stp (fun t k => st0c112 t k) ?_
  show W (T0c112.setTop (mkF m 587 #[.val (.long q0), .second, .val (.long q1), .second, .val (.long q2), .second, .val (.long q3), .second, .val (.int p4), .val (.int p5), .val (.int u0_1), .val (.int u0_3), .val (.ref b04), .val (.ref b077), .unset, .unset] [(.long (ftm q0 q1 (16 : Int32) u0_1 u0_3)), (.long ((((((((((((((((ftm q0 q1 (0 : Int32) u0_1 u0_3) + (ftm q0 q1 (1 : Int32) u0_1 u0_3)) + (ftm q0 q1 (2 : Int32) u0_1 u0_3)) + (ftm q0 q1 (3 : Int32) u0_1 u0_3)) + (ftm q0 q1 (4 : Int32) u0_1 u0_3)) + (ftm q0 q1 (5 : Int32) u0_1 u0_3)) + (ftm q0 q1 (6 : Int32) u0_1 u0_3)) + (ftm q0 q1 (7 : Int32) u0_1 u0_3)) + (ftm q0 q1 (8 : Int32) u0_1 u0_3)) + (ftm q0 q1 (9 : Int32) u0_1 u0_3)) + (ftm q0 q1 (10 : Int32) u0_1 u0_3)) + (ftm q0 q1 (11 : Int32) u0_1 u0_3)) + (ftm q0 q1 (12 : Int32) u0_1 u0_3)) + (ftm q0 q1 (13 : Int32) u0_1 u0_3)) + (ftm q0 q1 (14 : Int32) u0_1 u0_3)) + (ftm q0 q1 (15 : Int32) u0_1 u0_3)))]))
  refine stp (fun t k => XS.ladd X0c112.here hx rfl (hb hby at_587) rfl k) ?_
  show W (T0c112.setTop (mkF m 588 #[.val (.long q0), .second, .val (.long q1), .second, .val (.long q2), .second, .val (.long q3), .second, .val (.int p4), .val (.int p5), .val (.int u0_1), .val (.int u0_3), .val (.ref b04), .val (.ref b077), .unset, .unset] [(.long (((((((((((((((((ftm q0 q1 (0 : Int32) u0_1 u0_3) + (ftm q0 q1 (1 : Int32) u0_1 u0_3)) + (ftm q0 q1 (2 : Int32) u0_1 u0_3)) + (ftm q0 q1 (3 : Int32) u0_1 u0_3)) + (ftm q0 q1 (4 : Int32) u0_1 u0_3)) + (ftm q0 q1 (5 : Int32) u0_1 u0_3)) + (ftm q0 q1 (6 : Int32) u0_1 u0_3)) + (ftm q0 q1 (7 : Int32) u0_1 u0_3)) + (ftm q0 q1 (8 : Int32) u0_1 u0_3)) + (ftm q0 q1 (9 : Int32) u0_1 u0_3)) + (ftm q0 q1 (10 : Int32) u0_1 u0_3)) + (ftm q0 q1 (11 : Int32) u0_1 u0_3)) + (ftm q0 q1 (12 : Int32) u0_1 u0_3)) + (ftm q0 q1 (13 : Int32) u0_1 u0_3)) + (ftm q0 q1 (14 : Int32) u0_1 u0_3)) + (ftm q0 q1 (15 : Int32) u0_1 u0_3)) + (ftm q0 q1 (16 : Int32) u0_1 u0_3)))]))
  refine stp (fun t k => XS.lloadN X0c112.here hx rfl (hb hby at_588) rfl k) ?_
  show W (T0c112.setTop (mkF m 589 #[.val (.long q0), .second, .val (.long q1), .second, .val (.long q2), .second, .val (.long q3), .second, .val (.int p4), .val (.int p5), .val (.int u0_1), .val (.int u0_3), .val (.ref b04), .val (.ref b077), .unset, .unset] [(.long q0), (.long (((((((((((((((((ftm q0 q1 (0 : Int32) u0_1 u0_3) + (ftm q0 q1 (1 : Int32) u0_1 u0_3)) + (ftm q0 q1 (2 : Int32) u0_1 u0_3)) + (ftm q0 q1 (3 : Int32) u0_1 u0_3)) + (ftm q0 q1 (4 : Int32) u0_1 u0_3)) + (ftm q0 q1 (5 : Int32) u0_1 u0_3)) + (ftm q0 q1 (6 : Int32) u0_1 u0_3)) + (ftm q0 q1 (7 : Int32) u0_1 u0_3)) + (ftm q0 q1 (8 : Int32) u0_1 u0_3)) + (ftm q0 q1 (9 : Int32) u0_1 u0_3)) + (ftm q0 q1 (10 : Int32) u0_1 u0_3)) + (ftm q0 q1 (11 : Int32) u0_1 u0_3)) + (ftm q0 q1 (12 : Int32) u0_1 u0_3)) + (ftm q0 q1 (13 : Int32) u0_1 u0_3)) + (ftm q0 q1 (14 : Int32) u0_1 u0_3)) + (ftm q0 q1 (15 : Int32) u0_1 u0_3)) + (ftm q0 q1 (16 : Int32) u0_1 u0_3)))]))
  refine stp (fun t k => XS.lloadN X0c112.here hx rfl (hb hby at_589) rfl k) ?_
  show W (T0c112.setTop (mkF m 590 #[.val (.long q0), .second, .val (.long q1), .second, .val (.long q2), .second, .val (.long q3), .second, .val (.int p4), .val (.int p5), .val (.int u0_1), .val (.int u0_3), .val (.ref b04), .val (.ref b077), .unset, .unset] [(.long q1), (.long q0), (.long (((((((((((((((((ftm q0 q1 (0 : Int32) u0_1 u0_3) + (ftm q0 q1 (1 : Int32) u0_1 u0_3)) + (ftm q0 q1 (2 : Int32) u0_1 u0_3)) + (ftm q0 q1 (3 : Int32) u0_1 u0_3)) + (ftm q0 q1 (4 : Int32) u0_1 u0_3)) + (ftm q0 q1 (5 : Int32) u0_1 u0_3)) + (ftm q0 q1 (6 : Int32) u0_1 u0_3)) + (ftm q0 q1 (7 : Int32) u0_1 u0_3)) + (ftm q0 q1 (8 : Int32) u0_1 u0_3)) + (ftm q0 q1 (9 : Int32) u0_1 u0_3)) + (ftm q0 q1 (10 : Int32) u0_1 u0_3)) + (ftm q0 q1 (11 : Int32) u0_1 u0_3)) + (ftm q0 q1 (12 : Int32) u0_1 u0_3)) + (ftm q0 q1 (13 : Int32) u0_1 u0_3)) + (ftm q0 q1 (14 : Int32) u0_1 u0_3)) + (ftm q0 q1 (15 : Int32) u0_1 u0_3)) + (ftm q0 q1 (16 : Int32) u0_1 u0_3)))]))
  refine stp (fun t k => XS.bipush X0c112.here hx rfl (hb hby at_590) k) ?_
  show W (T0c112.setTop (mkF m 592 #[.val (.long q0), .second, .val (.long q1), .second, .val (.long q2), .second, .val (.long q3), .second, .val (.int p4), .val (.int p5), .val (.int u0_1), .val (.int u0_3), .val (.ref b04), .val (.ref b077), .unset, .unset] [(.int (17 : Int32)), (.long q1), (.long q0), (.long (((((((((((((((((ftm q0 q1 (0 : Int32) u0_1 u0_3) + (ftm q0 q1 (1 : Int32) u0_1 u0_3)) + (ftm q0 q1 (2 : Int32) u0_1 u0_3)) + (ftm q0 q1 (3 : Int32) u0_1 u0_3)) + (ftm q0 q1 (4 : Int32) u0_1 u0_3)) + (ftm q0 q1 (5 : Int32) u0_1 u0_3)) + (ftm q0 q1 (6 : Int32) u0_1 u0_3)) + (ftm q0 q1 (7 : Int32) u0_1 u0_3)) + (ftm q0 q1 (8 : Int32) u0_1 u0_3)) + (ftm q0 q1 (9 : Int32) u0_1 u0_3)) + (ftm q0 q1 (10 : Int32) u0_1 u0_3)) + (ftm q0 q1 (11 : Int32) u0_1 u0_3)) + (ftm q0 q1 (12 : Int32) u0_1 u0_3)) + (ftm q0 q1 (13 : Int32) u0_1 u0_3)) + (ftm q0 q1 (14 : Int32) u0_1 u0_3)) + (ftm q0 q1 (15 : Int32) u0_1 u0_3)) + (ftm q0 q1 (16 : Int32) u0_1 u0_3)))]))
  refine stp (fun t k => XS.iload X0c112.here hx rfl (hb hby at_592) rfl k) ?_
  show W (T0c112.setTop (mkF m 594 #[.val (.long q0), .second, .val (.long q1), .second, .val (.long q2), .second, .val (.long q3), .second, .val (.int p4), .val (.int p5), .val (.int u0_1), .val (.int u0_3), .val (.ref b04), .val (.ref b077), .unset, .unset] [(.int u0_1), (.int (17 : Int32)), (.long q1), (.long q0), (.long (((((((((((((((((ftm q0 q1 (0 : Int32) u0_1 u0_3) + (ftm q0 q1 (1 : Int32) u0_1 u0_3)) + (ftm q0 q1 (2 : Int32) u0_1 u0_3)) + (ftm q0 q1 (3 : Int32) u0_1 u0_3)) + (ftm q0 q1 (4 : Int32) u0_1 u0_3)) + (ftm q0 q1 (5 : Int32) u0_1 u0_3)) + (ftm q0 q1 (6 : Int32) u0_1 u0_3)) + (ftm q0 q1 (7 : Int32) u0_1 u0_3)) + (ftm q0 q1 (8 : Int32) u0_1 u0_3)) + (ftm q0 q1 (9 : Int32) u0_1 u0_3)) + (ftm q0 q1 (10 : Int32) u0_1 u0_3)) + (ftm q0 q1 (11 : Int32) u0_1 u0_3)) + (ftm q0 q1 (12 : Int32) u0_1 u0_3)) + (ftm q0 q1 (13 : Int32) u0_1 u0_3)) + (ftm q0 q1 (14 : Int32) u0_1 u0_3)) + (ftm q0 q1 (15 : Int32) u0_1 u0_3)) + (ftm q0 q1 (16 : Int32) u0_1 u0_3)))]))
  refine stp (fun t k => XS.iload X0c112.here hx rfl (hb hby at_594) rfl k) ?_
  show W (T0c112.setTop (mkF m 596 #[.val (.long q0), .second, .val (.long q1), .second, .val (.long q2), .second, .val (.long q3), .second, .val (.int p4), .val (.int p5), .val (.int u0_1), .val (.int u0_3), .val (.ref b04), .val (.ref b077), .unset, .unset] [(.int u0_3), (.int u0_1), (.int (17 : Int32)), (.long q1), (.long q0), (.long (((((((((((((((((ftm q0 q1 (0 : Int32) u0_1 u0_3) + (ftm q0 q1 (1 : Int32) u0_1 u0_3)) + (ftm q0 q1 (2 : Int32) u0_1 u0_3)) + (ftm q0 q1 (3 : Int32) u0_1 u0_3)) + (ftm q0 q1 (4 : Int32) u0_1 u0_3)) + (ftm q0 q1 (5 : Int32) u0_1 u0_3)) + (ftm q0 q1 (6 : Int32) u0_1 u0_3)) + (ftm q0 q1 (7 : Int32) u0_1 u0_3)) + (ftm q0 q1 (8 : Int32) u0_1 u0_3)) + (ftm q0 q1 (9 : Int32) u0_1 u0_3)) + (ftm q0 q1 (10 : Int32) u0_1 u0_3)) + (ftm q0 q1 (11 : Int32) u0_1 u0_3)) + (ftm q0 q1 (12 : Int32) u0_1 u0_3)) + (ftm q0 q1 (13 : Int32) u0_1 u0_3)) + (ftm q0 q1 (14 : Int32) u0_1 u0_3)) + (ftm q0 q1 (15 : Int32) u0_1 u0_3)) + (ftm q0 q1 (16 : Int32) u0_1 u0_3)))]))
  obtain ⟨_, _, ⟨T0c114, L0c114, k0c114, n0c114⟩, -, X0c114, ⟨Lc0c114, hQ0c114, l0c114, y0c114, z0c114⟩, st0c114⟩ := Jvm.LawKit.callS X0c112 hx (y := (⟨"com/example/fieldgate/fieldgate/record/DigitsValuePinLaw", "term", "(JJIII)J"⟩ : MethodName)) hown (mvT hZ (hw _ (List.mem_of_getElem? (i := 39) rfl))) (mvT hZ (hw _ (List.mem_of_getElem? (i := 40) rfl))) (mvT hZ (hw _ (List.mem_of_getElem? (i := 4) rfl))) (mvT hZ (hw _ (List.mem_of_getElem? (i := 41) rfl))) (by decide) (backOf (W := 2) (rmtm l Z aa hw [] q0 q1 (17 : Int32) u0_1 u0_3  h0c112 n0 Z0c112 hf0 ht18) hZ (hw _ (List.mem_of_getElem? (i := 41) rfl)) (hw _ (List.mem_of_getElem? (i := 4) rfl)) (by decide) (by decide)) (g := (mkF m 596 #[.val (.long q0), .second, .val (.long q1), .second, .val (.long q2), .second, .val (.long q3), .second, .val (.int p4), .val (.int p5), .val (.int u0_1), .val (.int u0_3), .val (.ref b04), .val (.ref b077), .unset, .unset] [(.int u0_3), (.int u0_1), (.int (17 : Int32)), (.long q1), (.long q0), (.long (((((((((((((((((ftm q0 q1 (0 : Int32) u0_1 u0_3) + (ftm q0 q1 (1 : Int32) u0_1 u0_3)) + (ftm q0 q1 (2 : Int32) u0_1 u0_3)) + (ftm q0 q1 (3 : Int32) u0_1 u0_3)) + (ftm q0 q1 (4 : Int32) u0_1 u0_3)) + (ftm q0 q1 (5 : Int32) u0_1 u0_3)) + (ftm q0 q1 (6 : Int32) u0_1 u0_3)) + (ftm q0 q1 (7 : Int32) u0_1 u0_3)) + (ftm q0 q1 (8 : Int32) u0_1 u0_3)) + (ftm q0 q1 (9 : Int32) u0_1 u0_3)) + (ftm q0 q1 (10 : Int32) u0_1 u0_3)) + (ftm q0 q1 (11 : Int32) u0_1 u0_3)) + (ftm q0 q1 (12 : Int32) u0_1 u0_3)) + (ftm q0 q1 (13 : Int32) u0_1 u0_3)) + (ftm q0 q1 (14 : Int32) u0_1 u0_3)) + (ftm q0 q1 (15 : Int32) u0_1 u0_3)) + (ftm q0 q1 (16 : Int32) u0_1 u0_3)))])) rfl (by rw [hml]; rfl) (argsL := [(.long q0), (.long q1), (.int (17 : Int32)), (.int u0_1), (.int u0_3)]) (rest := [(.long (((((((((((((((((ftm q0 q1 (0 : Int32) u0_1 u0_3) + (ftm q0 q1 (1 : Int32) u0_1 u0_3)) + (ftm q0 q1 (2 : Int32) u0_1 u0_3)) + (ftm q0 q1 (3 : Int32) u0_1 u0_3)) + (ftm q0 q1 (4 : Int32) u0_1 u0_3)) + (ftm q0 q1 (5 : Int32) u0_1 u0_3)) + (ftm q0 q1 (6 : Int32) u0_1 u0_3)) + (ftm q0 q1 (7 : Int32) u0_1 u0_3)) + (ftm q0 q1 (8 : Int32) u0_1 u0_3)) + (ftm q0 q1 (9 : Int32) u0_1 u0_3)) + (ftm q0 q1 (10 : Int32) u0_1 u0_3)) + (ftm q0 q1 (11 : Int32) u0_1 u0_3)) + (ftm q0 q1 (12 : Int32) u0_1 u0_3)) + (ftm q0 q1 (13 : Int32) u0_1 u0_3)) + (ftm q0 q1 (14 : Int32) u0_1 u0_3)) + (ftm q0 q1 (15 : Int32) u0_1 u0_3)) + (ftm q0 q1 (16 : Int32) u0_1 u0_3)))]) (lenOf pd0_2 rfl) rfl (by show 2 * 0 + _ ≤ _; exact Nat.le_of_eq rfl) (hb hby at_596) (fun _ _ => ⟨rfl, e0c112, (by decide : 20 + 1 ≤ _), (by decide : 346 + 18 ≤ _)⟩)
  dsimp only [Pt.U, Pt.locs, Pt.cells, Pt.slots] at X0c114 l0c114 y0c114 z0c114 st0c114 hQ0c114
  subst l0c114 y0c114 z0c114
  obtain ⟨rfl, N0c114q, Kq0c114⟩ := hQ0c114
  have N0c114 := Fr.app N0c112 N0c114q
  obtain ⟨lc0t115, X0c114, N0c114⟩ : ∃ lc, Stand p l e room_1 s m #[(.long q0), (.long q1), (.long q2), (.long q3), (.int p4), (.int p5)] below meth c T0c114 lc 21 364 ∧ Fr n0 lc := ⟨_, X0c114, N0c114⟩
  obtain ⟨h0c114, e0c114⟩ : ∃ h, T0c114.heap = h := ⟨_, rfl⟩
  rw [e0c114] at Kq0c114 
  replace V_b04 := V_b04.keep Kq0c114 nin0
  replace S_0c78 := S_0c78.keep Kq0c114 nin0 nin0
  have KK0c114 := Keep.trans KK0c112 Kq0c114 all0
  have Z0c114 := Nat.le_trans Z0c112 Kq0c114.1
  have O0c114 := O0c112.keep Kq0c114 all0
  refine stp (fun t k => st0c114 t k) ?_
  show W (T0c114.setTop (mkF m 599 #[.val (.long q0), .second, .val (.long q1), .second, .val (.long q2), .second, .val (.long q3), .second, .val (.int p4), .val (.int p5), .val (.int u0_1), .val (.int u0_3), .val (.ref b04), .val (.ref b077), .unset, .unset] [(.long (ftm q0 q1 (17 : Int32) u0_1 u0_3)), (.long (((((((((((((((((ftm q0 q1 (0 : Int32) u0_1 u0_3) + (ftm q0 q1 (1 : Int32) u0_1 u0_3)) + (ftm q0 q1 (2 : Int32) u0_1 u0_3)) + (ftm q0 q1 (3 : Int32) u0_1 u0_3)) + (ftm q0 q1 (4 : Int32) u0_1 u0_3)) + (ftm q0 q1 (5 : Int32) u0_1 u0_3)) + (ftm q0 q1 (6 : Int32) u0_1 u0_3)) + (ftm q0 q1 (7 : Int32) u0_1 u0_3)) + (ftm q0 q1 (8 : Int32) u0_1 u0_3)) + (ftm q0 q1 (9 : Int32) u0_1 u0_3)) + (ftm q0 q1 (10 : Int32) u0_1 u0_3)) + (ftm q0 q1 (11 : Int32) u0_1 u0_3)) + (ftm q0 q1 (12 : Int32) u0_1 u0_3)) + (ftm q0 q1 (13 : Int32) u0_1 u0_3)) + (ftm q0 q1 (14 : Int32) u0_1 u0_3)) + (ftm q0 q1 (15 : Int32) u0_1 u0_3)) + (ftm q0 q1 (16 : Int32) u0_1 u0_3)))]))
  refine stp (fun t k => XS.ladd X0c114.here hx rfl (hb hby at_599) rfl k) ?_
  show W (T0c114.setTop (mkF m 600 #[.val (.long q0), .second, .val (.long q1), .second, .val (.long q2), .second, .val (.long q3), .second, .val (.int p4), .val (.int p5), .val (.int u0_1), .val (.int u0_3), .val (.ref b04), .val (.ref b077), .unset, .unset] [(.long ((((((((((((((((((ftm q0 q1 (0 : Int32) u0_1 u0_3) + (ftm q0 q1 (1 : Int32) u0_1 u0_3)) + (ftm q0 q1 (2 : Int32) u0_1 u0_3)) + (ftm q0 q1 (3 : Int32) u0_1 u0_3)) + (ftm q0 q1 (4 : Int32) u0_1 u0_3)) + (ftm q0 q1 (5 : Int32) u0_1 u0_3)) + (ftm q0 q1 (6 : Int32) u0_1 u0_3)) + (ftm q0 q1 (7 : Int32) u0_1 u0_3)) + (ftm q0 q1 (8 : Int32) u0_1 u0_3)) + (ftm q0 q1 (9 : Int32) u0_1 u0_3)) + (ftm q0 q1 (10 : Int32) u0_1 u0_3)) + (ftm q0 q1 (11 : Int32) u0_1 u0_3)) + (ftm q0 q1 (12 : Int32) u0_1 u0_3)) + (ftm q0 q1 (13 : Int32) u0_1 u0_3)) + (ftm q0 q1 (14 : Int32) u0_1 u0_3)) + (ftm q0 q1 (15 : Int32) u0_1 u0_3)) + (ftm q0 q1 (16 : Int32) u0_1 u0_3)) + (ftm q0 q1 (17 : Int32) u0_1 u0_3)))]))
  refine stp (fun t k => XS.lstore X0c114.here hx rfl (hb hby at_600) rfl (l' := #[.val (.long q0), .second, .val (.long q1), .second, .val (.long q2), .second, .val (.long q3), .second, .val (.int p4), .val (.int p5), .val (.int u0_1), .val (.int u0_3), .val (.ref b04), .val (.ref b077), .val (.long ((((((((((((((((((ftm q0 q1 (0 : Int32) u0_1 u0_3) + (ftm q0 q1 (1 : Int32) u0_1 u0_3)) + (ftm q0 q1 (2 : Int32) u0_1 u0_3)) + (ftm q0 q1 (3 : Int32) u0_1 u0_3)) + (ftm q0 q1 (4 : Int32) u0_1 u0_3)) + (ftm q0 q1 (5 : Int32) u0_1 u0_3)) + (ftm q0 q1 (6 : Int32) u0_1 u0_3)) + (ftm q0 q1 (7 : Int32) u0_1 u0_3)) + (ftm q0 q1 (8 : Int32) u0_1 u0_3)) + (ftm q0 q1 (9 : Int32) u0_1 u0_3)) + (ftm q0 q1 (10 : Int32) u0_1 u0_3)) + (ftm q0 q1 (11 : Int32) u0_1 u0_3)) + (ftm q0 q1 (12 : Int32) u0_1 u0_3)) + (ftm q0 q1 (13 : Int32) u0_1 u0_3)) + (ftm q0 q1 (14 : Int32) u0_1 u0_3)) + (ftm q0 q1 (15 : Int32) u0_1 u0_3)) + (ftm q0 q1 (16 : Int32) u0_1 u0_3)) + (ftm q0 q1 (17 : Int32) u0_1 u0_3))), .second]) rfl k) ?_
  show W (T0c114.setTop (mkF m 602 #[.val (.long q0), .second, .val (.long q1), .second, .val (.long q2), .second, .val (.long q3), .second, .val (.int p4), .val (.int p5), .val (.int u0_1), .val (.int u0_3), .val (.ref b04), .val (.ref b077), .val (.long ((((((((((((((((((ftm q0 q1 (0 : Int32) u0_1 u0_3) + (ftm q0 q1 (1 : Int32) u0_1 u0_3)) + (ftm q0 q1 (2 : Int32) u0_1 u0_3)) + (ftm q0 q1 (3 : Int32) u0_1 u0_3)) + (ftm q0 q1 (4 : Int32) u0_1 u0_3)) + (ftm q0 q1 (5 : Int32) u0_1 u0_3)) + (ftm q0 q1 (6 : Int32) u0_1 u0_3)) + (ftm q0 q1 (7 : Int32) u0_1 u0_3)) + (ftm q0 q1 (8 : Int32) u0_1 u0_3)) + (ftm q0 q1 (9 : Int32) u0_1 u0_3)) + (ftm q0 q1 (10 : Int32) u0_1 u0_3)) + (ftm q0 q1 (11 : Int32) u0_1 u0_3)) + (ftm q0 q1 (12 : Int32) u0_1 u0_3)) + (ftm q0 q1 (13 : Int32) u0_1 u0_3)) + (ftm q0 q1 (14 : Int32) u0_1 u0_3)) + (ftm q0 q1 (15 : Int32) u0_1 u0_3)) + (ftm q0 q1 (16 : Int32) u0_1 u0_3)) + (ftm q0 q1 (17 : Int32) u0_1 u0_3))), .second] []))
  generalize hw0_116 : ((((((((((((((((((ftm q0 q1 (0 : Int32) u0_1 u0_3) + (ftm q0 q1 (1 : Int32) u0_1 u0_3)) + (ftm q0 q1 (2 : Int32) u0_1 u0_3)) + (ftm q0 q1 (3 : Int32) u0_1 u0_3)) + (ftm q0 q1 (4 : Int32) u0_1 u0_3)) + (ftm q0 q1 (5 : Int32) u0_1 u0_3)) + (ftm q0 q1 (6 : Int32) u0_1 u0_3)) + (ftm q0 q1 (7 : Int32) u0_1 u0_3)) + (ftm q0 q1 (8 : Int32) u0_1 u0_3)) + (ftm q0 q1 (9 : Int32) u0_1 u0_3)) + (ftm q0 q1 (10 : Int32) u0_1 u0_3)) + (ftm q0 q1 (11 : Int32) u0_1 u0_3)) + (ftm q0 q1 (12 : Int32) u0_1 u0_3)) + (ftm q0 q1 (13 : Int32) u0_1 u0_3)) + (ftm q0 q1 (14 : Int32) u0_1 u0_3)) + (ftm q0 q1 (15 : Int32) u0_1 u0_3)) + (ftm q0 q1 (16 : Int32) u0_1 u0_3)) + (ftm q0 q1 (17 : Int32) u0_1 u0_3)) = w0_116
  show W (T0c114.setTop (mkF m 602 #[.val (.long q0), .second, .val (.long q1), .second, .val (.long q2), .second, .val (.long q3), .second, .val (.int p4), .val (.int p5), .val (.int u0_1), .val (.int u0_3), .val (.ref b04), .val (.ref b077), .val (.long w0_116), .second] []))
  refine stp (fun t k => XS.aload X0c114.here hx rfl (hb hby at_602) rfl rfl k) ?_
  show W (T0c114.setTop (mkF m 604 #[.val (.long q0), .second, .val (.long q1), .second, .val (.long q2), .second, .val (.long q3), .second, .val (.int p4), .val (.int p5), .val (.int u0_1), .val (.int u0_3), .val (.ref b04), .val (.ref b077), .val (.long w0_116), .second] [(.ref b077)]))
  refine stp (fun t k => XS.iload X0c114.here hx rfl (hb hby at_604) rfl k) ?_
  show W (T0c114.setTop (mkF m 606 #[.val (.long q0), .second, .val (.long q1), .second, .val (.long q2), .second, .val (.long q3), .second, .val (.int p4), .val (.int p5), .val (.int u0_1), .val (.int u0_3), .val (.ref b04), .val (.ref b077), .val (.long w0_116), .second] [(.int u0_1), (.ref b077)]))
  refine stp (fun t k => XS.iload X0c114.here hx rfl (hb hby at_606) rfl k) ?_
  show W (T0c114.setTop (mkF m 608 #[.val (.long q0), .second, .val (.long q1), .second, .val (.long q2), .second, .val (.long q3), .second, .val (.int p4), .val (.int p5), .val (.int u0_1), .val (.int u0_3), .val (.ref b04), .val (.ref b077), .val (.long w0_116), .second] [(.int u0_3), (.int u0_1), (.ref b077)]))
  obtain ⟨_, _, ⟨T0c117, L0c117, k0c117, n0c117⟩, -, X0c117, ⟨Lc0c117, hQ0c117, l0c117, y0c117, z0c117⟩, st0c117⟩ := Jvm.LawKit.callS X0c114 hx (y := (⟨"com/example/fieldgate/fieldgate/record/Digits", "value", "(Ljava/lang/String;II)J"⟩ : MethodName)) hown (mvT hZ (hw _ (List.mem_of_getElem? (i := 42) rfl))) (mvT hZ (hw _ (List.mem_of_getElem? (i := 43) rfl))) (mvT hZ (hw _ (List.mem_of_getElem? (i := 44) rfl))) (mvT hZ (hw _ (List.mem_of_getElem? (i := 45) rfl))) (by decide) (backOf (W := 0) (rmva l Z aa hw [] b077 u0_1 u0_3 wc sx b0c78 18 g f0 t0 h0c114 n0 Z0c114 BW O0c114 S_0c78 (by decide) (fun j _ => ⟨(hch j).1, (hch j).2⟩) hf ht hft ht18n) hZ (hw _ (List.mem_of_getElem? (i := 45) rfl)) (hw _ (List.mem_of_getElem? (i := 44) rfl)) (by decide) (by decide)) (g := (mkF m 608 #[.val (.long q0), .second, .val (.long q1), .second, .val (.long q2), .second, .val (.long q3), .second, .val (.int p4), .val (.int p5), .val (.int u0_1), .val (.int u0_3), .val (.ref b04), .val (.ref b077), .val (.long w0_116), .second] [(.int u0_3), (.int u0_1), (.ref b077)])) rfl (by rw [hml]; rfl) (argsL := [(.ref b077), (.int u0_1), (.int u0_3)]) (rest := []) (lenOf pd0_3 rfl) rfl (by show 2 * 0 + _ ≤ _; exact Nat.le_of_eq rfl) (hb hby at_608) (fun _ _ => ⟨rfl, e0c114, (by decide : 21 + 0 ≤ _), (by decide : 364 + 0 ≤ _)⟩)
  dsimp only [Pt.U, Pt.locs, Pt.cells, Pt.slots] at X0c117 l0c117 y0c117 z0c117 st0c117 hQ0c117
  subst l0c117 y0c117 z0c117
  obtain ⟨rfl, N0c117q, e0c117⟩ := hQ0c117
  have N0c117 := Fr.app N0c114 N0c117q
  obtain ⟨lc0t118, X0c117, N0c117⟩ : ∃ lc, Stand p l e room_1 s m #[(.long q0), (.long q1), (.long q2), (.long q3), (.int p4), (.int p5)] below meth c T0c117 lc 21 364 ∧ Fr n0 lc := ⟨_, X0c117, N0c117⟩
  refine stp (fun t k => st0c117 t k) ?_
  show W (T0c117.setTop (mkF m 611 #[.val (.long q0), .second, .val (.long q1), .second, .val (.long q2), .second, .val (.long q3), .second, .val (.int p4), .val (.int p5), .val (.int u0_1), .val (.int u0_3), .val (.ref b04), .val (.ref b077), .val (.long w0_116), .second] [(.long (own_val g f0 (t0 - f0)))]))
  refine stp (fun t k => XS.lload X0c117.here hx rfl (hb hby at_611) rfl k) ?_
  show W (T0c117.setTop (mkF m 613 #[.val (.long q0), .second, .val (.long q1), .second, .val (.long q2), .second, .val (.long q3), .second, .val (.int p4), .val (.int p5), .val (.int u0_1), .val (.int u0_3), .val (.ref b04), .val (.ref b077), .val (.long w0_116), .second] [(.long w0_116), (.long (own_val g f0 (t0 - f0)))]))
  refine stp (fun t k => XS.lcmp X0c117.here hx rfl (hb hby at_613) rfl k) ?_
  show W (T0c117.setTop (mkF m 614 #[.val (.long q0), .second, .val (.long q1), .second, .val (.long q2), .second, .val (.long q3), .second, .val (.int p4), .val (.int p5), .val (.int u0_1), .val (.int u0_3), .val (.ref b04), .val (.ref b077), .val (.long w0_116), .second] [(.int (lcmpW (own_val g f0 (t0 - f0)) w0_116))]))
  refine stp (fun t k => XS.ifNo X0c117.here hx rfl (hb hby at_614) rfl ((if0 _ _).trans (teq ((lw_eq (own_val g f0 (t0 - f0)) w0_116).mpr (by subst hg; subst hw0_116; exact own_final q0 q1 q2 q3 _ _ f0 t0 hf ht hft ht18n))).2) k) ?_
  show W (T0c117.setTop (mkF m 617 #[.val (.long q0), .second, .val (.long q1), .second, .val (.long q2), .second, .val (.long q3), .second, .val (.int p4), .val (.int p5), .val (.int u0_1), .val (.int u0_3), .val (.ref b04), .val (.ref b077), .val (.long w0_116), .second] []))
  refine stp (fun t k => XS.iconst X0c117.here hx rfl (hb hby at_617) k) ?_
  show W (T0c117.setTop (mkF m 618 #[.val (.long q0), .second, .val (.long q1), .second, .val (.long q2), .second, .val (.long q3), .second, .val (.int p4), .val (.int p5), .val (.int u0_1), .val (.int u0_3), .val (.ref b04), .val (.ref b077), .val (.long w0_116), .second] [(.int (1 : Int32))]))
  refine stp (fun t k => XS.goto X0c117.here hx rfl (pc0 := 618) (pc' := 622) rfl (hb hby at_618) (by decide) (by decide) k) ?_
  show W (T0c117.setTop (mkF m 622 #[.val (.long q0), .second, .val (.long q1), .second, .val (.long q2), .second, .val (.long q3), .second, .val (.int p4), .val (.int p5), .val (.int u0_1), .val (.int u0_3), .val (.ref b04), .val (.ref b077), .val (.long w0_116), .second] [(.int (1 : Int32))]))
  show W (T0c117.setTop (mkF m 622 #[.val (.long q0), .second, .val (.long q1), .second, .val (.long q2), .second, .val (.long q3), .second, .val (.int p4), .val (.int p5), .val (.int u0_1), .val (.int u0_3), .val (.ref b04), .val (.ref b077), .val (.long w0_116), .second] [(.int (1 : Int32))]))
  rw [← hW]
  exact own_retN X0c117 hx Bd.notSynchronized Bd.returns (w := (1 : Int32)) (by simp) (hb hby at_622) rfl (by show Q0 Z q0 q1 q2 q3 p4 p5 wc sx h0 n0 _ T0c117.heap _; rw [e0c117]; exact ⟨rfl, N0c117⟩) (by decide) (by decide)
theorem own_eqI {args : Array Value} {first s : State} {o : Option Outcome} {idx : List Nat} {a b : Term} {k : Int32} (h : (Jvm.Cond.eq a b).value args first o s idx = some true) (hb : b.eval args first o idx s = some (.int k)) : a.eval args first o idx s = some (.int k) := by
  obtain ⟨x, y, e1, e2, k1, k2⟩ := cmp_v (Or.inl h)
  cases hb.symm.trans e2
  obtain ⟨z, rfl⟩ := k2
  simp only [Cond.value, e1, hb] at h
  simp at h
  rw [e1, h]
set_option maxRecDepth 65536 in
set_option maxHeartbeats 40000000 in
theorem comes_1 {Post : Tables → Env → Array Value → State → Outcome → State → Prop} (hpost : ∀ tb e args s v u, (limb_1_1.after args s (.returned v) u = true ∧ limb_1_2.after args s (.returned v) u = true ∧ True) → FrameEnd s (.returned v) u (Jvm.fieldLocs frame_1_writes args s ++ Jvm.arrayLocs frame_1_arrays args s ++ Jvm.staticLocs frame_1_statics s) 56 832 → Post tb e args s (.returned v) u) :
    ArmFor flags0 classFile x code maxLocals ret World_1 tables_1 room_1 Calls_1 rest_1 Pre_1 Post := by
  intro l hfl _ _ p e ha hc hk s m args below hf hA hF happ hP
  obtain ⟨hcalls, hrest, hpre⟩ := hP
  obtain ⟨-, -, -, hnamed, -, -, -, hat⟩ := (Spec.applies_iff hf).mp happ
  obtain ⟨hg, hn⟩ := and_e (Cond.before_iff.mp (show (Jvm.Cond.and given_1 narrow_1).before args s = true from hpre))
  obtain ⟨gc, hg⟩ := and_e hg
  obtain ⟨g0, hg⟩ := and_e hg
  obtain ⟨g1, hg⟩ := and_e hg
  obtain ⟨g2, hg⟩ := and_e hg
  obtain ⟨g3, hg⟩ := and_e hg
  obtain ⟨g4, hg⟩ := and_e hg
  have g5 := hg
  obtain ⟨w0, w1, w2, w3, w4, w5, rfl⟩ : ∃ w0 w1 w2 w3 w4 w5 : Value, args = #[w0, w1, w2, w3, w4, w5] := by
    have hs : args.size = 6 := by simpa [Cond.value, given_1] using gc
    obtain ⟨L⟩ := args
    match L, hs with
    | [w0, w1, w2, w3, w4, w5], _ => exact ⟨w0, w1, w2, w3, w4, w5, rfl⟩
  have hw := fun d (hd : d ∈ tables_1) => atoms_spec (ws := Jvm.Cond.code x code maxLocals ret :: tables_1) hat d (List.mem_cons_of_mem _ hd)
  have hfit : Fit s := fun {y c} hc i hi => by
    obtain ⟨ha, rfl⟩ := Array.getElem?_eq_some_iff.mp hc
    have q := List.all_eq_true.mp ((Array.all_eq_true_iff_forall_mem.mp hF) _ (Array.getElem_mem ha)) i (List.mem_range.mpr hi)
    simpa [Array.getElem?_eq_getElem hi] using q
  obtain ⟨hsets, hown0⟩ := atoms_of _ (rest_1_c_eq ▸ (show rest_1_c.before _ s = true from hrest))
  have hr0 := Cond.before_iff.mp hown0
  obtain ⟨i0, ei0⟩ := isL_v g0
  obtain rfl : w0 = (.long i0) := Option.some.inj ei0
  obtain ⟨i1, ei1⟩ := isL_v g1
  obtain rfl : w1 = (.long i1) := Option.some.inj ei1
  obtain ⟨i2, ei2⟩ := isL_v g2
  obtain rfl : w2 = (.long i2) := Option.some.inj ei2
  obtain ⟨i3, ei3⟩ := isL_v g3
  obtain rfl : w3 = (.long i3) := Option.some.inj ei3
  obtain ⟨i4, ei4⟩ := is_v g4
  obtain rfl : w4 = (.int i4) := Option.some.inj ei4
  obtain ⟨i5, ei5⟩ := is_v g5
  obtain rfl : w5 = (.int i5) := Option.some.inj ei5
  obtain ⟨wc, ewc⟩ := is_v (Cond.before_iff.mp (hsets _ (List.mem_of_getElem? (i := 1) rfl)))
  have S_cs := Sta.start ewc (Or.inl (hsets _ (List.mem_of_getElem? (i := 0) rfl)))
  have hcs : ¬ (wc = (0 : Int32)) := fun q => by
    have h2 := not_v (Cond.before_iff.mp (hsets _ (List.mem_of_getElem? (i := 2) rfl)))
    rw [q] at ewc
    rw [eq_i ewc (Term.int_eval 0) rfl] at h2
    cases h2
  obtain ⟨sx, esx, hr_sx⟩ := isR_v (Cond.before_iff.mp (hsets _ (List.mem_of_getElem? (i := 8) rfl)))
  have S_si := Sta.start esx (Or.inl (hsets _ (List.mem_of_getElem? (i := 7) rfl)))
  have BW : OwnW s wc sx := ⟨S_cs, hcs, S_si, hr_sx⟩
  obtain ⟨n, o, h1, h2, h3, _, L, rfl, ⟨rfl, N⟩, hq⟩ := rm0 l s _ hw tables_1 i0 i1 i2 i3 i4 i5 wc sx s.heap s.heap.size (Nat.le_refl _) BW (Old.start s) p e ha hc hk s m _ below hf ((Spec.applies_iff_loose hf).mp happ).1 ⟨rfl, State.Warmed39.refl s, rfl⟩ trivial
  refine ⟨n, _, h1, h2, h3, hpost _ _ _ _ _ _ ⟨Cond.after_iff.mpr rfl, Cond.after_iff.mpr (eq_i res_at (Term.int_eval (1)) rfl), trivial⟩ ⟨hq.1, hq.2.1, (hq.2.2.sift fun y hy => Or.inr (N y hy)).mono (by decide) (by decide)⟩⟩
theorem main_1_1 : Claimed_1_1 := comes_1 fun _ _ _ _ _ _ h hF => ⟨h.1, hF⟩
theorem main_1_2 : Claimed_1_2 := comes_1 fun _ _ _ _ _ _ h hF => ⟨h.2.1, hF⟩
end Jvm.Pilot.@@N@@
namespace Jvm.Pilot.@@N@@
open Jvm Jvm.ClassFile Sem Op Lib Jvm.Free Jvm.Stand Jvm.Pilot.@@N@@.Jvm.D
/-! MADE BY PROGRAM (witnessworld.py) out of the Statement's table words and the real class files: 22 classes; the members and pool entries that the words name. The judged class is class 1, her method 6. -/
namespace start1
open Jvm.ClassFile
def u (s : String) : CpInfo := .utf8 (stringToUtf16 s)
/-- a pool by its gaps: so many unusable entries, then the entry; so many at the end -/
def gap : Nat → List CpInfo → List CpInfo
  | 0, r => r
  | n + 1, r => .unusable :: gap n r
def poolList (es : List (Nat × CpInfo)) (last : Nat) : List CpInfo := es.foldr (fun e r => gap e.1 (e.2 :: r)) (gap last [])
def pool (es : List (Nat × CpInfo)) (last : Nat) : Array CpInfo := ⟨poolList es last⟩
def fileOf (pool : Array CpInfo) (this : Nat) (attrs : Array Attribute := #[]) (ms : Array MethodInfo := #[]) (fl : Nat := 33) (sup : Nat := 0) (ifs : Array Nat := #[]) (fds : Array FieldInfo := #[]) : ClassFile where
  minorVersion := 0
  majorVersion := 65
  constantPool := pool
  accessFlags := fl
  thisClass := this
  superClass := sup
  interfaces := ifs
  fields := fds
  methods := ms
  attributes := attrs
def plain (name : String) (sup : Option ClassId) : Class where
  name := name
  kind := .ordinary
  loader := none
  accessFlags := 33
  super := sup
  interfaces := #[]
  cf := none
  fields := #[]
  methods := #[]
  instanceTypes := #[]
  staticTypes := #[]
  resolved := #[]
  callSites := []
  init := .initialized
  statics := none
  mirror := none

def pool0 : Array CpInfo := pool [(5, u "<init>"), (0, u "()V"), (1, .class_ 10), (1, u "java/lang/Object")] 113

def k0c0 : Code := { maxStack := 0, maxLocals := 1, code := object_method_1_code, exceptionTable := #[], attributes := #[] }
def k0m0 : Method := { name := "<init>", desc := "()V", sig := { parameters := [], returnType := none }, accessFlags := 1, code := some k0c0 }
/-- java/lang/Object -/
def k0 : Class := { plain "java/lang/Object" none with
  accessFlags := 33
  interfaces := #[]
  cf := some (fileOf pool0 8 #[] #[{ accessFlags := 1, nameIndex := 5, descriptorIndex := 6, attributes := #[] }] 33 0 #[] #[])
  fields := #[]
  methods := #[k0m0]
  instanceTypes := #[]
  staticTypes := #[]
  resolved := Array.replicate 124 none
  statics := none }

def pool1 : Array CpInfo := pool [(2, .class_ 4), (1, u "java/lang/Object"), (0, u "<init>"), (0, u "()V"), (0, .long 10), (1, .long 100), (1, .long 1000), (1, .long 10000), (1, .long 100000), (1, .long 1000000), (1, .long 10000000), (1, .long 100000000), (1, .long 1000000000), (1, .long 10000000000), (1, .long 100000000000), (1, .long 1000000000000), (1, .long 10000000000000), (1, .long 100000000000000), (1, .long 1000000000000000), (1, .long 10000000000000000), (1, .long 100000000000000000), (1, .long 15), (1, .long 127), (1, .methodref 46 47), (0, .class_ 48), (0, .nameAndType 49 50), (0, u "com/example/fieldgate/fieldgate/record/DigitsValuePinLaw"), (0, u "digit"), (0, u "(JJI)I"), (0, .methodref 46 52), (0, .nameAndType 53 54), (0, u "junk"), (0, u "(JJI)C"), (0, .methodref 46 56), (0, .nameAndType 57 58), (0, u "pow10"), (0, u "(I)J"), (0, .integer 2147483647), (0, .methodref 46 61), (0, .nameAndType 62 63), (0, u "at"), (0, u "(JJJJIII)C"), (0, .class_ 65), (0, u "java/lang/String"), (0, .methodref 64 67), (0, .nameAndType 5 68), (0, u "([C)V"), (0, .methodref 46 70), (0, .nameAndType 71 72), (0, u "term"), (0, u "(JJIII)J"), (0, .methodref 74 75), (0, .class_ 76), (0, .nameAndType 77 78), (0, u "com/example/fieldgate/fieldgate/record/Digits"), (0, u "value"), (0, u "(Ljava/lang/String;II)J"), (3, u "law"), (0, u "(JJJJII)Z")] 4

def k1m0 : Method := { name := "<init>", desc := "()V", sig := { parameters := [], returnType := none }, accessFlags := 1, code := none }
def k1c1 : Code := { maxStack := 5, maxLocals := 2, code := method_2_code, exceptionTable := #[], attributes := #[] }
def k1m1 : Method := { name := "pow10", desc := "(I)J", sig := { parameters := [.int], returnType := some .long }, accessFlags := 10, code := some k1c1 }
def k1c2 : Code := { maxStack := 5, maxLocals := 7, code := method_3_code, exceptionTable := #[], attributes := #[] }
def k1m2 : Method := { name := "digit", desc := "(JJI)I", sig := { parameters := [.long, .long, .int], returnType := some .int }, accessFlags := 10, code := some k1c2 }
def k1c3 : Code := { maxStack := 5, maxLocals := 7, code := method_4_code, exceptionTable := #[], attributes := #[] }
def k1m3 : Method := { name := "junk", desc := "(JJI)C", sig := { parameters := [.long, .long, .int], returnType := some .char }, accessFlags := 10, code := some k1c3 }
def k1c4 : Code := { maxStack := 6, maxLocals := 11, code := method_5_code, exceptionTable := #[], attributes := #[] }
def k1m4 : Method := { name := "at", desc := "(JJJJIII)C", sig := { parameters := [.long, .long, .long, .long, .int, .int, .int], returnType := some .char }, accessFlags := 10, code := some k1c4 }
def k1c5 : Code := { maxStack := 5, maxLocals := 7, code := method_6_code, exceptionTable := #[], attributes := #[] }
def k1m5 : Method := { name := "term", desc := "(JJIII)J", sig := { parameters := [.long, .long, .int, .int, .int], returnType := some .long }, accessFlags := 10, code := some k1c5 }
def k1c6 : Code := { maxStack := 13, maxLocals := 16, code := code, exceptionTable := #[], attributes := #[] }
def k1m6 : Method := { name := "law", desc := "(JJJJII)Z", sig := { parameters := [.long, .long, .long, .long, .int, .int], returnType := some .boolean }, accessFlags := 9, code := some k1c6 }
/-- com/example/fieldgate/fieldgate/record/DigitsValuePinLaw -/
def k1 : Class := { plain "com/example/fieldgate/fieldgate/record/DigitsValuePinLaw" (some 0) with
  accessFlags := 49
  interfaces := #[]
  cf := some (fileOf pool1 46 #[] #[{ accessFlags := 1, nameIndex := 5, descriptorIndex := 6, attributes := #[] }, { accessFlags := 10, nameIndex := 57, descriptorIndex := 58, attributes := #[] }, { accessFlags := 10, nameIndex := 49, descriptorIndex := 50, attributes := #[] }, { accessFlags := 10, nameIndex := 53, descriptorIndex := 54, attributes := #[] }, { accessFlags := 10, nameIndex := 62, descriptorIndex := 63, attributes := #[] }, { accessFlags := 10, nameIndex := 71, descriptorIndex := 72, attributes := #[] }, { accessFlags := 9, nameIndex := 82, descriptorIndex := 83, attributes := #[] }] 49 2 #[] #[])
  fields := #[]
  methods := #[k1m0, k1m1, k1m2, k1m3, k1m4, k1m5, k1m6]
  instanceTypes := #[]
  staticTypes := #[]
  resolved := Array.replicate 88 none
  statics := none }

def pool2 : Array CpInfo := pool [(1, .class_ 2), (0, u "java/io/Serializable"), (0, .class_ 4), (0, u "java/lang/Object")] 2

/-- java/io/Serializable -/
def k2 : Class := { plain "java/io/Serializable" (some 0) with
  accessFlags := 1537
  interfaces := #[]
  cf := some (fileOf pool2 1 #[] #[] 1537 3 #[] #[])
  fields := #[]
  methods := #[]
  instanceTypes := #[]
  staticTypes := #[]
  resolved := Array.replicate 7 none
  statics := none }

def pool3 : Array CpInfo := pool [(1, .class_ 2), (0, u "java/lang/Comparable"), (0, .class_ 4), (0, u "java/lang/Object")] 7

/-- java/lang/Comparable -/
def k3 : Class := { plain "java/lang/Comparable" (some 0) with
  accessFlags := 1537
  interfaces := #[]
  cf := some (fileOf pool3 1 #[] #[] 1537 3 #[] #[])
  fields := #[]
  methods := #[]
  instanceTypes := #[]
  staticTypes := #[]
  resolved := Array.replicate 12 none
  statics := none }

def pool4 : Array CpInfo := pool [(2, .class_ 4), (1, u "java/lang/CharSequence"), (42, .class_ 48), (0, u "java/lang/CharSequence$1CodePointIterator"), (10, .class_ 60), (0, u "java/lang/CharSequence$1CharIterator"), (5, .class_ 67), (0, u "java/lang/Object")] 63

/-- java/lang/CharSequence -/
def k4 : Class := { plain "java/lang/CharSequence" (some 0) with
  accessFlags := 1537
  interfaces := #[]
  cf := some (fileOf pool4 2 #[.nestMembers #[47, 59]] #[] 1537 66 #[] #[])
  fields := #[]
  methods := #[]
  instanceTypes := #[]
  staticTypes := #[]
  resolved := Array.replicate 131 none
  statics := none }

def pool5 : Array CpInfo := pool [(1, .class_ 2), (0, u "java/lang/constant/Constable"), (0, .class_ 4), (0, u "java/lang/Object")] 6

/-- java/lang/constant/Constable -/
def k5 : Class := { plain "java/lang/constant/Constable" (some 0) with
  accessFlags := 1537
  interfaces := #[]
  cf := some (fileOf pool5 1 #[] #[] 1537 3 #[] #[])
  fields := #[]
  methods := #[]
  instanceTypes := #[]
  staticTypes := #[]
  resolved := Array.replicate 11 none
  statics := none }

def pool6 : Array CpInfo := pool [(1, .class_ 2), (0, u "java/lang/constant/ConstantDesc"), (0, .class_ 4), (0, u "java/lang/Object")] 32

/-- java/lang/constant/ConstantDesc -/
def k6 : Class := { plain "java/lang/constant/ConstantDesc" (some 0) with
  accessFlags := 1537
  interfaces := #[]
  cf := some (fileOf pool6 1 #[] #[] 1537 3 #[] #[])
  fields := #[]
  methods := #[]
  instanceTypes := #[]
  staticTypes := #[]
  resolved := Array.replicate 37 none
  statics := none }

def pool7 : Array CpInfo := pool [(1, .methodref 2 3), (0, .class_ 4), (0, .nameAndType 5 6), (0, u "java/lang/Object"), (0, u "<init>"), (0, u "()V"), (2, .fieldref 10 11), (0, .class_ 12), (0, .nameAndType 13 14), (0, u "java/lang/String"), (0, u "value"), (0, u "[B"), (0, .fieldref 10 16), (0, .nameAndType 17 18), (0, u "coder"), (0, u "B"), (2, u "hash"), (0, u "I"), (2, u "hashIsZero"), (0, u "Z"), (0, .methodref 10 28), (0, .nameAndType 5 29), (0, u "([CIILjava/lang/Void;)V"), (8, .fieldref 10 39), (0, .nameAndType 40 26), (0, u "COMPACT_STRINGS"), (1, .class_ 44), (1, u "java/lang/StringUTF16"), (0, u "compress"), (1, .methodref 42 48), (0, .nameAndType 49 50), (0, u "coderFromArrayLen"), (0, u "([BI)B"), (56, .class_ 109), (1, u "java/lang/StringLatin1"), (32, u "()Z"), (34, .methodref 42 178), (0, .nameAndType 45 179), (0, u "([CII)[B"), (183, u "([BI)C"), (27, u "(II)V"), (35, u "(I)C"), (64, .methodref 10 493), (0, .nameAndType 494 142), (0, u "isLatin1"), (0, .methodref 107 496), (0, .nameAndType 497 363), (0, u "charAt"), (3, u "checkIndex"), (73, .class_ 576), (0, u "java/lang/CharSequence"), (22, u "CASE_INSENSITIVE_ORDER"), (0, u "Ljava/util/Comparator;"), (409, u "([C)V"), (42, .fieldref 1054 1055), (0, .class_ 1056), (0, .nameAndType 1057 1058), (0, u "jdk/internal/util/Preconditions"), (0, u "SIOOBE_FORMATTER"), (0, u "Ljava/util/function/BiFunction;"), (0, .methodref 1054 1060), (0, .nameAndType 501 1061), (0, u "(IILjava/util/function/BiFunction;)I"), (39, u "serialPersistentFields"), (0, u "[Ljava/io/ObjectStreamField;"), (0, .class_ 1104), (0, u "java/lang/String$CaseInsensitiveComparator"), (1, .class_ 1107), (0, u "java/io/Serializable"), (0, .class_ 1109), (0, u "java/lang/Comparable"), (0, .class_ 1111), (0, u "java/lang/constant/Constable"), (0, .class_ 1113), (0, u "java/lang/constant/ConstantDesc"), (2, u "serialVersionUID"), (0, u "J"), (3, u "REPL"), (0, u "C"), (2, u "LATIN1"), (1, u "UTF16")] 323

def k7m0 : Method := { name := "<init>", desc := "()V", sig := { parameters := [], returnType := none }, accessFlags := 1, code := none }
def k7c1 : Code := { maxStack := 5, maxLocals := 2, code := jdk_42_method_3_code, exceptionTable := #[], attributes := #[] }
def k7m1 : Method := { name := "<init>", desc := "([C)V", sig := { parameters := [(.array .char)], returnType := none }, accessFlags := 1, code := some k7c1 }
def k7c2 : Code := { maxStack := 2, maxLocals := 2, code := jdk_42_method_56_code, exceptionTable := #[], attributes := #[] }
def k7m2 : Method := { name := "charAt", desc := "(I)C", sig := { parameters := [.int], returnType := some .char }, accessFlags := 1, code := some k7c2 }
def k7c3 : Code := { maxStack := 4, maxLocals := 6, code := jdk_42_method_149_code, exceptionTable := #[], attributes := #[] }
def k7m3 : Method := { name := "<init>", desc := "([CIILjava/lang/Void;)V", sig := { parameters := [(.array .char), .int, .int, (.object "java/lang/Void")], returnType := none }, accessFlags := 2, code := some k7c3 }
def k7c4 : Code := { maxStack := 1, maxLocals := 1, code := jdk_42_method_154_code, exceptionTable := #[], attributes := #[] }
def k7m4 : Method := { name := "isLatin1", desc := "()Z", sig := { parameters := [], returnType := some .boolean }, accessFlags := 0, code := some k7c4 }
def k7c5 : Code := { maxStack := 3, maxLocals := 2, code := jdk_42_method_155_code, exceptionTable := #[], attributes := #[] }
def k7m5 : Method := { name := "checkIndex", desc := "(II)V", sig := { parameters := [.int, .int], returnType := none }, accessFlags := 8, code := some k7c5 }
/-- java/lang/String -/
def k7 : Class := { plain "java/lang/String" (some 0) with
  accessFlags := 49
  interfaces := #[2, 3, 4, 5, 6]
  cf := some (fileOf pool7 10 #[.nestMembers #[1103]] #[{ accessFlags := 1, nameIndex := 5, descriptorIndex := 6, attributes := #[] }, { accessFlags := 1, nameIndex := 5, descriptorIndex := 1010, attributes := #[] }, { accessFlags := 1, nameIndex := 497, descriptorIndex := 427, attributes := #[] }, { accessFlags := 2, nameIndex := 5, descriptorIndex := 29, attributes := #[] }, { accessFlags := 0, nameIndex := 494, descriptorIndex := 142, attributes := #[] }, { accessFlags := 8, nameIndex := 501, descriptorIndex := 391, attributes := #[] }] 49 2 #[1106, 1108, 575, 1110, 1112] #[{ accessFlags := 18, nameIndex := 13, descriptorIndex := 14, attributes := #[] }, { accessFlags := 18, nameIndex := 17, descriptorIndex := 18, attributes := #[] }, { accessFlags := 2, nameIndex := 21, descriptorIndex := 22, attributes := #[] }, { accessFlags := 2, nameIndex := 25, descriptorIndex := 26, attributes := #[] }, { accessFlags := 26, nameIndex := 1116, descriptorIndex := 1117, attributes := #[] }, { accessFlags := 24, nameIndex := 40, descriptorIndex := 26, attributes := #[] }, { accessFlags := 26, nameIndex := 1101, descriptorIndex := 1102, attributes := #[] }, { accessFlags := 26, nameIndex := 1121, descriptorIndex := 1122, attributes := #[] }, { accessFlags := 25, nameIndex := 599, descriptorIndex := 600, attributes := #[] }, { accessFlags := 24, nameIndex := 1125, descriptorIndex := 18, attributes := #[] }, { accessFlags := 24, nameIndex := 1127, descriptorIndex := 18, attributes := #[] }])
  fields := #[{ name := "value", type := (.array .byte), accessFlags := 18, slot := 0, constantValue := 0 }, { name := "coder", type := .byte, accessFlags := 18, slot := 1, constantValue := 0 }, { name := "hash", type := .int, accessFlags := 2, slot := 2, constantValue := 0 }, { name := "hashIsZero", type := .boolean, accessFlags := 2, slot := 3, constantValue := 0 }, { name := "serialVersionUID", type := .long, accessFlags := 26, slot := 0, constantValue := 0 }, { name := "COMPACT_STRINGS", type := .boolean, accessFlags := 24, slot := 1, constantValue := 0 }, { name := "serialPersistentFields", type := (.array (.object "java/io/ObjectStreamField")), accessFlags := 26, slot := 2, constantValue := 0 }, { name := "REPL", type := .char, accessFlags := 26, slot := 3, constantValue := 0 }, { name := "CASE_INSENSITIVE_ORDER", type := (.object "java/util/Comparator"), accessFlags := 25, slot := 4, constantValue := 0 }, { name := "LATIN1", type := .byte, accessFlags := 24, slot := 5, constantValue := 0 }, { name := "UTF16", type := .byte, accessFlags := 24, slot := 6, constantValue := 0 }]
  methods := #[k7m0, k7m1, k7m2, k7m3, k7m4, k7m5]
  instanceTypes := #[(.array .byte), .byte, .int, .boolean]
  staticTypes := #[.long, .boolean, (.array (.object "java/io/ObjectStreamField")), .char, (.object "java/util/Comparator"), .byte, .byte]
  resolved := Array.replicate 1451 none
  statics := some 0 }

def pool8 : Array CpInfo := pool [(6, .class_ 8), (1, u "java/lang/Object"), (0, u "<init>"), (0, u "()V"), (1, .class_ 14), (1, u "java/lang/StringUTF16"), (31, u "$assertionsDisabled"), (0, u "Z"), (13, u "HI_BYTE_SHIFT"), (0, u "I"), (2, u "LO_BYTE_SHIFT"), (49, .methodref 12 116), (0, .nameAndType 117 118), (0, u "compress"), (0, u "([CI[BII)I"), (3, u "([CII)[B"), (138, u "coderFromArrayLen"), (0, u "([BI)B"), (106, .class_ 371), (1, u "java/lang/StringUTF16$LinesSpliterator"), (58, u "MAX_LENGTH"), (196, .class_ 628), (0, u "java/lang/StringUTF16$CodePointsSpliterator"), (0, .class_ 630), (0, u "java/lang/StringUTF16$CharsSpliterator")] 4

def k8m0 : Method := { name := "<init>", desc := "()V", sig := { parameters := [], returnType := none }, accessFlags := 0, code := none }
def k8c1 : Code := { maxStack := 2, maxLocals := 2, code := jdk_52_method_15_code, exceptionTable := #[], attributes := #[] }
def k8m1 : Method := { name := "coderFromArrayLen", desc := "([BI)B", sig := { parameters := [(.array .byte), .int], returnType := some .byte }, accessFlags := 8, code := some k8c1 }
def k8c2 : Code := { maxStack := 5, maxLocals := 6, code := jdk_52_method_16_code, exceptionTable := #[], attributes := #[] }
def k8m2 : Method := { name := "compress", desc := "([CII)[B", sig := { parameters := [(.array .char), .int, .int], returnType := some (.array .byte) }, accessFlags := 9, code := some k8c2 }
def k8c3 : Code := { maxStack := 3, maxLocals := 7, code := jdk_52_method_21_code, exceptionTable := #[], attributes := #[] }
def k8m3 : Method := { name := "compress", desc := "([CI[BII)I", sig := { parameters := [(.array .char), .int, (.array .byte), .int, .int], returnType := some .int }, accessFlags := 9, code := some k8c3 }
/-- java/lang/StringUTF16 -/
def k8 : Class := { plain "java/lang/StringUTF16" (some 0) with
  accessFlags := 48
  interfaces := #[]
  cf := some (fileOf pool8 12 #[.nestMembers #[627, 629, 369]] #[{ accessFlags := 0, nameIndex := 9, descriptorIndex := 10, attributes := #[] }, { accessFlags := 8, nameIndex := 261, descriptorIndex := 262, attributes := #[] }, { accessFlags := 9, nameIndex := 117, descriptorIndex := 122, attributes := #[] }, { accessFlags := 9, nameIndex := 117, descriptorIndex := 118, attributes := #[] }] 48 6 #[] #[{ accessFlags := 26, nameIndex := 61, descriptorIndex := 62, attributes := #[] }, { accessFlags := 26, nameIndex := 65, descriptorIndex := 62, attributes := #[] }, { accessFlags := 24, nameIndex := 430, descriptorIndex := 62, attributes := #[] }, { accessFlags := 4120, nameIndex := 46, descriptorIndex := 47, attributes := #[] }])
  fields := #[{ name := "HI_BYTE_SHIFT", type := .int, accessFlags := 26, slot := 0, constantValue := 0 }, { name := "LO_BYTE_SHIFT", type := .int, accessFlags := 26, slot := 1, constantValue := 0 }, { name := "MAX_LENGTH", type := .int, accessFlags := 24, slot := 2, constantValue := 0 }, { name := "$assertionsDisabled", type := .boolean, accessFlags := 4120, slot := 3, constantValue := 0 }]
  methods := #[k8m0, k8m1, k8m2, k8m3]
  instanceTypes := #[]
  staticTypes := #[.int, .int, .int, .boolean]
  resolved := Array.replicate 635 none
  statics := none }

def pool9 : Array CpInfo := pool [(2, .class_ 4), (1, u "java/lang/Object"), (0, u "<init>"), (0, u "()V"), (0, .methodref 8 9), (0, .class_ 10), (0, .nameAndType 11 12), (0, u "java/lang/String"), (0, u "charAt"), (0, u "(I)C"), (0, .long 10), (1, .long 48), (1, .class_ 18), (0, u "com/example/fieldgate/fieldgate/record/Digits"), (5, u "value"), (0, u "(Ljava/lang/String;II)J")] 4

def k9m0 : Method := { name := "<init>", desc := "()V", sig := { parameters := [], returnType := none }, accessFlags := 2, code := none }
def k9c1 : Code := { maxStack := 4, maxLocals := 6, code := prog_20_method_3_code, exceptionTable := #[], attributes := #[] }
def k9m1 : Method := { name := "value", desc := "(Ljava/lang/String;II)J", sig := { parameters := [(.object "java/lang/String"), .int, .int], returnType := some .long }, accessFlags := 9, code := some k9c1 }
/-- com/example/fieldgate/fieldgate/record/Digits -/
def k9 : Class := { plain "com/example/fieldgate/fieldgate/record/Digits" (some 0) with
  accessFlags := 49
  interfaces := #[]
  cf := some (fileOf pool9 17 #[] #[{ accessFlags := 2, nameIndex := 5, descriptorIndex := 6, attributes := #[] }, { accessFlags := 9, nameIndex := 24, descriptorIndex := 25, attributes := #[] }] 49 2 #[] #[])
  fields := #[]
  methods := #[k9m0, k9m1]
  instanceTypes := #[]
  staticTypes := #[]
  resolved := Array.replicate 30 none
  statics := none }

def pool10 : Array CpInfo := pool [(1, .class_ 2), (0, u "java/lang/String"), (1, .class_ 6), (1, u "java/lang/Object"), (0, u "<init>"), (0, u "()V"), (0, .methodref 1 10), (0, .nameAndType 11 12), (0, u "checkIndex"), (0, u "(II)V"), (1, .class_ 16), (1, u "java/lang/StringLatin1"), (36, u "([BI)C"), (67, u "$assertionsDisabled"), (0, u "Z"), (98, .class_ 223), (1, u "java/lang/StringLatin1$LinesSpliterator"), (28, u "charAt"), (137, .class_ 391), (0, u "java/lang/StringLatin1$CharsSpliterator")] 3

def k10m0 : Method := { name := "<init>", desc := "()V", sig := { parameters := [], returnType := none }, accessFlags := 0, code := none }
def k10c1 : Code := { maxStack := 2, maxLocals := 2, code := jdk_43_method_2_code, exceptionTable := #[], attributes := #[] }
def k10m1 : Method := { name := "charAt", desc := "([BI)C", sig := { parameters := [(.array .byte), .int], returnType := some .char }, accessFlags := 9, code := some k10c1 }
/-- java/lang/StringLatin1 -/
def k10 : Class := { plain "java/lang/StringLatin1" (some 0) with
  accessFlags := 48
  interfaces := #[]
  cf := some (fileOf pool10 14 #[.nestMembers #[390, 221]] #[{ accessFlags := 0, nameIndex := 7, descriptorIndex := 8, attributes := #[] }, { accessFlags := 9, nameIndex := 252, descriptorIndex := 53, attributes := #[] }] 48 4 #[] #[{ accessFlags := 4120, nameIndex := 121, descriptorIndex := 122, attributes := #[] }])
  fields := #[{ name := "$assertionsDisabled", type := .boolean, accessFlags := 4120, slot := 0, constantValue := 0 }]
  methods := #[k10m0, k10m1]
  instanceTypes := #[]
  staticTypes := #[.boolean]
  resolved := Array.replicate 395 none
  statics := none }

def pool11 : Array CpInfo := pool [(2, .class_ 4), (1, u "java/lang/Object"), (0, u "<init>"), (0, u "()V"), (17, .class_ 26), (1, u "jdk/internal/util/Preconditions"), (6, u "checkIndex"), (21, .class_ 56), (0, u "jdk/internal/util/Preconditions$4"), (57, .class_ 115), (0, u "jdk/internal/util/Preconditions$1"), (7, u "SIOOBE_FORMATTER"), (0, u "Ljava/util/function/BiFunction;"), (0, .class_ 126), (0, u "jdk/internal/util/Preconditions$2"), (3, u "AIOOBE_FORMATTER"), (0, .class_ 132), (0, u "jdk/internal/util/Preconditions$3"), (3, u "IOOBE_FORMATTER"), (41, u "(IILjava/util/function/BiFunction;)I")] 15

def k11m0 : Method := { name := "<init>", desc := "()V", sig := { parameters := [], returnType := none }, accessFlags := 1, code := none }
def k11c1 : Code := { maxStack := 3, maxLocals := 3, code := jdk_41_method_11_code, exceptionTable := #[], attributes := #[] }
def k11m1 : Method := { name := "checkIndex", desc := "(IILjava/util/function/BiFunction;)I", sig := { parameters := [.int, .int, (.object "java/util/function/BiFunction")], returnType := some .int }, accessFlags := 9, code := some k11c1 }
/-- jdk/internal/util/Preconditions -/
def k11 : Class := { plain "jdk/internal/util/Preconditions" (some 0) with
  accessFlags := 33
  interfaces := #[]
  cf := some (fileOf pool11 24 #[.nestMembers #[55, 131, 125, 114]] #[{ accessFlags := 1, nameIndex := 5, descriptorIndex := 6, attributes := #[] }, { accessFlags := 9, nameIndex := 33, descriptorIndex := 178, attributes := #[] }] 33 2 #[] #[{ accessFlags := 25, nameIndex := 123, descriptorIndex := 124, attributes := #[] }, { accessFlags := 25, nameIndex := 130, descriptorIndex := 124, attributes := #[] }, { accessFlags := 25, nameIndex := 136, descriptorIndex := 124, attributes := #[] }])
  fields := #[{ name := "SIOOBE_FORMATTER", type := (.object "java/util/function/BiFunction"), accessFlags := 25, slot := 0, constantValue := 0 }, { name := "AIOOBE_FORMATTER", type := (.object "java/util/function/BiFunction"), accessFlags := 25, slot := 1, constantValue := 0 }, { name := "IOOBE_FORMATTER", type := (.object "java/util/function/BiFunction"), accessFlags := 25, slot := 2, constantValue := 0 }]
  methods := #[k11m0, k11m1]
  instanceTypes := #[]
  staticTypes := #[(.object "java/util/function/BiFunction"), (.object "java/util/function/BiFunction"), (.object "java/util/function/BiFunction")]
  resolved := Array.replicate 194 none
  statics := some 1 }

def pool12 : Array CpInfo := pool [(9, u "<init>"), (6, .class_ 18), (1, u "java/lang/Object"), (0, u "()V"), (1, .class_ 23), (1, u "jdk/internal/util/ArraysSupport"), (0, u "LOG2_ARRAY_LONG_INDEX_SCALE"), (0, u "I"), (2, u "U"), (0, u "Ljdk/internal/misc/Unsafe;"), (8, u "BIG_ENDIAN"), (0, u "Z"), (8, u "LOG2_BYTE_BIT_SIZE"), (4, u "LOG2_ARRAY_INT_INDEX_SCALE"), (54, u "JLA"), (0, u "Ljdk/internal/access/JavaLangAccess;"), (11, u "LOG2_ARRAY_BOOLEAN_INDEX_SCALE"), (9, u "LOG2_ARRAY_BYTE_INDEX_SCALE"), (5, u "LOG2_ARRAY_CHAR_INDEX_SCALE"), (5, u "LOG2_ARRAY_SHORT_INDEX_SCALE"), (18, u "LOG2_ARRAY_FLOAT_INDEX_SCALE"), (24, u "LOG2_ARRAY_DOUBLE_INDEX_SCALE"), (89, u "T_BOOLEAN"), (2, u "T_CHAR"), (1, u "T_FLOAT"), (1, u "T_DOUBLE"), (1, u "T_BYTE"), (1, u "T_SHORT"), (1, u "T_INT"), (1, u "T_LONG"), (1, u "SOFT_MAX_ARRAY_LENGTH")] 83

def k12m0 : Method := { name := "<init>", desc := "()V", sig := { parameters := [], returnType := none }, accessFlags := 2, code := none }
/-- jdk/internal/util/ArraysSupport -/
def k12 : Class := { plain "jdk/internal/util/ArraysSupport" (some 0) with
  accessFlags := 33
  interfaces := #[]
  cf := some (fileOf pool12 21 #[] #[{ accessFlags := 2, nameIndex := 9, descriptorIndex := 19, attributes := #[] }] 33 16 #[] #[{ accessFlags := 24, nameIndex := 28, descriptorIndex := 29, attributes := #[] }, { accessFlags := 26, nameIndex := 38, descriptorIndex := 39, attributes := #[] }, { accessFlags := 25, nameIndex := 121, descriptorIndex := 25, attributes := #[] }, { accessFlags := 25, nameIndex := 131, descriptorIndex := 25, attributes := #[] }, { accessFlags := 25, nameIndex := 137, descriptorIndex := 25, attributes := #[] }, { accessFlags := 25, nameIndex := 143, descriptorIndex := 25, attributes := #[] }, { accessFlags := 25, nameIndex := 53, descriptorIndex := 25, attributes := #[] }, { accessFlags := 25, nameIndex := 24, descriptorIndex := 25, attributes := #[] }, { accessFlags := 25, nameIndex := 162, descriptorIndex := 25, attributes := #[] }, { accessFlags := 25, nameIndex := 187, descriptorIndex := 25, attributes := #[] }, { accessFlags := 26, nameIndex := 48, descriptorIndex := 25, attributes := #[] }, { accessFlags := 25, nameIndex := 277, descriptorIndex := 25, attributes := #[] }, { accessFlags := 25, nameIndex := 280, descriptorIndex := 25, attributes := #[] }, { accessFlags := 25, nameIndex := 282, descriptorIndex := 25, attributes := #[] }, { accessFlags := 25, nameIndex := 284, descriptorIndex := 25, attributes := #[] }, { accessFlags := 25, nameIndex := 286, descriptorIndex := 25, attributes := #[] }, { accessFlags := 25, nameIndex := 288, descriptorIndex := 25, attributes := #[] }, { accessFlags := 25, nameIndex := 290, descriptorIndex := 25, attributes := #[] }, { accessFlags := 25, nameIndex := 292, descriptorIndex := 25, attributes := #[] }, { accessFlags := 26, nameIndex := 108, descriptorIndex := 109, attributes := #[] }, { accessFlags := 25, nameIndex := 294, descriptorIndex := 25, attributes := #[] }])
  fields := #[{ name := "U", type := (.object "jdk/internal/misc/Unsafe"), accessFlags := 24, slot := 0, constantValue := 0 }, { name := "BIG_ENDIAN", type := .boolean, accessFlags := 26, slot := 1, constantValue := 0 }, { name := "LOG2_ARRAY_BOOLEAN_INDEX_SCALE", type := .int, accessFlags := 25, slot := 2, constantValue := 0 }, { name := "LOG2_ARRAY_BYTE_INDEX_SCALE", type := .int, accessFlags := 25, slot := 3, constantValue := 0 }, { name := "LOG2_ARRAY_CHAR_INDEX_SCALE", type := .int, accessFlags := 25, slot := 4, constantValue := 0 }, { name := "LOG2_ARRAY_SHORT_INDEX_SCALE", type := .int, accessFlags := 25, slot := 5, constantValue := 0 }, { name := "LOG2_ARRAY_INT_INDEX_SCALE", type := .int, accessFlags := 25, slot := 6, constantValue := 0 }, { name := "LOG2_ARRAY_LONG_INDEX_SCALE", type := .int, accessFlags := 25, slot := 7, constantValue := 0 }, { name := "LOG2_ARRAY_FLOAT_INDEX_SCALE", type := .int, accessFlags := 25, slot := 8, constantValue := 0 }, { name := "LOG2_ARRAY_DOUBLE_INDEX_SCALE", type := .int, accessFlags := 25, slot := 9, constantValue := 0 }, { name := "LOG2_BYTE_BIT_SIZE", type := .int, accessFlags := 26, slot := 10, constantValue := 0 }, { name := "T_BOOLEAN", type := .int, accessFlags := 25, slot := 11, constantValue := 0 }, { name := "T_CHAR", type := .int, accessFlags := 25, slot := 12, constantValue := 0 }, { name := "T_FLOAT", type := .int, accessFlags := 25, slot := 13, constantValue := 0 }, { name := "T_DOUBLE", type := .int, accessFlags := 25, slot := 14, constantValue := 0 }, { name := "T_BYTE", type := .int, accessFlags := 25, slot := 15, constantValue := 0 }, { name := "T_SHORT", type := .int, accessFlags := 25, slot := 16, constantValue := 0 }, { name := "T_INT", type := .int, accessFlags := 25, slot := 17, constantValue := 0 }, { name := "T_LONG", type := .int, accessFlags := 25, slot := 18, constantValue := 0 }, { name := "JLA", type := (.object "jdk/internal/access/JavaLangAccess"), accessFlags := 26, slot := 19, constantValue := 0 }, { name := "SOFT_MAX_ARRAY_LENGTH", type := .int, accessFlags := 25, slot := 20, constantValue := 0 }]
  methods := #[k12m0]
  instanceTypes := #[]
  staticTypes := #[(.object "jdk/internal/misc/Unsafe"), .boolean, .int, .int, .int, .int, .int, .int, .int, .int, .int, .int, .int, .int, .int, .int, .int, .int, .int, (.object "jdk/internal/access/JavaLangAccess"), .int]
  resolved := Array.replicate 378 none
  statics := none }

def pool13 : Array CpInfo := pool [(1, u "java/lang/Cloneable"), (0, .class_ 1), (0, u "java/lang/Object"), (0, .class_ 3)] 3

/-- java/lang/Cloneable -/
def k13 : Class := { plain "java/lang/Cloneable" (some 0) with
  accessFlags := 1537
  interfaces := #[]
  cf := some (fileOf pool13 2 #[] #[] 1537 4 #[] #[])
  fields := #[]
  methods := #[]
  instanceTypes := #[]
  staticTypes := #[]
  resolved := Array.replicate 8 none
  statics := none }

/-- the primitive byte -/
def k14 : Class := { plain "byte" none with kind := .primitive 'B', accessFlags := 0x411 }
/-- [B -/
def k15 : Class := { plain "[B" (some 0) with kind := .array 14 .byte, interfaces := #[13, 2], accessFlags := 1041 }

/-- the primitive char -/
def k16 : Class := { plain "char" none with kind := .primitive 'C', accessFlags := 0x411 }
/-- [C -/
def k17 : Class := { plain "[C" (some 0) with kind := .array 16 .char, interfaces := #[13, 2], accessFlags := 1041 }

/-- the primitive int -/
def k18 : Class := { plain "int" none with kind := .primitive 'I', accessFlags := 0x411 }
/-- [I -/
def k19 : Class := { plain "[I" (some 0) with kind := .array 18 .int, interfaces := #[13, 2], accessFlags := 1041 }

/-- the primitive long -/
def k20 : Class := { plain "long" none with kind := .primitive 'J', accessFlags := 0x411 }
/-- [J -/
def k21 : Class := { plain "[J" (some 0) with kind := .array 20 .long, interfaces := #[13, 2], accessFlags := 1041 }

def heap : Heap := #[{ cls := 7, slots := #[.long 0, .int 1, .null, .int 0, .null, .int 0, .int 0], vm := .statics 7 },
  { cls := 11, slots := #[.null, .null, .null], vm := .statics 11 }]
def classes : Array Class := #[k0, k1, k2, k3, k4, k5, k6, k7, k8, k9, k10, k11, k12, k13, k14, k15, k16, k17, k18, k19, k20, k21]
def interned : List (Array UInt16 × Addr) := []
def slotsUsed : Nat := 10
def theMethod : MethodId := ⟨1, 6⟩
def args0 : Array Value := #[.long 1, .long 5, .long 7, .long 3, .int 2, .int 4]
def aboutOver (below : List Frame) : State where
  vm := { classes := classes, interned := interned.toArray }
  heap := heap
  slotsUsed := slotsUsed
  threads := #[{ frames := .invoking theMethod args0 :: below }]
def below0 : List Frame := [.native { method := ⟨0, 0⟩, args := #[] }]
def about1 : State := aboutOver below0
def p0 : Program := .bare "" "" ""
def e0 : Env := launch0.env 0 0 0
theorem w_frames : about1.frames = Frame.invoking theMethod args0 :: below0 := rfl
set_option maxRecDepth 65536 in
theorem w_args : argsFit about1.vm theMethod args0 = true := by decide +kernel
set_option maxRecDepth 65536 in
theorem w_heap : heapFits about1 = true := by decide +kernel
set_option maxRecDepth 65536 in
theorem w_runnable : about1.curStatus? = some .runnable := by decide +kernel
set_option maxRecDepth 65536 in
theorem w_alone : about1.alone = true := by decide +kernel
set_option maxRecDepth 65536 in
theorem w_named : about1.methodNamed? x = some theMethod := by decide +kernel
set_option maxRecDepth 65536 in
theorem w_hears : about1.hears theMethod below0 = true := by decide +kernel
set_option maxRecDepth 65536 in
theorem w_ripe : about1.ripe theMethod args0 below0 = true := by decide +kernel
theorem w_running : about1.status = .running := rfl
set_option maxRecDepth 65536 in
theorem w_room : about1.hasRoom e0.platform room_1 = true :=
  launch0.hasRoom_least _ room_1 (by decide +kernel) (by decide +kernel) (by decide +kernel) (by decide +kernel) (by decide +kernel) (by decide +kernel)
theorem allAtoms_all (ts : List Jvm.Cond) (a : Array Jvm.Value) (st : Jvm.State) : (allAtoms ts).before a st = ts.all (fun c => c.before a st) := by
  induction ts with
  | nil => rfl
  | cons c t ih =>
    show (Jvm.Cond.and c (allAtoms t)).before a st = _
    rw [Jvm.Cond.before_and, ih, List.all_cons]
def words1 : List Jvm.Cond := Jvm.Cond.code x code maxLocals ret :: tables_1
/-- a 'code' word, met by the world's own term for the bytes: nothing is compared byte by byte -/
theorem code_word {y : MethodName} {bytes : ByteArray} {mx : Nat} {rt : Option FieldType} {a : Array Value} {s : State} {m : MethodId} {meth : Method} {c : Code} (h1 : s.methodNamed? y = some m) (h2 : s.vm.method? m = some meth) (h3 : meth.code = some c) (h4 : c.code = bytes)
    (h5 : (c.maxLocals == mx && c.exceptionTable.isEmpty && decide (c.maxStack ≤ mostOperands) && decide (meth.sig.returnType = rt) && !meth.locks && decide (parseMethodDescriptor y.desc = some meth.sig)) = true) : (Jvm.Cond.code y bytes mx rt).before a s = true := by
  simp only [Bool.and_eq_true, beq_iff_eq, Bool.not_eq_true', decide_eq_true_eq] at h5
  obtain ⟨⟨⟨⟨⟨g1, g2⟩, g3⟩, g4⟩, g5⟩, g6⟩ := h5
  simp [Cond.before, Cond.holds, Cond.value, h1, h2, h3, h4, g1, g2, g3, g4, g5, g6]
def isCode : Jvm.Cond → Bool
  | .code _ _ _ _ => true
  | _ => false
theorem all_split {L : List Jvm.Cond} {P : Jvm.Cond → Bool} (h1 : L.all (fun c => isCode c || P c) = true) (h2 : ∀ c ∈ L.filter isCode, P c = true) : L.all P = true := by
  refine List.all_eq_true.mpr fun c hc => ?_
  have h := List.all_eq_true.mp h1 c hc
  rcases Bool.eq_false_or_eq_true (isCode c) with hi | hi
  · exact h2 c (List.mem_filter.mpr ⟨hc, hi⟩)
  · simpa [hi] using h
set_option maxRecDepth 65536 in
theorem w_c0 : (Jvm.Cond.code x code maxLocals ret).before args0 about1 = true := code_word (m := ⟨1, 6⟩) (meth := k1m6) (c := k1c6) (by decide +kernel) rfl rfl rfl (by decide +kernel)
set_option maxRecDepth 65536 in
theorem w_c1 : (Jvm.Cond.code ({ cls := "com/example/fieldgate/fieldgate/record/DigitsValuePinLaw", name := "at", desc := "(JJJJIII)C" } : Jvm.MethodName) method_5_code (11 : Nat) (Option.some Jvm.ClassFile.FieldType.char)).before args0 about1 = true := code_word (m := ⟨1, 4⟩) (meth := k1m4) (c := k1c4) (by decide +kernel) rfl rfl rfl (by decide +kernel)
set_option maxRecDepth 65536 in
theorem w_c2 : (Jvm.Cond.code ({ cls := "com/example/fieldgate/fieldgate/record/DigitsValuePinLaw", name := "junk", desc := "(JJI)C" } : Jvm.MethodName) method_4_code (7 : Nat) (Option.some Jvm.ClassFile.FieldType.char)).before args0 about1 = true := code_word (m := ⟨1, 3⟩) (meth := k1m3) (c := k1c3) (by decide +kernel) rfl rfl rfl (by decide +kernel)
set_option maxRecDepth 65536 in
theorem w_c3 : (Jvm.Cond.code ({ cls := "java/lang/String", name := "<init>", desc := "([C)V" } : Jvm.MethodName) jdk_42_method_3_code (2 : Nat) (Option.none : Option Jvm.ClassFile.FieldType)).before args0 about1 = true := code_word (m := ⟨7, 1⟩) (meth := k7m1) (c := k7c1) (by decide +kernel) rfl rfl rfl (by decide +kernel)
set_option maxRecDepth 65536 in
theorem w_c4 : (Jvm.Cond.code ({ cls := "java/lang/String", name := "<init>", desc := "([CIILjava/lang/Void;)V" } : Jvm.MethodName) jdk_42_method_149_code (6 : Nat) (Option.none : Option Jvm.ClassFile.FieldType)).before args0 about1 = true := code_word (m := ⟨7, 3⟩) (meth := k7m3) (c := k7c3) (by decide +kernel) rfl rfl rfl (by decide +kernel)
set_option maxRecDepth 65536 in
theorem w_c5 : (Jvm.Cond.code ({ cls := "java/lang/Object", name := "<init>", desc := "()V" } : Jvm.MethodName) object_method_1_code (1 : Nat) (Option.none : Option Jvm.ClassFile.FieldType)).before args0 about1 = true := code_word (m := ⟨0, 0⟩) (meth := k0m0) (c := k0c0) (by decide +kernel) rfl rfl rfl (by decide +kernel)
set_option maxRecDepth 65536 in
theorem w_c6 : (Jvm.Cond.code ({ cls := "java/lang/StringUTF16", name := "compress", desc := "([CII)[B" } : Jvm.MethodName) jdk_52_method_16_code (6 : Nat) (Option.some (Jvm.ClassFile.FieldType.array Jvm.ClassFile.FieldType.byte))).before args0 about1 = true := code_word (m := ⟨8, 2⟩) (meth := k8m2) (c := k8c2) (by decide +kernel) rfl rfl rfl (by decide +kernel)
set_option maxRecDepth 65536 in
theorem w_c7 : (Jvm.Cond.code ({ cls := "java/lang/StringUTF16", name := "compress", desc := "([CI[BII)I" } : Jvm.MethodName) jdk_52_method_21_code (7 : Nat) (Option.some Jvm.ClassFile.FieldType.int)).before args0 about1 = true := code_word (m := ⟨8, 3⟩) (meth := k8m3) (c := k8c3) (by decide +kernel) rfl rfl rfl (by decide +kernel)
set_option maxRecDepth 65536 in
theorem w_c8 : (Jvm.Cond.code ({ cls := "java/lang/StringUTF16", name := "coderFromArrayLen", desc := "([BI)B" } : Jvm.MethodName) jdk_52_method_15_code (2 : Nat) (Option.some Jvm.ClassFile.FieldType.byte)).before args0 about1 = true := code_word (m := ⟨8, 1⟩) (meth := k8m1) (c := k8c1) (by decide +kernel) rfl rfl rfl (by decide +kernel)
set_option maxRecDepth 65536 in
theorem w_c9 : (Jvm.Cond.code ({ cls := "com/example/fieldgate/fieldgate/record/DigitsValuePinLaw", name := "term", desc := "(JJIII)J" } : Jvm.MethodName) method_6_code (7 : Nat) (Option.some Jvm.ClassFile.FieldType.long)).before args0 about1 = true := code_word (m := ⟨1, 5⟩) (meth := k1m5) (c := k1c5) (by decide +kernel) rfl rfl rfl (by decide +kernel)
set_option maxRecDepth 65536 in
theorem w_c10 : (Jvm.Cond.code ({ cls := "com/example/fieldgate/fieldgate/record/Digits", name := "value", desc := "(Ljava/lang/String;II)J" } : Jvm.MethodName) prog_20_method_3_code (6 : Nat) (Option.some Jvm.ClassFile.FieldType.long)).before args0 about1 = true := code_word (m := ⟨9, 1⟩) (meth := k9m1) (c := k9c1) (by decide +kernel) rfl rfl rfl (by decide +kernel)
set_option maxRecDepth 65536 in
theorem w_c11 : (Jvm.Cond.code ({ cls := "com/example/fieldgate/fieldgate/record/DigitsValuePinLaw", name := "digit", desc := "(JJI)I" } : Jvm.MethodName) method_3_code (7 : Nat) (Option.some Jvm.ClassFile.FieldType.int)).before args0 about1 = true := code_word (m := ⟨1, 2⟩) (meth := k1m2) (c := k1c2) (by decide +kernel) rfl rfl rfl (by decide +kernel)
set_option maxRecDepth 65536 in
theorem w_c12 : (Jvm.Cond.code ({ cls := "com/example/fieldgate/fieldgate/record/DigitsValuePinLaw", name := "pow10", desc := "(I)J" } : Jvm.MethodName) method_2_code (2 : Nat) (Option.some Jvm.ClassFile.FieldType.long)).before args0 about1 = true := code_word (m := ⟨1, 1⟩) (meth := k1m1) (c := k1c1) (by decide +kernel) rfl rfl rfl (by decide +kernel)
set_option maxRecDepth 65536 in
theorem w_c13 : (Jvm.Cond.code ({ cls := "java/lang/String", name := "charAt", desc := "(I)C" } : Jvm.MethodName) jdk_42_method_56_code (2 : Nat) (Option.some Jvm.ClassFile.FieldType.char)).before args0 about1 = true := code_word (m := ⟨7, 2⟩) (meth := k7m2) (c := k7c2) (by decide +kernel) rfl rfl rfl (by decide +kernel)
set_option maxRecDepth 65536 in
theorem w_c14 : (Jvm.Cond.code ({ cls := "java/lang/String", name := "isLatin1", desc := "()Z" } : Jvm.MethodName) jdk_42_method_154_code (1 : Nat) (Option.some Jvm.ClassFile.FieldType.boolean)).before args0 about1 = true := code_word (m := ⟨7, 4⟩) (meth := k7m4) (c := k7c4) (by decide +kernel) rfl rfl rfl (by decide +kernel)
set_option maxRecDepth 65536 in
theorem w_c15 : (Jvm.Cond.code ({ cls := "java/lang/StringLatin1", name := "charAt", desc := "([BI)C" } : Jvm.MethodName) jdk_43_method_2_code (2 : Nat) (Option.some Jvm.ClassFile.FieldType.char)).before args0 about1 = true := code_word (m := ⟨10, 1⟩) (meth := k10m1) (c := k10c1) (by decide +kernel) rfl rfl rfl (by decide +kernel)
set_option maxRecDepth 65536 in
theorem w_c16 : (Jvm.Cond.code ({ cls := "java/lang/String", name := "checkIndex", desc := "(II)V" } : Jvm.MethodName) jdk_42_method_155_code (2 : Nat) (Option.none : Option Jvm.ClassFile.FieldType)).before args0 about1 = true := code_word (m := ⟨7, 5⟩) (meth := k7m5) (c := k7c5) (by decide +kernel) rfl rfl rfl (by decide +kernel)
set_option maxRecDepth 65536 in
theorem w_c17 : (Jvm.Cond.code ({ cls := "jdk/internal/util/Preconditions", name := "checkIndex", desc := "(IILjava/util/function/BiFunction;)I" } : Jvm.MethodName) jdk_41_method_11_code (3 : Nat) (Option.some Jvm.ClassFile.FieldType.int)).before args0 about1 = true := code_word (m := ⟨11, 1⟩) (meth := k11m1) (c := k11c1) (by decide +kernel) rfl rfl rfl (by decide +kernel)
def codes1 : List Jvm.Cond := [Jvm.Cond.code x code maxLocals ret, Jvm.Cond.code ({ cls := "com/example/fieldgate/fieldgate/record/DigitsValuePinLaw", name := "at", desc := "(JJJJIII)C" } : Jvm.MethodName) method_5_code (11 : Nat) (Option.some Jvm.ClassFile.FieldType.char), Jvm.Cond.code ({ cls := "com/example/fieldgate/fieldgate/record/DigitsValuePinLaw", name := "junk", desc := "(JJI)C" } : Jvm.MethodName) method_4_code (7 : Nat) (Option.some Jvm.ClassFile.FieldType.char), Jvm.Cond.code ({ cls := "java/lang/String", name := "<init>", desc := "([C)V" } : Jvm.MethodName) jdk_42_method_3_code (2 : Nat) (Option.none : Option Jvm.ClassFile.FieldType), Jvm.Cond.code ({ cls := "java/lang/String", name := "<init>", desc := "([CIILjava/lang/Void;)V" } : Jvm.MethodName) jdk_42_method_149_code (6 : Nat) (Option.none : Option Jvm.ClassFile.FieldType), Jvm.Cond.code ({ cls := "java/lang/Object", name := "<init>", desc := "()V" } : Jvm.MethodName) object_method_1_code (1 : Nat) (Option.none : Option Jvm.ClassFile.FieldType), Jvm.Cond.code ({ cls := "java/lang/StringUTF16", name := "compress", desc := "([CII)[B" } : Jvm.MethodName) jdk_52_method_16_code (6 : Nat) (Option.some (Jvm.ClassFile.FieldType.array Jvm.ClassFile.FieldType.byte)), Jvm.Cond.code ({ cls := "java/lang/StringUTF16", name := "compress", desc := "([CI[BII)I" } : Jvm.MethodName) jdk_52_method_21_code (7 : Nat) (Option.some Jvm.ClassFile.FieldType.int), Jvm.Cond.code ({ cls := "java/lang/StringUTF16", name := "coderFromArrayLen", desc := "([BI)B" } : Jvm.MethodName) jdk_52_method_15_code (2 : Nat) (Option.some Jvm.ClassFile.FieldType.byte), Jvm.Cond.code ({ cls := "com/example/fieldgate/fieldgate/record/DigitsValuePinLaw", name := "term", desc := "(JJIII)J" } : Jvm.MethodName) method_6_code (7 : Nat) (Option.some Jvm.ClassFile.FieldType.long), Jvm.Cond.code ({ cls := "com/example/fieldgate/fieldgate/record/Digits", name := "value", desc := "(Ljava/lang/String;II)J" } : Jvm.MethodName) prog_20_method_3_code (6 : Nat) (Option.some Jvm.ClassFile.FieldType.long), Jvm.Cond.code ({ cls := "com/example/fieldgate/fieldgate/record/DigitsValuePinLaw", name := "digit", desc := "(JJI)I" } : Jvm.MethodName) method_3_code (7 : Nat) (Option.some Jvm.ClassFile.FieldType.int), Jvm.Cond.code ({ cls := "com/example/fieldgate/fieldgate/record/DigitsValuePinLaw", name := "pow10", desc := "(I)J" } : Jvm.MethodName) method_2_code (2 : Nat) (Option.some Jvm.ClassFile.FieldType.long), Jvm.Cond.code ({ cls := "java/lang/String", name := "charAt", desc := "(I)C" } : Jvm.MethodName) jdk_42_method_56_code (2 : Nat) (Option.some Jvm.ClassFile.FieldType.char), Jvm.Cond.code ({ cls := "java/lang/String", name := "isLatin1", desc := "()Z" } : Jvm.MethodName) jdk_42_method_154_code (1 : Nat) (Option.some Jvm.ClassFile.FieldType.boolean), Jvm.Cond.code ({ cls := "java/lang/StringLatin1", name := "charAt", desc := "([BI)C" } : Jvm.MethodName) jdk_43_method_2_code (2 : Nat) (Option.some Jvm.ClassFile.FieldType.char), Jvm.Cond.code ({ cls := "java/lang/String", name := "checkIndex", desc := "(II)V" } : Jvm.MethodName) jdk_42_method_155_code (2 : Nat) (Option.none : Option Jvm.ClassFile.FieldType), Jvm.Cond.code ({ cls := "jdk/internal/util/Preconditions", name := "checkIndex", desc := "(IILjava/util/function/BiFunction;)I" } : Jvm.MethodName) jdk_41_method_11_code (3 : Nat) (Option.some Jvm.ClassFile.FieldType.int)]
set_option maxRecDepth 65536 in
theorem codes_eq : words1.filter isCode = codes1 := rfl
theorem w_codes : ∀ c ∈ words1.filter isCode, c.before args0 about1 = true := by
  rw [codes_eq]
  intro c hc
  simp only [codes1, List.mem_cons, List.not_mem_nil, or_false] at hc
  rcases hc with rfl | rfl | rfl | rfl | rfl | rfl | rfl | rfl | rfl | rfl | rfl | rfl | rfl | rfl | rfl | rfl | rfl | rfl
  · exact w_c0
  · exact w_c1
  · exact w_c2
  · exact w_c3
  · exact w_c4
  · exact w_c5
  · exact w_c6
  · exact w_c7
  · exact w_c8
  · exact w_c9
  · exact w_c10
  · exact w_c11
  · exact w_c12
  · exact w_c13
  · exact w_c14
  · exact w_c15
  · exact w_c16
  · exact w_c17
set_option maxRecDepth 65536 in
theorem w_t1 : (words1.take 24).all (fun c => isCode c || c.before args0 about1) = true := by decide +kernel
set_option maxRecDepth 65536 in
theorem w_t2 : ((words1.drop 24).take 24).all (fun c => isCode c || c.before args0 about1) = true := by decide +kernel
set_option maxRecDepth 65536 in
theorem w_t3 : (((words1.drop 24).drop 24).take 24).all (fun c => isCode c || c.before args0 about1) = true := by decide +kernel
set_option maxRecDepth 65536 in
theorem w_t4 : (((words1.drop 24).drop 24).drop 24).all (fun c => isCode c || c.before args0 about1) = true := by decide +kernel
theorem w_tables : (allAtoms (Jvm.Cond.code x code maxLocals ret :: tables_1)).before args0 about1 = true := by
  rw [allAtoms_all]
  show words1.all (fun c => c.before args0 about1) = true
  refine all_split ?_ w_codes
  rw [← List.take_append_drop 24 words1, List.all_append, w_t1, ← List.take_append_drop 24 (words1.drop 24), List.all_append, w_t2, ← List.take_append_drop 24 ((words1.drop 24).drop 24), List.all_append, w_t3, w_t4]
  rfl
set_option maxRecDepth 65536 in
theorem w_rest : rest_1_c.before args0 about1 = true := by decide +kernel
set_option maxRecDepth 65536 in
theorem w_case : (Jvm.Cond.and given_1 narrow_1).before args0 about1 = true := by decide +kernel
theorem w_applies : (headSpec (Jvm.Cond.code x code maxLocals ret :: tables_1) room_1).applies x e0.platform about1 = true :=
  (Spec.applies_iff w_frames).mpr ⟨w_running, w_runnable, w_alone, w_named, w_hears, w_ripe, w_room, w_tables⟩
theorem atStart : AtStart classFile x code maxLocals ret World_1 tables_1 room_1 Calls_1 rest_1 Pre_1 launch0 p0 e0 about1 theMethod args0 below0 :=
  ⟨lists_1, trivial, launch0.admits_env _ _ _, launch0.least_env, fairChoices_fair.cas, fairChoices_fair.clock, w_frames, w_args, w_heap, w_applies, trivial, w_rest, w_case⟩
end start1
theorem witness_1 : WitnessClaimed_1 := ⟨start1.p0, start1.e0, start1.about1, start1.theMethod, start1.args0, start1.below0, start1.atStart⟩
end Jvm.Pilot.@@N@@
