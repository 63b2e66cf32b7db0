import JvmDerived
import JvmDerived.Pilot.@@N@@Statement
import JvmDerived.Pilot.@@N@@Code
set_option linter.unusedVariables false
set_option linter.unusedSimpArgs false
namespace Jvm.RoadKit
open Sem ClassFile Op Lib Jvm.Stand Jvm.Free Jvm.LawKit
section New
variable {p : Program} {l : Launch} {e : Env} {R : Room} {s : State} {m : MethodId} {args : Array Value} {below : List Frame} {meth : Method} {c : Code} {T : State} {locs : List Loc} {cells slots : Nat}
theorem retI (X : Stand p l e R s m args below meth c T locs cells slots) (hx : p.tables.exec = Jvm.exec) {pc : Nat} {Ls : Array Slot} {z : Int32} {rest : List Value} (hret : meth.sig.returnType = some .int) (hd : decode c.code pc = .ok (.ireturn, 1)) {fs : List Frame}
    (hl : ∀ (f : JFrame) (acts : List Action), f.method = m → f.locked = none → f.entered = [] → (doReturn e (T.setTop f) acts (some (.int z))).1 = T.setFrames fs) : Steps p.tables e below (T.setTop (mkF m pc Ls (.int z :: rest))) (T.setFrames fs) := by
  have hm' : T.vm.method? m = some meth := X.method'
  have hn : narrow .int (.int z) = .int z := rfl
  show Steps p.tables e below (T.setTop { method := m, pc := pc, locals := Ls, stack := _ :: rest, locked := none }) _
  jvm_step X.here [X.here.top, hx, hd, hm', hret, hn]
  first | (intro acts; rw [hl _ acts rfl rfl rfl]) | rw [hl _ _ rfl rfl rfl]
  exact Steps.refl _
/-- a boolean, byte, char or short that is one already -/
theorem own_retB (X : Stand p l e R s m args below meth c T locs cells slots) (hx : p.tables.exec = Jvm.exec) {pc : Nat} {Ls : Array Slot} {z : Int32} {t : FieldType} {rest : List Value} (hret : meth.sig.returnType = some t) (ht : t = .boolean ∨ t = .byte ∨ t = .char ∨ t = .short) (hz : nar t z = z)
    (hd : decode c.code pc = .ok (.ireturn, 1)) {fs : List Frame} (hl : ∀ (f : JFrame) (acts : List Action), f.method = m → f.locked = none → f.entered = [] → (doReturn e (T.setTop f) acts (some (.int z))).1 = T.setFrames fs) :
    Steps p.tables e below (T.setTop (mkF m pc Ls (.int z :: rest))) (T.setFrames fs) := retN X hx hret ht hd (by rw [hz]; exact hl)
theorem own_retL (X : Stand p l e R s m args below meth c T locs cells slots) (hx : p.tables.exec = Jvm.exec) {pc : Nat} {Ls : Array Slot} {z : Int64} {rest : List Value} (hret : meth.sig.returnType = some .long) (hd : decode c.code pc = .ok (.lreturn, 1)) {fs : List Frame}
    (hl : ∀ (f : JFrame) (acts : List Action), f.method = m → f.locked = none → f.entered = [] → (doReturn e (T.setTop f) acts (some (.long z))).1 = T.setFrames fs) : Steps p.tables e below (T.setTop (mkF m pc Ls (.long z :: rest))) (T.setFrames fs) :=
  retOut X hx hret rfl (Or.inr (Or.inl ⟨rfl, rfl, z, rfl⟩)) hd hl
end New
end Jvm.RoadKit
namespace Jvm.Pilot.@@N@@
open Jvm Jvm.ClassFile Sem Op Lib Jvm.Free Jvm.Stand Jvm.LawKit Jvm.RoadKit Bundle Jvm.Pilot.@@N@@.Jvm.D
theorem own_w {a0 : Array Value} {Z : State} (hw : ∀ d ∈ tables_1, d.before a0 Z = true) (i : Nat) {d : Jvm.Cond} (h : tables_1[i]? = some d) : d.before a0 Z = true := hw _ (List.mem_of_getElem? h)
/-- from A the walk comes to an end that P takes -/
abbrev own_R (tb : Tables) (e : Env) (below : List Frame) (P : State → Outcome → Prop) (A : State) : Prop := ∃ t o, Steps tb e below A t ∧ t.status = .running ∧ Ended t below o ∧ P t o
abbrev own_P (s : State) (Q : Option Value → Heap → List Loc → Prop) (k n : Nat) (t : State) (o : Outcome) : Prop := ∃ v L, o = .returned v ∧ Q v t.heap L ∧ FrameEnd s o t L k n
abbrev own_PW (s : State) (Q : Option Value → Heap → List Loc → Prop) (k n : Nat) (t : State) (o : Outcome) : Prop := ∃ v L, o = .returned v ∧ Q v t.heap L ∧ ReturnedEndW s o t L k n
theorem own_step {tb : Tables} {e : Env} {below : List Frame} {P : State → Outcome → Prop} {A A' : State} (st : ∀ t, Steps tb e below A' t → Steps tb e below A t) (h : own_R tb e below P A') : own_R tb e below P A := by
  obtain ⟨t, o, h1, h2⟩ := h
  exact ⟨t, o, st t h1, h2⟩
theorem own_go {tb : Tables} {e : Env} {below : List Frame} {P : State → Outcome → Prop} {A A' : State} (st : Steps tb e below A A') (h : own_R tb e below P A') : own_R tb e below P A := own_step (fun _ k => st.trans k) h
theorem own_f {tb : Tables} {e : Env} {below : List Frame} {P : State → Outcome → Prop} {A : State} (T : State) (g : JFrame) (st : ∀ t, Steps tb e below (T.setTop g) t → Steps tb e below A t) (h : own_R tb e below P (T.setTop g)) : own_R tb e below P A := own_step st h
theorem own_g {tb : Tables} {e : Env} {below : List Frame} {P : State → Outcome → Prop} {A : State} (T : State) (g : JFrame) (st : Steps tb e below A (T.setTop g)) (h : own_R tb e below P (T.setTop g)) : own_R tb e below P A := own_go st h
theorem own_lsw {tb : Tables} [Ours tb] {e : Env} {below : List Frame} {T target : State} {m : MethodId} {c : Code} {g : JFrame} (h : At T m c below) (hx : tb.exec = Jvm.exec) (hg : g.method = m) {df : Int} {ps : Array (Int × Int)} {len : Nat} {o : Int} {pc0 pc' : Nat} (hpc : g.pc = pc0) (hd : decode c.code g.pc = .ok (.lookupswitch df ps, len)) {i : Int32} {rest : List Value} (hs : g.stack = .int i :: rest)
    (hord : (ps.toList.zip (ps.toList.drop 1)).all (fun (a, next) => a.1 < next.1) = true) (hoff : lookupswitch.offset ps.toList df i.toInt = o) (ho : 0 ≤ (pc0 : Int) + o) (hp : ((pc0 : Int) + o).toNat = pc')
    (hr : Steps tb e below (T.setTop { g with pc := pc', stack := rest }) target) : Steps tb e below (T.setTop g) target := by
  subst hg hpc hp
  jvm_step h [h.top, hx, hd, hs, hoff, ho, lookupswitch.wp_chain]
  exact ⟨by simpa using hord, hr⟩
theorem own_len {p : Program} {l : Launch} {e : Env} {R : Room} {s : State} {m : MethodId} {args : Array Value} {below : List Frame} {meth : Method} {c : Code} {T target : State} {locs : List Loc} {cells slots : Nat} {Z : State} {h : Heap} {a : Addr} {k : ClassId} {ty : FieldType} {z : Int32} {vs : List Value} {dv : Value}
    (X : Stand p l e R s m args below meth c T locs cells slots) (hx : p.tables.exec = Jvm.exec) (hZ : Z.Warmed39 s.vm) (eT : T.heap = h) (F : Arv Z h a k ty z vs dv) {g : JFrame} (hg : g.method = m) {rest : List Value} (hs : g.stack = .ref a :: rest) (hd : decode c.code g.pc = .ok (.arraylength, 1))
    (hr : Steps p.tables e below (T.setTop { g with pc := g.pc + 1, stack := .int z :: rest }) target) : Steps p.tables e below (T.setTop g) target := by
  obtain ⟨cl, A, -, S, q, -⟩ := F
  exact X.arraylength hx (by rw [eT]; exact A.1) (State.isArrayOf_alike hZ.alike A.2.1) hg hs hd _ (by rw [len_of S q]; exact hr)
theorem own_arvnew {Z : State} {h : Heap} {a : Addr} {k : ClassId} {ty : FieldType} {z : Int32} (n : Nat) (A : Arr Z h a (newA k ty z) ty) (q : ¬ z < 0) : Arv Z h a k ty z (List.replicate n (defaultValue ty)) (defaultValue ty) := (Arv.new A q).pad fun i => pad_rep [] _ n i
theorem own_narB (x : Int32) : nar .byte x.toInt8.toInt32 = x.toInt8.toInt32 := by show x.toInt8.toInt32.toInt8.toInt32 = _; simp
theorem own_narC (x : Int32) : nar .char x.toUInt32.toUInt16.toUInt32.toInt32 = x.toUInt32.toUInt16.toUInt32.toInt32 := by show x.toUInt32.toUInt16.toUInt32.toInt32.toUInt32.toUInt16.toUInt32.toInt32 = _; simp only [UInt32.toUInt32_toInt32, UInt16.toUInt16_toUInt32]
theorem own_fitB (x : Int32) : fits .byte (.int (nar .byte x)) = true := fits_nar_byte x
theorem own_nb {z : Int32} (h : z = 0 ∨ z = 1) : narrow .boolean (.int z) = .int z := by rcases h with rfl | rfl <;> rfl
theorem own_fb {z : Int32} (h : z = 0 ∨ z = 1) : fits .boolean (.int z) = true := by rcases h with rfl | rfl <;> rfl
theorem own_nar {z : Int32} (h : z = 0 ∨ z = 1) : nar .boolean z = z := by rcases h with rfl | rfl <;> rfl
def own_W (c : Int32) : Prop := 0 ≤ c.toInt ∧ c.toInt < 65536
theorem own_W.nar {c : Int32} (h : own_W c) : nar .char c = c := by
  obtain ⟨h1, h2⟩ := h
  show c.toUInt32.toUInt16.toUInt32.toInt32 = c
  apply Int32.toInt_inj.mp
  have q := c_i2c c
  omega
theorem own_Wc (x : Int32) : own_W (x.toUInt32.toUInt16.toUInt32.toInt32) := by
  have q := c_i2c x
  exact ⟨q.2.1, q.2.2⟩
theorem own_gc {c : Int32} (h : own_W c) : (((((c >>> ((0 : Int32) &&& 31)).toInt8.toInt32) &&& (255 : Int32)) <<< ((0 : Int32) &&& 31)) ||| ((((c >>> ((8 : Int32) &&& 31)).toInt8.toInt32) &&& (255 : Int32)) <<< ((8 : Int32) &&& 31))).toUInt32.toUInt16.toUInt32.toInt32 = c := by
  obtain ⟨h1, h2⟩ := h
  have a1 := c_ishr c 0 0 (by decide)
  have a2 := c_ishr c 8 8 (by decide)
  generalize (c >>> ((0 : Int32) &&& 31)) = x at *
  generalize (c >>> ((8 : Int32) &&& 31)) = y at *
  have b1 := c_i2b x
  have b2 := c_i2b y
  generalize x.toInt8.toInt32 = x1 at *
  generalize y.toInt8.toInt32 = y1 at *
  have d1 := c_mask x1 255 8 (by decide) (by decide)
  have d2 := c_mask y1 255 8 (by decide) (by decide)
  generalize (x1 &&& (255 : Int32)) = x2 at *
  generalize (y1 &&& (255 : Int32)) = y2 at *
  have f1 := c_ishl x2 0 0 (by decide)
  have f2 := c_ishl y2 8 8 (by decide)
  generalize (x2 <<< ((0 : Int32) &&& 31)) = x3 at *
  generalize (y2 <<< ((8 : Int32) &&& 31)) = y3 at *
  have r1 := rng32 x3
  have r2 := rng32 y3
  have e8 : ((2 ^ 8 : Nat) : Int) = 256 := by decide
  have e0 : ((2 ^ 0 : Nat) : Int) = 1 := by decide
  rw [e8] at *
  rw [e0] at *
  have x3v : x3.toInt = x.toInt % 256 := by omega
  have y3v : y3.toInt = 256 * (y.toInt % 256) := by omega
  have g := c_or' x3 y3 8 (by decide) 256 rfl (by omega) (by omega) (by omega)
  generalize (x3 ||| y3) = z at *
  have r3 := rng32 z
  have k := c_i2c z
  apply Int32.toInt_inj.mp
  omega
def own_low (c : Int32) : Int32 := if ¬ (c < (56320 : Int32)) ∧ ¬ ((57343 : Int32) < c) then 1 else 0
theorem own_57 {c : Int32} (h : c < (57344 : Int32)) : ¬ ((57343 : Int32) < c) := by
  rw [Int32.lt_iff_toInt_lt] at *
  have e1 : (57344 : Int32).toInt = 57344 := rfl
  have e2 : (57343 : Int32).toInt = 57343 := rfl
  omega
theorem own_75 {c : Int32} (h : ¬ ((57343 : Int32) < c)) : c < (57344 : Int32) := by
  rw [Int32.lt_iff_toInt_lt] at *
  have e1 : (57344 : Int32).toInt = 57344 := rfl
  have e2 : (57343 : Int32).toInt = 57343 := rfl
  omega
theorem own_low1 {c : Int32} (h : ¬ (own_low c) = 0) : own_low c = (1 : Int32) := by
  unfold own_low at *
  split at h
  · rename_i z; rw [if_pos z]
  · exact absurd rfl h
theorem own_add0 (x : Int32) : x + (0 : Int32) = x := Int32.add_zero x
theorem own_lc {c : Int32} (h : own_W c) (g : ¬ ((255 : Int32) < c)) : ((c.toInt8.toInt32) &&& (255 : Int32)).toUInt32.toUInt16.toUInt32.toInt32 = c := by
  obtain ⟨h1, h2⟩ := h
  rw [Int32.lt_iff_toInt_lt] at g
  have e1 : (255 : Int32).toInt = 255 := rfl
  have b := c_i2b c
  have d := c_mask (c.toInt8.toInt32) 255 8 (by decide) (by decide)
  have k := c_i2c ((c.toInt8.toInt32) &&& (255 : Int32))
  apply Int32.toInt_inj.mp
  omega
theorem own_col (c : Int32) : (((((3 : Int32) - (2 : Int32)) - ((0 : Int32) + (own_low c))) + (1 : Int32))) = ((2 : Int32) - (own_low c)) := by
  unfold own_low
  split <;> decide
theorem own_mono {l : Launch} {x : MethodName} {Sp : Spec} {P : Array Value → State → Prop} {Q Q' : Option Value → Heap → List Loc → Prop} {k n : Nat} (h : MetFree l x Sp P (fun _ _ _ _ _ => True) (fun _ U o U' => ∃ v L, o = .returned v ∧ Q v U'.heap L ∧ FrameEnd U o U' L k n)) (q : ∀ v h L, Q v h L → Q' v h L) :
    MetFree l x Sp P (fun _ _ _ _ _ => True) (fun _ U o U' => ∃ v L, o = .returned v ∧ Q' v U'.heap L ∧ FrameEnd U o U' L k n) := by
  intro p e ha hc hk s m args below hf happ hP hK
  obtain ⟨i, o, h1, h2, h3, v, L, h4, h5, h6⟩ := h p e ha hc hk s m args below hf happ hP hK
  exact ⟨i, o, h1, h2, h3, v, L, h4, q _ _ _ h5, h6⟩
theorem own_str {a0 : Array Value} {Z : State} (hw : ∀ d ∈ tables_1, d.before a0 Z = true) : ∀ a ∈ Bundle.stringAtoms, a.before a0 Z = true := by
  intro a ha
  simp only [Bundle.stringAtoms, List.mem_cons, List.not_mem_nil, or_false] at ha
  rcases ha with rfl | rfl | rfl | rfl | rfl | rfl | rfl
  · exact (own_w hw 8 rfl)
  · exact (own_w hw 9 rfl)
  · exact (own_w hw 10 rfl)
  · exact (own_w hw 11 rfl)
  · exact (own_w hw 12 rfl)
  · exact (own_w hw 13 rfl)
  · exact (own_w hw 14 rfl)
theorem own_sta {s : State} {args : Array Value} {C n d : String} {v : Int32} {ty : FieldType} (hf : Fit s) (w0 : (Jvm.Cond.laysStatic C n d).before args s = true) (w1 : (Jvm.Cond.initializedFor C n d).before args s = true) (w2 : (Jvm.Cond.eq (Term.static C n d) (Term.int v)).before args s = true) (ht : parseFieldDescriptor d = some ty) (hk : ty = .int ∨ ty = .boolean ∨ ty = .byte ∨ ty = .char ∨ ty = .short) : Sta s s.heap C n d (.int v) := by
  obtain ⟨u, eu, fu⟩ := static_fit hf w0 ht
  obtain ⟨x, rfl⟩ := fit_I fu hk
  have e : x = v := by
    have q := Cond.before_iff.mp w2
    have q2 := Cond.eq_ints (idx := []) (o := none) (first := s) eu (Term.int_eval v)
    rw [q2] at q
    simpa using q
  subst e
  exact Sta.start eu (Or.inl w1)
theorem pd__I : parseMethodDescriptor "()I" = some ⟨[], some .int⟩ := by decide +kernel
theorem pd__V : parseMethodDescriptor "()V" = some ⟨[], none⟩ := by decide +kernel
theorem pd__Z : parseMethodDescriptor "()Z" = some ⟨[], some .boolean⟩ := by decide +kernel
theorem pd__C_I : parseMethodDescriptor "(C)I" = some ⟨[.char], some .int⟩ := by decide +kernel
theorem pd__C_Z : parseMethodDescriptor "(C)Z" = some ⟨[.char], some .boolean⟩ := by decide +kernel
theorem pd__I_C : parseMethodDescriptor "(I)C" = some ⟨[.int], some .char⟩ := by decide +kernel
theorem pd__I_I : parseMethodDescriptor "(I)I" = some ⟨[.int], some .int⟩ := by decide +kernel
theorem pd__I_V : parseMethodDescriptor "(I)V" = some ⟨[.int], none⟩ := by decide +kernel
theorem pd__I_B : parseMethodDescriptor "(I)[B" = some ⟨[.int], some (.array .byte)⟩ := by decide +kernel
theorem pd__II_V : parseMethodDescriptor "(II)V" = some ⟨[.int, .int], none⟩ := by decide +kernel
theorem pd__IILjava_util_function_BiFunction_I : parseMethodDescriptor "(IILjava/util/function/BiFunction;)I" = some ⟨[.int, .int, (.object "java/util/function/BiFunction")], some .int⟩ := by decide +kernel
theorem pd__I_B_V : parseMethodDescriptor "(I[B)V" = some ⟨[.int, (.array .byte)], none⟩ := by decide +kernel
theorem pd__Ljava_lang_String_Ljava_lang_String_V : parseMethodDescriptor "(Ljava/lang/String;Ljava/lang/String;)V" = some ⟨[(.object "java/lang/String"), (.object "java/lang/String")], none⟩ := by decide +kernel
theorem pd__B_I : parseMethodDescriptor "([B)I" = some ⟨[(.array .byte)], some .int⟩ := by decide +kernel
theorem pd__BI_B : parseMethodDescriptor "([BI)B" = some ⟨[(.array .byte), .int], some .byte⟩ := by decide +kernel
theorem pd__BI_C : parseMethodDescriptor "([BI)C" = some ⟨[(.array .byte), .int], some .char⟩ := by decide +kernel
theorem pd__BII_V : parseMethodDescriptor "([BII)V" = some ⟨[(.array .byte), .int, .int], none⟩ := by decide +kernel
theorem pd__C_V : parseMethodDescriptor "([C)V" = some ⟨[(.array .char)], none⟩ := by decide +kernel
theorem pd__CII_B : parseMethodDescriptor "([CII)[B" = some ⟨[(.array .char), .int, .int], some (.array .byte)⟩ := by decide +kernel
theorem pd__CIILjava_lang_Void_V : parseMethodDescriptor "([CIILjava/lang/Void;)V" = some ⟨[(.array .char), .int, .int, (.object "java/lang/Void")], none⟩ := by decide +kernel
theorem pd__CI_BII_I : parseMethodDescriptor "([CI[BII)I" = some ⟨[(.array .char), .int, (.array .byte), .int, .int], some .int⟩ := by decide +kernel
theorem dnl4_0 : decode jdk_52_method_3_code 0 = .ok (.iload_n 0, 1) := by decide +kernel
theorem dnl4_1 : decode jdk_52_method_3_code 1 = .ok (.ifCond .ge 11, 3) := by decide +kernel
theorem dnl4_12 : decode jdk_52_method_3_code 12 = .ok (.iload_n 0, 1) := by decide +kernel
theorem dnl4_13 : decode jdk_52_method_3_code 13 = .ok (.ldc 20, 2) := by decide +kernel
theorem dnl4_15 : decode jdk_52_method_3_code 15 = .ok (.if_icmp .lt 40, 3) := by decide +kernel
theorem dnl4_55 : decode jdk_52_method_3_code 55 = .ok (.iload_n 0, 1) := by decide +kernel
theorem dnl4_56 : decode jdk_52_method_3_code 56 = .ok (.iconst 1, 1) := by decide +kernel
theorem dnl4_57 : decode jdk_52_method_3_code 57 = .ok (.ishl, 1) := by decide +kernel
theorem dnl4_58 : decode jdk_52_method_3_code 58 = .ok (.ireturn, 1) := by decide +kernel
theorem pn_nl4 : plainName "java/lang/StringUTF16" = true := by first | (simp [plainName, overriddenIn]; done) | decide +kernel
theorem ef_nl4 (m : MethodId) (x0 : Int32) : entryFrame m #[(.int x0)] 1 = mkF m 0 #[.val (.int x0)] [] := by first | (simp [entryFrame, mkF, argsToLocals, Value.category]; done) | rfl
def Qnl4 (Z : State) (h0 : Heap) (n0 : Nat) (v : Option Value) (h : Heap) (L : List Loc) : Prop := v = some (.int (8 : Int32)) ∧ Fr n0 L ∧ h = h0
set_option maxRecDepth 65536 in
set_option maxHeartbeats 40000000 in
theorem rmnl4 (l : Launch) (Z : State) (a0 : Array Value) (hw : ∀ d ∈ tables_1, d.before a0 Z = true) (ws : List Jvm.Cond) (h0 : Heap) (n0 : Nat) (Z0 : n0 ≤ h0.size) :
    MetFree l (⟨"java/lang/StringUTF16", "newBytesLength", "(I)I"⟩ : MethodName) (head1 (Jvm.Cond.code (⟨"java/lang/StringUTF16", "newBytesLength", "(I)I"⟩ : MethodName) jdk_52_method_3_code 1 (some .int) :: ws) ({ frames := 0, cells := 0, slots := 0, locals := 0 } : Room)) (fun a U => a = #[(.int (4 : Int32))] ∧ Z.Warmed39 U.vm ∧ U.heap = h0) (fun _ _ _ _ _ => True) (fun _ U o U' => ∃ v L, o = .returned v ∧ Qnl4 Z h0 n0 v U'.heap L ∧ FrameEnd U o U' L ({ frames := 0, cells := 0, slots := 0, locals := 0 } : Room).cells ({ frames := 0, cells := 0, slots := 0, locals := 0 } : Room).slots) := by
  refine MetFree.of_bodySF (plainFor_of_name pn_nl4) hisR ?_
  intro p e s m args below meth c s₁ Bd hml0 hP hK
  obtain ⟨rfl, hZ, hh⟩ := hP
  have hx := Bd.exec
  have hby := Bd.bytes
  have hml : c.maxLocals = 1 := hml0
  have hown : s.vm.findClass "java/lang/StringUTF16" = some m.cls := findClass_of_methodNamed Bd.named
  have hnm := (name_of_methodNamed Bd.named Bd.method).1
  have X0 : Stand p l e ({ frames := 0, cells := 0, slots := 0, locals := 0 } : Room) s m #[(.int (4 : Int32))] below meth c s₁ [] 0 0 := Stand.of_body Bd
  have e0 : s₁.heap = h0 := by rw [← hh, Bd.state]; rfl
  have N0 := Fr.nil n0
  show own_R p.tables e below (own_P s (Qnl4 Z h0 n0) ({ frames := 0, cells := 0, slots := 0, locals := 0 } : Room).cells ({ frames := 0, cells := 0, slots := 0, locals := 0 } : Room).slots) (s₁.setTop (entryFrame m #[(.int (4 : Int32))] 1))
  refine own_f s₁ (mkF m 0 #[.val (.int (4 : Int32))] []) (fun t k => castTop (ef_nl4 m (4 : Int32)) k) ?_
  refine own_f s₁ (mkF m 1 #[.val (.int (4 : Int32))] [(.int (4 : Int32))]) (fun t k => XS.iloadN X0.here hx rfl (hb hby dnl4_0) rfl k) ?_
  refine own_f s₁ (mkF m 12 #[.val (.int (4 : Int32))] []) (fun t k => XS.ifYes X0.here hx rfl (pc0 := 1) (pc' := 12) rfl (hb hby dnl4_1) rfl (XT.i0_ge_t (by decide)) (by decide) (by decide) k) ?_
  refine own_f s₁ (mkF m 13 #[.val (.int (4 : Int32))] [(.int (4 : Int32))]) (fun t k => XS.iloadN X0.here hx rfl (hb hby dnl4_12) rfl k) ?_
  refine own_f s₁ (mkF m 15 #[.val (.int (4 : Int32))] [(.int (1073741823 : Int32)), (.int (4 : Int32))]) (fun t k => X0.ldcI hx hown (mvT hZ (own_w hw 150 rfl)) rfl (hb hby dnl4_13) k) ?_
  refine own_f s₁ (mkF m 55 #[.val (.int (4 : Int32))] []) (fun t k => XS.icmpYes X0.here hx rfl (pc0 := 15) (pc' := 55) rfl (hb hby dnl4_15) rfl (XT.ii_lt_t (by decide)) (by decide) (by decide) k) ?_
  refine own_f s₁ (mkF m 56 #[.val (.int (4 : Int32))] [(.int (4 : Int32))]) (fun t k => XS.iloadN X0.here hx rfl (hb hby dnl4_55) rfl k) ?_
  refine own_f s₁ (mkF m 57 #[.val (.int (4 : Int32))] [(.int (1 : Int32)), (.int (4 : Int32))]) (fun t k => XT.iconstV X0.here hx rfl (1 : Int32) (hb hby dnl4_56) (by decide) k) ?_
  refine own_f s₁ (mkF m 58 #[.val (.int (4 : Int32))] [(.int ((4 : Int32) <<< ((1 : Int32) &&& 31)))]) (fun t k => XS.ishl X0.here hx rfl (hb hby dnl4_57) rfl k) ?_
  rw [show ((4 : Int32) <<< ((1 : Int32) &&& 31)) = (8 : Int32) from by decide]
  obtain ⟨fs, hr, hrun, hended, hW, hsame⟩ := X0.leave (v := some (.int (8 : Int32))) (fun h => by rw [Bd.returns] at h; cases h)
  refine ⟨_, _, retI X0 hx Bd.returns (hb hby dnl4_58) hr, hrun, hended, _, _, rfl, ?_, ⟨_, rfl⟩, hW, hsame.mono (by decide) (by decide)⟩
  show Qnl4 Z h0 n0 _ s₁.heap _
  rw [e0]
  exact ⟨rfl, N0, rfl⟩
theorem dnf4_0 : decode jdk_52_method_2_code 0 = .ok (.iload_n 0, 1) := by decide +kernel
theorem dnf4_1 : decode jdk_52_method_2_code 1 = .ok (.invokestatic 11, 3) := by decide +kernel
theorem dnf4_4 : decode jdk_52_method_2_code 4 = .ok (.newarray .byte, 2) := by decide +kernel
theorem dnf4_6 : decode jdk_52_method_2_code 6 = .ok (.areturn, 1) := by decide +kernel
theorem pn_nf4 : plainName "java/lang/StringUTF16" = true := by first | (simp [plainName, overriddenIn]; done) | decide +kernel
theorem ef_nf4 (m : MethodId) (x0 : Int32) : entryFrame m #[(.int x0)] 1 = mkF m 0 #[.val (.int x0)] [] := by first | (simp [entryFrame, mkF, argsToLocals, Value.category]; done) | rfl
def Qnf4 (Z : State) (h0 : Heap) (n0 : Nat) (v : Option Value) (h : Heap) (L : List Loc) : Prop := ∃ (b : Addr) (kb : ClassId), v = some (.ref b) ∧ Fr n0 L ∧ Keep h0 h [] ∧ Arv Z h b kb .byte (8 : Int32) [.int 0, .int 0, .int 0, .int 0, .int 0, .int 0, .int 0, .int 0] (.int 0) ∧ h0.size ≤ b
set_option maxRecDepth 65536 in
set_option maxHeartbeats 40000000 in
theorem rmnf4 (l : Launch) (Z : State) (a0 : Array Value) (hw : ∀ d ∈ tables_1, d.before a0 Z = true) (ws : List Jvm.Cond) (h0 : Heap) (n0 : Nat) (Z0 : n0 ≤ h0.size) :
    MetFree l (⟨"java/lang/StringUTF16", "newBytesFor", "(I)[B"⟩ : MethodName) (head1 (Jvm.Cond.code (⟨"java/lang/StringUTF16", "newBytesFor", "(I)[B"⟩ : MethodName) jdk_52_method_2_code 1 (some (.array .byte)) :: ws) ({ frames := 1, cells := 1, slots := 8, locals := 12 } : Room)) (fun a U => a = #[(.int (4 : Int32))] ∧ Z.Warmed39 U.vm ∧ U.heap = h0) (fun _ _ _ _ _ => True) (fun _ U o U' => ∃ v L, o = .returned v ∧ Qnf4 Z h0 n0 v U'.heap L ∧ FrameEnd U o U' L ({ frames := 1, cells := 1, slots := 8, locals := 12 } : Room).cells ({ frames := 1, cells := 1, slots := 8, locals := 12 } : Room).slots) := by
  refine MetFree.of_bodySF (plainFor_of_name pn_nf4) hisR ?_
  intro p e s m args below meth c s₁ Bd hml0 hP hK
  obtain ⟨rfl, hZ, hh⟩ := hP
  have hx := Bd.exec
  have hby := Bd.bytes
  have hml : c.maxLocals = 1 := hml0
  have hown : s.vm.findClass "java/lang/StringUTF16" = some m.cls := findClass_of_methodNamed Bd.named
  have hnm := (name_of_methodNamed Bd.named Bd.method).1
  have X0 : Stand p l e ({ frames := 1, cells := 1, slots := 8, locals := 12 } : Room) s m #[(.int (4 : Int32))] below meth c s₁ [] 0 0 := Stand.of_body Bd
  have e0 : s₁.heap = h0 := by rw [← hh, Bd.state]; rfl
  have N0 := Fr.nil n0
  show own_R p.tables e below (own_P s (Qnf4 Z h0 n0) ({ frames := 1, cells := 1, slots := 8, locals := 12 } : Room).cells ({ frames := 1, cells := 1, slots := 8, locals := 12 } : Room).slots) (s₁.setTop (entryFrame m #[(.int (4 : Int32))] 1))
  refine own_f s₁ (mkF m 0 #[.val (.int (4 : Int32))] []) (fun t k => castTop (ef_nf4 m (4 : Int32)) k) ?_
  refine own_f s₁ (mkF m 1 #[.val (.int (4 : Int32))] [(.int (4 : Int32))]) (fun t k => XS.iloadN X0.here hx rfl (hb hby dnf4_0) rfl k) ?_
  obtain ⟨_, _, ⟨T1, Lq1, kq_1, nq_1⟩, -, X1, ⟨Lc1, hQ1, lq1, yq1, zq1⟩, st1⟩ := Jvm.LawKit.callS X0 hx (y := (⟨"java/lang/StringUTF16", "newBytesLength", "(I)I"⟩ : MethodName)) hown (mvT hZ (own_w hw 147 rfl)) (mvT hZ (own_w hw 148 rfl)) (mvT hZ (own_w hw 29 rfl)) (mvT hZ (own_w hw 149 rfl)) (by decide) (backOf (W := 0) (rmnl4 l Z a0 hw []  h0 n0 Z0 ) hZ (own_w hw 149 rfl) (own_w hw 29 rfl) (by decide) (by decide)) (g := (mkF m 1 #[.val (.int (4 : Int32))] [(.int (4 : Int32))])) rfl (by rw [hml]; rfl) (argsL := [(.int (4 : Int32))]) (rest := []) (lenOf pd__I_I rfl) rfl (by show 2 * 0 + _ ≤ _; exact Nat.le_of_eq rfl) (hb hby dnf4_1) (fun _ _ => ⟨rfl, e0, (by decide : 0 + 0 ≤ _), (by decide : 0 + 0 ≤ _)⟩)
  dsimp only [Pt.U, Pt.locs, Pt.cells, Pt.slots] at X1 lq1 yq1 zq1 st1 hQ1
  subst lq1 yq1 zq1
  obtain ⟨h1, e1⟩ : ∃ z, T1.heap = z := ⟨_, rfl⟩
  rw [e1] at hQ1
  unfold Qnl4 at hQ1
  obtain ⟨rfl, Nq1, qh1⟩ := hQ1
  have N1 := Fr.app N0 Nq1
  rw [qh1] at e1
  refine own_f T1 (mkF m 4 #[.val (.int (4 : Int32))] [(.int (8 : Int32))]) st1 ?_
  obtain ⟨T2, h2, kA2, X2, e2, E2, A2, st2⟩ := newP X1 hx hZ (own_w hw 10 rfl) e1 (g := (mkF m 4 #[.val (.int (4 : Int32))] [(.int (8 : Int32))])) rfl (hb hby dnf4_4) rfl (by decide) (cap := 8) (by decide) (by decide) (by decide) (by decide)
  obtain ⟨b2, g2⟩ : ∃ z, z = h0.size := ⟨_, rfl⟩
  rw [← g2] at A2 st2
  have ge2 : n0 ≤ b2 := by rw [g2]; exact Z0
  have gf2 : h0.size ≤ b2 := by rw [g2]; exact (Keep.refl h0 []).1
  have Zs2 : n0 ≤ h2.size := Nat.le_trans Z0 E2.1
  have K2 : Keep h0 h2 [] := (Keep.refl h0 []).ext E2
  have F_3 : Arv Z h2 b2 kA2 .byte (8 : Int32) [.int 0, .int 0, .int 0, .int 0, .int 0, .int 0, .int 0, .int 0] (.int 0) := own_arvnew 8 A2 (by decide)
  refine own_f T2 (mkF m 6 #[.val (.int (4 : Int32))] [(.ref b2)]) st2 ?_
  obtain ⟨fs, hr, hrun, hended, hW, hsame⟩ := X2.leave (v := some (.ref b2)) (fun h => by rw [Bd.returns] at h; cases h)
  refine ⟨_, _, retOut X2 hx Bd.returns (by rfl) (Or.inr (Or.inr (Or.inr (Or.inr ⟨rfl, rfl, rfl⟩)))) (hb hby dnf4_6) hr, hrun, hended, _, _, rfl, ?_, ⟨_, rfl⟩, hW, hsame.mono (by decide) (by decide)⟩
  show Qnf4 Z h0 n0 _ T2.heap _
  rw [e2]
  exact ⟨b2, kA2, rfl, N1, K2, F_3, gf2⟩
theorem dpc4_0_0 : decode jdk_52_method_4_code 0 = .ok (.getstatic 44, 3) := by decide +kernel
theorem dpc4_0_3 : decode jdk_52_method_4_code 3 = .ok (.ifCond .ne 25, 3) := by decide +kernel
theorem dpc4_0_28 : decode jdk_52_method_4_code 28 = .ok (.iload_n 1, 1) := by decide +kernel
theorem dpc4_0_29 : decode jdk_52_method_4_code 29 = .ok (.iconst 1, 1) := by decide +kernel
theorem dpc4_0_30 : decode jdk_52_method_4_code 30 = .ok (.ishl, 1) := by decide +kernel
theorem dpc4_0_31 : decode jdk_52_method_4_code 31 = .ok (.istore_n 1, 1) := by decide +kernel
theorem dpc4_0_32 : decode jdk_52_method_4_code 32 = .ok (.aload_n 0, 1) := by decide +kernel
theorem dpc4_0_33 : decode jdk_52_method_4_code 33 = .ok (.iload_n 1, 1) := by decide +kernel
theorem dpc4_0_34 : decode jdk_52_method_4_code 34 = .ok (.iinc 1 1, 3) := by decide +kernel
theorem dpc4_0_37 : decode jdk_52_method_4_code 37 = .ok (.iload_n 2, 1) := by decide +kernel
theorem dpc4_0_38 : decode jdk_52_method_4_code 38 = .ok (.getstatic 59, 3) := by decide +kernel
theorem dpc4_0_41 : decode jdk_52_method_4_code 41 = .ok (.ishr, 1) := by decide +kernel
theorem dpc4_0_42 : decode jdk_52_method_4_code 42 = .ok (.i2b, 1) := by decide +kernel
theorem dpc4_0_43 : decode jdk_52_method_4_code 43 = .ok (.bastore, 1) := by decide +kernel
theorem dpc4_0_44 : decode jdk_52_method_4_code 44 = .ok (.aload_n 0, 1) := by decide +kernel
theorem dpc4_0_45 : decode jdk_52_method_4_code 45 = .ok (.iload_n 1, 1) := by decide +kernel
theorem dpc4_0_46 : decode jdk_52_method_4_code 46 = .ok (.iload_n 2, 1) := by decide +kernel
theorem dpc4_0_47 : decode jdk_52_method_4_code 47 = .ok (.getstatic 63, 3) := by decide +kernel
theorem dpc4_0_50 : decode jdk_52_method_4_code 50 = .ok (.ishr, 1) := by decide +kernel
theorem dpc4_0_51 : decode jdk_52_method_4_code 51 = .ok (.i2b, 1) := by decide +kernel
theorem dpc4_0_52 : decode jdk_52_method_4_code 52 = .ok (.bastore, 1) := by decide +kernel
theorem dpc4_0_53 : decode jdk_52_method_4_code 53 = .ok (.return_, 1) := by decide +kernel
theorem pn_pc4_0 : plainName "java/lang/StringUTF16" = true := by first | (simp [plainName, overriddenIn]; done) | decide +kernel
theorem ef_pc4_0 (m : MethodId) (x0 : Addr) (x1 : Int32) (x2 : Int32) : entryFrame m #[(.ref x0), (.int x1), (.int x2)] 3 = mkF m 0 #[.val (.ref x0), .val (.int x1), .val (.int x2)] [] := by first | (simp [entryFrame, mkF, argsToLocals, Value.category]; done) | rfl
def Qpc4_0 (Z : State) (a1 : Addr) (k1 : ClassId) (cc : Int32) (e0_ : Int32) (e1_ : Int32) (e2_ : Int32) (e3_ : Int32) (e4_ : Int32) (e5_ : Int32) (e6_ : Int32) (e7_ : Int32) (h0 : Heap) (n0 : Nat) (v : Option Value) (h : Heap) (L : List Loc) : Prop := v = none ∧ Fr n0 L ∧ Keep h0 h [a1] ∧ Arv Z h a1 k1 .byte (8 : Int32) [.int ((cc >>> ((0 : Int32) &&& 31)).toInt8.toInt32), .int ((cc >>> ((8 : Int32) &&& 31)).toInt8.toInt32), .int e2_, .int e3_, .int e4_, .int e5_, .int e6_, .int e7_] (.int 0)
set_option maxRecDepth 65536 in
set_option maxHeartbeats 40000000 in
theorem rmpc4_0 (l : Launch) (Z : State) (a0 : Array Value) (hw : ∀ d ∈ tables_1, d.before a0 Z = true) (ws : List Jvm.Cond) (a1 : Addr) (k1 : ClassId) (cc : Int32) (e0_ : Int32) (e1_ : Int32) (e2_ : Int32) (e3_ : Int32) (e4_ : Int32) (e5_ : Int32) (e6_ : Int32) (e7_ : Int32) (h0 : Heap) (n0 : Nat) (Z0 : n0 ≤ h0.size) (F0 : Old Z n0 h0) (F1 : Arv Z h0 a1 k1 .byte (8 : Int32) [.int e0_, .int e1_, .int e2_, .int e3_, .int e4_, .int e5_, .int e6_, .int e7_] (.int 0)) (ge_a1 : n0 ≤ a1) (SH : Sta Z Z.heap "java/lang/StringUTF16" "HI_BYTE_SHIFT" "I" (.int (0 : Int32))) (SL : Sta Z Z.heap "java/lang/StringUTF16" "LO_BYTE_SHIFT" "I" (.int (8 : Int32))) (SA : Sta Z Z.heap "java/lang/StringUTF16" "$assertionsDisabled" "Z" (.int (1 : Int32))) :
    MetFree l (⟨"java/lang/StringUTF16", "putChar", "([BII)V"⟩ : MethodName) (head1 (Jvm.Cond.code (⟨"java/lang/StringUTF16", "putChar", "([BII)V"⟩ : MethodName) jdk_52_method_4_code 3 none :: ws) ({ frames := 0, cells := 0, slots := 0, locals := 0 } : Room)) (fun a U => a = #[(.ref a1), (.int (0 : Int32)), (.int cc)] ∧ Z.Warmed39 U.vm ∧ U.heap = h0) (fun _ _ _ _ _ => True) (fun _ U o U' => ∃ v L, o = .returned v ∧ Qpc4_0 Z a1 k1 cc e0_ e1_ e2_ e3_ e4_ e5_ e6_ e7_ h0 n0 v U'.heap L ∧ FrameEnd U o U' L ({ frames := 0, cells := 0, slots := 0, locals := 0 } : Room).cells ({ frames := 0, cells := 0, slots := 0, locals := 0 } : Room).slots) := by
  refine MetFree.of_bodySF (plainFor_of_name pn_pc4_0) hisR ?_
  intro p e s m args below meth c s₁ Bd hml0 hP hK
  obtain ⟨rfl, hZ, hh⟩ := hP
  have hx := Bd.exec
  have hby := Bd.bytes
  have hml : c.maxLocals = 3 := hml0
  have hown : s.vm.findClass "java/lang/StringUTF16" = some m.cls := findClass_of_methodNamed Bd.named
  have hnm := (name_of_methodNamed Bd.named Bd.method).1
  have X0 : Stand p l e ({ frames := 0, cells := 0, slots := 0, locals := 0 } : Room) s m #[(.ref a1), (.int (0 : Int32)), (.int cc)] below meth c s₁ [] 0 0 := Stand.of_body Bd
  have e0 : s₁.heap = h0 := by rw [← hh, Bd.state]; rfl
  have N0 := Fr.nil n0
  show own_R p.tables e below (own_P s (Qpc4_0 Z a1 k1 cc e0_ e1_ e2_ e3_ e4_ e5_ e6_ e7_ h0 n0) ({ frames := 0, cells := 0, slots := 0, locals := 0 } : Room).cells ({ frames := 0, cells := 0, slots := 0, locals := 0 } : Room).slots) (s₁.setTop (entryFrame m #[(.ref a1), (.int (0 : Int32)), (.int cc)] 3))
  refine own_f s₁ (mkF m 0 #[.val (.ref a1), .val (.int (0 : Int32)), .val (.int cc)] []) (fun t k => castTop (ef_pc4_0 m a1 (0 : Int32) cc) k) ?_
  have S1 : Sta Z h0 "java/lang/StringUTF16" "$assertionsDisabled" "Z" (.int (1 : Int32)) := SA.ext F0.2
  obtain ⟨T1, X1, e1, st1⟩ := getS X0 hx hZ (host := "") hown (own_w hw 154 rfl) Via.refl e0 S1 (g := (mkF m 0 #[.val (.ref a1), .val (.int (0 : Int32)), .val (.int cc)] [])) rfl (hb hby dpc4_0_0)
  refine own_f T1 (mkF m 3 #[.val (.ref a1), .val (.int (0 : Int32)), .val (.int cc)] [(.int (1 : Int32))]) st1 ?_
  refine own_f T1 (mkF m 28 #[.val (.ref a1), .val (.int (0 : Int32)), .val (.int cc)] []) (fun t k => XS.ifYes X1.here hx rfl (pc0 := 3) (pc' := 28) rfl (hb hby dpc4_0_3) rfl (XT.i0_ne_t (by decide)) (by decide) (by decide) k) ?_
  refine own_f T1 (mkF m 29 #[.val (.ref a1), .val (.int (0 : Int32)), .val (.int cc)] [(.int (0 : Int32))]) (fun t k => XS.iloadN X1.here hx rfl (hb hby dpc4_0_28) rfl k) ?_
  refine own_f T1 (mkF m 30 #[.val (.ref a1), .val (.int (0 : Int32)), .val (.int cc)] [(.int (1 : Int32)), (.int (0 : Int32))]) (fun t k => XT.iconstV X1.here hx rfl (1 : Int32) (hb hby dpc4_0_29) (by decide) k) ?_
  refine own_f T1 (mkF m 31 #[.val (.ref a1), .val (.int (0 : Int32)), .val (.int cc)] [(.int ((0 : Int32) <<< ((1 : Int32) &&& 31)))]) (fun t k => XS.ishl X1.here hx rfl (hb hby dpc4_0_30) rfl k) ?_
  rw [show ((0 : Int32) <<< ((1 : Int32) &&& 31)) = (0 : Int32) from by decide]
  refine own_f T1 (mkF m 32 #[.val (.ref a1), .val (.int (0 : Int32)), .val (.int cc)] []) (fun t k => XS.istoreN X1.here hx rfl (hb hby dpc4_0_31) rfl (l' := #[.val (.ref a1), .val (.int (0 : Int32)), .val (.int cc)]) rfl k) ?_
  refine own_f T1 (mkF m 33 #[.val (.ref a1), .val (.int (0 : Int32)), .val (.int cc)] [(.ref a1)]) (fun t k => XS.aloadN X1.here hx rfl (hb hby dpc4_0_32) rfl rfl k) ?_
  refine own_f T1 (mkF m 34 #[.val (.ref a1), .val (.int (0 : Int32)), .val (.int cc)] [(.int (0 : Int32)), (.ref a1)]) (fun t k => XS.iloadN X1.here hx rfl (hb hby dpc4_0_33) rfl k) ?_
  refine own_f T1 (mkF m 37 #[.val (.ref a1), .val (.int ((0 : Int32) + (1 : Int32))), .val (.int cc)] [(.int (0 : Int32)), (.ref a1)]) (fun t k => XT.iincV X1.here hx rfl (l' := #[.val (.ref a1), .val (.int ((0 : Int32) + (1 : Int32))), .val (.int cc)]) (1 : Int32) (hb hby dpc4_0_34) (by decide) rfl rfl k) ?_
  rw [show ((0 : Int32) + (1 : Int32)) = (1 : Int32) from by decide]
  refine own_f T1 (mkF m 38 #[.val (.ref a1), .val (.int (1 : Int32)), .val (.int cc)] [(.int cc), (.int (0 : Int32)), (.ref a1)]) (fun t k => XS.iloadN X1.here hx rfl (hb hby dpc4_0_37) rfl k) ?_
  have S2 : Sta Z h0 "java/lang/StringUTF16" "HI_BYTE_SHIFT" "I" (.int (0 : Int32)) := SH.ext F0.2
  obtain ⟨T2, X2, e2, st2⟩ := getS X1 hx hZ (host := "") hown (own_w hw 155 rfl) Via.refl e1 S2 (g := (mkF m 38 #[.val (.ref a1), .val (.int (1 : Int32)), .val (.int cc)] [(.int cc), (.int (0 : Int32)), (.ref a1)])) rfl (hb hby dpc4_0_38)
  refine own_f T2 (mkF m 41 #[.val (.ref a1), .val (.int (1 : Int32)), .val (.int cc)] [(.int (0 : Int32)), (.int cc), (.int (0 : Int32)), (.ref a1)]) st2 ?_
  refine own_f T2 (mkF m 42 #[.val (.ref a1), .val (.int (1 : Int32)), .val (.int cc)] [(.int (cc >>> ((0 : Int32) &&& 31))), (.int (0 : Int32)), (.ref a1)]) (fun t k => XS.ishr X2.here hx rfl (hb hby dpc4_0_41) rfl k) ?_
  refine own_f T2 (mkF m 43 #[.val (.ref a1), .val (.int (1 : Int32)), .val (.int cc)] [(.int ((cc >>> ((0 : Int32) &&& 31)).toInt8.toInt32)), (.int (0 : Int32)), (.ref a1)]) (fun t k => XS.i2b X2.here hx rfl (hb hby dpc4_0_42) rfl k) ?_
  obtain ⟨cl3, Ar3, q13, Sz3, q33, Hs3, Gs3⟩ := id F1
  obtain ⟨T3, h3, X3, e3, W3, st3⟩ := stB X2 hx hZ e2 Ar3 (j := (0 : Int32)) (inb_of Sz3 ⟨by decide, by decide⟩) (g := (mkF m 43 #[.val (.ref a1), .val (.int (1 : Int32)), .val (.int cc)] [(.int ((cc >>> ((0 : Int32) &&& 31)).toInt8.toInt32)), (.int (0 : Int32)), (.ref a1)])) rfl rfl (hb hby dpc4_0_43)
  have N3 := Fr.snoc X3 N0 ge_a1
  have Zs3 : n0 ≤ h3.size := by rw [W3.size]; exact Z0
  have K3 : Keep h0 h3 [a1] := (Keep.refl h0 [a1]).wr W3 (Or.inl (by simp))
  have F_4 := F0.wr W3 ge_a1
  have F_5 : Arv Z h3 a1 k1 .byte (8 : Int32) [.int ((cc >>> ((0 : Int32) &&& 31)).toInt8.toInt32), .int e1_, .int e2_, .int e3_, .int e4_, .int e5_, .int e6_, .int e7_] (.int 0) := Arv.set Ar3 q13 Sz3 q33 Hs3 Gs3 (by rw [← ((own_narB _) : nar .byte ((cc >>> ((0 : Int32) &&& 31)).toInt8.toInt32) = ((cc >>> ((0 : Int32) &&& 31)).toInt8.toInt32))]; exact own_fitB _) (by rw [((own_narB _) : nar .byte ((cc >>> ((0 : Int32) &&& 31)).toInt8.toInt32) = ((cc >>> ((0 : Int32) &&& 31)).toInt8.toInt32))] at W3; exact W3) 0 (by decide) (by simp)
  refine own_f T3 (mkF m 44 #[.val (.ref a1), .val (.int (1 : Int32)), .val (.int cc)] []) st3 ?_
  refine own_f T3 (mkF m 45 #[.val (.ref a1), .val (.int (1 : Int32)), .val (.int cc)] [(.ref a1)]) (fun t k => XS.aloadN X3.here hx rfl (hb hby dpc4_0_44) rfl rfl k) ?_
  refine own_f T3 (mkF m 46 #[.val (.ref a1), .val (.int (1 : Int32)), .val (.int cc)] [(.int (1 : Int32)), (.ref a1)]) (fun t k => XS.iloadN X3.here hx rfl (hb hby dpc4_0_45) rfl k) ?_
  refine own_f T3 (mkF m 47 #[.val (.ref a1), .val (.int (1 : Int32)), .val (.int cc)] [(.int cc), (.int (1 : Int32)), (.ref a1)]) (fun t k => XS.iloadN X3.here hx rfl (hb hby dpc4_0_46) rfl k) ?_
  have S6 : Sta Z h3 "java/lang/StringUTF16" "LO_BYTE_SHIFT" "I" (.int (8 : Int32)) := SL.ext F_4.2
  obtain ⟨T6, X6, e6, st6⟩ := getS X3 hx hZ (host := "") hown (own_w hw 156 rfl) Via.refl e3 S6 (g := (mkF m 47 #[.val (.ref a1), .val (.int (1 : Int32)), .val (.int cc)] [(.int cc), (.int (1 : Int32)), (.ref a1)])) rfl (hb hby dpc4_0_47)
  refine own_f T6 (mkF m 50 #[.val (.ref a1), .val (.int (1 : Int32)), .val (.int cc)] [(.int (8 : Int32)), (.int cc), (.int (1 : Int32)), (.ref a1)]) st6 ?_
  refine own_f T6 (mkF m 51 #[.val (.ref a1), .val (.int (1 : Int32)), .val (.int cc)] [(.int (cc >>> ((8 : Int32) &&& 31))), (.int (1 : Int32)), (.ref a1)]) (fun t k => XS.ishr X6.here hx rfl (hb hby dpc4_0_50) rfl k) ?_
  refine own_f T6 (mkF m 52 #[.val (.ref a1), .val (.int (1 : Int32)), .val (.int cc)] [(.int ((cc >>> ((8 : Int32) &&& 31)).toInt8.toInt32)), (.int (1 : Int32)), (.ref a1)]) (fun t k => XS.i2b X6.here hx rfl (hb hby dpc4_0_51) rfl k) ?_
  obtain ⟨cl7, Ar7, q17, Sz7, q37, Hs7, Gs7⟩ := id F_5
  obtain ⟨T7, h7, X7, e7, W7, st7⟩ := stB X6 hx hZ e6 Ar7 (j := (1 : Int32)) (inb_of Sz7 ⟨by decide, by decide⟩) (g := (mkF m 52 #[.val (.ref a1), .val (.int (1 : Int32)), .val (.int cc)] [(.int ((cc >>> ((8 : Int32) &&& 31)).toInt8.toInt32)), (.int (1 : Int32)), (.ref a1)])) rfl rfl (hb hby dpc4_0_52)
  have N7 := Fr.snoc X7 N3 ge_a1
  have Zs7 : n0 ≤ h7.size := by rw [W7.size]; exact Zs3
  have K7 : Keep h0 h7 [a1] := K3.wr W7 (Or.inl (by simp))
  have F_8 := F_4.wr W7 ge_a1
  have F_9 : Arv Z h7 a1 k1 .byte (8 : Int32) [.int ((cc >>> ((0 : Int32) &&& 31)).toInt8.toInt32), .int ((cc >>> ((8 : Int32) &&& 31)).toInt8.toInt32), .int e2_, .int e3_, .int e4_, .int e5_, .int e6_, .int e7_] (.int 0) := Arv.set Ar7 q17 Sz7 q37 Hs7 Gs7 (by rw [← ((own_narB _) : nar .byte ((cc >>> ((8 : Int32) &&& 31)).toInt8.toInt32) = ((cc >>> ((8 : Int32) &&& 31)).toInt8.toInt32))]; exact own_fitB _) (by rw [((own_narB _) : nar .byte ((cc >>> ((8 : Int32) &&& 31)).toInt8.toInt32) = ((cc >>> ((8 : Int32) &&& 31)).toInt8.toInt32))] at W7; exact W7) 1 (by decide) (by simp)
  refine own_f T7 (mkF m 53 #[.val (.ref a1), .val (.int (1 : Int32)), .val (.int cc)] []) st7 ?_
  obtain ⟨fs, hr, hrun, hended, hW, hsame⟩ := X7.leave (v := none) (fun _ => rfl)
  refine ⟨_, _, X7.returnOut hx Bd.returns (hb hby dpc4_0_53) hr, hrun, hended, _, _, rfl, ?_, ⟨_, rfl⟩, hW, hsame.mono (by decide) (by decide)⟩
  show Qpc4_0 Z a1 k1 cc e0_ e1_ e2_ e3_ e4_ e5_ e6_ e7_ h0 n0 _ T7.heap _
  rw [e7]
  exact ⟨rfl, N7, K7, F_9⟩
theorem dpc4_1_0 : decode jdk_52_method_4_code 0 = .ok (.getstatic 44, 3) := by decide +kernel
theorem dpc4_1_3 : decode jdk_52_method_4_code 3 = .ok (.ifCond .ne 25, 3) := by decide +kernel
theorem dpc4_1_28 : decode jdk_52_method_4_code 28 = .ok (.iload_n 1, 1) := by decide +kernel
theorem dpc4_1_29 : decode jdk_52_method_4_code 29 = .ok (.iconst 1, 1) := by decide +kernel
theorem dpc4_1_30 : decode jdk_52_method_4_code 30 = .ok (.ishl, 1) := by decide +kernel
theorem dpc4_1_31 : decode jdk_52_method_4_code 31 = .ok (.istore_n 1, 1) := by decide +kernel
theorem dpc4_1_32 : decode jdk_52_method_4_code 32 = .ok (.aload_n 0, 1) := by decide +kernel
theorem dpc4_1_33 : decode jdk_52_method_4_code 33 = .ok (.iload_n 1, 1) := by decide +kernel
theorem dpc4_1_34 : decode jdk_52_method_4_code 34 = .ok (.iinc 1 1, 3) := by decide +kernel
theorem dpc4_1_37 : decode jdk_52_method_4_code 37 = .ok (.iload_n 2, 1) := by decide +kernel
theorem dpc4_1_38 : decode jdk_52_method_4_code 38 = .ok (.getstatic 59, 3) := by decide +kernel
theorem dpc4_1_41 : decode jdk_52_method_4_code 41 = .ok (.ishr, 1) := by decide +kernel
theorem dpc4_1_42 : decode jdk_52_method_4_code 42 = .ok (.i2b, 1) := by decide +kernel
theorem dpc4_1_43 : decode jdk_52_method_4_code 43 = .ok (.bastore, 1) := by decide +kernel
theorem dpc4_1_44 : decode jdk_52_method_4_code 44 = .ok (.aload_n 0, 1) := by decide +kernel
theorem dpc4_1_45 : decode jdk_52_method_4_code 45 = .ok (.iload_n 1, 1) := by decide +kernel
theorem dpc4_1_46 : decode jdk_52_method_4_code 46 = .ok (.iload_n 2, 1) := by decide +kernel
theorem dpc4_1_47 : decode jdk_52_method_4_code 47 = .ok (.getstatic 63, 3) := by decide +kernel
theorem dpc4_1_50 : decode jdk_52_method_4_code 50 = .ok (.ishr, 1) := by decide +kernel
theorem dpc4_1_51 : decode jdk_52_method_4_code 51 = .ok (.i2b, 1) := by decide +kernel
theorem dpc4_1_52 : decode jdk_52_method_4_code 52 = .ok (.bastore, 1) := by decide +kernel
theorem dpc4_1_53 : decode jdk_52_method_4_code 53 = .ok (.return_, 1) := by decide +kernel
theorem pn_pc4_1 : plainName "java/lang/StringUTF16" = true := by first | (simp [plainName, overriddenIn]; done) | decide +kernel
theorem ef_pc4_1 (m : MethodId) (x0 : Addr) (x1 : Int32) (x2 : Int32) : entryFrame m #[(.ref x0), (.int x1), (.int x2)] 3 = mkF m 0 #[.val (.ref x0), .val (.int x1), .val (.int x2)] [] := by first | (simp [entryFrame, mkF, argsToLocals, Value.category]; done) | rfl
def Qpc4_1 (Z : State) (a1 : Addr) (k1 : ClassId) (cc : Int32) (e0_ : Int32) (e1_ : Int32) (e2_ : Int32) (e3_ : Int32) (e4_ : Int32) (e5_ : Int32) (e6_ : Int32) (e7_ : Int32) (h0 : Heap) (n0 : Nat) (v : Option Value) (h : Heap) (L : List Loc) : Prop := v = none ∧ Fr n0 L ∧ Keep h0 h [a1] ∧ Arv Z h a1 k1 .byte (8 : Int32) [.int e0_, .int e1_, .int ((cc >>> ((0 : Int32) &&& 31)).toInt8.toInt32), .int ((cc >>> ((8 : Int32) &&& 31)).toInt8.toInt32), .int e4_, .int e5_, .int e6_, .int e7_] (.int 0)
set_option maxRecDepth 65536 in
set_option maxHeartbeats 40000000 in
theorem rmpc4_1 (l : Launch) (Z : State) (a0 : Array Value) (hw : ∀ d ∈ tables_1, d.before a0 Z = true) (ws : List Jvm.Cond) (a1 : Addr) (k1 : ClassId) (cc : Int32) (e0_ : Int32) (e1_ : Int32) (e2_ : Int32) (e3_ : Int32) (e4_ : Int32) (e5_ : Int32) (e6_ : Int32) (e7_ : Int32) (h0 : Heap) (n0 : Nat) (Z0 : n0 ≤ h0.size) (F0 : Old Z n0 h0) (F1 : Arv Z h0 a1 k1 .byte (8 : Int32) [.int e0_, .int e1_, .int e2_, .int e3_, .int e4_, .int e5_, .int e6_, .int e7_] (.int 0)) (ge_a1 : n0 ≤ a1) (SH : Sta Z Z.heap "java/lang/StringUTF16" "HI_BYTE_SHIFT" "I" (.int (0 : Int32))) (SL : Sta Z Z.heap "java/lang/StringUTF16" "LO_BYTE_SHIFT" "I" (.int (8 : Int32))) (SA : Sta Z Z.heap "java/lang/StringUTF16" "$assertionsDisabled" "Z" (.int (1 : Int32))) :
    MetFree l (⟨"java/lang/StringUTF16", "putChar", "([BII)V"⟩ : MethodName) (head1 (Jvm.Cond.code (⟨"java/lang/StringUTF16", "putChar", "([BII)V"⟩ : MethodName) jdk_52_method_4_code 3 none :: ws) ({ frames := 0, cells := 0, slots := 0, locals := 0 } : Room)) (fun a U => a = #[(.ref a1), (.int (1 : Int32)), (.int cc)] ∧ Z.Warmed39 U.vm ∧ U.heap = h0) (fun _ _ _ _ _ => True) (fun _ U o U' => ∃ v L, o = .returned v ∧ Qpc4_1 Z a1 k1 cc e0_ e1_ e2_ e3_ e4_ e5_ e6_ e7_ h0 n0 v U'.heap L ∧ FrameEnd U o U' L ({ frames := 0, cells := 0, slots := 0, locals := 0 } : Room).cells ({ frames := 0, cells := 0, slots := 0, locals := 0 } : Room).slots) := by
  refine MetFree.of_bodySF (plainFor_of_name pn_pc4_1) hisR ?_
  intro p e s m args below meth c s₁ Bd hml0 hP hK
  obtain ⟨rfl, hZ, hh⟩ := hP
  have hx := Bd.exec
  have hby := Bd.bytes
  have hml : c.maxLocals = 3 := hml0
  have hown : s.vm.findClass "java/lang/StringUTF16" = some m.cls := findClass_of_methodNamed Bd.named
  have hnm := (name_of_methodNamed Bd.named Bd.method).1
  have X0 : Stand p l e ({ frames := 0, cells := 0, slots := 0, locals := 0 } : Room) s m #[(.ref a1), (.int (1 : Int32)), (.int cc)] below meth c s₁ [] 0 0 := Stand.of_body Bd
  have e0 : s₁.heap = h0 := by rw [← hh, Bd.state]; rfl
  have N0 := Fr.nil n0
  show own_R p.tables e below (own_P s (Qpc4_1 Z a1 k1 cc e0_ e1_ e2_ e3_ e4_ e5_ e6_ e7_ h0 n0) ({ frames := 0, cells := 0, slots := 0, locals := 0 } : Room).cells ({ frames := 0, cells := 0, slots := 0, locals := 0 } : Room).slots) (s₁.setTop (entryFrame m #[(.ref a1), (.int (1 : Int32)), (.int cc)] 3))
  refine own_f s₁ (mkF m 0 #[.val (.ref a1), .val (.int (1 : Int32)), .val (.int cc)] []) (fun t k => castTop (ef_pc4_1 m a1 (1 : Int32) cc) k) ?_
  have S1 : Sta Z h0 "java/lang/StringUTF16" "$assertionsDisabled" "Z" (.int (1 : Int32)) := SA.ext F0.2
  obtain ⟨T1, X1, e1, st1⟩ := getS X0 hx hZ (host := "") hown (own_w hw 154 rfl) Via.refl e0 S1 (g := (mkF m 0 #[.val (.ref a1), .val (.int (1 : Int32)), .val (.int cc)] [])) rfl (hb hby dpc4_1_0)
  refine own_f T1 (mkF m 3 #[.val (.ref a1), .val (.int (1 : Int32)), .val (.int cc)] [(.int (1 : Int32))]) st1 ?_
  refine own_f T1 (mkF m 28 #[.val (.ref a1), .val (.int (1 : Int32)), .val (.int cc)] []) (fun t k => XS.ifYes X1.here hx rfl (pc0 := 3) (pc' := 28) rfl (hb hby dpc4_1_3) rfl (XT.i0_ne_t (by decide)) (by decide) (by decide) k) ?_
  refine own_f T1 (mkF m 29 #[.val (.ref a1), .val (.int (1 : Int32)), .val (.int cc)] [(.int (1 : Int32))]) (fun t k => XS.iloadN X1.here hx rfl (hb hby dpc4_1_28) rfl k) ?_
  refine own_f T1 (mkF m 30 #[.val (.ref a1), .val (.int (1 : Int32)), .val (.int cc)] [(.int (1 : Int32)), (.int (1 : Int32))]) (fun t k => XT.iconstV X1.here hx rfl (1 : Int32) (hb hby dpc4_1_29) (by decide) k) ?_
  refine own_f T1 (mkF m 31 #[.val (.ref a1), .val (.int (1 : Int32)), .val (.int cc)] [(.int ((1 : Int32) <<< ((1 : Int32) &&& 31)))]) (fun t k => XS.ishl X1.here hx rfl (hb hby dpc4_1_30) rfl k) ?_
  rw [show ((1 : Int32) <<< ((1 : Int32) &&& 31)) = (2 : Int32) from by decide]
  refine own_f T1 (mkF m 32 #[.val (.ref a1), .val (.int (2 : Int32)), .val (.int cc)] []) (fun t k => XS.istoreN X1.here hx rfl (hb hby dpc4_1_31) rfl (l' := #[.val (.ref a1), .val (.int (2 : Int32)), .val (.int cc)]) rfl k) ?_
  refine own_f T1 (mkF m 33 #[.val (.ref a1), .val (.int (2 : Int32)), .val (.int cc)] [(.ref a1)]) (fun t k => XS.aloadN X1.here hx rfl (hb hby dpc4_1_32) rfl rfl k) ?_
  refine own_f T1 (mkF m 34 #[.val (.ref a1), .val (.int (2 : Int32)), .val (.int cc)] [(.int (2 : Int32)), (.ref a1)]) (fun t k => XS.iloadN X1.here hx rfl (hb hby dpc4_1_33) rfl k) ?_
  refine own_f T1 (mkF m 37 #[.val (.ref a1), .val (.int ((2 : Int32) + (1 : Int32))), .val (.int cc)] [(.int (2 : Int32)), (.ref a1)]) (fun t k => XT.iincV X1.here hx rfl (l' := #[.val (.ref a1), .val (.int ((2 : Int32) + (1 : Int32))), .val (.int cc)]) (1 : Int32) (hb hby dpc4_1_34) (by decide) rfl rfl k) ?_
  rw [show ((2 : Int32) + (1 : Int32)) = (3 : Int32) from by decide]
  refine own_f T1 (mkF m 38 #[.val (.ref a1), .val (.int (3 : Int32)), .val (.int cc)] [(.int cc), (.int (2 : Int32)), (.ref a1)]) (fun t k => XS.iloadN X1.here hx rfl (hb hby dpc4_1_37) rfl k) ?_
  have S2 : Sta Z h0 "java/lang/StringUTF16" "HI_BYTE_SHIFT" "I" (.int (0 : Int32)) := SH.ext F0.2
  obtain ⟨T2, X2, e2, st2⟩ := getS X1 hx hZ (host := "") hown (own_w hw 155 rfl) Via.refl e1 S2 (g := (mkF m 38 #[.val (.ref a1), .val (.int (3 : Int32)), .val (.int cc)] [(.int cc), (.int (2 : Int32)), (.ref a1)])) rfl (hb hby dpc4_1_38)
  refine own_f T2 (mkF m 41 #[.val (.ref a1), .val (.int (3 : Int32)), .val (.int cc)] [(.int (0 : Int32)), (.int cc), (.int (2 : Int32)), (.ref a1)]) st2 ?_
  refine own_f T2 (mkF m 42 #[.val (.ref a1), .val (.int (3 : Int32)), .val (.int cc)] [(.int (cc >>> ((0 : Int32) &&& 31))), (.int (2 : Int32)), (.ref a1)]) (fun t k => XS.ishr X2.here hx rfl (hb hby dpc4_1_41) rfl k) ?_
  refine own_f T2 (mkF m 43 #[.val (.ref a1), .val (.int (3 : Int32)), .val (.int cc)] [(.int ((cc >>> ((0 : Int32) &&& 31)).toInt8.toInt32)), (.int (2 : Int32)), (.ref a1)]) (fun t k => XS.i2b X2.here hx rfl (hb hby dpc4_1_42) rfl k) ?_
  obtain ⟨cl3, Ar3, q13, Sz3, q33, Hs3, Gs3⟩ := id F1
  obtain ⟨T3, h3, X3, e3, W3, st3⟩ := stB X2 hx hZ e2 Ar3 (j := (2 : Int32)) (inb_of Sz3 ⟨by decide, by decide⟩) (g := (mkF m 43 #[.val (.ref a1), .val (.int (3 : Int32)), .val (.int cc)] [(.int ((cc >>> ((0 : Int32) &&& 31)).toInt8.toInt32)), (.int (2 : Int32)), (.ref a1)])) rfl rfl (hb hby dpc4_1_43)
  have N3 := Fr.snoc X3 N0 ge_a1
  have Zs3 : n0 ≤ h3.size := by rw [W3.size]; exact Z0
  have K3 : Keep h0 h3 [a1] := (Keep.refl h0 [a1]).wr W3 (Or.inl (by simp))
  have F_4 := F0.wr W3 ge_a1
  have F_5 : Arv Z h3 a1 k1 .byte (8 : Int32) [.int e0_, .int e1_, .int ((cc >>> ((0 : Int32) &&& 31)).toInt8.toInt32), .int e3_, .int e4_, .int e5_, .int e6_, .int e7_] (.int 0) := Arv.set Ar3 q13 Sz3 q33 Hs3 Gs3 (by rw [← ((own_narB _) : nar .byte ((cc >>> ((0 : Int32) &&& 31)).toInt8.toInt32) = ((cc >>> ((0 : Int32) &&& 31)).toInt8.toInt32))]; exact own_fitB _) (by rw [((own_narB _) : nar .byte ((cc >>> ((0 : Int32) &&& 31)).toInt8.toInt32) = ((cc >>> ((0 : Int32) &&& 31)).toInt8.toInt32))] at W3; exact W3) 2 (by decide) (by simp)
  refine own_f T3 (mkF m 44 #[.val (.ref a1), .val (.int (3 : Int32)), .val (.int cc)] []) st3 ?_
  refine own_f T3 (mkF m 45 #[.val (.ref a1), .val (.int (3 : Int32)), .val (.int cc)] [(.ref a1)]) (fun t k => XS.aloadN X3.here hx rfl (hb hby dpc4_1_44) rfl rfl k) ?_
  refine own_f T3 (mkF m 46 #[.val (.ref a1), .val (.int (3 : Int32)), .val (.int cc)] [(.int (3 : Int32)), (.ref a1)]) (fun t k => XS.iloadN X3.here hx rfl (hb hby dpc4_1_45) rfl k) ?_
  refine own_f T3 (mkF m 47 #[.val (.ref a1), .val (.int (3 : Int32)), .val (.int cc)] [(.int cc), (.int (3 : Int32)), (.ref a1)]) (fun t k => XS.iloadN X3.here hx rfl (hb hby dpc4_1_46) rfl k) ?_
  have S6 : Sta Z h3 "java/lang/StringUTF16" "LO_BYTE_SHIFT" "I" (.int (8 : Int32)) := SL.ext F_4.2
  obtain ⟨T6, X6, e6, st6⟩ := getS X3 hx hZ (host := "") hown (own_w hw 156 rfl) Via.refl e3 S6 (g := (mkF m 47 #[.val (.ref a1), .val (.int (3 : Int32)), .val (.int cc)] [(.int cc), (.int (3 : Int32)), (.ref a1)])) rfl (hb hby dpc4_1_47)
  refine own_f T6 (mkF m 50 #[.val (.ref a1), .val (.int (3 : Int32)), .val (.int cc)] [(.int (8 : Int32)), (.int cc), (.int (3 : Int32)), (.ref a1)]) st6 ?_
  refine own_f T6 (mkF m 51 #[.val (.ref a1), .val (.int (3 : Int32)), .val (.int cc)] [(.int (cc >>> ((8 : Int32) &&& 31))), (.int (3 : Int32)), (.ref a1)]) (fun t k => XS.ishr X6.here hx rfl (hb hby dpc4_1_50) rfl k) ?_
  refine own_f T6 (mkF m 52 #[.val (.ref a1), .val (.int (3 : Int32)), .val (.int cc)] [(.int ((cc >>> ((8 : Int32) &&& 31)).toInt8.toInt32)), (.int (3 : Int32)), (.ref a1)]) (fun t k => XS.i2b X6.here hx rfl (hb hby dpc4_1_51) rfl k) ?_
  obtain ⟨cl7, Ar7, q17, Sz7, q37, Hs7, Gs7⟩ := id F_5
  obtain ⟨T7, h7, X7, e7, W7, st7⟩ := stB X6 hx hZ e6 Ar7 (j := (3 : Int32)) (inb_of Sz7 ⟨by decide, by decide⟩) (g := (mkF m 52 #[.val (.ref a1), .val (.int (3 : Int32)), .val (.int cc)] [(.int ((cc >>> ((8 : Int32) &&& 31)).toInt8.toInt32)), (.int (3 : Int32)), (.ref a1)])) rfl rfl (hb hby dpc4_1_52)
  have N7 := Fr.snoc X7 N3 ge_a1
  have Zs7 : n0 ≤ h7.size := by rw [W7.size]; exact Zs3
  have K7 : Keep h0 h7 [a1] := K3.wr W7 (Or.inl (by simp))
  have F_8 := F_4.wr W7 ge_a1
  have F_9 : Arv Z h7 a1 k1 .byte (8 : Int32) [.int e0_, .int e1_, .int ((cc >>> ((0 : Int32) &&& 31)).toInt8.toInt32), .int ((cc >>> ((8 : Int32) &&& 31)).toInt8.toInt32), .int e4_, .int e5_, .int e6_, .int e7_] (.int 0) := Arv.set Ar7 q17 Sz7 q37 Hs7 Gs7 (by rw [← ((own_narB _) : nar .byte ((cc >>> ((8 : Int32) &&& 31)).toInt8.toInt32) = ((cc >>> ((8 : Int32) &&& 31)).toInt8.toInt32))]; exact own_fitB _) (by rw [((own_narB _) : nar .byte ((cc >>> ((8 : Int32) &&& 31)).toInt8.toInt32) = ((cc >>> ((8 : Int32) &&& 31)).toInt8.toInt32))] at W7; exact W7) 3 (by decide) (by simp)
  refine own_f T7 (mkF m 53 #[.val (.ref a1), .val (.int (3 : Int32)), .val (.int cc)] []) st7 ?_
  obtain ⟨fs, hr, hrun, hended, hW, hsame⟩ := X7.leave (v := none) (fun _ => rfl)
  refine ⟨_, _, X7.returnOut hx Bd.returns (hb hby dpc4_1_53) hr, hrun, hended, _, _, rfl, ?_, ⟨_, rfl⟩, hW, hsame.mono (by decide) (by decide)⟩
  show Qpc4_1 Z a1 k1 cc e0_ e1_ e2_ e3_ e4_ e5_ e6_ e7_ h0 n0 _ T7.heap _
  rw [e7]
  exact ⟨rfl, N7, K7, F_9⟩
theorem dpc4_2_0 : decode jdk_52_method_4_code 0 = .ok (.getstatic 44, 3) := by decide +kernel
theorem dpc4_2_3 : decode jdk_52_method_4_code 3 = .ok (.ifCond .ne 25, 3) := by decide +kernel
theorem dpc4_2_28 : decode jdk_52_method_4_code 28 = .ok (.iload_n 1, 1) := by decide +kernel
theorem dpc4_2_29 : decode jdk_52_method_4_code 29 = .ok (.iconst 1, 1) := by decide +kernel
theorem dpc4_2_30 : decode jdk_52_method_4_code 30 = .ok (.ishl, 1) := by decide +kernel
theorem dpc4_2_31 : decode jdk_52_method_4_code 31 = .ok (.istore_n 1, 1) := by decide +kernel
theorem dpc4_2_32 : decode jdk_52_method_4_code 32 = .ok (.aload_n 0, 1) := by decide +kernel
theorem dpc4_2_33 : decode jdk_52_method_4_code 33 = .ok (.iload_n 1, 1) := by decide +kernel
theorem dpc4_2_34 : decode jdk_52_method_4_code 34 = .ok (.iinc 1 1, 3) := by decide +kernel
theorem dpc4_2_37 : decode jdk_52_method_4_code 37 = .ok (.iload_n 2, 1) := by decide +kernel
theorem dpc4_2_38 : decode jdk_52_method_4_code 38 = .ok (.getstatic 59, 3) := by decide +kernel
theorem dpc4_2_41 : decode jdk_52_method_4_code 41 = .ok (.ishr, 1) := by decide +kernel
theorem dpc4_2_42 : decode jdk_52_method_4_code 42 = .ok (.i2b, 1) := by decide +kernel
theorem dpc4_2_43 : decode jdk_52_method_4_code 43 = .ok (.bastore, 1) := by decide +kernel
theorem dpc4_2_44 : decode jdk_52_method_4_code 44 = .ok (.aload_n 0, 1) := by decide +kernel
theorem dpc4_2_45 : decode jdk_52_method_4_code 45 = .ok (.iload_n 1, 1) := by decide +kernel
theorem dpc4_2_46 : decode jdk_52_method_4_code 46 = .ok (.iload_n 2, 1) := by decide +kernel
theorem dpc4_2_47 : decode jdk_52_method_4_code 47 = .ok (.getstatic 63, 3) := by decide +kernel
theorem dpc4_2_50 : decode jdk_52_method_4_code 50 = .ok (.ishr, 1) := by decide +kernel
theorem dpc4_2_51 : decode jdk_52_method_4_code 51 = .ok (.i2b, 1) := by decide +kernel
theorem dpc4_2_52 : decode jdk_52_method_4_code 52 = .ok (.bastore, 1) := by decide +kernel
theorem dpc4_2_53 : decode jdk_52_method_4_code 53 = .ok (.return_, 1) := by decide +kernel
theorem pn_pc4_2 : plainName "java/lang/StringUTF16" = true := by first | (simp [plainName, overriddenIn]; done) | decide +kernel
theorem ef_pc4_2 (m : MethodId) (x0 : Addr) (x1 : Int32) (x2 : Int32) : entryFrame m #[(.ref x0), (.int x1), (.int x2)] 3 = mkF m 0 #[.val (.ref x0), .val (.int x1), .val (.int x2)] [] := by first | (simp [entryFrame, mkF, argsToLocals, Value.category]; done) | rfl
def Qpc4_2 (Z : State) (a1 : Addr) (k1 : ClassId) (cc : Int32) (e0_ : Int32) (e1_ : Int32) (e2_ : Int32) (e3_ : Int32) (e4_ : Int32) (e5_ : Int32) (e6_ : Int32) (e7_ : Int32) (h0 : Heap) (n0 : Nat) (v : Option Value) (h : Heap) (L : List Loc) : Prop := v = none ∧ Fr n0 L ∧ Keep h0 h [a1] ∧ Arv Z h a1 k1 .byte (8 : Int32) [.int e0_, .int e1_, .int e2_, .int e3_, .int ((cc >>> ((0 : Int32) &&& 31)).toInt8.toInt32), .int ((cc >>> ((8 : Int32) &&& 31)).toInt8.toInt32), .int e6_, .int e7_] (.int 0)
set_option maxRecDepth 65536 in
set_option maxHeartbeats 40000000 in
theorem rmpc4_2 (l : Launch) (Z : State) (a0 : Array Value) (hw : ∀ d ∈ tables_1, d.before a0 Z = true) (ws : List Jvm.Cond) (a1 : Addr) (k1 : ClassId) (cc : Int32) (e0_ : Int32) (e1_ : Int32) (e2_ : Int32) (e3_ : Int32) (e4_ : Int32) (e5_ : Int32) (e6_ : Int32) (e7_ : Int32) (h0 : Heap) (n0 : Nat) (Z0 : n0 ≤ h0.size) (F0 : Old Z n0 h0) (F1 : Arv Z h0 a1 k1 .byte (8 : Int32) [.int e0_, .int e1_, .int e2_, .int e3_, .int e4_, .int e5_, .int e6_, .int e7_] (.int 0)) (ge_a1 : n0 ≤ a1) (SH : Sta Z Z.heap "java/lang/StringUTF16" "HI_BYTE_SHIFT" "I" (.int (0 : Int32))) (SL : Sta Z Z.heap "java/lang/StringUTF16" "LO_BYTE_SHIFT" "I" (.int (8 : Int32))) (SA : Sta Z Z.heap "java/lang/StringUTF16" "$assertionsDisabled" "Z" (.int (1 : Int32))) :
    MetFree l (⟨"java/lang/StringUTF16", "putChar", "([BII)V"⟩ : MethodName) (head1 (Jvm.Cond.code (⟨"java/lang/StringUTF16", "putChar", "([BII)V"⟩ : MethodName) jdk_52_method_4_code 3 none :: ws) ({ frames := 0, cells := 0, slots := 0, locals := 0 } : Room)) (fun a U => a = #[(.ref a1), (.int (2 : Int32)), (.int cc)] ∧ Z.Warmed39 U.vm ∧ U.heap = h0) (fun _ _ _ _ _ => True) (fun _ U o U' => ∃ v L, o = .returned v ∧ Qpc4_2 Z a1 k1 cc e0_ e1_ e2_ e3_ e4_ e5_ e6_ e7_ h0 n0 v U'.heap L ∧ FrameEnd U o U' L ({ frames := 0, cells := 0, slots := 0, locals := 0 } : Room).cells ({ frames := 0, cells := 0, slots := 0, locals := 0 } : Room).slots) := by
  refine MetFree.of_bodySF (plainFor_of_name pn_pc4_2) hisR ?_
  intro p e s m args below meth c s₁ Bd hml0 hP hK
  obtain ⟨rfl, hZ, hh⟩ := hP
  have hx := Bd.exec
  have hby := Bd.bytes
  have hml : c.maxLocals = 3 := hml0
  have hown : s.vm.findClass "java/lang/StringUTF16" = some m.cls := findClass_of_methodNamed Bd.named
  have hnm := (name_of_methodNamed Bd.named Bd.method).1
  have X0 : Stand p l e ({ frames := 0, cells := 0, slots := 0, locals := 0 } : Room) s m #[(.ref a1), (.int (2 : Int32)), (.int cc)] below meth c s₁ [] 0 0 := Stand.of_body Bd
  have e0 : s₁.heap = h0 := by rw [← hh, Bd.state]; rfl
  have N0 := Fr.nil n0
  show own_R p.tables e below (own_P s (Qpc4_2 Z a1 k1 cc e0_ e1_ e2_ e3_ e4_ e5_ e6_ e7_ h0 n0) ({ frames := 0, cells := 0, slots := 0, locals := 0 } : Room).cells ({ frames := 0, cells := 0, slots := 0, locals := 0 } : Room).slots) (s₁.setTop (entryFrame m #[(.ref a1), (.int (2 : Int32)), (.int cc)] 3))
  refine own_f s₁ (mkF m 0 #[.val (.ref a1), .val (.int (2 : Int32)), .val (.int cc)] []) (fun t k => castTop (ef_pc4_2 m a1 (2 : Int32) cc) k) ?_
  have S1 : Sta Z h0 "java/lang/StringUTF16" "$assertionsDisabled" "Z" (.int (1 : Int32)) := SA.ext F0.2
  obtain ⟨T1, X1, e1, st1⟩ := getS X0 hx hZ (host := "") hown (own_w hw 154 rfl) Via.refl e0 S1 (g := (mkF m 0 #[.val (.ref a1), .val (.int (2 : Int32)), .val (.int cc)] [])) rfl (hb hby dpc4_2_0)
  refine own_f T1 (mkF m 3 #[.val (.ref a1), .val (.int (2 : Int32)), .val (.int cc)] [(.int (1 : Int32))]) st1 ?_
  refine own_f T1 (mkF m 28 #[.val (.ref a1), .val (.int (2 : Int32)), .val (.int cc)] []) (fun t k => XS.ifYes X1.here hx rfl (pc0 := 3) (pc' := 28) rfl (hb hby dpc4_2_3) rfl (XT.i0_ne_t (by decide)) (by decide) (by decide) k) ?_
  refine own_f T1 (mkF m 29 #[.val (.ref a1), .val (.int (2 : Int32)), .val (.int cc)] [(.int (2 : Int32))]) (fun t k => XS.iloadN X1.here hx rfl (hb hby dpc4_2_28) rfl k) ?_
  refine own_f T1 (mkF m 30 #[.val (.ref a1), .val (.int (2 : Int32)), .val (.int cc)] [(.int (1 : Int32)), (.int (2 : Int32))]) (fun t k => XT.iconstV X1.here hx rfl (1 : Int32) (hb hby dpc4_2_29) (by decide) k) ?_
  refine own_f T1 (mkF m 31 #[.val (.ref a1), .val (.int (2 : Int32)), .val (.int cc)] [(.int ((2 : Int32) <<< ((1 : Int32) &&& 31)))]) (fun t k => XS.ishl X1.here hx rfl (hb hby dpc4_2_30) rfl k) ?_
  rw [show ((2 : Int32) <<< ((1 : Int32) &&& 31)) = (4 : Int32) from by decide]
  refine own_f T1 (mkF m 32 #[.val (.ref a1), .val (.int (4 : Int32)), .val (.int cc)] []) (fun t k => XS.istoreN X1.here hx rfl (hb hby dpc4_2_31) rfl (l' := #[.val (.ref a1), .val (.int (4 : Int32)), .val (.int cc)]) rfl k) ?_
  refine own_f T1 (mkF m 33 #[.val (.ref a1), .val (.int (4 : Int32)), .val (.int cc)] [(.ref a1)]) (fun t k => XS.aloadN X1.here hx rfl (hb hby dpc4_2_32) rfl rfl k) ?_
  refine own_f T1 (mkF m 34 #[.val (.ref a1), .val (.int (4 : Int32)), .val (.int cc)] [(.int (4 : Int32)), (.ref a1)]) (fun t k => XS.iloadN X1.here hx rfl (hb hby dpc4_2_33) rfl k) ?_
  refine own_f T1 (mkF m 37 #[.val (.ref a1), .val (.int ((4 : Int32) + (1 : Int32))), .val (.int cc)] [(.int (4 : Int32)), (.ref a1)]) (fun t k => XT.iincV X1.here hx rfl (l' := #[.val (.ref a1), .val (.int ((4 : Int32) + (1 : Int32))), .val (.int cc)]) (1 : Int32) (hb hby dpc4_2_34) (by decide) rfl rfl k) ?_
  rw [show ((4 : Int32) + (1 : Int32)) = (5 : Int32) from by decide]
  refine own_f T1 (mkF m 38 #[.val (.ref a1), .val (.int (5 : Int32)), .val (.int cc)] [(.int cc), (.int (4 : Int32)), (.ref a1)]) (fun t k => XS.iloadN X1.here hx rfl (hb hby dpc4_2_37) rfl k) ?_
  have S2 : Sta Z h0 "java/lang/StringUTF16" "HI_BYTE_SHIFT" "I" (.int (0 : Int32)) := SH.ext F0.2
  obtain ⟨T2, X2, e2, st2⟩ := getS X1 hx hZ (host := "") hown (own_w hw 155 rfl) Via.refl e1 S2 (g := (mkF m 38 #[.val (.ref a1), .val (.int (5 : Int32)), .val (.int cc)] [(.int cc), (.int (4 : Int32)), (.ref a1)])) rfl (hb hby dpc4_2_38)
  refine own_f T2 (mkF m 41 #[.val (.ref a1), .val (.int (5 : Int32)), .val (.int cc)] [(.int (0 : Int32)), (.int cc), (.int (4 : Int32)), (.ref a1)]) st2 ?_
  refine own_f T2 (mkF m 42 #[.val (.ref a1), .val (.int (5 : Int32)), .val (.int cc)] [(.int (cc >>> ((0 : Int32) &&& 31))), (.int (4 : Int32)), (.ref a1)]) (fun t k => XS.ishr X2.here hx rfl (hb hby dpc4_2_41) rfl k) ?_
  refine own_f T2 (mkF m 43 #[.val (.ref a1), .val (.int (5 : Int32)), .val (.int cc)] [(.int ((cc >>> ((0 : Int32) &&& 31)).toInt8.toInt32)), (.int (4 : Int32)), (.ref a1)]) (fun t k => XS.i2b X2.here hx rfl (hb hby dpc4_2_42) rfl k) ?_
  obtain ⟨cl3, Ar3, q13, Sz3, q33, Hs3, Gs3⟩ := id F1
  obtain ⟨T3, h3, X3, e3, W3, st3⟩ := stB X2 hx hZ e2 Ar3 (j := (4 : Int32)) (inb_of Sz3 ⟨by decide, by decide⟩) (g := (mkF m 43 #[.val (.ref a1), .val (.int (5 : Int32)), .val (.int cc)] [(.int ((cc >>> ((0 : Int32) &&& 31)).toInt8.toInt32)), (.int (4 : Int32)), (.ref a1)])) rfl rfl (hb hby dpc4_2_43)
  have N3 := Fr.snoc X3 N0 ge_a1
  have Zs3 : n0 ≤ h3.size := by rw [W3.size]; exact Z0
  have K3 : Keep h0 h3 [a1] := (Keep.refl h0 [a1]).wr W3 (Or.inl (by simp))
  have F_4 := F0.wr W3 ge_a1
  have F_5 : Arv Z h3 a1 k1 .byte (8 : Int32) [.int e0_, .int e1_, .int e2_, .int e3_, .int ((cc >>> ((0 : Int32) &&& 31)).toInt8.toInt32), .int e5_, .int e6_, .int e7_] (.int 0) := Arv.set Ar3 q13 Sz3 q33 Hs3 Gs3 (by rw [← ((own_narB _) : nar .byte ((cc >>> ((0 : Int32) &&& 31)).toInt8.toInt32) = ((cc >>> ((0 : Int32) &&& 31)).toInt8.toInt32))]; exact own_fitB _) (by rw [((own_narB _) : nar .byte ((cc >>> ((0 : Int32) &&& 31)).toInt8.toInt32) = ((cc >>> ((0 : Int32) &&& 31)).toInt8.toInt32))] at W3; exact W3) 4 (by decide) (by simp)
  refine own_f T3 (mkF m 44 #[.val (.ref a1), .val (.int (5 : Int32)), .val (.int cc)] []) st3 ?_
  refine own_f T3 (mkF m 45 #[.val (.ref a1), .val (.int (5 : Int32)), .val (.int cc)] [(.ref a1)]) (fun t k => XS.aloadN X3.here hx rfl (hb hby dpc4_2_44) rfl rfl k) ?_
  refine own_f T3 (mkF m 46 #[.val (.ref a1), .val (.int (5 : Int32)), .val (.int cc)] [(.int (5 : Int32)), (.ref a1)]) (fun t k => XS.iloadN X3.here hx rfl (hb hby dpc4_2_45) rfl k) ?_
  refine own_f T3 (mkF m 47 #[.val (.ref a1), .val (.int (5 : Int32)), .val (.int cc)] [(.int cc), (.int (5 : Int32)), (.ref a1)]) (fun t k => XS.iloadN X3.here hx rfl (hb hby dpc4_2_46) rfl k) ?_
  have S6 : Sta Z h3 "java/lang/StringUTF16" "LO_BYTE_SHIFT" "I" (.int (8 : Int32)) := SL.ext F_4.2
  obtain ⟨T6, X6, e6, st6⟩ := getS X3 hx hZ (host := "") hown (own_w hw 156 rfl) Via.refl e3 S6 (g := (mkF m 47 #[.val (.ref a1), .val (.int (5 : Int32)), .val (.int cc)] [(.int cc), (.int (5 : Int32)), (.ref a1)])) rfl (hb hby dpc4_2_47)
  refine own_f T6 (mkF m 50 #[.val (.ref a1), .val (.int (5 : Int32)), .val (.int cc)] [(.int (8 : Int32)), (.int cc), (.int (5 : Int32)), (.ref a1)]) st6 ?_
  refine own_f T6 (mkF m 51 #[.val (.ref a1), .val (.int (5 : Int32)), .val (.int cc)] [(.int (cc >>> ((8 : Int32) &&& 31))), (.int (5 : Int32)), (.ref a1)]) (fun t k => XS.ishr X6.here hx rfl (hb hby dpc4_2_50) rfl k) ?_
  refine own_f T6 (mkF m 52 #[.val (.ref a1), .val (.int (5 : Int32)), .val (.int cc)] [(.int ((cc >>> ((8 : Int32) &&& 31)).toInt8.toInt32)), (.int (5 : Int32)), (.ref a1)]) (fun t k => XS.i2b X6.here hx rfl (hb hby dpc4_2_51) rfl k) ?_
  obtain ⟨cl7, Ar7, q17, Sz7, q37, Hs7, Gs7⟩ := id F_5
  obtain ⟨T7, h7, X7, e7, W7, st7⟩ := stB X6 hx hZ e6 Ar7 (j := (5 : Int32)) (inb_of Sz7 ⟨by decide, by decide⟩) (g := (mkF m 52 #[.val (.ref a1), .val (.int (5 : Int32)), .val (.int cc)] [(.int ((cc >>> ((8 : Int32) &&& 31)).toInt8.toInt32)), (.int (5 : Int32)), (.ref a1)])) rfl rfl (hb hby dpc4_2_52)
  have N7 := Fr.snoc X7 N3 ge_a1
  have Zs7 : n0 ≤ h7.size := by rw [W7.size]; exact Zs3
  have K7 : Keep h0 h7 [a1] := K3.wr W7 (Or.inl (by simp))
  have F_8 := F_4.wr W7 ge_a1
  have F_9 : Arv Z h7 a1 k1 .byte (8 : Int32) [.int e0_, .int e1_, .int e2_, .int e3_, .int ((cc >>> ((0 : Int32) &&& 31)).toInt8.toInt32), .int ((cc >>> ((8 : Int32) &&& 31)).toInt8.toInt32), .int e6_, .int e7_] (.int 0) := Arv.set Ar7 q17 Sz7 q37 Hs7 Gs7 (by rw [← ((own_narB _) : nar .byte ((cc >>> ((8 : Int32) &&& 31)).toInt8.toInt32) = ((cc >>> ((8 : Int32) &&& 31)).toInt8.toInt32))]; exact own_fitB _) (by rw [((own_narB _) : nar .byte ((cc >>> ((8 : Int32) &&& 31)).toInt8.toInt32) = ((cc >>> ((8 : Int32) &&& 31)).toInt8.toInt32))] at W7; exact W7) 5 (by decide) (by simp)
  refine own_f T7 (mkF m 53 #[.val (.ref a1), .val (.int (5 : Int32)), .val (.int cc)] []) st7 ?_
  obtain ⟨fs, hr, hrun, hended, hW, hsame⟩ := X7.leave (v := none) (fun _ => rfl)
  refine ⟨_, _, X7.returnOut hx Bd.returns (hb hby dpc4_2_53) hr, hrun, hended, _, _, rfl, ?_, ⟨_, rfl⟩, hW, hsame.mono (by decide) (by decide)⟩
  show Qpc4_2 Z a1 k1 cc e0_ e1_ e2_ e3_ e4_ e5_ e6_ e7_ h0 n0 _ T7.heap _
  rw [e7]
  exact ⟨rfl, N7, K7, F_9⟩
theorem dpc4_3_0 : decode jdk_52_method_4_code 0 = .ok (.getstatic 44, 3) := by decide +kernel
theorem dpc4_3_3 : decode jdk_52_method_4_code 3 = .ok (.ifCond .ne 25, 3) := by decide +kernel
theorem dpc4_3_28 : decode jdk_52_method_4_code 28 = .ok (.iload_n 1, 1) := by decide +kernel
theorem dpc4_3_29 : decode jdk_52_method_4_code 29 = .ok (.iconst 1, 1) := by decide +kernel
theorem dpc4_3_30 : decode jdk_52_method_4_code 30 = .ok (.ishl, 1) := by decide +kernel
theorem dpc4_3_31 : decode jdk_52_method_4_code 31 = .ok (.istore_n 1, 1) := by decide +kernel
theorem dpc4_3_32 : decode jdk_52_method_4_code 32 = .ok (.aload_n 0, 1) := by decide +kernel
theorem dpc4_3_33 : decode jdk_52_method_4_code 33 = .ok (.iload_n 1, 1) := by decide +kernel
theorem dpc4_3_34 : decode jdk_52_method_4_code 34 = .ok (.iinc 1 1, 3) := by decide +kernel
theorem dpc4_3_37 : decode jdk_52_method_4_code 37 = .ok (.iload_n 2, 1) := by decide +kernel
theorem dpc4_3_38 : decode jdk_52_method_4_code 38 = .ok (.getstatic 59, 3) := by decide +kernel
theorem dpc4_3_41 : decode jdk_52_method_4_code 41 = .ok (.ishr, 1) := by decide +kernel
theorem dpc4_3_42 : decode jdk_52_method_4_code 42 = .ok (.i2b, 1) := by decide +kernel
theorem dpc4_3_43 : decode jdk_52_method_4_code 43 = .ok (.bastore, 1) := by decide +kernel
theorem dpc4_3_44 : decode jdk_52_method_4_code 44 = .ok (.aload_n 0, 1) := by decide +kernel
theorem dpc4_3_45 : decode jdk_52_method_4_code 45 = .ok (.iload_n 1, 1) := by decide +kernel
theorem dpc4_3_46 : decode jdk_52_method_4_code 46 = .ok (.iload_n 2, 1) := by decide +kernel
theorem dpc4_3_47 : decode jdk_52_method_4_code 47 = .ok (.getstatic 63, 3) := by decide +kernel
theorem dpc4_3_50 : decode jdk_52_method_4_code 50 = .ok (.ishr, 1) := by decide +kernel
theorem dpc4_3_51 : decode jdk_52_method_4_code 51 = .ok (.i2b, 1) := by decide +kernel
theorem dpc4_3_52 : decode jdk_52_method_4_code 52 = .ok (.bastore, 1) := by decide +kernel
theorem dpc4_3_53 : decode jdk_52_method_4_code 53 = .ok (.return_, 1) := by decide +kernel
theorem pn_pc4_3 : plainName "java/lang/StringUTF16" = true := by first | (simp [plainName, overriddenIn]; done) | decide +kernel
theorem ef_pc4_3 (m : MethodId) (x0 : Addr) (x1 : Int32) (x2 : Int32) : entryFrame m #[(.ref x0), (.int x1), (.int x2)] 3 = mkF m 0 #[.val (.ref x0), .val (.int x1), .val (.int x2)] [] := by first | (simp [entryFrame, mkF, argsToLocals, Value.category]; done) | rfl
def Qpc4_3 (Z : State) (a1 : Addr) (k1 : ClassId) (cc : Int32) (e0_ : Int32) (e1_ : Int32) (e2_ : Int32) (e3_ : Int32) (e4_ : Int32) (e5_ : Int32) (e6_ : Int32) (e7_ : Int32) (h0 : Heap) (n0 : Nat) (v : Option Value) (h : Heap) (L : List Loc) : Prop := v = none ∧ Fr n0 L ∧ Keep h0 h [a1] ∧ Arv Z h a1 k1 .byte (8 : Int32) [.int e0_, .int e1_, .int e2_, .int e3_, .int e4_, .int e5_, .int ((cc >>> ((0 : Int32) &&& 31)).toInt8.toInt32), .int ((cc >>> ((8 : Int32) &&& 31)).toInt8.toInt32)] (.int 0)
set_option maxRecDepth 65536 in
set_option maxHeartbeats 40000000 in
theorem rmpc4_3 (l : Launch) (Z : State) (a0 : Array Value) (hw : ∀ d ∈ tables_1, d.before a0 Z = true) (ws : List Jvm.Cond) (a1 : Addr) (k1 : ClassId) (cc : Int32) (e0_ : Int32) (e1_ : Int32) (e2_ : Int32) (e3_ : Int32) (e4_ : Int32) (e5_ : Int32) (e6_ : Int32) (e7_ : Int32) (h0 : Heap) (n0 : Nat) (Z0 : n0 ≤ h0.size) (F0 : Old Z n0 h0) (F1 : Arv Z h0 a1 k1 .byte (8 : Int32) [.int e0_, .int e1_, .int e2_, .int e3_, .int e4_, .int e5_, .int e6_, .int e7_] (.int 0)) (ge_a1 : n0 ≤ a1) (SH : Sta Z Z.heap "java/lang/StringUTF16" "HI_BYTE_SHIFT" "I" (.int (0 : Int32))) (SL : Sta Z Z.heap "java/lang/StringUTF16" "LO_BYTE_SHIFT" "I" (.int (8 : Int32))) (SA : Sta Z Z.heap "java/lang/StringUTF16" "$assertionsDisabled" "Z" (.int (1 : Int32))) :
    MetFree l (⟨"java/lang/StringUTF16", "putChar", "([BII)V"⟩ : MethodName) (head1 (Jvm.Cond.code (⟨"java/lang/StringUTF16", "putChar", "([BII)V"⟩ : MethodName) jdk_52_method_4_code 3 none :: ws) ({ frames := 0, cells := 0, slots := 0, locals := 0 } : Room)) (fun a U => a = #[(.ref a1), (.int (3 : Int32)), (.int cc)] ∧ Z.Warmed39 U.vm ∧ U.heap = h0) (fun _ _ _ _ _ => True) (fun _ U o U' => ∃ v L, o = .returned v ∧ Qpc4_3 Z a1 k1 cc e0_ e1_ e2_ e3_ e4_ e5_ e6_ e7_ h0 n0 v U'.heap L ∧ FrameEnd U o U' L ({ frames := 0, cells := 0, slots := 0, locals := 0 } : Room).cells ({ frames := 0, cells := 0, slots := 0, locals := 0 } : Room).slots) := by
  refine MetFree.of_bodySF (plainFor_of_name pn_pc4_3) hisR ?_
  intro p e s m args below meth c s₁ Bd hml0 hP hK
  obtain ⟨rfl, hZ, hh⟩ := hP
  have hx := Bd.exec
  have hby := Bd.bytes
  have hml : c.maxLocals = 3 := hml0
  have hown : s.vm.findClass "java/lang/StringUTF16" = some m.cls := findClass_of_methodNamed Bd.named
  have hnm := (name_of_methodNamed Bd.named Bd.method).1
  have X0 : Stand p l e ({ frames := 0, cells := 0, slots := 0, locals := 0 } : Room) s m #[(.ref a1), (.int (3 : Int32)), (.int cc)] below meth c s₁ [] 0 0 := Stand.of_body Bd
  have e0 : s₁.heap = h0 := by rw [← hh, Bd.state]; rfl
  have N0 := Fr.nil n0
  show own_R p.tables e below (own_P s (Qpc4_3 Z a1 k1 cc e0_ e1_ e2_ e3_ e4_ e5_ e6_ e7_ h0 n0) ({ frames := 0, cells := 0, slots := 0, locals := 0 } : Room).cells ({ frames := 0, cells := 0, slots := 0, locals := 0 } : Room).slots) (s₁.setTop (entryFrame m #[(.ref a1), (.int (3 : Int32)), (.int cc)] 3))
  refine own_f s₁ (mkF m 0 #[.val (.ref a1), .val (.int (3 : Int32)), .val (.int cc)] []) (fun t k => castTop (ef_pc4_3 m a1 (3 : Int32) cc) k) ?_
  have S1 : Sta Z h0 "java/lang/StringUTF16" "$assertionsDisabled" "Z" (.int (1 : Int32)) := SA.ext F0.2
  obtain ⟨T1, X1, e1, st1⟩ := getS X0 hx hZ (host := "") hown (own_w hw 154 rfl) Via.refl e0 S1 (g := (mkF m 0 #[.val (.ref a1), .val (.int (3 : Int32)), .val (.int cc)] [])) rfl (hb hby dpc4_3_0)
  refine own_f T1 (mkF m 3 #[.val (.ref a1), .val (.int (3 : Int32)), .val (.int cc)] [(.int (1 : Int32))]) st1 ?_
  refine own_f T1 (mkF m 28 #[.val (.ref a1), .val (.int (3 : Int32)), .val (.int cc)] []) (fun t k => XS.ifYes X1.here hx rfl (pc0 := 3) (pc' := 28) rfl (hb hby dpc4_3_3) rfl (XT.i0_ne_t (by decide)) (by decide) (by decide) k) ?_
  refine own_f T1 (mkF m 29 #[.val (.ref a1), .val (.int (3 : Int32)), .val (.int cc)] [(.int (3 : Int32))]) (fun t k => XS.iloadN X1.here hx rfl (hb hby dpc4_3_28) rfl k) ?_
  refine own_f T1 (mkF m 30 #[.val (.ref a1), .val (.int (3 : Int32)), .val (.int cc)] [(.int (1 : Int32)), (.int (3 : Int32))]) (fun t k => XT.iconstV X1.here hx rfl (1 : Int32) (hb hby dpc4_3_29) (by decide) k) ?_
  refine own_f T1 (mkF m 31 #[.val (.ref a1), .val (.int (3 : Int32)), .val (.int cc)] [(.int ((3 : Int32) <<< ((1 : Int32) &&& 31)))]) (fun t k => XS.ishl X1.here hx rfl (hb hby dpc4_3_30) rfl k) ?_
  rw [show ((3 : Int32) <<< ((1 : Int32) &&& 31)) = (6 : Int32) from by decide]
  refine own_f T1 (mkF m 32 #[.val (.ref a1), .val (.int (6 : Int32)), .val (.int cc)] []) (fun t k => XS.istoreN X1.here hx rfl (hb hby dpc4_3_31) rfl (l' := #[.val (.ref a1), .val (.int (6 : Int32)), .val (.int cc)]) rfl k) ?_
  refine own_f T1 (mkF m 33 #[.val (.ref a1), .val (.int (6 : Int32)), .val (.int cc)] [(.ref a1)]) (fun t k => XS.aloadN X1.here hx rfl (hb hby dpc4_3_32) rfl rfl k) ?_
  refine own_f T1 (mkF m 34 #[.val (.ref a1), .val (.int (6 : Int32)), .val (.int cc)] [(.int (6 : Int32)), (.ref a1)]) (fun t k => XS.iloadN X1.here hx rfl (hb hby dpc4_3_33) rfl k) ?_
  refine own_f T1 (mkF m 37 #[.val (.ref a1), .val (.int ((6 : Int32) + (1 : Int32))), .val (.int cc)] [(.int (6 : Int32)), (.ref a1)]) (fun t k => XT.iincV X1.here hx rfl (l' := #[.val (.ref a1), .val (.int ((6 : Int32) + (1 : Int32))), .val (.int cc)]) (1 : Int32) (hb hby dpc4_3_34) (by decide) rfl rfl k) ?_
  rw [show ((6 : Int32) + (1 : Int32)) = (7 : Int32) from by decide]
  refine own_f T1 (mkF m 38 #[.val (.ref a1), .val (.int (7 : Int32)), .val (.int cc)] [(.int cc), (.int (6 : Int32)), (.ref a1)]) (fun t k => XS.iloadN X1.here hx rfl (hb hby dpc4_3_37) rfl k) ?_
  have S2 : Sta Z h0 "java/lang/StringUTF16" "HI_BYTE_SHIFT" "I" (.int (0 : Int32)) := SH.ext F0.2
  obtain ⟨T2, X2, e2, st2⟩ := getS X1 hx hZ (host := "") hown (own_w hw 155 rfl) Via.refl e1 S2 (g := (mkF m 38 #[.val (.ref a1), .val (.int (7 : Int32)), .val (.int cc)] [(.int cc), (.int (6 : Int32)), (.ref a1)])) rfl (hb hby dpc4_3_38)
  refine own_f T2 (mkF m 41 #[.val (.ref a1), .val (.int (7 : Int32)), .val (.int cc)] [(.int (0 : Int32)), (.int cc), (.int (6 : Int32)), (.ref a1)]) st2 ?_
  refine own_f T2 (mkF m 42 #[.val (.ref a1), .val (.int (7 : Int32)), .val (.int cc)] [(.int (cc >>> ((0 : Int32) &&& 31))), (.int (6 : Int32)), (.ref a1)]) (fun t k => XS.ishr X2.here hx rfl (hb hby dpc4_3_41) rfl k) ?_
  refine own_f T2 (mkF m 43 #[.val (.ref a1), .val (.int (7 : Int32)), .val (.int cc)] [(.int ((cc >>> ((0 : Int32) &&& 31)).toInt8.toInt32)), (.int (6 : Int32)), (.ref a1)]) (fun t k => XS.i2b X2.here hx rfl (hb hby dpc4_3_42) rfl k) ?_
  obtain ⟨cl3, Ar3, q13, Sz3, q33, Hs3, Gs3⟩ := id F1
  obtain ⟨T3, h3, X3, e3, W3, st3⟩ := stB X2 hx hZ e2 Ar3 (j := (6 : Int32)) (inb_of Sz3 ⟨by decide, by decide⟩) (g := (mkF m 43 #[.val (.ref a1), .val (.int (7 : Int32)), .val (.int cc)] [(.int ((cc >>> ((0 : Int32) &&& 31)).toInt8.toInt32)), (.int (6 : Int32)), (.ref a1)])) rfl rfl (hb hby dpc4_3_43)
  have N3 := Fr.snoc X3 N0 ge_a1
  have Zs3 : n0 ≤ h3.size := by rw [W3.size]; exact Z0
  have K3 : Keep h0 h3 [a1] := (Keep.refl h0 [a1]).wr W3 (Or.inl (by simp))
  have F_4 := F0.wr W3 ge_a1
  have F_5 : Arv Z h3 a1 k1 .byte (8 : Int32) [.int e0_, .int e1_, .int e2_, .int e3_, .int e4_, .int e5_, .int ((cc >>> ((0 : Int32) &&& 31)).toInt8.toInt32), .int e7_] (.int 0) := Arv.set Ar3 q13 Sz3 q33 Hs3 Gs3 (by rw [← ((own_narB _) : nar .byte ((cc >>> ((0 : Int32) &&& 31)).toInt8.toInt32) = ((cc >>> ((0 : Int32) &&& 31)).toInt8.toInt32))]; exact own_fitB _) (by rw [((own_narB _) : nar .byte ((cc >>> ((0 : Int32) &&& 31)).toInt8.toInt32) = ((cc >>> ((0 : Int32) &&& 31)).toInt8.toInt32))] at W3; exact W3) 6 (by decide) (by simp)
  refine own_f T3 (mkF m 44 #[.val (.ref a1), .val (.int (7 : Int32)), .val (.int cc)] []) st3 ?_
  refine own_f T3 (mkF m 45 #[.val (.ref a1), .val (.int (7 : Int32)), .val (.int cc)] [(.ref a1)]) (fun t k => XS.aloadN X3.here hx rfl (hb hby dpc4_3_44) rfl rfl k) ?_
  refine own_f T3 (mkF m 46 #[.val (.ref a1), .val (.int (7 : Int32)), .val (.int cc)] [(.int (7 : Int32)), (.ref a1)]) (fun t k => XS.iloadN X3.here hx rfl (hb hby dpc4_3_45) rfl k) ?_
  refine own_f T3 (mkF m 47 #[.val (.ref a1), .val (.int (7 : Int32)), .val (.int cc)] [(.int cc), (.int (7 : Int32)), (.ref a1)]) (fun t k => XS.iloadN X3.here hx rfl (hb hby dpc4_3_46) rfl k) ?_
  have S6 : Sta Z h3 "java/lang/StringUTF16" "LO_BYTE_SHIFT" "I" (.int (8 : Int32)) := SL.ext F_4.2
  obtain ⟨T6, X6, e6, st6⟩ := getS X3 hx hZ (host := "") hown (own_w hw 156 rfl) Via.refl e3 S6 (g := (mkF m 47 #[.val (.ref a1), .val (.int (7 : Int32)), .val (.int cc)] [(.int cc), (.int (7 : Int32)), (.ref a1)])) rfl (hb hby dpc4_3_47)
  refine own_f T6 (mkF m 50 #[.val (.ref a1), .val (.int (7 : Int32)), .val (.int cc)] [(.int (8 : Int32)), (.int cc), (.int (7 : Int32)), (.ref a1)]) st6 ?_
  refine own_f T6 (mkF m 51 #[.val (.ref a1), .val (.int (7 : Int32)), .val (.int cc)] [(.int (cc >>> ((8 : Int32) &&& 31))), (.int (7 : Int32)), (.ref a1)]) (fun t k => XS.ishr X6.here hx rfl (hb hby dpc4_3_50) rfl k) ?_
  refine own_f T6 (mkF m 52 #[.val (.ref a1), .val (.int (7 : Int32)), .val (.int cc)] [(.int ((cc >>> ((8 : Int32) &&& 31)).toInt8.toInt32)), (.int (7 : Int32)), (.ref a1)]) (fun t k => XS.i2b X6.here hx rfl (hb hby dpc4_3_51) rfl k) ?_
  obtain ⟨cl7, Ar7, q17, Sz7, q37, Hs7, Gs7⟩ := id F_5
  obtain ⟨T7, h7, X7, e7, W7, st7⟩ := stB X6 hx hZ e6 Ar7 (j := (7 : Int32)) (inb_of Sz7 ⟨by decide, by decide⟩) (g := (mkF m 52 #[.val (.ref a1), .val (.int (7 : Int32)), .val (.int cc)] [(.int ((cc >>> ((8 : Int32) &&& 31)).toInt8.toInt32)), (.int (7 : Int32)), (.ref a1)])) rfl rfl (hb hby dpc4_3_52)
  have N7 := Fr.snoc X7 N3 ge_a1
  have Zs7 : n0 ≤ h7.size := by rw [W7.size]; exact Zs3
  have K7 : Keep h0 h7 [a1] := K3.wr W7 (Or.inl (by simp))
  have F_8 := F_4.wr W7 ge_a1
  have F_9 : Arv Z h7 a1 k1 .byte (8 : Int32) [.int e0_, .int e1_, .int e2_, .int e3_, .int e4_, .int e5_, .int ((cc >>> ((0 : Int32) &&& 31)).toInt8.toInt32), .int ((cc >>> ((8 : Int32) &&& 31)).toInt8.toInt32)] (.int 0) := Arv.set Ar7 q17 Sz7 q37 Hs7 Gs7 (by rw [← ((own_narB _) : nar .byte ((cc >>> ((8 : Int32) &&& 31)).toInt8.toInt32) = ((cc >>> ((8 : Int32) &&& 31)).toInt8.toInt32))]; exact own_fitB _) (by rw [((own_narB _) : nar .byte ((cc >>> ((8 : Int32) &&& 31)).toInt8.toInt32) = ((cc >>> ((8 : Int32) &&& 31)).toInt8.toInt32))] at W7; exact W7) 7 (by decide) (by simp)
  refine own_f T7 (mkF m 53 #[.val (.ref a1), .val (.int (7 : Int32)), .val (.int cc)] []) st7 ?_
  obtain ⟨fs, hr, hrun, hended, hW, hsame⟩ := X7.leave (v := none) (fun _ => rfl)
  refine ⟨_, _, X7.returnOut hx Bd.returns (hb hby dpc4_3_53) hr, hrun, hended, _, _, rfl, ?_, ⟨_, rfl⟩, hW, hsame.mono (by decide) (by decide)⟩
  show Qpc4_3 Z a1 k1 cc e0_ e1_ e2_ e3_ e4_ e5_ e6_ e7_ h0 n0 _ T7.heap _
  rw [e7]
  exact ⟨rfl, N7, K7, F_9⟩
theorem dtb4_0 : decode jdk_52_method_14_code 0 = .ok (.iload_n 2, 1) := by decide +kernel
theorem dtb4_1 : decode jdk_52_method_14_code 1 = .ok (.invokestatic 107, 3) := by decide +kernel
theorem dtb4_4 : decode jdk_52_method_14_code 4 = .ok (.astore_n 3, 1) := by decide +kernel
theorem dtb4_5 : decode jdk_52_method_14_code 5 = .ok (.iconst 0, 1) := by decide +kernel
theorem dtb4_6 : decode jdk_52_method_14_code 6 = .ok (.istore 4, 2) := by decide +kernel
theorem dtb4_8 : decode jdk_52_method_14_code 8 = .ok (.iload 4, 2) := by decide +kernel
theorem dtb4_10 : decode jdk_52_method_14_code 10 = .ok (.iload_n 2, 1) := by decide +kernel
theorem dtb4_11 : decode jdk_52_method_14_code 11 = .ok (.if_icmp .ge 21, 3) := by decide +kernel
theorem dtb4_14 : decode jdk_52_method_14_code 14 = .ok (.aload_n 3, 1) := by decide +kernel
theorem dtb4_15 : decode jdk_52_method_14_code 15 = .ok (.iload 4, 2) := by decide +kernel
theorem dtb4_17 : decode jdk_52_method_14_code 17 = .ok (.aload_n 0, 1) := by decide +kernel
theorem dtb4_18 : decode jdk_52_method_14_code 18 = .ok (.iload_n 1, 1) := by decide +kernel
theorem dtb4_19 : decode jdk_52_method_14_code 19 = .ok (.caload, 1) := by decide +kernel
theorem dtb4_20 : decode jdk_52_method_14_code 20 = .ok (.invokestatic 111, 3) := by decide +kernel
theorem dtb4_23 : decode jdk_52_method_14_code 23 = .ok (.iinc 1 1, 3) := by decide +kernel
theorem dtb4_26 : decode jdk_52_method_14_code 26 = .ok (.iinc 4 1, 3) := by decide +kernel
theorem dtb4_29 : decode jdk_52_method_14_code 29 = .ok (.goto (-21), 3) := by decide +kernel
theorem dtb4_32 : decode jdk_52_method_14_code 32 = .ok (.aload_n 3, 1) := by decide +kernel
theorem dtb4_33 : decode jdk_52_method_14_code 33 = .ok (.areturn, 1) := by decide +kernel
theorem pn_tb4 : plainName "java/lang/StringUTF16" = true := by first | (simp [plainName, overriddenIn]; done) | decide +kernel
theorem ef_tb4 (m : MethodId) (x0 : Addr) (x1 : Int32) (x2 : Int32) : entryFrame m #[(.ref x0), (.int x1), (.int x2)] 5 = mkF m 0 #[.val (.ref x0), .val (.int x1), .val (.int x2), .unset, .unset] [] := by first | (simp [entryFrame, mkF, argsToLocals, Value.category]; done) | rfl
def Qtb4 (Z : State) (a1 : Addr) (k1 : ClassId) (c0 : Int32) (c1 : Int32) (c2 : Int32) (c3 : Int32) (h0 : Heap) (n0 : Nat) (v : Option Value) (h : Heap) (L : List Loc) : Prop := ∃ (b : Addr) (kb : ClassId), v = some (.ref b) ∧ Fr n0 L ∧ Keep h0 h [] ∧ Arv Z h b kb .byte (8 : Int32) [.int ((c0 >>> ((0 : Int32) &&& 31)).toInt8.toInt32), .int ((c0 >>> ((8 : Int32) &&& 31)).toInt8.toInt32), .int ((c1 >>> ((0 : Int32) &&& 31)).toInt8.toInt32), .int ((c1 >>> ((8 : Int32) &&& 31)).toInt8.toInt32), .int ((c2 >>> ((0 : Int32) &&& 31)).toInt8.toInt32), .int ((c2 >>> ((8 : Int32) &&& 31)).toInt8.toInt32), .int ((c3 >>> ((0 : Int32) &&& 31)).toInt8.toInt32), .int ((c3 >>> ((8 : Int32) &&& 31)).toInt8.toInt32)] (.int 0) ∧ h0.size ≤ b
set_option maxRecDepth 65536 in
set_option maxHeartbeats 40000000 in
theorem rmtb4 (l : Launch) (Z : State) (a0 : Array Value) (hw : ∀ d ∈ tables_1, d.before a0 Z = true) (ws : List Jvm.Cond) (a1 : Addr) (k1 : ClassId) (c0 : Int32) (c1 : Int32) (c2 : Int32) (c3 : Int32) (h0 : Heap) (n0 : Nat) (Z0 : n0 ≤ h0.size) (F0 : Old Z n0 h0) (F1 : Arv Z h0 a1 k1 .char (4 : Int32) [.int c0, .int c1, .int c2, .int c3] (.int 0)) (SH : Sta Z Z.heap "java/lang/StringUTF16" "HI_BYTE_SHIFT" "I" (.int (0 : Int32))) (SL : Sta Z Z.heap "java/lang/StringUTF16" "LO_BYTE_SHIFT" "I" (.int (8 : Int32))) (SA : Sta Z Z.heap "java/lang/StringUTF16" "$assertionsDisabled" "Z" (.int (1 : Int32))) :
    MetFree l (⟨"java/lang/StringUTF16", "toBytes", "([CII)[B"⟩ : MethodName) (head1 (Jvm.Cond.code (⟨"java/lang/StringUTF16", "toBytes", "([CII)[B"⟩ : MethodName) jdk_52_method_14_code 5 (some (.array .byte)) :: ws) ({ frames := 2, cells := 1, slots := 8, locals := 24 } : Room)) (fun a U => a = #[(.ref a1), (.int (0 : Int32)), (.int (4 : Int32))] ∧ Z.Warmed39 U.vm ∧ U.heap = h0) (fun _ _ _ _ _ => True) (fun _ U o U' => ∃ v L, o = .returned v ∧ Qtb4 Z a1 k1 c0 c1 c2 c3 h0 n0 v U'.heap L ∧ FrameEnd U o U' L ({ frames := 2, cells := 1, slots := 8, locals := 24 } : Room).cells ({ frames := 2, cells := 1, slots := 8, locals := 24 } : Room).slots) := by
  refine MetFree.of_bodySF (plainFor_of_name pn_tb4) hisR ?_
  intro p e s m args below meth c s₁ Bd hml0 hP hK
  obtain ⟨rfl, hZ, hh⟩ := hP
  have hx := Bd.exec
  have hby := Bd.bytes
  have hml : c.maxLocals = 5 := hml0
  have hown : s.vm.findClass "java/lang/StringUTF16" = some m.cls := findClass_of_methodNamed Bd.named
  have hnm := (name_of_methodNamed Bd.named Bd.method).1
  have X0 : Stand p l e ({ frames := 2, cells := 1, slots := 8, locals := 24 } : Room) s m #[(.ref a1), (.int (0 : Int32)), (.int (4 : Int32))] below meth c s₁ [] 0 0 := Stand.of_body Bd
  have e0 : s₁.heap = h0 := by rw [← hh, Bd.state]; rfl
  have N0 := Fr.nil n0
  show own_R p.tables e below (own_P s (Qtb4 Z a1 k1 c0 c1 c2 c3 h0 n0) ({ frames := 2, cells := 1, slots := 8, locals := 24 } : Room).cells ({ frames := 2, cells := 1, slots := 8, locals := 24 } : Room).slots) (s₁.setTop (entryFrame m #[(.ref a1), (.int (0 : Int32)), (.int (4 : Int32))] 5))
  refine own_f s₁ (mkF m 0 #[.val (.ref a1), .val (.int (0 : Int32)), .val (.int (4 : Int32)), .unset, .unset] []) (fun t k => castTop (ef_tb4 m a1 (0 : Int32) (4 : Int32)) k) ?_
  refine own_f s₁ (mkF m 1 #[.val (.ref a1), .val (.int (0 : Int32)), .val (.int (4 : Int32)), .unset, .unset] [(.int (4 : Int32))]) (fun t k => XS.iloadN X0.here hx rfl (hb hby dtb4_0) rfl k) ?_
  obtain ⟨_, _, ⟨T1, Lq1, kq_1, nq_1⟩, -, X1, ⟨Lc1, hQ1, lq1, yq1, zq1⟩, st1⟩ := Jvm.LawKit.callS X0 hx (y := (⟨"java/lang/StringUTF16", "newBytesFor", "(I)[B"⟩ : MethodName)) hown (mvT hZ (own_w hw 144 rfl)) (mvT hZ (own_w hw 145 rfl)) (mvT hZ (own_w hw 29 rfl)) (mvT hZ (own_w hw 146 rfl)) (by decide) (backOf (W := 0) (rmnf4 l Z a0 hw []  h0 n0 Z0 ) hZ (own_w hw 146 rfl) (own_w hw 29 rfl) (by decide) (by decide)) (g := (mkF m 1 #[.val (.ref a1), .val (.int (0 : Int32)), .val (.int (4 : Int32)), .unset, .unset] [(.int (4 : Int32))])) rfl (by rw [hml]; rfl) (argsL := [(.int (4 : Int32))]) (rest := []) (lenOf pd__I_B rfl) rfl (by show 2 * 0 + _ ≤ _; exact Nat.le_of_eq rfl) (hb hby dtb4_1) (fun _ _ => ⟨rfl, e0, (by decide : 0 + 1 ≤ _), (by decide : 0 + 8 ≤ _)⟩)
  dsimp only [Pt.U, Pt.locs, Pt.cells, Pt.slots] at X1 lq1 yq1 zq1 st1 hQ1
  subst lq1 yq1 zq1
  obtain ⟨h1, e1⟩ : ∃ z, T1.heap = z := ⟨_, rfl⟩
  rw [e1] at hQ1
  unfold Qnf4 at hQ1
  obtain ⟨b1, kb1, rfl, Nq1, qh1, G1_0, H1_0⟩ := hQ1
  have N1 := Fr.app N0 Nq1
  have Zs1 : n0 ≤ h1.size := Nat.le_trans Z0 qh1.1
  have F_2 := F0.keep qh1 all0
  have F_3 := F1.keep qh1 nin0
  have K1 : Keep h0 h1 [] := (Keep.refl h0 []).trans qh1 all0
  have ne1_a1 : a1 ≠ b1 := Nat.ne_of_lt (Nat.lt_of_lt_of_le F1.lt H1_0)
  have ge1 : n0 ≤ b1 := Nat.le_trans Z0 H1_0
  have gf1 : h0.size ≤ b1 := Nat.le_trans (Keep.refl h0 []).1 H1_0
  refine own_f T1 (mkF m 4 #[.val (.ref a1), .val (.int (0 : Int32)), .val (.int (4 : Int32)), .unset, .unset] [(.ref b1)]) st1 ?_
  refine own_f T1 (mkF m 5 #[.val (.ref a1), .val (.int (0 : Int32)), .val (.int (4 : Int32)), .val (.ref b1), .unset] []) (fun t k => XS.astoreN X1.here hx rfl (hb hby dtb4_4) rfl rfl (l' := #[.val (.ref a1), .val (.int (0 : Int32)), .val (.int (4 : Int32)), .val (.ref b1), .unset]) rfl k) ?_
  refine own_f T1 (mkF m 6 #[.val (.ref a1), .val (.int (0 : Int32)), .val (.int (4 : Int32)), .val (.ref b1), .unset] [(.int (0 : Int32))]) (fun t k => XT.iconstV X1.here hx rfl (0 : Int32) (hb hby dtb4_5) (by decide) k) ?_
  refine own_f T1 (mkF m 8 #[.val (.ref a1), .val (.int (0 : Int32)), .val (.int (4 : Int32)), .val (.ref b1), .val (.int (0 : Int32))] []) (fun t k => XS.istore X1.here hx rfl (hb hby dtb4_6) rfl (l' := #[.val (.ref a1), .val (.int (0 : Int32)), .val (.int (4 : Int32)), .val (.ref b1), .val (.int (0 : Int32))]) rfl k) ?_
  refine own_f T1 (mkF m 10 #[.val (.ref a1), .val (.int (0 : Int32)), .val (.int (4 : Int32)), .val (.ref b1), .val (.int (0 : Int32))] [(.int (0 : Int32))]) (fun t k => XS.iload X1.here hx rfl (hb hby dtb4_8) rfl k) ?_
  refine own_f T1 (mkF m 11 #[.val (.ref a1), .val (.int (0 : Int32)), .val (.int (4 : Int32)), .val (.ref b1), .val (.int (0 : Int32))] [(.int (4 : Int32)), (.int (0 : Int32))]) (fun t k => XS.iloadN X1.here hx rfl (hb hby dtb4_10) rfl k) ?_
  refine own_f T1 (mkF m 14 #[.val (.ref a1), .val (.int (0 : Int32)), .val (.int (4 : Int32)), .val (.ref b1), .val (.int (0 : Int32))] []) (fun t k => XS.icmpNo X1.here hx rfl (hb hby dtb4_11) rfl (XT.ii_ge_f (by decide)) k) ?_
  refine own_f T1 (mkF m 15 #[.val (.ref a1), .val (.int (0 : Int32)), .val (.int (4 : Int32)), .val (.ref b1), .val (.int (0 : Int32))] [(.ref b1)]) (fun t k => XS.aloadN X1.here hx rfl (hb hby dtb4_14) rfl rfl k) ?_
  refine own_f T1 (mkF m 17 #[.val (.ref a1), .val (.int (0 : Int32)), .val (.int (4 : Int32)), .val (.ref b1), .val (.int (0 : Int32))] [(.int (0 : Int32)), (.ref b1)]) (fun t k => XS.iload X1.here hx rfl (hb hby dtb4_15) rfl k) ?_
  refine own_f T1 (mkF m 18 #[.val (.ref a1), .val (.int (0 : Int32)), .val (.int (4 : Int32)), .val (.ref b1), .val (.int (0 : Int32))] [(.ref a1), (.int (0 : Int32)), (.ref b1)]) (fun t k => XS.aloadN X1.here hx rfl (hb hby dtb4_17) rfl rfl k) ?_
  refine own_f T1 (mkF m 19 #[.val (.ref a1), .val (.int (0 : Int32)), .val (.int (4 : Int32)), .val (.ref b1), .val (.int (0 : Int32))] [(.int (0 : Int32)), (.ref a1), (.int (0 : Int32)), (.ref b1)]) (fun t k => XS.iloadN X1.here hx rfl (hb hby dtb4_18) rfl k) ?_
  obtain ⟨cl4, Ar4, q14, Sz4, q34, Hs4, Gs4⟩ := id F_3
  have hi4 := inb_of (j := (0 : Int32)) Sz4 ⟨by decide, by decide⟩
  refine own_f T1 (mkF m 20 #[.val (.ref a1), .val (.int (0 : Int32)), .val (.int (4 : Int32)), .val (.ref b1), .val (.int (0 : Int32))] [(.int c0), (.int (0 : Int32)), (.ref b1)]) (fun t k => X1.caload hx (j := (0 : Int32)) (v := (.int c0)) (by rw [e1]; exact Ar4.1) (State.isArrayOf_alike hZ.alike Ar4.2.1) Ar4.2.2 hi4 (Has.at Hs4 hi4 rfl) (g := (mkF m 19 #[.val (.ref a1), .val (.int (0 : Int32)), .val (.int (4 : Int32)), .val (.ref b1), .val (.int (0 : Int32))] [(.int (0 : Int32)), (.ref a1), (.int (0 : Int32)), (.ref b1)])) rfl rfl (hb hby dtb4_19) t k) ?_
  obtain ⟨_, _, ⟨T5, Lq5, kq_5, nq_5⟩, -, X5, ⟨Lc5, hQ5, lq5, yq5, zq5⟩, st5⟩ := Jvm.LawKit.callS X1 hx (y := (⟨"java/lang/StringUTF16", "putChar", "([BII)V"⟩ : MethodName)) hown (mvT hZ (own_w hw 151 rfl)) (mvT hZ (own_w hw 152 rfl)) (mvT hZ (own_w hw 29 rfl)) (mvT hZ (own_w hw 153 rfl)) (by decide) (backOf (W := 0) (rmpc4_0 l Z a0 hw [] b1 _ c0 _ _ _ _ _ _ _ _ h1 n0 Zs1 F_2 G1_0 ge1 SH SL SA) hZ (own_w hw 153 rfl) (own_w hw 29 rfl) (by decide) (by decide)) (g := (mkF m 20 #[.val (.ref a1), .val (.int (0 : Int32)), .val (.int (4 : Int32)), .val (.ref b1), .val (.int (0 : Int32))] [(.int c0), (.int (0 : Int32)), (.ref b1)])) rfl (by rw [hml]; rfl) (argsL := [(.ref b1), (.int (0 : Int32)), (.int c0)]) (rest := []) (lenOf pd__BII_V rfl) rfl (by show 2 * 0 + _ ≤ _; exact Nat.le_of_eq rfl) (hb hby dtb4_20) (fun _ _ => ⟨rfl, e1, (by decide : 0 + 1 + 0 ≤ _), (by decide : 0 + 8 + 0 ≤ _)⟩)
  dsimp only [Pt.U, Pt.locs, Pt.cells, Pt.slots] at X5 lq5 yq5 zq5 st5 hQ5
  subst lq5 yq5 zq5
  obtain ⟨h5, e5⟩ : ∃ z, T5.heap = z := ⟨_, rfl⟩
  rw [e5] at hQ5
  unfold Qpc4_0 at hQ5
  obtain ⟨rfl, Nq5, qh5, G5_0⟩ := hQ5
  have N5 := Fr.app N1 Nq5
  have Zs5 : n0 ≤ h5.size := Nat.le_trans Zs1 qh5.1
  have F_6 := F_2.keep qh5 (allS ge1 all0)
  have F_7 := F_3.keep qh5 (ninS ne1_a1 nin0)
  have K5 : Keep h0 h5 [] := K1.trans qh5 (allS (Or.inr gf1) all0)
  refine own_f T5 (mkF m 23 #[.val (.ref a1), .val (.int (0 : Int32)), .val (.int (4 : Int32)), .val (.ref b1), .val (.int (0 : Int32))] []) st5 ?_
  refine own_f T5 (mkF m 26 #[.val (.ref a1), .val (.int ((0 : Int32) + (1 : Int32))), .val (.int (4 : Int32)), .val (.ref b1), .val (.int (0 : Int32))] []) (fun t k => XT.iincV X5.here hx rfl (l' := #[.val (.ref a1), .val (.int ((0 : Int32) + (1 : Int32))), .val (.int (4 : Int32)), .val (.ref b1), .val (.int (0 : Int32))]) (1 : Int32) (hb hby dtb4_23) (by decide) rfl rfl k) ?_
  rw [show ((0 : Int32) + (1 : Int32)) = (1 : Int32) from by decide]
  refine own_f T5 (mkF m 29 #[.val (.ref a1), .val (.int (1 : Int32)), .val (.int (4 : Int32)), .val (.ref b1), .val (.int ((0 : Int32) + (1 : Int32)))] []) (fun t k => XT.iincV X5.here hx rfl (l' := #[.val (.ref a1), .val (.int (1 : Int32)), .val (.int (4 : Int32)), .val (.ref b1), .val (.int ((0 : Int32) + (1 : Int32)))]) (1 : Int32) (hb hby dtb4_26) (by decide) rfl rfl k) ?_
  rw [show ((0 : Int32) + (1 : Int32)) = (1 : Int32) from by decide]
  refine own_f T5 (mkF m 8 #[.val (.ref a1), .val (.int (1 : Int32)), .val (.int (4 : Int32)), .val (.ref b1), .val (.int (1 : Int32))] []) (fun t k => XS.goto X5.here hx rfl (pc0 := 29) (pc' := 8) rfl (hb hby dtb4_29) (by decide) (by decide) k) ?_
  refine own_f T5 (mkF m 10 #[.val (.ref a1), .val (.int (1 : Int32)), .val (.int (4 : Int32)), .val (.ref b1), .val (.int (1 : Int32))] [(.int (1 : Int32))]) (fun t k => XS.iload X5.here hx rfl (hb hby dtb4_8) rfl k) ?_
  refine own_f T5 (mkF m 11 #[.val (.ref a1), .val (.int (1 : Int32)), .val (.int (4 : Int32)), .val (.ref b1), .val (.int (1 : Int32))] [(.int (4 : Int32)), (.int (1 : Int32))]) (fun t k => XS.iloadN X5.here hx rfl (hb hby dtb4_10) rfl k) ?_
  refine own_f T5 (mkF m 14 #[.val (.ref a1), .val (.int (1 : Int32)), .val (.int (4 : Int32)), .val (.ref b1), .val (.int (1 : Int32))] []) (fun t k => XS.icmpNo X5.here hx rfl (hb hby dtb4_11) rfl (XT.ii_ge_f (by decide)) k) ?_
  refine own_f T5 (mkF m 15 #[.val (.ref a1), .val (.int (1 : Int32)), .val (.int (4 : Int32)), .val (.ref b1), .val (.int (1 : Int32))] [(.ref b1)]) (fun t k => XS.aloadN X5.here hx rfl (hb hby dtb4_14) rfl rfl k) ?_
  refine own_f T5 (mkF m 17 #[.val (.ref a1), .val (.int (1 : Int32)), .val (.int (4 : Int32)), .val (.ref b1), .val (.int (1 : Int32))] [(.int (1 : Int32)), (.ref b1)]) (fun t k => XS.iload X5.here hx rfl (hb hby dtb4_15) rfl k) ?_
  refine own_f T5 (mkF m 18 #[.val (.ref a1), .val (.int (1 : Int32)), .val (.int (4 : Int32)), .val (.ref b1), .val (.int (1 : Int32))] [(.ref a1), (.int (1 : Int32)), (.ref b1)]) (fun t k => XS.aloadN X5.here hx rfl (hb hby dtb4_17) rfl rfl k) ?_
  refine own_f T5 (mkF m 19 #[.val (.ref a1), .val (.int (1 : Int32)), .val (.int (4 : Int32)), .val (.ref b1), .val (.int (1 : Int32))] [(.int (1 : Int32)), (.ref a1), (.int (1 : Int32)), (.ref b1)]) (fun t k => XS.iloadN X5.here hx rfl (hb hby dtb4_18) rfl k) ?_
  obtain ⟨cl8, Ar8, q18, Sz8, q38, Hs8, Gs8⟩ := id F_7
  have hi8 := inb_of (j := (1 : Int32)) Sz8 ⟨by decide, by decide⟩
  refine own_f T5 (mkF m 20 #[.val (.ref a1), .val (.int (1 : Int32)), .val (.int (4 : Int32)), .val (.ref b1), .val (.int (1 : Int32))] [(.int c1), (.int (1 : Int32)), (.ref b1)]) (fun t k => X5.caload hx (j := (1 : Int32)) (v := (.int c1)) (by rw [e5]; exact Ar8.1) (State.isArrayOf_alike hZ.alike Ar8.2.1) Ar8.2.2 hi8 (Has.at Hs8 hi8 rfl) (g := (mkF m 19 #[.val (.ref a1), .val (.int (1 : Int32)), .val (.int (4 : Int32)), .val (.ref b1), .val (.int (1 : Int32))] [(.int (1 : Int32)), (.ref a1), (.int (1 : Int32)), (.ref b1)])) rfl rfl (hb hby dtb4_19) t k) ?_
  obtain ⟨_, _, ⟨T9, Lq9, kq_9, nq_9⟩, -, X9, ⟨Lc9, hQ9, lq9, yq9, zq9⟩, st9⟩ := Jvm.LawKit.callS X5 hx (y := (⟨"java/lang/StringUTF16", "putChar", "([BII)V"⟩ : MethodName)) hown (mvT hZ (own_w hw 151 rfl)) (mvT hZ (own_w hw 152 rfl)) (mvT hZ (own_w hw 29 rfl)) (mvT hZ (own_w hw 153 rfl)) (by decide) (backOf (W := 0) (rmpc4_1 l Z a0 hw [] b1 _ c1 _ _ _ _ _ _ _ _ h5 n0 Zs5 F_6 G5_0 ge1 SH SL SA) hZ (own_w hw 153 rfl) (own_w hw 29 rfl) (by decide) (by decide)) (g := (mkF m 20 #[.val (.ref a1), .val (.int (1 : Int32)), .val (.int (4 : Int32)), .val (.ref b1), .val (.int (1 : Int32))] [(.int c1), (.int (1 : Int32)), (.ref b1)])) rfl (by rw [hml]; rfl) (argsL := [(.ref b1), (.int (1 : Int32)), (.int c1)]) (rest := []) (lenOf pd__BII_V rfl) rfl (by show 2 * 0 + _ ≤ _; exact Nat.le_of_eq rfl) (hb hby dtb4_20) (fun _ _ => ⟨rfl, e5, (by decide : 0 + 1 + 0 + 0 ≤ _), (by decide : 0 + 8 + 0 + 0 ≤ _)⟩)
  dsimp only [Pt.U, Pt.locs, Pt.cells, Pt.slots] at X9 lq9 yq9 zq9 st9 hQ9
  subst lq9 yq9 zq9
  obtain ⟨h9, e9⟩ : ∃ z, T9.heap = z := ⟨_, rfl⟩
  rw [e9] at hQ9
  unfold Qpc4_1 at hQ9
  obtain ⟨rfl, Nq9, qh9, G9_0⟩ := hQ9
  have N9 := Fr.app N5 Nq9
  have Zs9 : n0 ≤ h9.size := Nat.le_trans Zs5 qh9.1
  have F_10 := F_6.keep qh9 (allS ge1 all0)
  have F_11 := F_7.keep qh9 (ninS ne1_a1 nin0)
  have K9 : Keep h0 h9 [] := K5.trans qh9 (allS (Or.inr gf1) all0)
  refine own_f T9 (mkF m 23 #[.val (.ref a1), .val (.int (1 : Int32)), .val (.int (4 : Int32)), .val (.ref b1), .val (.int (1 : Int32))] []) st9 ?_
  refine own_f T9 (mkF m 26 #[.val (.ref a1), .val (.int ((1 : Int32) + (1 : Int32))), .val (.int (4 : Int32)), .val (.ref b1), .val (.int (1 : Int32))] []) (fun t k => XT.iincV X9.here hx rfl (l' := #[.val (.ref a1), .val (.int ((1 : Int32) + (1 : Int32))), .val (.int (4 : Int32)), .val (.ref b1), .val (.int (1 : Int32))]) (1 : Int32) (hb hby dtb4_23) (by decide) rfl rfl k) ?_
  rw [show ((1 : Int32) + (1 : Int32)) = (2 : Int32) from by decide]
  refine own_f T9 (mkF m 29 #[.val (.ref a1), .val (.int (2 : Int32)), .val (.int (4 : Int32)), .val (.ref b1), .val (.int ((1 : Int32) + (1 : Int32)))] []) (fun t k => XT.iincV X9.here hx rfl (l' := #[.val (.ref a1), .val (.int (2 : Int32)), .val (.int (4 : Int32)), .val (.ref b1), .val (.int ((1 : Int32) + (1 : Int32)))]) (1 : Int32) (hb hby dtb4_26) (by decide) rfl rfl k) ?_
  rw [show ((1 : Int32) + (1 : Int32)) = (2 : Int32) from by decide]
  refine own_f T9 (mkF m 8 #[.val (.ref a1), .val (.int (2 : Int32)), .val (.int (4 : Int32)), .val (.ref b1), .val (.int (2 : Int32))] []) (fun t k => XS.goto X9.here hx rfl (pc0 := 29) (pc' := 8) rfl (hb hby dtb4_29) (by decide) (by decide) k) ?_
  refine own_f T9 (mkF m 10 #[.val (.ref a1), .val (.int (2 : Int32)), .val (.int (4 : Int32)), .val (.ref b1), .val (.int (2 : Int32))] [(.int (2 : Int32))]) (fun t k => XS.iload X9.here hx rfl (hb hby dtb4_8) rfl k) ?_
  refine own_f T9 (mkF m 11 #[.val (.ref a1), .val (.int (2 : Int32)), .val (.int (4 : Int32)), .val (.ref b1), .val (.int (2 : Int32))] [(.int (4 : Int32)), (.int (2 : Int32))]) (fun t k => XS.iloadN X9.here hx rfl (hb hby dtb4_10) rfl k) ?_
  refine own_f T9 (mkF m 14 #[.val (.ref a1), .val (.int (2 : Int32)), .val (.int (4 : Int32)), .val (.ref b1), .val (.int (2 : Int32))] []) (fun t k => XS.icmpNo X9.here hx rfl (hb hby dtb4_11) rfl (XT.ii_ge_f (by decide)) k) ?_
  refine own_f T9 (mkF m 15 #[.val (.ref a1), .val (.int (2 : Int32)), .val (.int (4 : Int32)), .val (.ref b1), .val (.int (2 : Int32))] [(.ref b1)]) (fun t k => XS.aloadN X9.here hx rfl (hb hby dtb4_14) rfl rfl k) ?_
  refine own_f T9 (mkF m 17 #[.val (.ref a1), .val (.int (2 : Int32)), .val (.int (4 : Int32)), .val (.ref b1), .val (.int (2 : Int32))] [(.int (2 : Int32)), (.ref b1)]) (fun t k => XS.iload X9.here hx rfl (hb hby dtb4_15) rfl k) ?_
  refine own_f T9 (mkF m 18 #[.val (.ref a1), .val (.int (2 : Int32)), .val (.int (4 : Int32)), .val (.ref b1), .val (.int (2 : Int32))] [(.ref a1), (.int (2 : Int32)), (.ref b1)]) (fun t k => XS.aloadN X9.here hx rfl (hb hby dtb4_17) rfl rfl k) ?_
  refine own_f T9 (mkF m 19 #[.val (.ref a1), .val (.int (2 : Int32)), .val (.int (4 : Int32)), .val (.ref b1), .val (.int (2 : Int32))] [(.int (2 : Int32)), (.ref a1), (.int (2 : Int32)), (.ref b1)]) (fun t k => XS.iloadN X9.here hx rfl (hb hby dtb4_18) rfl k) ?_
  obtain ⟨cl12, Ar12, q112, Sz12, q312, Hs12, Gs12⟩ := id F_11
  have hi12 := inb_of (j := (2 : Int32)) Sz12 ⟨by decide, by decide⟩
  refine own_f T9 (mkF m 20 #[.val (.ref a1), .val (.int (2 : Int32)), .val (.int (4 : Int32)), .val (.ref b1), .val (.int (2 : Int32))] [(.int c2), (.int (2 : Int32)), (.ref b1)]) (fun t k => X9.caload hx (j := (2 : Int32)) (v := (.int c2)) (by rw [e9]; exact Ar12.1) (State.isArrayOf_alike hZ.alike Ar12.2.1) Ar12.2.2 hi12 (Has.at Hs12 hi12 rfl) (g := (mkF m 19 #[.val (.ref a1), .val (.int (2 : Int32)), .val (.int (4 : Int32)), .val (.ref b1), .val (.int (2 : Int32))] [(.int (2 : Int32)), (.ref a1), (.int (2 : Int32)), (.ref b1)])) rfl rfl (hb hby dtb4_19) t k) ?_
  obtain ⟨_, _, ⟨T13, Lq13, kq_13, nq_13⟩, -, X13, ⟨Lc13, hQ13, lq13, yq13, zq13⟩, st13⟩ := Jvm.LawKit.callS X9 hx (y := (⟨"java/lang/StringUTF16", "putChar", "([BII)V"⟩ : MethodName)) hown (mvT hZ (own_w hw 151 rfl)) (mvT hZ (own_w hw 152 rfl)) (mvT hZ (own_w hw 29 rfl)) (mvT hZ (own_w hw 153 rfl)) (by decide) (backOf (W := 0) (rmpc4_2 l Z a0 hw [] b1 _ c2 _ _ _ _ _ _ _ _ h9 n0 Zs9 F_10 G9_0 ge1 SH SL SA) hZ (own_w hw 153 rfl) (own_w hw 29 rfl) (by decide) (by decide)) (g := (mkF m 20 #[.val (.ref a1), .val (.int (2 : Int32)), .val (.int (4 : Int32)), .val (.ref b1), .val (.int (2 : Int32))] [(.int c2), (.int (2 : Int32)), (.ref b1)])) rfl (by rw [hml]; rfl) (argsL := [(.ref b1), (.int (2 : Int32)), (.int c2)]) (rest := []) (lenOf pd__BII_V rfl) rfl (by show 2 * 0 + _ ≤ _; exact Nat.le_of_eq rfl) (hb hby dtb4_20) (fun _ _ => ⟨rfl, e9, (by decide : 0 + 1 + 0 + 0 + 0 ≤ _), (by decide : 0 + 8 + 0 + 0 + 0 ≤ _)⟩)
  dsimp only [Pt.U, Pt.locs, Pt.cells, Pt.slots] at X13 lq13 yq13 zq13 st13 hQ13
  subst lq13 yq13 zq13
  obtain ⟨h13, e13⟩ : ∃ z, T13.heap = z := ⟨_, rfl⟩
  rw [e13] at hQ13
  unfold Qpc4_2 at hQ13
  obtain ⟨rfl, Nq13, qh13, G13_0⟩ := hQ13
  have N13 := Fr.app N9 Nq13
  have Zs13 : n0 ≤ h13.size := Nat.le_trans Zs9 qh13.1
  have F_14 := F_10.keep qh13 (allS ge1 all0)
  have F_15 := F_11.keep qh13 (ninS ne1_a1 nin0)
  have K13 : Keep h0 h13 [] := K9.trans qh13 (allS (Or.inr gf1) all0)
  refine own_f T13 (mkF m 23 #[.val (.ref a1), .val (.int (2 : Int32)), .val (.int (4 : Int32)), .val (.ref b1), .val (.int (2 : Int32))] []) st13 ?_
  refine own_f T13 (mkF m 26 #[.val (.ref a1), .val (.int ((2 : Int32) + (1 : Int32))), .val (.int (4 : Int32)), .val (.ref b1), .val (.int (2 : Int32))] []) (fun t k => XT.iincV X13.here hx rfl (l' := #[.val (.ref a1), .val (.int ((2 : Int32) + (1 : Int32))), .val (.int (4 : Int32)), .val (.ref b1), .val (.int (2 : Int32))]) (1 : Int32) (hb hby dtb4_23) (by decide) rfl rfl k) ?_
  rw [show ((2 : Int32) + (1 : Int32)) = (3 : Int32) from by decide]
  refine own_f T13 (mkF m 29 #[.val (.ref a1), .val (.int (3 : Int32)), .val (.int (4 : Int32)), .val (.ref b1), .val (.int ((2 : Int32) + (1 : Int32)))] []) (fun t k => XT.iincV X13.here hx rfl (l' := #[.val (.ref a1), .val (.int (3 : Int32)), .val (.int (4 : Int32)), .val (.ref b1), .val (.int ((2 : Int32) + (1 : Int32)))]) (1 : Int32) (hb hby dtb4_26) (by decide) rfl rfl k) ?_
  rw [show ((2 : Int32) + (1 : Int32)) = (3 : Int32) from by decide]
  refine own_f T13 (mkF m 8 #[.val (.ref a1), .val (.int (3 : Int32)), .val (.int (4 : Int32)), .val (.ref b1), .val (.int (3 : Int32))] []) (fun t k => XS.goto X13.here hx rfl (pc0 := 29) (pc' := 8) rfl (hb hby dtb4_29) (by decide) (by decide) k) ?_
  refine own_f T13 (mkF m 10 #[.val (.ref a1), .val (.int (3 : Int32)), .val (.int (4 : Int32)), .val (.ref b1), .val (.int (3 : Int32))] [(.int (3 : Int32))]) (fun t k => XS.iload X13.here hx rfl (hb hby dtb4_8) rfl k) ?_
  refine own_f T13 (mkF m 11 #[.val (.ref a1), .val (.int (3 : Int32)), .val (.int (4 : Int32)), .val (.ref b1), .val (.int (3 : Int32))] [(.int (4 : Int32)), (.int (3 : Int32))]) (fun t k => XS.iloadN X13.here hx rfl (hb hby dtb4_10) rfl k) ?_
  refine own_f T13 (mkF m 14 #[.val (.ref a1), .val (.int (3 : Int32)), .val (.int (4 : Int32)), .val (.ref b1), .val (.int (3 : Int32))] []) (fun t k => XS.icmpNo X13.here hx rfl (hb hby dtb4_11) rfl (XT.ii_ge_f (by decide)) k) ?_
  refine own_f T13 (mkF m 15 #[.val (.ref a1), .val (.int (3 : Int32)), .val (.int (4 : Int32)), .val (.ref b1), .val (.int (3 : Int32))] [(.ref b1)]) (fun t k => XS.aloadN X13.here hx rfl (hb hby dtb4_14) rfl rfl k) ?_
  refine own_f T13 (mkF m 17 #[.val (.ref a1), .val (.int (3 : Int32)), .val (.int (4 : Int32)), .val (.ref b1), .val (.int (3 : Int32))] [(.int (3 : Int32)), (.ref b1)]) (fun t k => XS.iload X13.here hx rfl (hb hby dtb4_15) rfl k) ?_
  refine own_f T13 (mkF m 18 #[.val (.ref a1), .val (.int (3 : Int32)), .val (.int (4 : Int32)), .val (.ref b1), .val (.int (3 : Int32))] [(.ref a1), (.int (3 : Int32)), (.ref b1)]) (fun t k => XS.aloadN X13.here hx rfl (hb hby dtb4_17) rfl rfl k) ?_
  refine own_f T13 (mkF m 19 #[.val (.ref a1), .val (.int (3 : Int32)), .val (.int (4 : Int32)), .val (.ref b1), .val (.int (3 : Int32))] [(.int (3 : Int32)), (.ref a1), (.int (3 : Int32)), (.ref b1)]) (fun t k => XS.iloadN X13.here hx rfl (hb hby dtb4_18) rfl k) ?_
  obtain ⟨cl16, Ar16, q116, Sz16, q316, Hs16, Gs16⟩ := id F_15
  have hi16 := inb_of (j := (3 : Int32)) Sz16 ⟨by decide, by decide⟩
  refine own_f T13 (mkF m 20 #[.val (.ref a1), .val (.int (3 : Int32)), .val (.int (4 : Int32)), .val (.ref b1), .val (.int (3 : Int32))] [(.int c3), (.int (3 : Int32)), (.ref b1)]) (fun t k => X13.caload hx (j := (3 : Int32)) (v := (.int c3)) (by rw [e13]; exact Ar16.1) (State.isArrayOf_alike hZ.alike Ar16.2.1) Ar16.2.2 hi16 (Has.at Hs16 hi16 rfl) (g := (mkF m 19 #[.val (.ref a1), .val (.int (3 : Int32)), .val (.int (4 : Int32)), .val (.ref b1), .val (.int (3 : Int32))] [(.int (3 : Int32)), (.ref a1), (.int (3 : Int32)), (.ref b1)])) rfl rfl (hb hby dtb4_19) t k) ?_
  obtain ⟨_, _, ⟨T17, Lq17, kq_17, nq_17⟩, -, X17, ⟨Lc17, hQ17, lq17, yq17, zq17⟩, st17⟩ := Jvm.LawKit.callS X13 hx (y := (⟨"java/lang/StringUTF16", "putChar", "([BII)V"⟩ : MethodName)) hown (mvT hZ (own_w hw 151 rfl)) (mvT hZ (own_w hw 152 rfl)) (mvT hZ (own_w hw 29 rfl)) (mvT hZ (own_w hw 153 rfl)) (by decide) (backOf (W := 0) (rmpc4_3 l Z a0 hw [] b1 _ c3 _ _ _ _ _ _ _ _ h13 n0 Zs13 F_14 G13_0 ge1 SH SL SA) hZ (own_w hw 153 rfl) (own_w hw 29 rfl) (by decide) (by decide)) (g := (mkF m 20 #[.val (.ref a1), .val (.int (3 : Int32)), .val (.int (4 : Int32)), .val (.ref b1), .val (.int (3 : Int32))] [(.int c3), (.int (3 : Int32)), (.ref b1)])) rfl (by rw [hml]; rfl) (argsL := [(.ref b1), (.int (3 : Int32)), (.int c3)]) (rest := []) (lenOf pd__BII_V rfl) rfl (by show 2 * 0 + _ ≤ _; exact Nat.le_of_eq rfl) (hb hby dtb4_20) (fun _ _ => ⟨rfl, e13, (by decide : 0 + 1 + 0 + 0 + 0 + 0 ≤ _), (by decide : 0 + 8 + 0 + 0 + 0 + 0 ≤ _)⟩)
  dsimp only [Pt.U, Pt.locs, Pt.cells, Pt.slots] at X17 lq17 yq17 zq17 st17 hQ17
  subst lq17 yq17 zq17
  obtain ⟨h17, e17⟩ : ∃ z, T17.heap = z := ⟨_, rfl⟩
  rw [e17] at hQ17
  unfold Qpc4_3 at hQ17
  obtain ⟨rfl, Nq17, qh17, G17_0⟩ := hQ17
  have N17 := Fr.app N13 Nq17
  have Zs17 : n0 ≤ h17.size := Nat.le_trans Zs13 qh17.1
  have F_18 := F_14.keep qh17 (allS ge1 all0)
  have F_19 := F_15.keep qh17 (ninS ne1_a1 nin0)
  have K17 : Keep h0 h17 [] := K13.trans qh17 (allS (Or.inr gf1) all0)
  refine own_f T17 (mkF m 23 #[.val (.ref a1), .val (.int (3 : Int32)), .val (.int (4 : Int32)), .val (.ref b1), .val (.int (3 : Int32))] []) st17 ?_
  refine own_f T17 (mkF m 26 #[.val (.ref a1), .val (.int ((3 : Int32) + (1 : Int32))), .val (.int (4 : Int32)), .val (.ref b1), .val (.int (3 : Int32))] []) (fun t k => XT.iincV X17.here hx rfl (l' := #[.val (.ref a1), .val (.int ((3 : Int32) + (1 : Int32))), .val (.int (4 : Int32)), .val (.ref b1), .val (.int (3 : Int32))]) (1 : Int32) (hb hby dtb4_23) (by decide) rfl rfl k) ?_
  rw [show ((3 : Int32) + (1 : Int32)) = (4 : Int32) from by decide]
  refine own_f T17 (mkF m 29 #[.val (.ref a1), .val (.int (4 : Int32)), .val (.int (4 : Int32)), .val (.ref b1), .val (.int ((3 : Int32) + (1 : Int32)))] []) (fun t k => XT.iincV X17.here hx rfl (l' := #[.val (.ref a1), .val (.int (4 : Int32)), .val (.int (4 : Int32)), .val (.ref b1), .val (.int ((3 : Int32) + (1 : Int32)))]) (1 : Int32) (hb hby dtb4_26) (by decide) rfl rfl k) ?_
  rw [show ((3 : Int32) + (1 : Int32)) = (4 : Int32) from by decide]
  refine own_f T17 (mkF m 8 #[.val (.ref a1), .val (.int (4 : Int32)), .val (.int (4 : Int32)), .val (.ref b1), .val (.int (4 : Int32))] []) (fun t k => XS.goto X17.here hx rfl (pc0 := 29) (pc' := 8) rfl (hb hby dtb4_29) (by decide) (by decide) k) ?_
  refine own_f T17 (mkF m 10 #[.val (.ref a1), .val (.int (4 : Int32)), .val (.int (4 : Int32)), .val (.ref b1), .val (.int (4 : Int32))] [(.int (4 : Int32))]) (fun t k => XS.iload X17.here hx rfl (hb hby dtb4_8) rfl k) ?_
  refine own_f T17 (mkF m 11 #[.val (.ref a1), .val (.int (4 : Int32)), .val (.int (4 : Int32)), .val (.ref b1), .val (.int (4 : Int32))] [(.int (4 : Int32)), (.int (4 : Int32))]) (fun t k => XS.iloadN X17.here hx rfl (hb hby dtb4_10) rfl k) ?_
  refine own_f T17 (mkF m 32 #[.val (.ref a1), .val (.int (4 : Int32)), .val (.int (4 : Int32)), .val (.ref b1), .val (.int (4 : Int32))] []) (fun t k => XS.icmpYes X17.here hx rfl (pc0 := 11) (pc' := 32) rfl (hb hby dtb4_11) rfl (XT.ii_ge_t (by decide)) (by decide) (by decide) k) ?_
  refine own_f T17 (mkF m 33 #[.val (.ref a1), .val (.int (4 : Int32)), .val (.int (4 : Int32)), .val (.ref b1), .val (.int (4 : Int32))] [(.ref b1)]) (fun t k => XS.aloadN X17.here hx rfl (hb hby dtb4_32) rfl rfl k) ?_
  obtain ⟨fs, hr, hrun, hended, hW, hsame⟩ := X17.leave (v := some (.ref b1)) (fun h => by rw [Bd.returns] at h; cases h)
  refine ⟨_, _, retOut X17 hx Bd.returns (by rfl) (Or.inr (Or.inr (Or.inr (Or.inr ⟨rfl, rfl, rfl⟩)))) (hb hby dtb4_33) hr, hrun, hended, _, _, rfl, ?_, ⟨_, rfl⟩, hW, hsame.mono (by decide) (by decide)⟩
  show Qtb4 Z a1 k1 c0 c1 c2 c3 h0 n0 _ T17.heap _
  rw [e17]
  exact ⟨b1, kb1, rfl, N17, K17, G17_0, gf1⟩
theorem dco4_8_0 : decode jdk_52_method_15_code 0 = .ok (.iload_n 1, 1) := by decide +kernel
theorem dco4_8_1 : decode jdk_52_method_15_code 1 = .ok (.aload_n 0, 1) := by decide +kernel
theorem dco4_8_2 : decode jdk_52_method_15_code 2 = .ok (.arraylength, 1) := by decide +kernel
theorem dco4_8_3 : decode jdk_52_method_15_code 3 = .ok (.isub, 1) := by decide +kernel
theorem dco4_8_4 : decode jdk_52_method_15_code 4 = .ok (.bipush 31, 2) := by decide +kernel
theorem dco4_8_6 : decode jdk_52_method_15_code 6 = .ok (.iushr, 1) := by decide +kernel
theorem dco4_8_7 : decode jdk_52_method_15_code 7 = .ok (.i2b, 1) := by decide +kernel
theorem dco4_8_8 : decode jdk_52_method_15_code 8 = .ok (.ireturn, 1) := by decide +kernel
theorem pn_co4_8 : plainName "java/lang/StringUTF16" = true := by first | (simp [plainName, overriddenIn]; done) | decide +kernel
theorem ef_co4_8 (m : MethodId) (x0 : Addr) (x1 : Int32) : entryFrame m #[(.ref x0), (.int x1)] 2 = mkF m 0 #[.val (.ref x0), .val (.int x1)] [] := by first | (simp [entryFrame, mkF, argsToLocals, Value.category]; done) | rfl
def Qco4_8 (Z : State) (a1 : Addr) (k1 : ClassId) (vv : List Value) (h0 : Heap) (n0 : Nat) (v : Option Value) (h : Heap) (L : List Loc) : Prop := v = some (.int (1 : Int32)) ∧ Fr n0 L ∧ h = h0
set_option maxRecDepth 65536 in
set_option maxHeartbeats 40000000 in
theorem rmco4_8 (l : Launch) (Z : State) (a0 : Array Value) (hw : ∀ d ∈ tables_1, d.before a0 Z = true) (ws : List Jvm.Cond) (a1 : Addr) (k1 : ClassId) (vv : List Value) (h0 : Heap) (n0 : Nat) (Z0 : n0 ≤ h0.size) (F0 : Arv Z h0 a1 k1 .byte (8 : Int32) vv (.int 0)) :
    MetFree l (⟨"java/lang/StringUTF16", "coderFromArrayLen", "([BI)B"⟩ : MethodName) (head1 (Jvm.Cond.code (⟨"java/lang/StringUTF16", "coderFromArrayLen", "([BI)B"⟩ : MethodName) jdk_52_method_15_code 2 (some .byte) :: ws) ({ frames := 0, cells := 0, slots := 0, locals := 0 } : Room)) (fun a U => a = #[(.ref a1), (.int (4 : Int32))] ∧ Z.Warmed39 U.vm ∧ U.heap = h0) (fun _ _ _ _ _ => True) (fun _ U o U' => ∃ v L, o = .returned v ∧ Qco4_8 Z a1 k1 vv h0 n0 v U'.heap L ∧ FrameEnd U o U' L ({ frames := 0, cells := 0, slots := 0, locals := 0 } : Room).cells ({ frames := 0, cells := 0, slots := 0, locals := 0 } : Room).slots) := by
  refine MetFree.of_bodySF (plainFor_of_name pn_co4_8) hisR ?_
  intro p e s m args below meth c s₁ Bd hml0 hP hK
  obtain ⟨rfl, hZ, hh⟩ := hP
  have hx := Bd.exec
  have hby := Bd.bytes
  have hml : c.maxLocals = 2 := hml0
  have hown : s.vm.findClass "java/lang/StringUTF16" = some m.cls := findClass_of_methodNamed Bd.named
  have hnm := (name_of_methodNamed Bd.named Bd.method).1
  have X0 : Stand p l e ({ frames := 0, cells := 0, slots := 0, locals := 0 } : Room) s m #[(.ref a1), (.int (4 : Int32))] below meth c s₁ [] 0 0 := Stand.of_body Bd
  have e0 : s₁.heap = h0 := by rw [← hh, Bd.state]; rfl
  have N0 := Fr.nil n0
  show own_R p.tables e below (own_P s (Qco4_8 Z a1 k1 vv h0 n0) ({ frames := 0, cells := 0, slots := 0, locals := 0 } : Room).cells ({ frames := 0, cells := 0, slots := 0, locals := 0 } : Room).slots) (s₁.setTop (entryFrame m #[(.ref a1), (.int (4 : Int32))] 2))
  refine own_f s₁ (mkF m 0 #[.val (.ref a1), .val (.int (4 : Int32))] []) (fun t k => castTop (ef_co4_8 m a1 (4 : Int32)) k) ?_
  refine own_f s₁ (mkF m 1 #[.val (.ref a1), .val (.int (4 : Int32))] [(.int (4 : Int32))]) (fun t k => XS.iloadN X0.here hx rfl (hb hby dco4_8_0) rfl k) ?_
  refine own_f s₁ (mkF m 2 #[.val (.ref a1), .val (.int (4 : Int32))] [(.ref a1), (.int (4 : Int32))]) (fun t k => XS.aloadN X0.here hx rfl (hb hby dco4_8_1) rfl rfl k) ?_
  refine own_f s₁ (mkF m 3 #[.val (.ref a1), .val (.int (4 : Int32))] [(.int (8 : Int32)), (.int (4 : Int32))]) (fun t k => own_len X0 hx hZ e0 F0 (g := (mkF m 2 #[.val (.ref a1), .val (.int (4 : Int32))] [(.ref a1), (.int (4 : Int32))])) rfl rfl (hb hby dco4_8_2) k) ?_
  refine own_f s₁ (mkF m 4 #[.val (.ref a1), .val (.int (4 : Int32))] [(.int ((4 : Int32) - (8 : Int32)))]) (fun t k => XS.isub X0.here hx rfl (hb hby dco4_8_3) rfl k) ?_
  rw [show ((4 : Int32) - (8 : Int32)) = (-4 : Int32) from by decide]
  refine own_f s₁ (mkF m 6 #[.val (.ref a1), .val (.int (4 : Int32))] [(.int (31 : Int32)), (.int (-4 : Int32))]) (fun t k => XT.bipushV X0.here hx rfl (31 : Int32) (hb hby dco4_8_4) (by decide) k) ?_
  refine own_f s₁ (mkF m 7 #[.val (.ref a1), .val (.int (4 : Int32))] [(.int (((-4 : Int32).toUInt32 >>> ((31 : Int32) &&& 31).toUInt32).toInt32))]) (fun t k => XS.iushr X0.here hx rfl (hb hby dco4_8_6) rfl k) ?_
  rw [show (((-4 : Int32).toUInt32 >>> ((31 : Int32) &&& 31).toUInt32).toInt32) = (1 : Int32) from by decide]
  refine own_f s₁ (mkF m 8 #[.val (.ref a1), .val (.int (4 : Int32))] [(.int ((1 : Int32).toInt8.toInt32))]) (fun t k => XS.i2b X0.here hx rfl (hb hby dco4_8_7) rfl k) ?_
  rw [show ((1 : Int32).toInt8.toInt32) = (1 : Int32) from by decide]
  obtain ⟨fs, hr, hrun, hended, hW, hsame⟩ := X0.leave (v := some (.int (1 : Int32))) (fun h => by rw [Bd.returns] at h; cases h)
  refine ⟨_, _, own_retB X0 hx (t := .byte) Bd.returns (by simp) (by decide) (hb hby dco4_8_8) hr, hrun, hended, _, _, rfl, ?_, ⟨_, rfl⟩, hW, hsame.mono (by decide) (by decide)⟩
  show Qco4_8 Z a1 k1 vv h0 n0 _ s₁.heap _
  rw [e0]
  exact ⟨rfl, N0, rfl⟩
theorem dco4_4_0 : decode jdk_52_method_15_code 0 = .ok (.iload_n 1, 1) := by decide +kernel
theorem dco4_4_1 : decode jdk_52_method_15_code 1 = .ok (.aload_n 0, 1) := by decide +kernel
theorem dco4_4_2 : decode jdk_52_method_15_code 2 = .ok (.arraylength, 1) := by decide +kernel
theorem dco4_4_3 : decode jdk_52_method_15_code 3 = .ok (.isub, 1) := by decide +kernel
theorem dco4_4_4 : decode jdk_52_method_15_code 4 = .ok (.bipush 31, 2) := by decide +kernel
theorem dco4_4_6 : decode jdk_52_method_15_code 6 = .ok (.iushr, 1) := by decide +kernel
theorem dco4_4_7 : decode jdk_52_method_15_code 7 = .ok (.i2b, 1) := by decide +kernel
theorem dco4_4_8 : decode jdk_52_method_15_code 8 = .ok (.ireturn, 1) := by decide +kernel
theorem pn_co4_4 : plainName "java/lang/StringUTF16" = true := by first | (simp [plainName, overriddenIn]; done) | decide +kernel
theorem ef_co4_4 (m : MethodId) (x0 : Addr) (x1 : Int32) : entryFrame m #[(.ref x0), (.int x1)] 2 = mkF m 0 #[.val (.ref x0), .val (.int x1)] [] := by first | (simp [entryFrame, mkF, argsToLocals, Value.category]; done) | rfl
def Qco4_4 (Z : State) (a1 : Addr) (k1 : ClassId) (vv : List Value) (h0 : Heap) (n0 : Nat) (v : Option Value) (h : Heap) (L : List Loc) : Prop := v = some (.int (0 : Int32)) ∧ Fr n0 L ∧ h = h0
set_option maxRecDepth 65536 in
set_option maxHeartbeats 40000000 in
theorem rmco4_4 (l : Launch) (Z : State) (a0 : Array Value) (hw : ∀ d ∈ tables_1, d.before a0 Z = true) (ws : List Jvm.Cond) (a1 : Addr) (k1 : ClassId) (vv : List Value) (h0 : Heap) (n0 : Nat) (Z0 : n0 ≤ h0.size) (F0 : Arv Z h0 a1 k1 .byte (4 : Int32) vv (.int 0)) :
    MetFree l (⟨"java/lang/StringUTF16", "coderFromArrayLen", "([BI)B"⟩ : MethodName) (head1 (Jvm.Cond.code (⟨"java/lang/StringUTF16", "coderFromArrayLen", "([BI)B"⟩ : MethodName) jdk_52_method_15_code 2 (some .byte) :: ws) ({ frames := 0, cells := 0, slots := 0, locals := 0 } : Room)) (fun a U => a = #[(.ref a1), (.int (4 : Int32))] ∧ Z.Warmed39 U.vm ∧ U.heap = h0) (fun _ _ _ _ _ => True) (fun _ U o U' => ∃ v L, o = .returned v ∧ Qco4_4 Z a1 k1 vv h0 n0 v U'.heap L ∧ FrameEnd U o U' L ({ frames := 0, cells := 0, slots := 0, locals := 0 } : Room).cells ({ frames := 0, cells := 0, slots := 0, locals := 0 } : Room).slots) := by
  refine MetFree.of_bodySF (plainFor_of_name pn_co4_4) hisR ?_
  intro p e s m args below meth c s₁ Bd hml0 hP hK
  obtain ⟨rfl, hZ, hh⟩ := hP
  have hx := Bd.exec
  have hby := Bd.bytes
  have hml : c.maxLocals = 2 := hml0
  have hown : s.vm.findClass "java/lang/StringUTF16" = some m.cls := findClass_of_methodNamed Bd.named
  have hnm := (name_of_methodNamed Bd.named Bd.method).1
  have X0 : Stand p l e ({ frames := 0, cells := 0, slots := 0, locals := 0 } : Room) s m #[(.ref a1), (.int (4 : Int32))] below meth c s₁ [] 0 0 := Stand.of_body Bd
  have e0 : s₁.heap = h0 := by rw [← hh, Bd.state]; rfl
  have N0 := Fr.nil n0
  show own_R p.tables e below (own_P s (Qco4_4 Z a1 k1 vv h0 n0) ({ frames := 0, cells := 0, slots := 0, locals := 0 } : Room).cells ({ frames := 0, cells := 0, slots := 0, locals := 0 } : Room).slots) (s₁.setTop (entryFrame m #[(.ref a1), (.int (4 : Int32))] 2))
  refine own_f s₁ (mkF m 0 #[.val (.ref a1), .val (.int (4 : Int32))] []) (fun t k => castTop (ef_co4_4 m a1 (4 : Int32)) k) ?_
  refine own_f s₁ (mkF m 1 #[.val (.ref a1), .val (.int (4 : Int32))] [(.int (4 : Int32))]) (fun t k => XS.iloadN X0.here hx rfl (hb hby dco4_4_0) rfl k) ?_
  refine own_f s₁ (mkF m 2 #[.val (.ref a1), .val (.int (4 : Int32))] [(.ref a1), (.int (4 : Int32))]) (fun t k => XS.aloadN X0.here hx rfl (hb hby dco4_4_1) rfl rfl k) ?_
  refine own_f s₁ (mkF m 3 #[.val (.ref a1), .val (.int (4 : Int32))] [(.int (4 : Int32)), (.int (4 : Int32))]) (fun t k => own_len X0 hx hZ e0 F0 (g := (mkF m 2 #[.val (.ref a1), .val (.int (4 : Int32))] [(.ref a1), (.int (4 : Int32))])) rfl rfl (hb hby dco4_4_2) k) ?_
  refine own_f s₁ (mkF m 4 #[.val (.ref a1), .val (.int (4 : Int32))] [(.int ((4 : Int32) - (4 : Int32)))]) (fun t k => XS.isub X0.here hx rfl (hb hby dco4_4_3) rfl k) ?_
  rw [show ((4 : Int32) - (4 : Int32)) = (0 : Int32) from by decide]
  refine own_f s₁ (mkF m 6 #[.val (.ref a1), .val (.int (4 : Int32))] [(.int (31 : Int32)), (.int (0 : Int32))]) (fun t k => XT.bipushV X0.here hx rfl (31 : Int32) (hb hby dco4_4_4) (by decide) k) ?_
  refine own_f s₁ (mkF m 7 #[.val (.ref a1), .val (.int (4 : Int32))] [(.int (((0 : Int32).toUInt32 >>> ((31 : Int32) &&& 31).toUInt32).toInt32))]) (fun t k => XS.iushr X0.here hx rfl (hb hby dco4_4_6) rfl k) ?_
  rw [show (((0 : Int32).toUInt32 >>> ((31 : Int32) &&& 31).toUInt32).toInt32) = (0 : Int32) from by decide]
  refine own_f s₁ (mkF m 8 #[.val (.ref a1), .val (.int (4 : Int32))] [(.int ((0 : Int32).toInt8.toInt32))]) (fun t k => XS.i2b X0.here hx rfl (hb hby dco4_4_7) rfl k) ?_
  rw [show ((0 : Int32).toInt8.toInt32) = (0 : Int32) from by decide]
  obtain ⟨fs, hr, hrun, hended, hW, hsame⟩ := X0.leave (v := some (.int (0 : Int32))) (fun h => by rw [Bd.returns] at h; cases h)
  refine ⟨_, _, own_retB X0 hx (t := .byte) Bd.returns (by simp) (by decide) (hb hby dco4_4_8) hr, hrun, hended, _, _, rfl, ?_, ⟨_, rfl⟩, hW, hsame.mono (by decide) (by decide)⟩
  show Qco4_4 Z a1 k1 vv h0 n0 _ s₁.heap _
  rw [e0]
  exact ⟨rfl, N0, rfl⟩
theorem dci4_0_0 : decode jdk_52_method_21_code 0 = .ok (.iconst 0, 1) := by decide +kernel
theorem dci4_0_1 : decode jdk_52_method_21_code 1 = .ok (.istore 5, 2) := by decide +kernel
theorem dci4_0_3 : decode jdk_52_method_21_code 3 = .ok (.iload 5, 2) := by decide +kernel
theorem dci4_0_5 : decode jdk_52_method_21_code 5 = .ok (.iload 4, 2) := by decide +kernel
theorem dci4_0_7 : decode jdk_52_method_21_code 7 = .ok (.if_icmp .ge 37, 3) := by decide +kernel
theorem dci4_0_10 : decode jdk_52_method_21_code 10 = .ok (.aload_n 0, 1) := by decide +kernel
theorem dci4_0_11 : decode jdk_52_method_21_code 11 = .ok (.iload_n 1, 1) := by decide +kernel
theorem dci4_0_12 : decode jdk_52_method_21_code 12 = .ok (.caload, 1) := by decide +kernel
theorem dci4_0_13 : decode jdk_52_method_21_code 13 = .ok (.istore 6, 2) := by decide +kernel
theorem dci4_0_15 : decode jdk_52_method_21_code 15 = .ok (.iload 6, 2) := by decide +kernel
theorem dci4_0_17 : decode jdk_52_method_21_code 17 = .ok (.sipush 255, 3) := by decide +kernel
theorem dci4_0_20 : decode jdk_52_method_21_code 20 = .ok (.if_icmp .le 6, 3) := by decide +kernel
theorem dci4_0_23 : decode jdk_52_method_21_code 23 = .ok (.iload 5, 2) := by decide +kernel
theorem dci4_0_25 : decode jdk_52_method_21_code 25 = .ok (.ireturn, 1) := by decide +kernel
theorem pn_ci4_0 : plainName "java/lang/StringUTF16" = true := by first | (simp [plainName, overriddenIn]; done) | decide +kernel
theorem ef_ci4_0 (m : MethodId) (x0 : Addr) (x1 : Int32) (x2 : Addr) (x3 : Int32) (x4 : Int32) : entryFrame m #[(.ref x0), (.int x1), (.ref x2), (.int x3), (.int x4)] 7 = mkF m 0 #[.val (.ref x0), .val (.int x1), .val (.ref x2), .val (.int x3), .val (.int x4), .unset, .unset] [] := by first | (simp [entryFrame, mkF, argsToLocals, Value.category]; done) | rfl
def Qci4_0 (Z : State) (a1 : Addr) (a2 : Addr) (k1 : ClassId) (k2 : ClassId) (c0 : Int32) (c1 : Int32) (c2 : Int32) (c3 : Int32) (h0 : Heap) (n0 : Nat) (v : Option Value) (h : Heap) (L : List Loc) : Prop := v = some (.int (0 : Int32)) ∧ Fr n0 L ∧ Keep h0 h [a2] ∧ Arv Z h a2 k2 .byte (4 : Int32) [.int 0, .int 0, .int 0, .int 0] (.int 0)
set_option maxRecDepth 65536 in
set_option maxHeartbeats 40000000 in
theorem rmci4_0 (l : Launch) (Z : State) (a0 : Array Value) (hw : ∀ d ∈ tables_1, d.before a0 Z = true) (ws : List Jvm.Cond) (a1 : Addr) (a2 : Addr) (k1 : ClassId) (k2 : ClassId) (c0 : Int32) (c1 : Int32) (c2 : Int32) (c3 : Int32) (h0 : Heap) (n0 : Nat) (Z0 : n0 ≤ h0.size) (F0 : Arv Z h0 a1 k1 .char (4 : Int32) [.int c0, .int c1, .int c2, .int c3] (.int 0)) (F1 : Arv Z h0 a2 k2 .byte (4 : Int32) [.int 0, .int 0, .int 0, .int 0] (.int 0)) (ge_a2 : n0 ≤ a2) (hne : a1 ≠ a2) (hc_c0 : (255 : Int32) < c0) :
    MetFree l (⟨"java/lang/StringUTF16", "compress", "([CI[BII)I"⟩ : MethodName) (head1 (Jvm.Cond.code (⟨"java/lang/StringUTF16", "compress", "([CI[BII)I"⟩ : MethodName) jdk_52_method_21_code 7 (some .int) :: ws) ({ frames := 0, cells := 0, slots := 0, locals := 0 } : Room)) (fun a U => a = #[(.ref a1), (.int (0 : Int32)), (.ref a2), (.int (0 : Int32)), (.int (4 : Int32))] ∧ Z.Warmed39 U.vm ∧ U.heap = h0) (fun _ _ _ _ _ => True) (fun _ U o U' => ∃ v L, o = .returned v ∧ Qci4_0 Z a1 a2 k1 k2 c0 c1 c2 c3 h0 n0 v U'.heap L ∧ FrameEnd U o U' L ({ frames := 0, cells := 0, slots := 0, locals := 0 } : Room).cells ({ frames := 0, cells := 0, slots := 0, locals := 0 } : Room).slots) := by
  refine MetFree.of_bodySF (plainFor_of_name pn_ci4_0) hisR ?_
  intro p e s m args below meth c s₁ Bd hml0 hP hK
  obtain ⟨rfl, hZ, hh⟩ := hP
  have hx := Bd.exec
  have hby := Bd.bytes
  have hml : c.maxLocals = 7 := hml0
  have hown : s.vm.findClass "java/lang/StringUTF16" = some m.cls := findClass_of_methodNamed Bd.named
  have hnm := (name_of_methodNamed Bd.named Bd.method).1
  have X0 : Stand p l e ({ frames := 0, cells := 0, slots := 0, locals := 0 } : Room) s m #[(.ref a1), (.int (0 : Int32)), (.ref a2), (.int (0 : Int32)), (.int (4 : Int32))] below meth c s₁ [] 0 0 := Stand.of_body Bd
  have e0 : s₁.heap = h0 := by rw [← hh, Bd.state]; rfl
  have N0 := Fr.nil n0
  show own_R p.tables e below (own_P s (Qci4_0 Z a1 a2 k1 k2 c0 c1 c2 c3 h0 n0) ({ frames := 0, cells := 0, slots := 0, locals := 0 } : Room).cells ({ frames := 0, cells := 0, slots := 0, locals := 0 } : Room).slots) (s₁.setTop (entryFrame m #[(.ref a1), (.int (0 : Int32)), (.ref a2), (.int (0 : Int32)), (.int (4 : Int32))] 7))
  refine own_f s₁ (mkF m 0 #[.val (.ref a1), .val (.int (0 : Int32)), .val (.ref a2), .val (.int (0 : Int32)), .val (.int (4 : Int32)), .unset, .unset] []) (fun t k => castTop (ef_ci4_0 m a1 (0 : Int32) a2 (0 : Int32) (4 : Int32)) k) ?_
  refine own_f s₁ (mkF m 1 #[.val (.ref a1), .val (.int (0 : Int32)), .val (.ref a2), .val (.int (0 : Int32)), .val (.int (4 : Int32)), .unset, .unset] [(.int (0 : Int32))]) (fun t k => XT.iconstV X0.here hx rfl (0 : Int32) (hb hby dci4_0_0) (by decide) k) ?_
  refine own_f s₁ (mkF m 3 #[.val (.ref a1), .val (.int (0 : Int32)), .val (.ref a2), .val (.int (0 : Int32)), .val (.int (4 : Int32)), .val (.int (0 : Int32)), .unset] []) (fun t k => XS.istore X0.here hx rfl (hb hby dci4_0_1) rfl (l' := #[.val (.ref a1), .val (.int (0 : Int32)), .val (.ref a2), .val (.int (0 : Int32)), .val (.int (4 : Int32)), .val (.int (0 : Int32)), .unset]) rfl k) ?_
  refine own_f s₁ (mkF m 5 #[.val (.ref a1), .val (.int (0 : Int32)), .val (.ref a2), .val (.int (0 : Int32)), .val (.int (4 : Int32)), .val (.int (0 : Int32)), .unset] [(.int (0 : Int32))]) (fun t k => XS.iload X0.here hx rfl (hb hby dci4_0_3) rfl k) ?_
  refine own_f s₁ (mkF m 7 #[.val (.ref a1), .val (.int (0 : Int32)), .val (.ref a2), .val (.int (0 : Int32)), .val (.int (4 : Int32)), .val (.int (0 : Int32)), .unset] [(.int (4 : Int32)), (.int (0 : Int32))]) (fun t k => XS.iload X0.here hx rfl (hb hby dci4_0_5) rfl k) ?_
  refine own_f s₁ (mkF m 10 #[.val (.ref a1), .val (.int (0 : Int32)), .val (.ref a2), .val (.int (0 : Int32)), .val (.int (4 : Int32)), .val (.int (0 : Int32)), .unset] []) (fun t k => XS.icmpNo X0.here hx rfl (hb hby dci4_0_7) rfl (XT.ii_ge_f (by decide)) k) ?_
  refine own_f s₁ (mkF m 11 #[.val (.ref a1), .val (.int (0 : Int32)), .val (.ref a2), .val (.int (0 : Int32)), .val (.int (4 : Int32)), .val (.int (0 : Int32)), .unset] [(.ref a1)]) (fun t k => XS.aloadN X0.here hx rfl (hb hby dci4_0_10) rfl rfl k) ?_
  refine own_f s₁ (mkF m 12 #[.val (.ref a1), .val (.int (0 : Int32)), .val (.ref a2), .val (.int (0 : Int32)), .val (.int (4 : Int32)), .val (.int (0 : Int32)), .unset] [(.int (0 : Int32)), (.ref a1)]) (fun t k => XS.iloadN X0.here hx rfl (hb hby dci4_0_11) rfl k) ?_
  obtain ⟨cl1, Ar1, q11, Sz1, q31, Hs1, Gs1⟩ := id F0
  have hi1 := inb_of (j := (0 : Int32)) Sz1 ⟨by decide, by decide⟩
  refine own_f s₁ (mkF m 13 #[.val (.ref a1), .val (.int (0 : Int32)), .val (.ref a2), .val (.int (0 : Int32)), .val (.int (4 : Int32)), .val (.int (0 : Int32)), .unset] [(.int c0)]) (fun t k => X0.caload hx (j := (0 : Int32)) (v := (.int c0)) (by rw [e0]; exact Ar1.1) (State.isArrayOf_alike hZ.alike Ar1.2.1) Ar1.2.2 hi1 (Has.at Hs1 hi1 rfl) (g := (mkF m 12 #[.val (.ref a1), .val (.int (0 : Int32)), .val (.ref a2), .val (.int (0 : Int32)), .val (.int (4 : Int32)), .val (.int (0 : Int32)), .unset] [(.int (0 : Int32)), (.ref a1)])) rfl rfl (hb hby dci4_0_12) t k) ?_
  refine own_f s₁ (mkF m 15 #[.val (.ref a1), .val (.int (0 : Int32)), .val (.ref a2), .val (.int (0 : Int32)), .val (.int (4 : Int32)), .val (.int (0 : Int32)), .val (.int c0)] []) (fun t k => XS.istore X0.here hx rfl (hb hby dci4_0_13) rfl (l' := #[.val (.ref a1), .val (.int (0 : Int32)), .val (.ref a2), .val (.int (0 : Int32)), .val (.int (4 : Int32)), .val (.int (0 : Int32)), .val (.int c0)]) rfl k) ?_
  refine own_f s₁ (mkF m 17 #[.val (.ref a1), .val (.int (0 : Int32)), .val (.ref a2), .val (.int (0 : Int32)), .val (.int (4 : Int32)), .val (.int (0 : Int32)), .val (.int c0)] [(.int c0)]) (fun t k => XS.iload X0.here hx rfl (hb hby dci4_0_15) rfl k) ?_
  refine own_f s₁ (mkF m 20 #[.val (.ref a1), .val (.int (0 : Int32)), .val (.ref a2), .val (.int (0 : Int32)), .val (.int (4 : Int32)), .val (.int (0 : Int32)), .val (.int c0)] [(.int (255 : Int32)), (.int c0)]) (fun t k => XT.sipushV X0.here hx rfl (255 : Int32) (hb hby dci4_0_17) (by decide) k) ?_
  refine own_f s₁ (mkF m 23 #[.val (.ref a1), .val (.int (0 : Int32)), .val (.ref a2), .val (.int (0 : Int32)), .val (.int (4 : Int32)), .val (.int (0 : Int32)), .val (.int c0)] []) (fun t k => XS.icmpNo X0.here hx rfl (hb hby dci4_0_20) rfl (XT.ii_le_f hc_c0) k) ?_
  refine own_f s₁ (mkF m 25 #[.val (.ref a1), .val (.int (0 : Int32)), .val (.ref a2), .val (.int (0 : Int32)), .val (.int (4 : Int32)), .val (.int (0 : Int32)), .val (.int c0)] [(.int (0 : Int32))]) (fun t k => XS.iload X0.here hx rfl (hb hby dci4_0_23) rfl k) ?_
  obtain ⟨fs, hr, hrun, hended, hW, hsame⟩ := X0.leave (v := some (.int (0 : Int32))) (fun h => by rw [Bd.returns] at h; cases h)
  refine ⟨_, _, retI X0 hx Bd.returns (hb hby dci4_0_25) hr, hrun, hended, _, _, rfl, ?_, ⟨_, rfl⟩, hW, hsame.mono (by decide) (by decide)⟩
  show Qci4_0 Z a1 a2 k1 k2 c0 c1 c2 c3 h0 n0 _ s₁.heap _
  rw [e0]
  exact ⟨rfl, N0, (Keep.refl h0 [a2]), F1⟩
theorem dgc4_0_0 : decode jdk_52_method_5_code 0 = .ok (.getstatic 44, 3) := by decide +kernel
theorem dgc4_0_3 : decode jdk_52_method_5_code 3 = .ok (.ifCond .ne 25, 3) := by decide +kernel
theorem dgc4_0_28 : decode jdk_52_method_5_code 28 = .ok (.iload_n 1, 1) := by decide +kernel
theorem dgc4_0_29 : decode jdk_52_method_5_code 29 = .ok (.iconst 1, 1) := by decide +kernel
theorem dgc4_0_30 : decode jdk_52_method_5_code 30 = .ok (.ishl, 1) := by decide +kernel
theorem dgc4_0_31 : decode jdk_52_method_5_code 31 = .ok (.istore_n 1, 1) := by decide +kernel
theorem dgc4_0_32 : decode jdk_52_method_5_code 32 = .ok (.aload_n 0, 1) := by decide +kernel
theorem dgc4_0_33 : decode jdk_52_method_5_code 33 = .ok (.iload_n 1, 1) := by decide +kernel
theorem dgc4_0_34 : decode jdk_52_method_5_code 34 = .ok (.iinc 1 1, 3) := by decide +kernel
theorem dgc4_0_37 : decode jdk_52_method_5_code 37 = .ok (.baload, 1) := by decide +kernel
theorem dgc4_0_38 : decode jdk_52_method_5_code 38 = .ok (.sipush 255, 3) := by decide +kernel
theorem dgc4_0_41 : decode jdk_52_method_5_code 41 = .ok (.iand, 1) := by decide +kernel
theorem dgc4_0_42 : decode jdk_52_method_5_code 42 = .ok (.getstatic 59, 3) := by decide +kernel
theorem dgc4_0_45 : decode jdk_52_method_5_code 45 = .ok (.ishl, 1) := by decide +kernel
theorem dgc4_0_46 : decode jdk_52_method_5_code 46 = .ok (.aload_n 0, 1) := by decide +kernel
theorem dgc4_0_47 : decode jdk_52_method_5_code 47 = .ok (.iload_n 1, 1) := by decide +kernel
theorem dgc4_0_48 : decode jdk_52_method_5_code 48 = .ok (.baload, 1) := by decide +kernel
theorem dgc4_0_49 : decode jdk_52_method_5_code 49 = .ok (.sipush 255, 3) := by decide +kernel
theorem dgc4_0_52 : decode jdk_52_method_5_code 52 = .ok (.iand, 1) := by decide +kernel
theorem dgc4_0_53 : decode jdk_52_method_5_code 53 = .ok (.getstatic 63, 3) := by decide +kernel
theorem dgc4_0_56 : decode jdk_52_method_5_code 56 = .ok (.ishl, 1) := by decide +kernel
theorem dgc4_0_57 : decode jdk_52_method_5_code 57 = .ok (.ior, 1) := by decide +kernel
theorem dgc4_0_58 : decode jdk_52_method_5_code 58 = .ok (.i2c, 1) := by decide +kernel
theorem dgc4_0_59 : decode jdk_52_method_5_code 59 = .ok (.ireturn, 1) := by decide +kernel
theorem pn_gc4_0 : plainName "java/lang/StringUTF16" = true := by first | (simp [plainName, overriddenIn]; done) | decide +kernel
theorem ef_gc4_0 (m : MethodId) (x0 : Addr) (x1 : Int32) : entryFrame m #[(.ref x0), (.int x1)] 2 = mkF m 0 #[.val (.ref x0), .val (.int x1)] [] := by first | (simp [entryFrame, mkF, argsToLocals, Value.category]; done) | rfl
def Qgc4_0 (Z : State) (a1 : Addr) (k1 : ClassId) (c0 : Int32) (c1 : Int32) (c2 : Int32) (c3 : Int32) (h0 : Heap) (n0 : Nat) (v : Option Value) (h : Heap) (L : List Loc) : Prop := v = some (.int c0) ∧ Fr n0 L ∧ h = h0
set_option maxRecDepth 65536 in
set_option maxHeartbeats 40000000 in
theorem rmgc4_0 (l : Launch) (Z : State) (a0 : Array Value) (hw : ∀ d ∈ tables_1, d.before a0 Z = true) (ws : List Jvm.Cond) (a1 : Addr) (k1 : ClassId) (c0 : Int32) (c1 : Int32) (c2 : Int32) (c3 : Int32) (h0 : Heap) (n0 : Nat) (Z0 : n0 ≤ h0.size) (F0 : Old Z n0 h0) (F1 : Arv Z h0 a1 k1 .byte (8 : Int32) [.int ((c0 >>> ((0 : Int32) &&& 31)).toInt8.toInt32), .int ((c0 >>> ((8 : Int32) &&& 31)).toInt8.toInt32), .int ((c1 >>> ((0 : Int32) &&& 31)).toInt8.toInt32), .int ((c1 >>> ((8 : Int32) &&& 31)).toInt8.toInt32), .int ((c2 >>> ((0 : Int32) &&& 31)).toInt8.toInt32), .int ((c2 >>> ((8 : Int32) &&& 31)).toInt8.toInt32), .int ((c3 >>> ((0 : Int32) &&& 31)).toInt8.toInt32), .int ((c3 >>> ((8 : Int32) &&& 31)).toInt8.toInt32)] (.int 0)) (SH : Sta Z Z.heap "java/lang/StringUTF16" "HI_BYTE_SHIFT" "I" (.int (0 : Int32))) (SL : Sta Z Z.heap "java/lang/StringUTF16" "LO_BYTE_SHIFT" "I" (.int (8 : Int32))) (SA : Sta Z Z.heap "java/lang/StringUTF16" "$assertionsDisabled" "Z" (.int (1 : Int32))) (hw_c0 : own_W c0) :
    MetFree l (⟨"java/lang/StringUTF16", "getChar", "([BI)C"⟩ : MethodName) (head1 (Jvm.Cond.code (⟨"java/lang/StringUTF16", "getChar", "([BI)C"⟩ : MethodName) jdk_52_method_5_code 2 (some .char) :: ws) ({ frames := 0, cells := 0, slots := 0, locals := 0 } : Room)) (fun a U => a = #[(.ref a1), (.int (0 : Int32))] ∧ Z.Warmed39 U.vm ∧ U.heap = h0) (fun _ _ _ _ _ => True) (fun _ U o U' => ∃ v L, o = .returned v ∧ Qgc4_0 Z a1 k1 c0 c1 c2 c3 h0 n0 v U'.heap L ∧ FrameEnd U o U' L ({ frames := 0, cells := 0, slots := 0, locals := 0 } : Room).cells ({ frames := 0, cells := 0, slots := 0, locals := 0 } : Room).slots) := by
  refine MetFree.of_bodySF (plainFor_of_name pn_gc4_0) hisR ?_
  intro p e s m args below meth c s₁ Bd hml0 hP hK
  obtain ⟨rfl, hZ, hh⟩ := hP
  have hx := Bd.exec
  have hby := Bd.bytes
  have hml : c.maxLocals = 2 := hml0
  have hown : s.vm.findClass "java/lang/StringUTF16" = some m.cls := findClass_of_methodNamed Bd.named
  have hnm := (name_of_methodNamed Bd.named Bd.method).1
  have X0 : Stand p l e ({ frames := 0, cells := 0, slots := 0, locals := 0 } : Room) s m #[(.ref a1), (.int (0 : Int32))] below meth c s₁ [] 0 0 := Stand.of_body Bd
  have e0 : s₁.heap = h0 := by rw [← hh, Bd.state]; rfl
  have N0 := Fr.nil n0
  show own_R p.tables e below (own_P s (Qgc4_0 Z a1 k1 c0 c1 c2 c3 h0 n0) ({ frames := 0, cells := 0, slots := 0, locals := 0 } : Room).cells ({ frames := 0, cells := 0, slots := 0, locals := 0 } : Room).slots) (s₁.setTop (entryFrame m #[(.ref a1), (.int (0 : Int32))] 2))
  refine own_f s₁ (mkF m 0 #[.val (.ref a1), .val (.int (0 : Int32))] []) (fun t k => castTop (ef_gc4_0 m a1 (0 : Int32)) k) ?_
  have S1 : Sta Z h0 "java/lang/StringUTF16" "$assertionsDisabled" "Z" (.int (1 : Int32)) := SA.ext F0.2
  obtain ⟨T1, X1, e1, st1⟩ := getS X0 hx hZ (host := "") hown (own_w hw 154 rfl) Via.refl e0 S1 (g := (mkF m 0 #[.val (.ref a1), .val (.int (0 : Int32))] [])) rfl (hb hby dgc4_0_0)
  refine own_f T1 (mkF m 3 #[.val (.ref a1), .val (.int (0 : Int32))] [(.int (1 : Int32))]) st1 ?_
  refine own_f T1 (mkF m 28 #[.val (.ref a1), .val (.int (0 : Int32))] []) (fun t k => XS.ifYes X1.here hx rfl (pc0 := 3) (pc' := 28) rfl (hb hby dgc4_0_3) rfl (XT.i0_ne_t (by decide)) (by decide) (by decide) k) ?_
  refine own_f T1 (mkF m 29 #[.val (.ref a1), .val (.int (0 : Int32))] [(.int (0 : Int32))]) (fun t k => XS.iloadN X1.here hx rfl (hb hby dgc4_0_28) rfl k) ?_
  refine own_f T1 (mkF m 30 #[.val (.ref a1), .val (.int (0 : Int32))] [(.int (1 : Int32)), (.int (0 : Int32))]) (fun t k => XT.iconstV X1.here hx rfl (1 : Int32) (hb hby dgc4_0_29) (by decide) k) ?_
  refine own_f T1 (mkF m 31 #[.val (.ref a1), .val (.int (0 : Int32))] [(.int ((0 : Int32) <<< ((1 : Int32) &&& 31)))]) (fun t k => XS.ishl X1.here hx rfl (hb hby dgc4_0_30) rfl k) ?_
  rw [show ((0 : Int32) <<< ((1 : Int32) &&& 31)) = (0 : Int32) from by decide]
  refine own_f T1 (mkF m 32 #[.val (.ref a1), .val (.int (0 : Int32))] []) (fun t k => XS.istoreN X1.here hx rfl (hb hby dgc4_0_31) rfl (l' := #[.val (.ref a1), .val (.int (0 : Int32))]) rfl k) ?_
  refine own_f T1 (mkF m 33 #[.val (.ref a1), .val (.int (0 : Int32))] [(.ref a1)]) (fun t k => XS.aloadN X1.here hx rfl (hb hby dgc4_0_32) rfl rfl k) ?_
  refine own_f T1 (mkF m 34 #[.val (.ref a1), .val (.int (0 : Int32))] [(.int (0 : Int32)), (.ref a1)]) (fun t k => XS.iloadN X1.here hx rfl (hb hby dgc4_0_33) rfl k) ?_
  refine own_f T1 (mkF m 37 #[.val (.ref a1), .val (.int ((0 : Int32) + (1 : Int32)))] [(.int (0 : Int32)), (.ref a1)]) (fun t k => XT.iincV X1.here hx rfl (l' := #[.val (.ref a1), .val (.int ((0 : Int32) + (1 : Int32)))]) (1 : Int32) (hb hby dgc4_0_34) (by decide) rfl rfl k) ?_
  rw [show ((0 : Int32) + (1 : Int32)) = (1 : Int32) from by decide]
  obtain ⟨cl2, Ar2, q12, Sz2, q32, Hs2, Gs2⟩ := id F1
  have hi2 := inb_of (j := (0 : Int32)) Sz2 ⟨by decide, by decide⟩
  refine own_f T1 (mkF m 38 #[.val (.ref a1), .val (.int (1 : Int32))] [(.int ((c0 >>> ((0 : Int32) &&& 31)).toInt8.toInt32))]) (fun t k => X1.baloadBytes hx (j := (0 : Int32)) (v := (.int ((c0 >>> ((0 : Int32) &&& 31)).toInt8.toInt32))) (by rw [e1]; exact Ar2.1) (State.isArrayOf_alike hZ.alike Ar2.2.1) Ar2.2.2 hi2 (Has.at Hs2 hi2 rfl) (g := (mkF m 37 #[.val (.ref a1), .val (.int (1 : Int32))] [(.int (0 : Int32)), (.ref a1)])) rfl rfl (hb hby dgc4_0_37) t k) ?_
  refine own_f T1 (mkF m 41 #[.val (.ref a1), .val (.int (1 : Int32))] [(.int (255 : Int32)), (.int ((c0 >>> ((0 : Int32) &&& 31)).toInt8.toInt32))]) (fun t k => XT.sipushV X1.here hx rfl (255 : Int32) (hb hby dgc4_0_38) (by decide) k) ?_
  refine own_f T1 (mkF m 42 #[.val (.ref a1), .val (.int (1 : Int32))] [(.int (((c0 >>> ((0 : Int32) &&& 31)).toInt8.toInt32) &&& (255 : Int32)))]) (fun t k => XS.iand X1.here hx rfl (hb hby dgc4_0_41) rfl k) ?_
  have S3 : Sta Z h0 "java/lang/StringUTF16" "HI_BYTE_SHIFT" "I" (.int (0 : Int32)) := SH.ext F0.2
  obtain ⟨T3, X3, e3, st3⟩ := getS X1 hx hZ (host := "") hown (own_w hw 155 rfl) Via.refl e1 S3 (g := (mkF m 42 #[.val (.ref a1), .val (.int (1 : Int32))] [(.int (((c0 >>> ((0 : Int32) &&& 31)).toInt8.toInt32) &&& (255 : Int32)))])) rfl (hb hby dgc4_0_42)
  refine own_f T3 (mkF m 45 #[.val (.ref a1), .val (.int (1 : Int32))] [(.int (0 : Int32)), (.int (((c0 >>> ((0 : Int32) &&& 31)).toInt8.toInt32) &&& (255 : Int32)))]) st3 ?_
  refine own_f T3 (mkF m 46 #[.val (.ref a1), .val (.int (1 : Int32))] [(.int ((((c0 >>> ((0 : Int32) &&& 31)).toInt8.toInt32) &&& (255 : Int32)) <<< ((0 : Int32) &&& 31)))]) (fun t k => XS.ishl X3.here hx rfl (hb hby dgc4_0_45) rfl k) ?_
  refine own_f T3 (mkF m 47 #[.val (.ref a1), .val (.int (1 : Int32))] [(.ref a1), (.int ((((c0 >>> ((0 : Int32) &&& 31)).toInt8.toInt32) &&& (255 : Int32)) <<< ((0 : Int32) &&& 31)))]) (fun t k => XS.aloadN X3.here hx rfl (hb hby dgc4_0_46) rfl rfl k) ?_
  refine own_f T3 (mkF m 48 #[.val (.ref a1), .val (.int (1 : Int32))] [(.int (1 : Int32)), (.ref a1), (.int ((((c0 >>> ((0 : Int32) &&& 31)).toInt8.toInt32) &&& (255 : Int32)) <<< ((0 : Int32) &&& 31)))]) (fun t k => XS.iloadN X3.here hx rfl (hb hby dgc4_0_47) rfl k) ?_
  obtain ⟨cl4, Ar4, q14, Sz4, q34, Hs4, Gs4⟩ := id F1
  have hi4 := inb_of (j := (1 : Int32)) Sz4 ⟨by decide, by decide⟩
  refine own_f T3 (mkF m 49 #[.val (.ref a1), .val (.int (1 : Int32))] [(.int ((c0 >>> ((8 : Int32) &&& 31)).toInt8.toInt32)), (.int ((((c0 >>> ((0 : Int32) &&& 31)).toInt8.toInt32) &&& (255 : Int32)) <<< ((0 : Int32) &&& 31)))]) (fun t k => X3.baloadBytes hx (j := (1 : Int32)) (v := (.int ((c0 >>> ((8 : Int32) &&& 31)).toInt8.toInt32))) (by rw [e3]; exact Ar4.1) (State.isArrayOf_alike hZ.alike Ar4.2.1) Ar4.2.2 hi4 (Has.at Hs4 hi4 rfl) (g := (mkF m 48 #[.val (.ref a1), .val (.int (1 : Int32))] [(.int (1 : Int32)), (.ref a1), (.int ((((c0 >>> ((0 : Int32) &&& 31)).toInt8.toInt32) &&& (255 : Int32)) <<< ((0 : Int32) &&& 31)))])) rfl rfl (hb hby dgc4_0_48) t k) ?_
  refine own_f T3 (mkF m 52 #[.val (.ref a1), .val (.int (1 : Int32))] [(.int (255 : Int32)), (.int ((c0 >>> ((8 : Int32) &&& 31)).toInt8.toInt32)), (.int ((((c0 >>> ((0 : Int32) &&& 31)).toInt8.toInt32) &&& (255 : Int32)) <<< ((0 : Int32) &&& 31)))]) (fun t k => XT.sipushV X3.here hx rfl (255 : Int32) (hb hby dgc4_0_49) (by decide) k) ?_
  refine own_f T3 (mkF m 53 #[.val (.ref a1), .val (.int (1 : Int32))] [(.int (((c0 >>> ((8 : Int32) &&& 31)).toInt8.toInt32) &&& (255 : Int32))), (.int ((((c0 >>> ((0 : Int32) &&& 31)).toInt8.toInt32) &&& (255 : Int32)) <<< ((0 : Int32) &&& 31)))]) (fun t k => XS.iand X3.here hx rfl (hb hby dgc4_0_52) rfl k) ?_
  have S5 : Sta Z h0 "java/lang/StringUTF16" "LO_BYTE_SHIFT" "I" (.int (8 : Int32)) := SL.ext F0.2
  obtain ⟨T5, X5, e5, st5⟩ := getS X3 hx hZ (host := "") hown (own_w hw 156 rfl) Via.refl e3 S5 (g := (mkF m 53 #[.val (.ref a1), .val (.int (1 : Int32))] [(.int (((c0 >>> ((8 : Int32) &&& 31)).toInt8.toInt32) &&& (255 : Int32))), (.int ((((c0 >>> ((0 : Int32) &&& 31)).toInt8.toInt32) &&& (255 : Int32)) <<< ((0 : Int32) &&& 31)))])) rfl (hb hby dgc4_0_53)
  refine own_f T5 (mkF m 56 #[.val (.ref a1), .val (.int (1 : Int32))] [(.int (8 : Int32)), (.int (((c0 >>> ((8 : Int32) &&& 31)).toInt8.toInt32) &&& (255 : Int32))), (.int ((((c0 >>> ((0 : Int32) &&& 31)).toInt8.toInt32) &&& (255 : Int32)) <<< ((0 : Int32) &&& 31)))]) st5 ?_
  refine own_f T5 (mkF m 57 #[.val (.ref a1), .val (.int (1 : Int32))] [(.int ((((c0 >>> ((8 : Int32) &&& 31)).toInt8.toInt32) &&& (255 : Int32)) <<< ((8 : Int32) &&& 31))), (.int ((((c0 >>> ((0 : Int32) &&& 31)).toInt8.toInt32) &&& (255 : Int32)) <<< ((0 : Int32) &&& 31)))]) (fun t k => XS.ishl X5.here hx rfl (hb hby dgc4_0_56) rfl k) ?_
  refine own_f T5 (mkF m 58 #[.val (.ref a1), .val (.int (1 : Int32))] [(.int (((((c0 >>> ((0 : Int32) &&& 31)).toInt8.toInt32) &&& (255 : Int32)) <<< ((0 : Int32) &&& 31)) ||| ((((c0 >>> ((8 : Int32) &&& 31)).toInt8.toInt32) &&& (255 : Int32)) <<< ((8 : Int32) &&& 31))))]) (fun t k => XS.ior X5.here hx rfl (hb hby dgc4_0_57) rfl k) ?_
  refine own_f T5 (mkF m 59 #[.val (.ref a1), .val (.int (1 : Int32))] [(.int ((((((c0 >>> ((0 : Int32) &&& 31)).toInt8.toInt32) &&& (255 : Int32)) <<< ((0 : Int32) &&& 31)) ||| ((((c0 >>> ((8 : Int32) &&& 31)).toInt8.toInt32) &&& (255 : Int32)) <<< ((8 : Int32) &&& 31))).toUInt32.toUInt16.toUInt32.toInt32))]) (fun t k => XS.i2c X5.here hx rfl (hb hby dgc4_0_58) rfl k) ?_
  obtain ⟨fs, hr, hrun, hended, hW, hsame⟩ := X5.leave (v := some (.int ((((((c0 >>> ((0 : Int32) &&& 31)).toInt8.toInt32) &&& (255 : Int32)) <<< ((0 : Int32) &&& 31)) ||| ((((c0 >>> ((8 : Int32) &&& 31)).toInt8.toInt32) &&& (255 : Int32)) <<< ((8 : Int32) &&& 31))).toUInt32.toUInt16.toUInt32.toInt32))) (fun h => by rw [Bd.returns] at h; cases h)
  refine ⟨_, _, own_retB X5 hx (t := .char) Bd.returns (by simp) (own_narC _) (hb hby dgc4_0_59) hr, hrun, hended, _, _, rfl, ?_, ⟨_, rfl⟩, hW, hsame.mono (by decide) (by decide)⟩
  show Qgc4_0 Z a1 k1 c0 c1 c2 c3 h0 n0 _ T5.heap _
  rw [e5]
  exact ⟨by rw [own_gc hw_c0], N0, rfl⟩
theorem dcb4_0_0 : decode jdk_52_method_16_code 0 = .ok (.iload_n 2, 1) := by decide +kernel
theorem dcb4_0_1 : decode jdk_52_method_16_code 1 = .ok (.newarray .byte, 2) := by decide +kernel
theorem dcb4_0_3 : decode jdk_52_method_16_code 3 = .ok (.astore_n 3, 1) := by decide +kernel
theorem dcb4_0_4 : decode jdk_52_method_16_code 4 = .ok (.aload_n 0, 1) := by decide +kernel
theorem dcb4_0_5 : decode jdk_52_method_16_code 5 = .ok (.iload_n 1, 1) := by decide +kernel
theorem dcb4_0_6 : decode jdk_52_method_16_code 6 = .ok (.aload_n 3, 1) := by decide +kernel
theorem dcb4_0_7 : decode jdk_52_method_16_code 7 = .ok (.iconst 0, 1) := by decide +kernel
theorem dcb4_0_8 : decode jdk_52_method_16_code 8 = .ok (.iload_n 2, 1) := by decide +kernel
theorem dcb4_0_9 : decode jdk_52_method_16_code 9 = .ok (.invokestatic 115, 3) := by decide +kernel
theorem dcb4_0_12 : decode jdk_52_method_16_code 12 = .ok (.istore 4, 2) := by decide +kernel
theorem dcb4_0_14 : decode jdk_52_method_16_code 14 = .ok (.iload 4, 2) := by decide +kernel
theorem dcb4_0_16 : decode jdk_52_method_16_code 16 = .ok (.iload_n 2, 1) := by decide +kernel
theorem dcb4_0_17 : decode jdk_52_method_16_code 17 = .ok (.if_icmp .eq 40, 3) := by decide +kernel
theorem dcb4_0_20 : decode jdk_52_method_16_code 20 = .ok (.aload_n 0, 1) := by decide +kernel
theorem dcb4_0_21 : decode jdk_52_method_16_code 21 = .ok (.iload_n 1, 1) := by decide +kernel
theorem dcb4_0_22 : decode jdk_52_method_16_code 22 = .ok (.iload_n 2, 1) := by decide +kernel
theorem dcb4_0_23 : decode jdk_52_method_16_code 23 = .ok (.invokestatic 119, 3) := by decide +kernel
theorem dcb4_0_26 : decode jdk_52_method_16_code 26 = .ok (.astore 5, 2) := by decide +kernel
theorem dcb4_0_28 : decode jdk_52_method_16_code 28 = .ok (.aload 5, 2) := by decide +kernel
theorem dcb4_0_30 : decode jdk_52_method_16_code 30 = .ok (.iload 4, 2) := by decide +kernel
theorem dcb4_0_32 : decode jdk_52_method_16_code 32 = .ok (.invokestatic 71, 3) := by decide +kernel
theorem dcb4_0_35 : decode jdk_52_method_16_code 35 = .ok (.sipush 255, 3) := by decide +kernel
theorem dcb4_0_38 : decode jdk_52_method_16_code 38 = .ok (.if_icmp .gt 16, 3) := by decide +kernel
theorem dcb4_0_54 : decode jdk_52_method_16_code 54 = .ok (.aload 5, 2) := by decide +kernel
theorem dcb4_0_56 : decode jdk_52_method_16_code 56 = .ok (.areturn, 1) := by decide +kernel
theorem pn_cb4_0 : plainName "java/lang/StringUTF16" = true := by first | (simp [plainName, overriddenIn]; done) | decide +kernel
theorem ef_cb4_0 (m : MethodId) (x0 : Addr) (x1 : Int32) (x2 : Int32) : entryFrame m #[(.ref x0), (.int x1), (.int x2)] 6 = mkF m 0 #[.val (.ref x0), .val (.int x1), .val (.int x2), .unset, .unset, .unset] [] := by first | (simp [entryFrame, mkF, argsToLocals, Value.category]; done) | rfl
def Qcb4_0 (Z : State) (a1 : Addr) (k1 : ClassId) (c0 : Int32) (c1 : Int32) (c2 : Int32) (c3 : Int32) (h0 : Heap) (n0 : Nat) (v : Option Value) (h : Heap) (L : List Loc) : Prop := ∃ (b : Addr) (kb : ClassId), v = some (.ref b) ∧ Fr n0 L ∧ Keep h0 h [] ∧ Arv Z h b kb .byte (8 : Int32) [.int ((c0 >>> ((0 : Int32) &&& 31)).toInt8.toInt32), .int ((c0 >>> ((8 : Int32) &&& 31)).toInt8.toInt32), .int ((c1 >>> ((0 : Int32) &&& 31)).toInt8.toInt32), .int ((c1 >>> ((8 : Int32) &&& 31)).toInt8.toInt32), .int ((c2 >>> ((0 : Int32) &&& 31)).toInt8.toInt32), .int ((c2 >>> ((8 : Int32) &&& 31)).toInt8.toInt32), .int ((c3 >>> ((0 : Int32) &&& 31)).toInt8.toInt32), .int ((c3 >>> ((8 : Int32) &&& 31)).toInt8.toInt32)] (.int 0) ∧ h0.size ≤ b
set_option maxRecDepth 65536 in
set_option maxHeartbeats 40000000 in
theorem rmcb4_0 (l : Launch) (Z : State) (a0 : Array Value) (hw : ∀ d ∈ tables_1, d.before a0 Z = true) (ws : List Jvm.Cond) (a1 : Addr) (k1 : ClassId) (c0 : Int32) (c1 : Int32) (c2 : Int32) (c3 : Int32) (h0 : Heap) (n0 : Nat) (Z0 : n0 ≤ h0.size) (F0 : Old Z n0 h0) (F1 : Arv Z h0 a1 k1 .char (4 : Int32) [.int c0, .int c1, .int c2, .int c3] (.int 0)) (hc_c0 : (255 : Int32) < c0) (SH : Sta Z Z.heap "java/lang/StringUTF16" "HI_BYTE_SHIFT" "I" (.int (0 : Int32))) (SL : Sta Z Z.heap "java/lang/StringUTF16" "LO_BYTE_SHIFT" "I" (.int (8 : Int32))) (SA : Sta Z Z.heap "java/lang/StringUTF16" "$assertionsDisabled" "Z" (.int (1 : Int32))) (hw_c0 : own_W c0) :
    MetFree l (⟨"java/lang/StringUTF16", "compress", "([CII)[B"⟩ : MethodName) (head1 (Jvm.Cond.code (⟨"java/lang/StringUTF16", "compress", "([CII)[B"⟩ : MethodName) jdk_52_method_16_code 6 (some (.array .byte)) :: ws) ({ frames := 3, cells := 2, slots := 12, locals := 40 } : Room)) (fun a U => a = #[(.ref a1), (.int (0 : Int32)), (.int (4 : Int32))] ∧ Z.Warmed39 U.vm ∧ U.heap = h0) (fun _ _ _ _ _ => True) (fun _ U o U' => ∃ v L, o = .returned v ∧ Qcb4_0 Z a1 k1 c0 c1 c2 c3 h0 n0 v U'.heap L ∧ FrameEnd U o U' L ({ frames := 3, cells := 2, slots := 12, locals := 40 } : Room).cells ({ frames := 3, cells := 2, slots := 12, locals := 40 } : Room).slots) := by
  refine MetFree.of_bodySF (plainFor_of_name pn_cb4_0) hisR ?_
  intro p e s m args below meth c s₁ Bd hml0 hP hK
  obtain ⟨rfl, hZ, hh⟩ := hP
  have hx := Bd.exec
  have hby := Bd.bytes
  have hml : c.maxLocals = 6 := hml0
  have hown : s.vm.findClass "java/lang/StringUTF16" = some m.cls := findClass_of_methodNamed Bd.named
  have hnm := (name_of_methodNamed Bd.named Bd.method).1
  have X0 : Stand p l e ({ frames := 3, cells := 2, slots := 12, locals := 40 } : Room) s m #[(.ref a1), (.int (0 : Int32)), (.int (4 : Int32))] below meth c s₁ [] 0 0 := Stand.of_body Bd
  have e0 : s₁.heap = h0 := by rw [← hh, Bd.state]; rfl
  have N0 := Fr.nil n0
  show own_R p.tables e below (own_P s (Qcb4_0 Z a1 k1 c0 c1 c2 c3 h0 n0) ({ frames := 3, cells := 2, slots := 12, locals := 40 } : Room).cells ({ frames := 3, cells := 2, slots := 12, locals := 40 } : Room).slots) (s₁.setTop (entryFrame m #[(.ref a1), (.int (0 : Int32)), (.int (4 : Int32))] 6))
  refine own_f s₁ (mkF m 0 #[.val (.ref a1), .val (.int (0 : Int32)), .val (.int (4 : Int32)), .unset, .unset, .unset] []) (fun t k => castTop (ef_cb4_0 m a1 (0 : Int32) (4 : Int32)) k) ?_
  refine own_f s₁ (mkF m 1 #[.val (.ref a1), .val (.int (0 : Int32)), .val (.int (4 : Int32)), .unset, .unset, .unset] [(.int (4 : Int32))]) (fun t k => XS.iloadN X0.here hx rfl (hb hby dcb4_0_0) rfl k) ?_
  obtain ⟨T1, h1, kA1, X1, e1, E1, A1, st1⟩ := newP X0 hx hZ (own_w hw 10 rfl) e0 (g := (mkF m 1 #[.val (.ref a1), .val (.int (0 : Int32)), .val (.int (4 : Int32)), .unset, .unset, .unset] [(.int (4 : Int32))])) rfl (hb hby dcb4_0_1) rfl (by decide) (cap := 4) (by decide) (by decide) (by decide) (by decide)
  obtain ⟨b1, g1⟩ : ∃ z, z = h0.size := ⟨_, rfl⟩
  rw [← g1] at A1 st1
  have ne1_a1 : a1 ≠ b1 := by rw [g1]; exact Nat.ne_of_lt F1.lt
  have ge1 : n0 ≤ b1 := by rw [g1]; exact Z0
  have gf1 : h0.size ≤ b1 := by rw [g1]; exact (Keep.refl h0 []).1
  have Zs1 : n0 ≤ h1.size := Nat.le_trans Z0 E1.1
  have F_2 := F0.ext E1
  have F_3 := F1.ext E1
  have K1 : Keep h0 h1 [] := (Keep.refl h0 []).ext E1
  have F_4 : Arv Z h1 b1 kA1 .byte (4 : Int32) [.int 0, .int 0, .int 0, .int 0] (.int 0) := own_arvnew 4 A1 (by decide)
  refine own_f T1 (mkF m 3 #[.val (.ref a1), .val (.int (0 : Int32)), .val (.int (4 : Int32)), .unset, .unset, .unset] [(.ref b1)]) st1 ?_
  refine own_f T1 (mkF m 4 #[.val (.ref a1), .val (.int (0 : Int32)), .val (.int (4 : Int32)), .val (.ref b1), .unset, .unset] []) (fun t k => XS.astoreN X1.here hx rfl (hb hby dcb4_0_3) rfl rfl (l' := #[.val (.ref a1), .val (.int (0 : Int32)), .val (.int (4 : Int32)), .val (.ref b1), .unset, .unset]) rfl k) ?_
  refine own_f T1 (mkF m 5 #[.val (.ref a1), .val (.int (0 : Int32)), .val (.int (4 : Int32)), .val (.ref b1), .unset, .unset] [(.ref a1)]) (fun t k => XS.aloadN X1.here hx rfl (hb hby dcb4_0_4) rfl rfl k) ?_
  refine own_f T1 (mkF m 6 #[.val (.ref a1), .val (.int (0 : Int32)), .val (.int (4 : Int32)), .val (.ref b1), .unset, .unset] [(.int (0 : Int32)), (.ref a1)]) (fun t k => XS.iloadN X1.here hx rfl (hb hby dcb4_0_5) rfl k) ?_
  refine own_f T1 (mkF m 7 #[.val (.ref a1), .val (.int (0 : Int32)), .val (.int (4 : Int32)), .val (.ref b1), .unset, .unset] [(.ref b1), (.int (0 : Int32)), (.ref a1)]) (fun t k => XS.aloadN X1.here hx rfl (hb hby dcb4_0_6) rfl rfl k) ?_
  refine own_f T1 (mkF m 8 #[.val (.ref a1), .val (.int (0 : Int32)), .val (.int (4 : Int32)), .val (.ref b1), .unset, .unset] [(.int (0 : Int32)), (.ref b1), (.int (0 : Int32)), (.ref a1)]) (fun t k => XT.iconstV X1.here hx rfl (0 : Int32) (hb hby dcb4_0_7) (by decide) k) ?_
  refine own_f T1 (mkF m 9 #[.val (.ref a1), .val (.int (0 : Int32)), .val (.int (4 : Int32)), .val (.ref b1), .unset, .unset] [(.int (4 : Int32)), (.int (0 : Int32)), (.ref b1), (.int (0 : Int32)), (.ref a1)]) (fun t k => XS.iloadN X1.here hx rfl (hb hby dcb4_0_8) rfl k) ?_
  obtain ⟨_, _, ⟨T5, Lq5, kq_5, nq_5⟩, -, X5, ⟨Lc5, hQ5, lq5, yq5, zq5⟩, st5⟩ := Jvm.LawKit.callS X1 hx (y := (⟨"java/lang/StringUTF16", "compress", "([CI[BII)I"⟩ : MethodName)) hown (mvT hZ (own_w hw 31 rfl)) (mvT hZ (own_w hw 32 rfl)) (mvT hZ (own_w hw 29 rfl)) (mvT hZ (own_w hw 33 rfl)) (by decide) (backOf (W := 0) (rmci4_0 l Z a0 hw [] a1 b1 _ _ _ _ _ _ h1 n0 Zs1 F_3 F_4 ge1 ne1_a1 hc_c0) hZ (own_w hw 33 rfl) (own_w hw 29 rfl) (by decide) (by decide)) (g := (mkF m 9 #[.val (.ref a1), .val (.int (0 : Int32)), .val (.int (4 : Int32)), .val (.ref b1), .unset, .unset] [(.int (4 : Int32)), (.int (0 : Int32)), (.ref b1), (.int (0 : Int32)), (.ref a1)])) rfl (by rw [hml]; rfl) (argsL := [(.ref a1), (.int (0 : Int32)), (.ref b1), (.int (0 : Int32)), (.int (4 : Int32))]) (rest := []) (lenOf pd__CI_BII_I rfl) rfl (by show 2 * 0 + _ ≤ _; exact Nat.le_of_eq rfl) (hb hby dcb4_0_9) (fun _ _ => ⟨rfl, e1, (by decide : 0 + 1 + 0 ≤ _), (by decide : 0 + 4 + 0 ≤ _)⟩)
  dsimp only [Pt.U, Pt.locs, Pt.cells, Pt.slots] at X5 lq5 yq5 zq5 st5 hQ5
  subst lq5 yq5 zq5
  obtain ⟨h5, e5⟩ : ∃ z, T5.heap = z := ⟨_, rfl⟩
  rw [e5] at hQ5
  unfold Qci4_0 at hQ5
  obtain ⟨rfl, Nq5, qh5, G5_0⟩ := hQ5
  have N5 := Fr.app N0 Nq5
  have Zs5 : n0 ≤ h5.size := Nat.le_trans Zs1 qh5.1
  have F_6 := F_2.keep qh5 (allS ge1 all0)
  have F_7 := F_3.keep qh5 (ninS ne1_a1 nin0)
  have K5 : Keep h0 h5 [] := K1.trans qh5 (allS (Or.inr gf1) all0)
  refine own_f T5 (mkF m 12 #[.val (.ref a1), .val (.int (0 : Int32)), .val (.int (4 : Int32)), .val (.ref b1), .unset, .unset] [(.int (0 : Int32))]) st5 ?_
  refine own_f T5 (mkF m 14 #[.val (.ref a1), .val (.int (0 : Int32)), .val (.int (4 : Int32)), .val (.ref b1), .val (.int (0 : Int32)), .unset] []) (fun t k => XS.istore X5.here hx rfl (hb hby dcb4_0_12) rfl (l' := #[.val (.ref a1), .val (.int (0 : Int32)), .val (.int (4 : Int32)), .val (.ref b1), .val (.int (0 : Int32)), .unset]) rfl k) ?_
  refine own_f T5 (mkF m 16 #[.val (.ref a1), .val (.int (0 : Int32)), .val (.int (4 : Int32)), .val (.ref b1), .val (.int (0 : Int32)), .unset] [(.int (0 : Int32))]) (fun t k => XS.iload X5.here hx rfl (hb hby dcb4_0_14) rfl k) ?_
  refine own_f T5 (mkF m 17 #[.val (.ref a1), .val (.int (0 : Int32)), .val (.int (4 : Int32)), .val (.ref b1), .val (.int (0 : Int32)), .unset] [(.int (4 : Int32)), (.int (0 : Int32))]) (fun t k => XS.iloadN X5.here hx rfl (hb hby dcb4_0_16) rfl k) ?_
  refine own_f T5 (mkF m 20 #[.val (.ref a1), .val (.int (0 : Int32)), .val (.int (4 : Int32)), .val (.ref b1), .val (.int (0 : Int32)), .unset] []) (fun t k => XS.icmpNo X5.here hx rfl (hb hby dcb4_0_17) rfl (XT.ii_eq_f (by decide)) k) ?_
  refine own_f T5 (mkF m 21 #[.val (.ref a1), .val (.int (0 : Int32)), .val (.int (4 : Int32)), .val (.ref b1), .val (.int (0 : Int32)), .unset] [(.ref a1)]) (fun t k => XS.aloadN X5.here hx rfl (hb hby dcb4_0_20) rfl rfl k) ?_
  refine own_f T5 (mkF m 22 #[.val (.ref a1), .val (.int (0 : Int32)), .val (.int (4 : Int32)), .val (.ref b1), .val (.int (0 : Int32)), .unset] [(.int (0 : Int32)), (.ref a1)]) (fun t k => XS.iloadN X5.here hx rfl (hb hby dcb4_0_21) rfl k) ?_
  refine own_f T5 (mkF m 23 #[.val (.ref a1), .val (.int (0 : Int32)), .val (.int (4 : Int32)), .val (.ref b1), .val (.int (0 : Int32)), .unset] [(.int (4 : Int32)), (.int (0 : Int32)), (.ref a1)]) (fun t k => XS.iloadN X5.here hx rfl (hb hby dcb4_0_22) rfl k) ?_
  obtain ⟨_, _, ⟨T8, Lq8, kq_8, nq_8⟩, -, X8, ⟨Lc8, hQ8, lq8, yq8, zq8⟩, st8⟩ := Jvm.LawKit.callS X5 hx (y := (⟨"java/lang/StringUTF16", "toBytes", "([CII)[B"⟩ : MethodName)) hown (mvT hZ (own_w hw 141 rfl)) (mvT hZ (own_w hw 142 rfl)) (mvT hZ (own_w hw 29 rfl)) (mvT hZ (own_w hw 143 rfl)) (by decide) (backOf (W := 0) (rmtb4 l Z a0 hw [] a1 _ _ _ _ _ h5 n0 Zs5 F_6 F_7 SH SL SA) hZ (own_w hw 143 rfl) (own_w hw 29 rfl) (by decide) (by decide)) (g := (mkF m 23 #[.val (.ref a1), .val (.int (0 : Int32)), .val (.int (4 : Int32)), .val (.ref b1), .val (.int (0 : Int32)), .unset] [(.int (4 : Int32)), (.int (0 : Int32)), (.ref a1)])) rfl (by rw [hml]; rfl) (argsL := [(.ref a1), (.int (0 : Int32)), (.int (4 : Int32))]) (rest := []) (lenOf pd__CII_B rfl) rfl (by show 2 * 0 + _ ≤ _; exact Nat.le_of_eq rfl) (hb hby dcb4_0_23) (fun _ _ => ⟨rfl, e5, (by decide : 0 + 1 + 0 + 1 ≤ _), (by decide : 0 + 4 + 0 + 8 ≤ _)⟩)
  dsimp only [Pt.U, Pt.locs, Pt.cells, Pt.slots] at X8 lq8 yq8 zq8 st8 hQ8
  subst lq8 yq8 zq8
  obtain ⟨h8, e8⟩ : ∃ z, T8.heap = z := ⟨_, rfl⟩
  rw [e8] at hQ8
  unfold Qtb4 at hQ8
  obtain ⟨b8, kb8, rfl, Nq8, qh8, G8_0, H8_0⟩ := hQ8
  have N8 := Fr.app N5 Nq8
  have Zs8 : n0 ≤ h8.size := Nat.le_trans Zs5 qh8.1
  have F_9 := F_6.keep qh8 all0
  have F_10 := F_7.keep qh8 nin0
  have F_11 := G5_0.keep qh8 nin0
  have K8 : Keep h0 h8 [] := K5.trans qh8 all0
  have ne8_a1 : a1 ≠ b8 := Nat.ne_of_lt (Nat.lt_of_lt_of_le F_7.lt H8_0)
  have ne8_b1 : b1 ≠ b8 := Nat.ne_of_lt (Nat.lt_of_lt_of_le G5_0.lt H8_0)
  have ge8 : n0 ≤ b8 := Nat.le_trans Zs5 H8_0
  have gf8 : h0.size ≤ b8 := Nat.le_trans K5.1 H8_0
  refine own_f T8 (mkF m 26 #[.val (.ref a1), .val (.int (0 : Int32)), .val (.int (4 : Int32)), .val (.ref b1), .val (.int (0 : Int32)), .unset] [(.ref b8)]) st8 ?_
  refine own_f T8 (mkF m 28 #[.val (.ref a1), .val (.int (0 : Int32)), .val (.int (4 : Int32)), .val (.ref b1), .val (.int (0 : Int32)), .val (.ref b8)] []) (fun t k => XS.astore X8.here hx rfl (hb hby dcb4_0_26) rfl rfl (l' := #[.val (.ref a1), .val (.int (0 : Int32)), .val (.int (4 : Int32)), .val (.ref b1), .val (.int (0 : Int32)), .val (.ref b8)]) rfl k) ?_
  refine own_f T8 (mkF m 30 #[.val (.ref a1), .val (.int (0 : Int32)), .val (.int (4 : Int32)), .val (.ref b1), .val (.int (0 : Int32)), .val (.ref b8)] [(.ref b8)]) (fun t k => XS.aload X8.here hx rfl (hb hby dcb4_0_28) rfl rfl k) ?_
  refine own_f T8 (mkF m 32 #[.val (.ref a1), .val (.int (0 : Int32)), .val (.int (4 : Int32)), .val (.ref b1), .val (.int (0 : Int32)), .val (.ref b8)] [(.int (0 : Int32)), (.ref b8)]) (fun t k => XS.iload X8.here hx rfl (hb hby dcb4_0_30) rfl k) ?_
  obtain ⟨_, _, ⟨T12, Lq12, kq_12, nq_12⟩, -, X12, ⟨Lc12, hQ12, lq12, yq12, zq12⟩, st12⟩ := Jvm.LawKit.callS X8 hx (y := (⟨"java/lang/StringUTF16", "getChar", "([BI)C"⟩ : MethodName)) hown (mvT hZ (own_w hw 157 rfl)) (mvT hZ (own_w hw 158 rfl)) (mvT hZ (own_w hw 29 rfl)) (mvT hZ (own_w hw 159 rfl)) (by decide) (backOf (W := 0) (rmgc4_0 l Z a0 hw [] b8 _ _ _ _ _ h8 n0 Zs8 F_9 G8_0 SH SL SA hw_c0) hZ (own_w hw 159 rfl) (own_w hw 29 rfl) (by decide) (by decide)) (g := (mkF m 32 #[.val (.ref a1), .val (.int (0 : Int32)), .val (.int (4 : Int32)), .val (.ref b1), .val (.int (0 : Int32)), .val (.ref b8)] [(.int (0 : Int32)), (.ref b8)])) rfl (by rw [hml]; rfl) (argsL := [(.ref b8), (.int (0 : Int32))]) (rest := []) (lenOf pd__BI_C rfl) rfl (by show 2 * 0 + _ ≤ _; exact Nat.le_of_eq rfl) (hb hby dcb4_0_32) (fun _ _ => ⟨rfl, e8, (by decide : 0 + 1 + 0 + 1 + 0 ≤ _), (by decide : 0 + 4 + 0 + 8 + 0 ≤ _)⟩)
  dsimp only [Pt.U, Pt.locs, Pt.cells, Pt.slots] at X12 lq12 yq12 zq12 st12 hQ12
  subst lq12 yq12 zq12
  obtain ⟨h12, e12⟩ : ∃ z, T12.heap = z := ⟨_, rfl⟩
  rw [e12] at hQ12
  unfold Qgc4_0 at hQ12
  obtain ⟨rfl, Nq12, qh12⟩ := hQ12
  have N12 := Fr.app N8 Nq12
  rw [qh12] at e12
  refine own_f T12 (mkF m 35 #[.val (.ref a1), .val (.int (0 : Int32)), .val (.int (4 : Int32)), .val (.ref b1), .val (.int (0 : Int32)), .val (.ref b8)] [(.int c0)]) st12 ?_
  refine own_f T12 (mkF m 38 #[.val (.ref a1), .val (.int (0 : Int32)), .val (.int (4 : Int32)), .val (.ref b1), .val (.int (0 : Int32)), .val (.ref b8)] [(.int (255 : Int32)), (.int c0)]) (fun t k => XT.sipushV X12.here hx rfl (255 : Int32) (hb hby dcb4_0_35) (by decide) k) ?_
  refine own_f T12 (mkF m 54 #[.val (.ref a1), .val (.int (0 : Int32)), .val (.int (4 : Int32)), .val (.ref b1), .val (.int (0 : Int32)), .val (.ref b8)] []) (fun t k => XS.icmpYes X12.here hx rfl (pc0 := 38) (pc' := 54) rfl (hb hby dcb4_0_38) rfl (XT.ii_gt_t hc_c0) (by decide) (by decide) k) ?_
  refine own_f T12 (mkF m 56 #[.val (.ref a1), .val (.int (0 : Int32)), .val (.int (4 : Int32)), .val (.ref b1), .val (.int (0 : Int32)), .val (.ref b8)] [(.ref b8)]) (fun t k => XS.aload X12.here hx rfl (hb hby dcb4_0_54) rfl rfl k) ?_
  obtain ⟨fs, hr, hrun, hended, hW, hsame⟩ := X12.leave (v := some (.ref b8)) (fun h => by rw [Bd.returns] at h; cases h)
  refine ⟨_, _, retOut X12 hx Bd.returns (by rfl) (Or.inr (Or.inr (Or.inr (Or.inr ⟨rfl, rfl, rfl⟩)))) (hb hby dcb4_0_56) hr, hrun, hended, _, _, rfl, ?_, ⟨_, rfl⟩, hW, hsame.mono (by decide) (by decide)⟩
  show Qcb4_0 Z a1 k1 c0 c1 c2 c3 h0 n0 _ T12.heap _
  rw [e12]
  exact ⟨b8, kb8, rfl, N12, K8, G8_0, gf8⟩
theorem ds44_0_0 : decode jdk_42_method_149_code 0 = .ok (.aload_n 0, 1) := by decide +kernel
theorem ds44_0_1 : decode jdk_42_method_149_code 1 = .ok (.invokespecial 1, 3) := by decide +kernel
theorem ds44_0_4 : decode jdk_42_method_149_code 4 = .ok (.iload_n 3, 1) := by decide +kernel
theorem ds44_0_5 : decode jdk_42_method_149_code 5 = .ok (.ifCond .ne 22, 3) := by decide +kernel
theorem ds44_0_27 : decode jdk_42_method_149_code 27 = .ok (.getstatic 38, 3) := by decide +kernel
theorem ds44_0_30 : decode jdk_42_method_149_code 30 = .ok (.ifCond .eq 28, 3) := by decide +kernel
theorem ds44_0_33 : decode jdk_42_method_149_code 33 = .ok (.aload_n 1, 1) := by decide +kernel
theorem ds44_0_34 : decode jdk_42_method_149_code 34 = .ok (.iload_n 2, 1) := by decide +kernel
theorem ds44_0_35 : decode jdk_42_method_149_code 35 = .ok (.iload_n 3, 1) := by decide +kernel
theorem ds44_0_36 : decode jdk_42_method_149_code 36 = .ok (.invokestatic 177, 3) := by decide +kernel
theorem ds44_0_39 : decode jdk_42_method_149_code 39 = .ok (.astore 5, 2) := by decide +kernel
theorem ds44_0_41 : decode jdk_42_method_149_code 41 = .ok (.aload_n 0, 1) := by decide +kernel
theorem ds44_0_42 : decode jdk_42_method_149_code 42 = .ok (.aload 5, 2) := by decide +kernel
theorem ds44_0_44 : decode jdk_42_method_149_code 44 = .ok (.iload_n 3, 1) := by decide +kernel
theorem ds44_0_45 : decode jdk_42_method_149_code 45 = .ok (.invokestatic 47, 3) := by decide +kernel
theorem ds44_0_48 : decode jdk_42_method_149_code 48 = .ok (.putfield 15, 3) := by decide +kernel
theorem ds44_0_51 : decode jdk_42_method_149_code 51 = .ok (.aload_n 0, 1) := by decide +kernel
theorem ds44_0_52 : decode jdk_42_method_149_code 52 = .ok (.aload 5, 2) := by decide +kernel
theorem ds44_0_54 : decode jdk_42_method_149_code 54 = .ok (.putfield 9, 3) := by decide +kernel
theorem ds44_0_57 : decode jdk_42_method_149_code 57 = .ok (.return_, 1) := by decide +kernel
theorem pn_s44_0 : plainName "java/lang/String" = true := by first | (simp [plainName, overriddenIn]; done) | decide +kernel
theorem ef_s44_0 (m : MethodId) (x0 : Addr) (x1 : Addr) (x2 : Int32) (x3 : Int32) : entryFrame m #[(.ref x0), (.ref x1), (.int x2), (.int x3), .null] 6 = mkF m 0 #[.val (.ref x0), .val (.ref x1), .val (.int x2), .val (.int x3), .val .null, .unset] [] := by first | (simp [entryFrame, mkF, argsToLocals, Value.category]; done) | rfl
def Qs44_0 (Z : State) (a1 : Addr) (a2 : Addr) (k2 : ClassId) (c0 : Int32) (c1 : Int32) (c2 : Int32) (c3 : Int32) (u0 : Value) (u1 : Value) (wc : Int32) (h0 : Heap) (n0 : Nat) (v : Option Value) (h : Heap) (L : List Loc) : Prop := ∃ (b : Addr) (kb : ClassId), v = none ∧ Fr n0 L ∧ Keep h0 h [a1] ∧ Exa Z h a1 "java/lang/String" ∧ Fld Z h a1 "java/lang/String" "coder" "B" (.int (1 : Int32)) ∧ Fld Z h a1 "java/lang/String" "value" "[B" (.ref b) ∧ Arv Z h b kb .byte (8 : Int32) [.int ((c0 >>> ((0 : Int32) &&& 31)).toInt8.toInt32), .int ((c0 >>> ((8 : Int32) &&& 31)).toInt8.toInt32), .int ((c1 >>> ((0 : Int32) &&& 31)).toInt8.toInt32), .int ((c1 >>> ((8 : Int32) &&& 31)).toInt8.toInt32), .int ((c2 >>> ((0 : Int32) &&& 31)).toInt8.toInt32), .int ((c2 >>> ((8 : Int32) &&& 31)).toInt8.toInt32), .int ((c3 >>> ((0 : Int32) &&& 31)).toInt8.toInt32), .int ((c3 >>> ((8 : Int32) &&& 31)).toInt8.toInt32)] (.int 0) ∧ h0.size ≤ b
set_option maxRecDepth 65536 in
set_option maxHeartbeats 40000000 in
theorem rms44_0 (l : Launch) (Z : State) (a0 : Array Value) (hw : ∀ d ∈ tables_1, d.before a0 Z = true) (ws : List Jvm.Cond) (a1 : Addr) (a2 : Addr) (k2 : ClassId) (c0 : Int32) (c1 : Int32) (c2 : Int32) (c3 : Int32) (u0 : Value) (u1 : Value) (wc : Int32) (h0 : Heap) (n0 : Nat) (Z0 : n0 ≤ h0.size) (F0 : Old Z n0 h0) (F1 : Exa Z h0 a1 "java/lang/String") (F2 : Fld Z h0 a1 "java/lang/String" "value" "[B" u0) (F3 : Fld Z h0 a1 "java/lang/String" "coder" "B" u1) (F4 : Arv Z h0 a2 k2 .char (4 : Int32) [.int c0, .int c1, .int c2, .int c3] (.int 0)) (ge_a1 : n0 ≤ a1) (SC : Sta Z Z.heap "java/lang/String" "COMPACT_STRINGS" "Z" (.int wc)) (HWC : ¬ (wc = 0)) (SH : Sta Z Z.heap "java/lang/StringUTF16" "HI_BYTE_SHIFT" "I" (.int (0 : Int32))) (SL : Sta Z Z.heap "java/lang/StringUTF16" "LO_BYTE_SHIFT" "I" (.int (8 : Int32))) (SA : Sta Z Z.heap "java/lang/StringUTF16" "$assertionsDisabled" "Z" (.int (1 : Int32))) (hne : a2 ≠ a1) (hc_c0 : (255 : Int32) < c0) (hw_c0 : own_W c0) :
    MetFree l (⟨"java/lang/String", "<init>", "([CIILjava/lang/Void;)V"⟩ : MethodName) (head1 (Jvm.Cond.code (⟨"java/lang/String", "<init>", "([CIILjava/lang/Void;)V"⟩ : MethodName) jdk_42_method_149_code 6 none :: ws) ({ frames := 4, cells := 2, slots := 12, locals := 57 } : Room)) (fun a U => a = #[(.ref a1), (.ref a2), (.int (0 : Int32)), (.int (4 : Int32)), .null] ∧ Z.Warmed39 U.vm ∧ U.heap = h0) (fun _ _ _ _ _ => True) (fun _ U o U' => ∃ v L, o = .returned v ∧ Qs44_0 Z a1 a2 k2 c0 c1 c2 c3 u0 u1 wc h0 n0 v U'.heap L ∧ FrameEnd U o U' L ({ frames := 4, cells := 2, slots := 12, locals := 57 } : Room).cells ({ frames := 4, cells := 2, slots := 12, locals := 57 } : Room).slots) := by
  refine MetFree.of_bodySF (plainFor_of_name pn_s44_0) hisR ?_
  intro p e s m args below meth c s₁ Bd hml0 hP hK
  obtain ⟨rfl, hZ, hh⟩ := hP
  have hx := Bd.exec
  have hby := Bd.bytes
  have hml : c.maxLocals = 6 := hml0
  have hown : s.vm.findClass "java/lang/String" = some m.cls := findClass_of_methodNamed Bd.named
  have hnm := (name_of_methodNamed Bd.named Bd.method).1
  have X0 : Stand p l e ({ frames := 4, cells := 2, slots := 12, locals := 57 } : Room) s m #[(.ref a1), (.ref a2), (.int (0 : Int32)), (.int (4 : Int32)), .null] below meth c s₁ [] 0 0 := Stand.of_body Bd
  have e0 : s₁.heap = h0 := by rw [← hh, Bd.state]; rfl
  have N0 := Fr.nil n0
  show own_R p.tables e below (own_P s (Qs44_0 Z a1 a2 k2 c0 c1 c2 c3 u0 u1 wc h0 n0) ({ frames := 4, cells := 2, slots := 12, locals := 57 } : Room).cells ({ frames := 4, cells := 2, slots := 12, locals := 57 } : Room).slots) (s₁.setTop (entryFrame m #[(.ref a1), (.ref a2), (.int (0 : Int32)), (.int (4 : Int32)), .null] 6))
  refine own_f s₁ (mkF m 0 #[.val (.ref a1), .val (.ref a2), .val (.int (0 : Int32)), .val (.int (4 : Int32)), .val .null, .unset] []) (fun t k => castTop (ef_s44_0 m a1 a2 (0 : Int32) (4 : Int32)) k) ?_
  refine own_f s₁ (mkF m 1 #[.val (.ref a1), .val (.ref a2), .val (.int (0 : Int32)), .val (.int (4 : Int32)), .val .null, .unset] [(.ref a1)]) (fun t k => XS.aloadN X0.here hx rfl (hb hby ds44_0_0) rfl rfl k) ?_
  obtain ⟨T1, X1, e1, st1⟩ := initO X0 hx hZ hown (own_w hw 23 rfl) (own_w hw 24 rfl) (own_w hw 25 rfl) e0 (g := (mkF m 1 #[.val (.ref a1), .val (.ref a2), .val (.int (0 : Int32)), .val (.int (4 : Int32)), .val .null, .unset] [(.ref a1)])) rfl (by rw [hml]; rfl) rfl (hb hby ds44_0_1) (by decide) (W := 0) (by show 2 * 0 + _ ≤ _; exact Nat.le_of_eq rfl) (by decide)
  refine own_f T1 (mkF m 4 #[.val (.ref a1), .val (.ref a2), .val (.int (0 : Int32)), .val (.int (4 : Int32)), .val .null, .unset] []) st1 ?_
  refine own_f T1 (mkF m 5 #[.val (.ref a1), .val (.ref a2), .val (.int (0 : Int32)), .val (.int (4 : Int32)), .val .null, .unset] [(.int (4 : Int32))]) (fun t k => XS.iloadN X1.here hx rfl (hb hby ds44_0_4) rfl k) ?_
  refine own_f T1 (mkF m 27 #[.val (.ref a1), .val (.ref a2), .val (.int (0 : Int32)), .val (.int (4 : Int32)), .val .null, .unset] []) (fun t k => XS.ifYes X1.here hx rfl (pc0 := 5) (pc' := 27) rfl (hb hby ds44_0_5) rfl (XT.i0_ne_t (by decide)) (by decide) (by decide) k) ?_
  have S2 : Sta Z h0 "java/lang/String" "COMPACT_STRINGS" "Z" (.int wc) := SC.ext F0.2
  obtain ⟨T2, X2, e2, st2⟩ := getS X1 hx hZ (host := "") hown (own_w hw 26 rfl) Via.refl e1 S2 (g := (mkF m 27 #[.val (.ref a1), .val (.ref a2), .val (.int (0 : Int32)), .val (.int (4 : Int32)), .val .null, .unset] [])) rfl (hb hby ds44_0_27)
  refine own_f T2 (mkF m 30 #[.val (.ref a1), .val (.ref a2), .val (.int (0 : Int32)), .val (.int (4 : Int32)), .val .null, .unset] [(.int wc)]) st2 ?_
  refine own_f T2 (mkF m 33 #[.val (.ref a1), .val (.ref a2), .val (.int (0 : Int32)), .val (.int (4 : Int32)), .val .null, .unset] []) (fun t k => XS.ifNo X2.here hx rfl (hb hby ds44_0_30) rfl (XT.i0_eq_f HWC) k) ?_
  refine own_f T2 (mkF m 34 #[.val (.ref a1), .val (.ref a2), .val (.int (0 : Int32)), .val (.int (4 : Int32)), .val .null, .unset] [(.ref a2)]) (fun t k => XS.aloadN X2.here hx rfl (hb hby ds44_0_33) rfl rfl k) ?_
  refine own_f T2 (mkF m 35 #[.val (.ref a1), .val (.ref a2), .val (.int (0 : Int32)), .val (.int (4 : Int32)), .val .null, .unset] [(.int (0 : Int32)), (.ref a2)]) (fun t k => XS.iloadN X2.here hx rfl (hb hby ds44_0_34) rfl k) ?_
  refine own_f T2 (mkF m 36 #[.val (.ref a1), .val (.ref a2), .val (.int (0 : Int32)), .val (.int (4 : Int32)), .val .null, .unset] [(.int (4 : Int32)), (.int (0 : Int32)), (.ref a2)]) (fun t k => XS.iloadN X2.here hx rfl (hb hby ds44_0_35) rfl k) ?_
  obtain ⟨_, _, ⟨T3, Lq3, kq_3, nq_3⟩, -, X3, ⟨Lc3, hQ3, lq3, yq3, zq3⟩, st3⟩ := Jvm.LawKit.callS X2 hx (y := (⟨"java/lang/StringUTF16", "compress", "([CII)[B"⟩ : MethodName)) hown (mvT hZ (own_w hw 27 rfl)) (mvT hZ (own_w hw 28 rfl)) (mvT hZ (own_w hw 29 rfl)) (mvT hZ (own_w hw 30 rfl)) (by decide) (backOf (W := 0) (rmcb4_0 l Z a0 hw [] a2 _ _ _ _ _ h0 n0 Z0 F0 F4 hc_c0 SH SL SA hw_c0) hZ (own_w hw 30 rfl) (own_w hw 29 rfl) (by decide) (by decide)) (g := (mkF m 36 #[.val (.ref a1), .val (.ref a2), .val (.int (0 : Int32)), .val (.int (4 : Int32)), .val .null, .unset] [(.int (4 : Int32)), (.int (0 : Int32)), (.ref a2)])) rfl (by rw [hml]; rfl) (argsL := [(.ref a2), (.int (0 : Int32)), (.int (4 : Int32))]) (rest := []) (lenOf pd__CII_B rfl) rfl (by show 2 * 0 + _ ≤ _; exact Nat.le_of_eq rfl) (hb hby ds44_0_36) (fun _ _ => ⟨rfl, e2, (by decide : 0 + 2 ≤ _), (by decide : 0 + 12 ≤ _)⟩)
  dsimp only [Pt.U, Pt.locs, Pt.cells, Pt.slots] at X3 lq3 yq3 zq3 st3 hQ3
  subst lq3 yq3 zq3
  obtain ⟨h3, e3⟩ : ∃ z, T3.heap = z := ⟨_, rfl⟩
  rw [e3] at hQ3
  unfold Qcb4_0 at hQ3
  obtain ⟨b3, kb3, rfl, Nq3, qh3, G3_0, H3_0⟩ := hQ3
  have N3 := Fr.app N0 Nq3
  have Zs3 : n0 ≤ h3.size := Nat.le_trans Z0 qh3.1
  have F_4 := F0.keep qh3 all0
  have F_5 := F1.keep qh3
  have F_6 := F2.keep qh3 nin0
  have F_7 := F3.keep qh3 nin0
  have F_8 := F4.keep qh3 nin0
  have K3 : Keep h0 h3 [a1] := (Keep.refl h0 [a1]).trans qh3 all0
  have ne3_a1 : a1 ≠ b3 := Nat.ne_of_lt (Nat.lt_of_lt_of_le F1.lt H3_0)
  have ne3_a2 : a2 ≠ b3 := Nat.ne_of_lt (Nat.lt_of_lt_of_le F4.lt H3_0)
  have ge3 : n0 ≤ b3 := Nat.le_trans Z0 H3_0
  have gf3 : h0.size ≤ b3 := Nat.le_trans (Keep.refl h0 [a1]).1 H3_0
  refine own_f T3 (mkF m 39 #[.val (.ref a1), .val (.ref a2), .val (.int (0 : Int32)), .val (.int (4 : Int32)), .val .null, .unset] [(.ref b3)]) st3 ?_
  refine own_f T3 (mkF m 41 #[.val (.ref a1), .val (.ref a2), .val (.int (0 : Int32)), .val (.int (4 : Int32)), .val .null, .val (.ref b3)] []) (fun t k => XS.astore X3.here hx rfl (hb hby ds44_0_39) rfl rfl (l' := #[.val (.ref a1), .val (.ref a2), .val (.int (0 : Int32)), .val (.int (4 : Int32)), .val .null, .val (.ref b3)]) rfl k) ?_
  refine own_f T3 (mkF m 42 #[.val (.ref a1), .val (.ref a2), .val (.int (0 : Int32)), .val (.int (4 : Int32)), .val .null, .val (.ref b3)] [(.ref a1)]) (fun t k => XS.aloadN X3.here hx rfl (hb hby ds44_0_41) rfl rfl k) ?_
  refine own_f T3 (mkF m 44 #[.val (.ref a1), .val (.ref a2), .val (.int (0 : Int32)), .val (.int (4 : Int32)), .val .null, .val (.ref b3)] [(.ref b3), (.ref a1)]) (fun t k => XS.aload X3.here hx rfl (hb hby ds44_0_42) rfl rfl k) ?_
  refine own_f T3 (mkF m 45 #[.val (.ref a1), .val (.ref a2), .val (.int (0 : Int32)), .val (.int (4 : Int32)), .val .null, .val (.ref b3)] [(.int (4 : Int32)), (.ref b3), (.ref a1)]) (fun t k => XS.iloadN X3.here hx rfl (hb hby ds44_0_44) rfl k) ?_
  obtain ⟨_, _, ⟨T9, Lq9, kq_9, nq_9⟩, -, X9, ⟨Lc9, hQ9, lq9, yq9, zq9⟩, st9⟩ := Jvm.LawKit.callS X3 hx (y := (⟨"java/lang/StringUTF16", "coderFromArrayLen", "([BI)B"⟩ : MethodName)) hown (mvT hZ (own_w hw 34 rfl)) (mvT hZ (own_w hw 35 rfl)) (mvT hZ (own_w hw 29 rfl)) (mvT hZ (own_w hw 36 rfl)) (by decide) (backOf (W := 1) (rmco4_8 l Z a0 hw [] b3 _ _ h3 n0 Zs3 G3_0) hZ (own_w hw 36 rfl) (own_w hw 29 rfl) (by decide) (by decide)) (g := (mkF m 45 #[.val (.ref a1), .val (.ref a2), .val (.int (0 : Int32)), .val (.int (4 : Int32)), .val .null, .val (.ref b3)] [(.int (4 : Int32)), (.ref b3), (.ref a1)])) rfl (by rw [hml]; rfl) (argsL := [(.ref b3), (.int (4 : Int32))]) (rest := [(.ref a1)]) (lenOf pd__BI_B rfl) rfl (by show 2 * 0 + _ ≤ _; exact Nat.le_of_eq rfl) (hb hby ds44_0_45) (fun _ _ => ⟨rfl, e3, (by decide : 0 + 2 + 0 ≤ _), (by decide : 0 + 12 + 0 ≤ _)⟩)
  dsimp only [Pt.U, Pt.locs, Pt.cells, Pt.slots] at X9 lq9 yq9 zq9 st9 hQ9
  subst lq9 yq9 zq9
  obtain ⟨h9, e9⟩ : ∃ z, T9.heap = z := ⟨_, rfl⟩
  rw [e9] at hQ9
  unfold Qco4_8 at hQ9
  obtain ⟨rfl, Nq9, qh9⟩ := hQ9
  have N9 := Fr.app N3 Nq9
  rw [qh9] at e9
  refine own_f T9 (mkF m 48 #[.val (.ref a1), .val (.ref a2), .val (.int (0 : Int32)), .val (.int (4 : Int32)), .val .null, .val (.ref b3)] [(.int (1 : Int32)), (.ref a1)]) st9 ?_
  obtain ⟨T10, h10, X10, e10, W10, st10⟩ := putF X9 hx hZ hown (host := "") (Or.inl (own_w hw 37 rfl)) Via.refl e9 F_7 F_5 (Or.inr ⟨(own_w hw 12 rfl), rfl, hnm⟩) (own_w hw 9 rfl) (ty := .byte) (by decide) rfl rfl (g := (mkF m 48 #[.val (.ref a1), .val (.ref a2), .val (.int (0 : Int32)), .val (.int (4 : Int32)), .val .null, .val (.ref b3)] [(.int (1 : Int32)), (.ref a1)])) rfl rfl (hb hby ds44_0_48)
  have N10 := Fr.snoc X10 N9 ge_a1
  have Zs10 : n0 ≤ h10.size := by rw [W10.size]; exact Zs3
  have K10 : Keep h0 h10 [a1] := K3.wr W10 (Or.inl (by simp))
  have F_11 := F_4.wr W10 ge_a1
  have F_12 := F_5.wr W10
  have F_13 := F_6.other W10 (Or.inr (slot_ne (Or.inr (own_w hw 11 rfl)) (Or.inr (own_w hw 12 rfl)) (by decide) (t := (.array .byte)) (t' := .byte) (by decide) (by decide)))
  have F_14 := F_7.same W10
  have F_15 := F_8.other W10 hne
  have F_16 := G3_0.other W10 (Ne.symm ne3_a1)
  refine own_f T10 (mkF m 51 #[.val (.ref a1), .val (.ref a2), .val (.int (0 : Int32)), .val (.int (4 : Int32)), .val .null, .val (.ref b3)] []) st10 ?_
  refine own_f T10 (mkF m 52 #[.val (.ref a1), .val (.ref a2), .val (.int (0 : Int32)), .val (.int (4 : Int32)), .val .null, .val (.ref b3)] [(.ref a1)]) (fun t k => XS.aloadN X10.here hx rfl (hb hby ds44_0_51) rfl rfl k) ?_
  refine own_f T10 (mkF m 54 #[.val (.ref a1), .val (.ref a2), .val (.int (0 : Int32)), .val (.int (4 : Int32)), .val .null, .val (.ref b3)] [(.ref b3), (.ref a1)]) (fun t k => XS.aload X10.here hx rfl (hb hby ds44_0_52) rfl rfl k) ?_
  obtain ⟨T17, h17, X17, e17, W17, st17⟩ := putF X10 hx hZ hown (host := "") (Or.inl (own_w hw 38 rfl)) Via.refl e10 F_13 F_12 (Or.inr ⟨(own_w hw 11 rfl), rfl, hnm⟩) (own_w hw 9 rfl) (ty := (.array .byte)) (by decide) rfl rfl (g := (mkF m 54 #[.val (.ref a1), .val (.ref a2), .val (.int (0 : Int32)), .val (.int (4 : Int32)), .val .null, .val (.ref b3)] [(.ref b3), (.ref a1)])) rfl rfl (hb hby ds44_0_54)
  have N17 := Fr.snoc X17 N10 ge_a1
  have Zs17 : n0 ≤ h17.size := by rw [W17.size]; exact Zs10
  have K17 : Keep h0 h17 [a1] := K10.wr W17 (Or.inl (by simp))
  have F_18 := F_11.wr W17 ge_a1
  have F_19 := F_12.wr W17
  have F_20 := F_13.same W17
  have F_21 := F_14.other W17 (Or.inr (slot_ne (Or.inr (own_w hw 12 rfl)) (Or.inr (own_w hw 11 rfl)) (by decide) (t := .byte) (t' := (.array .byte)) (by decide) (by decide)))
  have F_22 := F_15.other W17 hne
  have F_23 := F_16.other W17 (Ne.symm ne3_a1)
  refine own_f T17 (mkF m 57 #[.val (.ref a1), .val (.ref a2), .val (.int (0 : Int32)), .val (.int (4 : Int32)), .val .null, .val (.ref b3)] []) st17 ?_
  obtain ⟨fs, hr, hrun, hended, hW, hsame⟩ := X17.leave (v := none) (fun _ => rfl)
  refine ⟨_, _, X17.returnOut hx Bd.returns (hb hby ds44_0_57) hr, hrun, hended, _, _, rfl, ?_, ⟨_, rfl⟩, hW, hsame.mono (by decide) (by decide)⟩
  show Qs44_0 Z a1 a2 k2 c0 c1 c2 c3 u0 u1 wc h0 n0 _ T17.heap _
  rw [e17]
  exact ⟨b3, kb3, rfl, N17, K17, F_19, F_21, F_20, F_23, gf3⟩
theorem ds24_0_0 : decode jdk_42_method_3_code 0 = .ok (.aload_n 0, 1) := by decide +kernel
theorem ds24_0_1 : decode jdk_42_method_3_code 1 = .ok (.aload_n 1, 1) := by decide +kernel
theorem ds24_0_2 : decode jdk_42_method_3_code 2 = .ok (.iconst 0, 1) := by decide +kernel
theorem ds24_0_3 : decode jdk_42_method_3_code 3 = .ok (.aload_n 1, 1) := by decide +kernel
theorem ds24_0_4 : decode jdk_42_method_3_code 4 = .ok (.arraylength, 1) := by decide +kernel
theorem ds24_0_5 : decode jdk_42_method_3_code 5 = .ok (.aconst_null, 1) := by decide +kernel
theorem ds24_0_6 : decode jdk_42_method_3_code 6 = .ok (.invokespecial 27, 3) := by decide +kernel
theorem ds24_0_9 : decode jdk_42_method_3_code 9 = .ok (.return_, 1) := by decide +kernel
theorem pn_s24_0 : plainName "java/lang/String" = true := by first | (simp [plainName, overriddenIn]; done) | decide +kernel
theorem ef_s24_0 (m : MethodId) (x0 : Addr) (x1 : Addr) : entryFrame m #[(.ref x0), (.ref x1)] 2 = mkF m 0 #[.val (.ref x0), .val (.ref x1)] [] := by first | (simp [entryFrame, mkF, argsToLocals, Value.category]; done) | rfl
def Qs24_0 (Z : State) (a1 : Addr) (a2 : Addr) (k2 : ClassId) (c0 : Int32) (c1 : Int32) (c2 : Int32) (c3 : Int32) (u0 : Value) (u1 : Value) (wc : Int32) (h0 : Heap) (n0 : Nat) (v : Option Value) (h : Heap) (L : List Loc) : Prop := ∃ (b : Addr) (kb : ClassId), v = none ∧ Fr n0 L ∧ Keep h0 h [a1] ∧ Exa Z h a1 "java/lang/String" ∧ Fld Z h a1 "java/lang/String" "coder" "B" (.int (1 : Int32)) ∧ Fld Z h a1 "java/lang/String" "value" "[B" (.ref b) ∧ Arv Z h b kb .byte (8 : Int32) [.int ((c0 >>> ((0 : Int32) &&& 31)).toInt8.toInt32), .int ((c0 >>> ((8 : Int32) &&& 31)).toInt8.toInt32), .int ((c1 >>> ((0 : Int32) &&& 31)).toInt8.toInt32), .int ((c1 >>> ((8 : Int32) &&& 31)).toInt8.toInt32), .int ((c2 >>> ((0 : Int32) &&& 31)).toInt8.toInt32), .int ((c2 >>> ((8 : Int32) &&& 31)).toInt8.toInt32), .int ((c3 >>> ((0 : Int32) &&& 31)).toInt8.toInt32), .int ((c3 >>> ((8 : Int32) &&& 31)).toInt8.toInt32)] (.int 0) ∧ h0.size ≤ b
set_option maxRecDepth 65536 in
set_option maxHeartbeats 40000000 in
theorem rms24_0 (l : Launch) (Z : State) (a0 : Array Value) (hw : ∀ d ∈ tables_1, d.before a0 Z = true) (ws : List Jvm.Cond) (a1 : Addr) (a2 : Addr) (k2 : ClassId) (c0 : Int32) (c1 : Int32) (c2 : Int32) (c3 : Int32) (u0 : Value) (u1 : Value) (wc : Int32) (h0 : Heap) (n0 : Nat) (Z0 : n0 ≤ h0.size) (F0 : Old Z n0 h0) (F1 : Exa Z h0 a1 "java/lang/String") (F2 : Fld Z h0 a1 "java/lang/String" "value" "[B" u0) (F3 : Fld Z h0 a1 "java/lang/String" "coder" "B" u1) (F4 : Arv Z h0 a2 k2 .char (4 : Int32) [.int c0, .int c1, .int c2, .int c3] (.int 0)) (ge_a1 : n0 ≤ a1) (SC : Sta Z Z.heap "java/lang/String" "COMPACT_STRINGS" "Z" (.int wc)) (HWC : ¬ (wc = 0)) (SH : Sta Z Z.heap "java/lang/StringUTF16" "HI_BYTE_SHIFT" "I" (.int (0 : Int32))) (SL : Sta Z Z.heap "java/lang/StringUTF16" "LO_BYTE_SHIFT" "I" (.int (8 : Int32))) (SA : Sta Z Z.heap "java/lang/StringUTF16" "$assertionsDisabled" "Z" (.int (1 : Int32))) (hne : a2 ≠ a1) (hc_c0 : (255 : Int32) < c0) (hw_c0 : own_W c0) :
    MetFree l (⟨"java/lang/String", "<init>", "([C)V"⟩ : MethodName) (head1 (Jvm.Cond.code (⟨"java/lang/String", "<init>", "([C)V"⟩ : MethodName) jdk_42_method_3_code 2 none :: ws) ({ frames := 5, cells := 2, slots := 12, locals := 74 } : Room)) (fun a U => a = #[(.ref a1), (.ref a2)] ∧ Z.Warmed39 U.vm ∧ U.heap = h0) (fun _ _ _ _ _ => True) (fun _ U o U' => ∃ v L, o = .returned v ∧ Qs24_0 Z a1 a2 k2 c0 c1 c2 c3 u0 u1 wc h0 n0 v U'.heap L ∧ FrameEnd U o U' L ({ frames := 5, cells := 2, slots := 12, locals := 74 } : Room).cells ({ frames := 5, cells := 2, slots := 12, locals := 74 } : Room).slots) := by
  refine MetFree.of_bodySF (plainFor_of_name pn_s24_0) hisR ?_
  intro p e s m args below meth c s₁ Bd hml0 hP hK
  obtain ⟨rfl, hZ, hh⟩ := hP
  have hx := Bd.exec
  have hby := Bd.bytes
  have hml : c.maxLocals = 2 := hml0
  have hown : s.vm.findClass "java/lang/String" = some m.cls := findClass_of_methodNamed Bd.named
  have hnm := (name_of_methodNamed Bd.named Bd.method).1
  have X0 : Stand p l e ({ frames := 5, cells := 2, slots := 12, locals := 74 } : Room) s m #[(.ref a1), (.ref a2)] below meth c s₁ [] 0 0 := Stand.of_body Bd
  have e0 : s₁.heap = h0 := by rw [← hh, Bd.state]; rfl
  have N0 := Fr.nil n0
  show own_R p.tables e below (own_P s (Qs24_0 Z a1 a2 k2 c0 c1 c2 c3 u0 u1 wc h0 n0) ({ frames := 5, cells := 2, slots := 12, locals := 74 } : Room).cells ({ frames := 5, cells := 2, slots := 12, locals := 74 } : Room).slots) (s₁.setTop (entryFrame m #[(.ref a1), (.ref a2)] 2))
  refine own_f s₁ (mkF m 0 #[.val (.ref a1), .val (.ref a2)] []) (fun t k => castTop (ef_s24_0 m a1 a2) k) ?_
  refine own_f s₁ (mkF m 1 #[.val (.ref a1), .val (.ref a2)] [(.ref a1)]) (fun t k => XS.aloadN X0.here hx rfl (hb hby ds24_0_0) rfl rfl k) ?_
  refine own_f s₁ (mkF m 2 #[.val (.ref a1), .val (.ref a2)] [(.ref a2), (.ref a1)]) (fun t k => XS.aloadN X0.here hx rfl (hb hby ds24_0_1) rfl rfl k) ?_
  refine own_f s₁ (mkF m 3 #[.val (.ref a1), .val (.ref a2)] [(.int (0 : Int32)), (.ref a2), (.ref a1)]) (fun t k => XT.iconstV X0.here hx rfl (0 : Int32) (hb hby ds24_0_2) (by decide) k) ?_
  refine own_f s₁ (mkF m 4 #[.val (.ref a1), .val (.ref a2)] [(.ref a2), (.int (0 : Int32)), (.ref a2), (.ref a1)]) (fun t k => XS.aloadN X0.here hx rfl (hb hby ds24_0_3) rfl rfl k) ?_
  refine own_f s₁ (mkF m 5 #[.val (.ref a1), .val (.ref a2)] [(.int (4 : Int32)), (.int (0 : Int32)), (.ref a2), (.ref a1)]) (fun t k => own_len X0 hx hZ e0 F4 (g := (mkF m 4 #[.val (.ref a1), .val (.ref a2)] [(.ref a2), (.int (0 : Int32)), (.ref a2), (.ref a1)])) rfl rfl (hb hby ds24_0_4) k) ?_
  refine own_f s₁ (mkF m 6 #[.val (.ref a1), .val (.ref a2)] [.null, (.int (4 : Int32)), (.int (0 : Int32)), (.ref a2), (.ref a1)]) (fun t k => XS.aconstNull X0.here hx rfl (hb hby ds24_0_5) k) ?_
  obtain ⟨_, _, ⟨T2, Lq2, kq_2, nq_2⟩, -, X2, ⟨Lc2, hQ2, lq2, yq2, zq2⟩, st2⟩ := X0.specialBack hx (y := (⟨"java/lang/String", "<init>", "([CIILjava/lang/Void;)V"⟩ : MethodName)) rfl hown (mvT hZ (own_w hw 19 rfl)) (mvT hZ (own_w hw 20 rfl)) (mvT hZ (own_w hw 22 rfl)) (by decide) (backOf (W := 0) (rms44_0 l Z a0 hw [] a1 a2 _ _ _ _ _ _ _ _ h0 n0 Z0 F0 F1 F2 F3 F4 ge_a1 SC HWC SH SL SA hne hc_c0 hw_c0) hZ (own_w hw 22 rfl) (own_w hw 8 rfl) (by decide) (by decide)) (g := (mkF m 6 #[.val (.ref a1), .val (.ref a2)] [.null, (.int (4 : Int32)), (.int (0 : Int32)), (.ref a2), (.ref a1)])) rfl (by rw [hml]; rfl) (Steps.refl _) (a := a1) (argsL := [(.ref a2), (.int (0 : Int32)), (.int (4 : Int32)), .null]) (rest := []) (lenOf pd__CIILjava_lang_Void_V rfl) rfl (by show 2 * 0 + _ ≤ _; exact Nat.le_of_eq rfl) (hb hby ds24_0_6) (fun _ _ => ⟨rfl, e0, (by decide : 0 + 2 ≤ _), (by decide : 0 + 12 ≤ _)⟩)
  dsimp only [Pt.U, Pt.locs, Pt.cells, Pt.slots] at X2 lq2 yq2 zq2 st2 hQ2
  subst lq2 yq2 zq2
  obtain ⟨h2, e2⟩ : ∃ z, T2.heap = z := ⟨_, rfl⟩
  rw [e2] at hQ2
  unfold Qs44_0 at hQ2
  obtain ⟨b2, kb2, rfl, Nq2, qh2, G2_0, G2_1, G2_2, G2_3, H2_0⟩ := hQ2
  have N2 := Fr.app N0 Nq2
  have Zs2 : n0 ≤ h2.size := Nat.le_trans Z0 qh2.1
  have F_3 := F0.keep qh2 (allS ge_a1 all0)
  have F_4 := F4.keep qh2 (ninS hne nin0)
  have K2 : Keep h0 h2 [a1] := (Keep.refl h0 [a1]).trans qh2 (allS (Or.inl (by simp)) all0)
  have ne2_a1 : a1 ≠ b2 := Nat.ne_of_lt (Nat.lt_of_lt_of_le F1.lt H2_0)
  have ne2_a2 : a2 ≠ b2 := Nat.ne_of_lt (Nat.lt_of_lt_of_le F4.lt H2_0)
  have ge2 : n0 ≤ b2 := Nat.le_trans Z0 H2_0
  have gf2 : h0.size ≤ b2 := Nat.le_trans (Keep.refl h0 [a1]).1 H2_0
  refine own_g T2 (mkF m 9 #[.val (.ref a1), .val (.ref a2)] []) st2 ?_
  obtain ⟨fs, hr, hrun, hended, hW, hsame⟩ := X2.leave (v := none) (fun _ => rfl)
  refine ⟨_, _, X2.returnOut hx Bd.returns (hb hby ds24_0_9) hr, hrun, hended, _, _, rfl, ?_, ⟨_, rfl⟩, hW, hsame.mono (by decide) (by decide)⟩
  show Qs24_0 Z a1 a2 k2 c0 c1 c2 c3 u0 u1 wc h0 n0 _ T2.heap _
  rw [e2]
  exact ⟨b2, kb2, rfl, N2, K2, G2_0, G2_1, G2_2, G2_3, gf2⟩
theorem dci4_2_0 : decode jdk_52_method_21_code 0 = .ok (.iconst 0, 1) := by decide +kernel
theorem dci4_2_1 : decode jdk_52_method_21_code 1 = .ok (.istore 5, 2) := by decide +kernel
theorem dci4_2_3 : decode jdk_52_method_21_code 3 = .ok (.iload 5, 2) := by decide +kernel
theorem dci4_2_5 : decode jdk_52_method_21_code 5 = .ok (.iload 4, 2) := by decide +kernel
theorem dci4_2_7 : decode jdk_52_method_21_code 7 = .ok (.if_icmp .ge 37, 3) := by decide +kernel
theorem dci4_2_10 : decode jdk_52_method_21_code 10 = .ok (.aload_n 0, 1) := by decide +kernel
theorem dci4_2_11 : decode jdk_52_method_21_code 11 = .ok (.iload_n 1, 1) := by decide +kernel
theorem dci4_2_12 : decode jdk_52_method_21_code 12 = .ok (.caload, 1) := by decide +kernel
theorem dci4_2_13 : decode jdk_52_method_21_code 13 = .ok (.istore 6, 2) := by decide +kernel
theorem dci4_2_15 : decode jdk_52_method_21_code 15 = .ok (.iload 6, 2) := by decide +kernel
theorem dci4_2_17 : decode jdk_52_method_21_code 17 = .ok (.sipush 255, 3) := by decide +kernel
theorem dci4_2_20 : decode jdk_52_method_21_code 20 = .ok (.if_icmp .le 6, 3) := by decide +kernel
theorem dci4_2_23 : decode jdk_52_method_21_code 23 = .ok (.iload 5, 2) := by decide +kernel
theorem dci4_2_25 : decode jdk_52_method_21_code 25 = .ok (.ireturn, 1) := by decide +kernel
theorem dci4_2_26 : decode jdk_52_method_21_code 26 = .ok (.aload_n 2, 1) := by decide +kernel
theorem dci4_2_27 : decode jdk_52_method_21_code 27 = .ok (.iload_n 3, 1) := by decide +kernel
theorem dci4_2_28 : decode jdk_52_method_21_code 28 = .ok (.iload 6, 2) := by decide +kernel
theorem dci4_2_30 : decode jdk_52_method_21_code 30 = .ok (.i2b, 1) := by decide +kernel
theorem dci4_2_31 : decode jdk_52_method_21_code 31 = .ok (.bastore, 1) := by decide +kernel
theorem dci4_2_32 : decode jdk_52_method_21_code 32 = .ok (.iinc 1 1, 3) := by decide +kernel
theorem dci4_2_35 : decode jdk_52_method_21_code 35 = .ok (.iinc 3 1, 3) := by decide +kernel
theorem dci4_2_38 : decode jdk_52_method_21_code 38 = .ok (.iinc 5 1, 3) := by decide +kernel
theorem dci4_2_41 : decode jdk_52_method_21_code 41 = .ok (.goto (-38), 3) := by decide +kernel
theorem pn_ci4_2 : plainName "java/lang/StringUTF16" = true := by first | (simp [plainName, overriddenIn]; done) | decide +kernel
theorem ef_ci4_2 (m : MethodId) (x0 : Addr) (x1 : Int32) (x2 : Addr) (x3 : Int32) (x4 : Int32) : entryFrame m #[(.ref x0), (.int x1), (.ref x2), (.int x3), (.int x4)] 7 = mkF m 0 #[.val (.ref x0), .val (.int x1), .val (.ref x2), .val (.int x3), .val (.int x4), .unset, .unset] [] := by first | (simp [entryFrame, mkF, argsToLocals, Value.category]; done) | rfl
def Qci4_2 (Z : State) (a1 : Addr) (a2 : Addr) (k1 : ClassId) (k2 : ClassId) (c0 : Int32) (c1 : Int32) (c2 : Int32) (c3 : Int32) (h0 : Heap) (n0 : Nat) (v : Option Value) (h : Heap) (L : List Loc) : Prop := v = some (.int (2 : Int32)) ∧ Fr n0 L ∧ Keep h0 h [a2] ∧ Arv Z h a2 k2 .byte (4 : Int32) [.int (c0.toInt8.toInt32), .int (c1.toInt8.toInt32), .int 0, .int 0] (.int 0)
set_option maxRecDepth 65536 in
set_option maxHeartbeats 40000000 in
theorem rmci4_2 (l : Launch) (Z : State) (a0 : Array Value) (hw : ∀ d ∈ tables_1, d.before a0 Z = true) (ws : List Jvm.Cond) (a1 : Addr) (a2 : Addr) (k1 : ClassId) (k2 : ClassId) (c0 : Int32) (c1 : Int32) (c2 : Int32) (c3 : Int32) (h0 : Heap) (n0 : Nat) (Z0 : n0 ≤ h0.size) (F0 : Arv Z h0 a1 k1 .char (4 : Int32) [.int c0, .int c1, .int c2, .int c3] (.int 0)) (F1 : Arv Z h0 a2 k2 .byte (4 : Int32) [.int 0, .int 0, .int 0, .int 0] (.int 0)) (ge_a2 : n0 ≤ a2) (hne : a1 ≠ a2) (hc_c0 : ¬ ((255 : Int32) < c0)) (hc_c1 : ¬ ((255 : Int32) < c1)) (hc_c2 : (255 : Int32) < c2) :
    MetFree l (⟨"java/lang/StringUTF16", "compress", "([CI[BII)I"⟩ : MethodName) (head1 (Jvm.Cond.code (⟨"java/lang/StringUTF16", "compress", "([CI[BII)I"⟩ : MethodName) jdk_52_method_21_code 7 (some .int) :: ws) ({ frames := 0, cells := 0, slots := 0, locals := 0 } : Room)) (fun a U => a = #[(.ref a1), (.int (0 : Int32)), (.ref a2), (.int (0 : Int32)), (.int (4 : Int32))] ∧ Z.Warmed39 U.vm ∧ U.heap = h0) (fun _ _ _ _ _ => True) (fun _ U o U' => ∃ v L, o = .returned v ∧ Qci4_2 Z a1 a2 k1 k2 c0 c1 c2 c3 h0 n0 v U'.heap L ∧ FrameEnd U o U' L ({ frames := 0, cells := 0, slots := 0, locals := 0 } : Room).cells ({ frames := 0, cells := 0, slots := 0, locals := 0 } : Room).slots) := by
  refine MetFree.of_bodySF (plainFor_of_name pn_ci4_2) hisR ?_
  intro p e s m args below meth c s₁ Bd hml0 hP hK
  obtain ⟨rfl, hZ, hh⟩ := hP
  have hx := Bd.exec
  have hby := Bd.bytes
  have hml : c.maxLocals = 7 := hml0
  have hown : s.vm.findClass "java/lang/StringUTF16" = some m.cls := findClass_of_methodNamed Bd.named
  have hnm := (name_of_methodNamed Bd.named Bd.method).1
  have X0 : Stand p l e ({ frames := 0, cells := 0, slots := 0, locals := 0 } : Room) s m #[(.ref a1), (.int (0 : Int32)), (.ref a2), (.int (0 : Int32)), (.int (4 : Int32))] below meth c s₁ [] 0 0 := Stand.of_body Bd
  have e0 : s₁.heap = h0 := by rw [← hh, Bd.state]; rfl
  have N0 := Fr.nil n0
  show own_R p.tables e below (own_P s (Qci4_2 Z a1 a2 k1 k2 c0 c1 c2 c3 h0 n0) ({ frames := 0, cells := 0, slots := 0, locals := 0 } : Room).cells ({ frames := 0, cells := 0, slots := 0, locals := 0 } : Room).slots) (s₁.setTop (entryFrame m #[(.ref a1), (.int (0 : Int32)), (.ref a2), (.int (0 : Int32)), (.int (4 : Int32))] 7))
  refine own_f s₁ (mkF m 0 #[.val (.ref a1), .val (.int (0 : Int32)), .val (.ref a2), .val (.int (0 : Int32)), .val (.int (4 : Int32)), .unset, .unset] []) (fun t k => castTop (ef_ci4_2 m a1 (0 : Int32) a2 (0 : Int32) (4 : Int32)) k) ?_
  refine own_f s₁ (mkF m 1 #[.val (.ref a1), .val (.int (0 : Int32)), .val (.ref a2), .val (.int (0 : Int32)), .val (.int (4 : Int32)), .unset, .unset] [(.int (0 : Int32))]) (fun t k => XT.iconstV X0.here hx rfl (0 : Int32) (hb hby dci4_2_0) (by decide) k) ?_
  refine own_f s₁ (mkF m 3 #[.val (.ref a1), .val (.int (0 : Int32)), .val (.ref a2), .val (.int (0 : Int32)), .val (.int (4 : Int32)), .val (.int (0 : Int32)), .unset] []) (fun t k => XS.istore X0.here hx rfl (hb hby dci4_2_1) rfl (l' := #[.val (.ref a1), .val (.int (0 : Int32)), .val (.ref a2), .val (.int (0 : Int32)), .val (.int (4 : Int32)), .val (.int (0 : Int32)), .unset]) rfl k) ?_
  refine own_f s₁ (mkF m 5 #[.val (.ref a1), .val (.int (0 : Int32)), .val (.ref a2), .val (.int (0 : Int32)), .val (.int (4 : Int32)), .val (.int (0 : Int32)), .unset] [(.int (0 : Int32))]) (fun t k => XS.iload X0.here hx rfl (hb hby dci4_2_3) rfl k) ?_
  refine own_f s₁ (mkF m 7 #[.val (.ref a1), .val (.int (0 : Int32)), .val (.ref a2), .val (.int (0 : Int32)), .val (.int (4 : Int32)), .val (.int (0 : Int32)), .unset] [(.int (4 : Int32)), (.int (0 : Int32))]) (fun t k => XS.iload X0.here hx rfl (hb hby dci4_2_5) rfl k) ?_
  refine own_f s₁ (mkF m 10 #[.val (.ref a1), .val (.int (0 : Int32)), .val (.ref a2), .val (.int (0 : Int32)), .val (.int (4 : Int32)), .val (.int (0 : Int32)), .unset] []) (fun t k => XS.icmpNo X0.here hx rfl (hb hby dci4_2_7) rfl (XT.ii_ge_f (by decide)) k) ?_
  refine own_f s₁ (mkF m 11 #[.val (.ref a1), .val (.int (0 : Int32)), .val (.ref a2), .val (.int (0 : Int32)), .val (.int (4 : Int32)), .val (.int (0 : Int32)), .unset] [(.ref a1)]) (fun t k => XS.aloadN X0.here hx rfl (hb hby dci4_2_10) rfl rfl k) ?_
  refine own_f s₁ (mkF m 12 #[.val (.ref a1), .val (.int (0 : Int32)), .val (.ref a2), .val (.int (0 : Int32)), .val (.int (4 : Int32)), .val (.int (0 : Int32)), .unset] [(.int (0 : Int32)), (.ref a1)]) (fun t k => XS.iloadN X0.here hx rfl (hb hby dci4_2_11) rfl k) ?_
  obtain ⟨cl1, Ar1, q11, Sz1, q31, Hs1, Gs1⟩ := id F0
  have hi1 := inb_of (j := (0 : Int32)) Sz1 ⟨by decide, by decide⟩
  refine own_f s₁ (mkF m 13 #[.val (.ref a1), .val (.int (0 : Int32)), .val (.ref a2), .val (.int (0 : Int32)), .val (.int (4 : Int32)), .val (.int (0 : Int32)), .unset] [(.int c0)]) (fun t k => X0.caload hx (j := (0 : Int32)) (v := (.int c0)) (by rw [e0]; exact Ar1.1) (State.isArrayOf_alike hZ.alike Ar1.2.1) Ar1.2.2 hi1 (Has.at Hs1 hi1 rfl) (g := (mkF m 12 #[.val (.ref a1), .val (.int (0 : Int32)), .val (.ref a2), .val (.int (0 : Int32)), .val (.int (4 : Int32)), .val (.int (0 : Int32)), .unset] [(.int (0 : Int32)), (.ref a1)])) rfl rfl (hb hby dci4_2_12) t k) ?_
  refine own_f s₁ (mkF m 15 #[.val (.ref a1), .val (.int (0 : Int32)), .val (.ref a2), .val (.int (0 : Int32)), .val (.int (4 : Int32)), .val (.int (0 : Int32)), .val (.int c0)] []) (fun t k => XS.istore X0.here hx rfl (hb hby dci4_2_13) rfl (l' := #[.val (.ref a1), .val (.int (0 : Int32)), .val (.ref a2), .val (.int (0 : Int32)), .val (.int (4 : Int32)), .val (.int (0 : Int32)), .val (.int c0)]) rfl k) ?_
  refine own_f s₁ (mkF m 17 #[.val (.ref a1), .val (.int (0 : Int32)), .val (.ref a2), .val (.int (0 : Int32)), .val (.int (4 : Int32)), .val (.int (0 : Int32)), .val (.int c0)] [(.int c0)]) (fun t k => XS.iload X0.here hx rfl (hb hby dci4_2_15) rfl k) ?_
  refine own_f s₁ (mkF m 20 #[.val (.ref a1), .val (.int (0 : Int32)), .val (.ref a2), .val (.int (0 : Int32)), .val (.int (4 : Int32)), .val (.int (0 : Int32)), .val (.int c0)] [(.int (255 : Int32)), (.int c0)]) (fun t k => XT.sipushV X0.here hx rfl (255 : Int32) (hb hby dci4_2_17) (by decide) k) ?_
  refine own_f s₁ (mkF m 26 #[.val (.ref a1), .val (.int (0 : Int32)), .val (.ref a2), .val (.int (0 : Int32)), .val (.int (4 : Int32)), .val (.int (0 : Int32)), .val (.int c0)] []) (fun t k => XS.icmpYes X0.here hx rfl (pc0 := 20) (pc' := 26) rfl (hb hby dci4_2_20) rfl (XT.ii_le_t hc_c0) (by decide) (by decide) k) ?_
  refine own_f s₁ (mkF m 27 #[.val (.ref a1), .val (.int (0 : Int32)), .val (.ref a2), .val (.int (0 : Int32)), .val (.int (4 : Int32)), .val (.int (0 : Int32)), .val (.int c0)] [(.ref a2)]) (fun t k => XS.aloadN X0.here hx rfl (hb hby dci4_2_26) rfl rfl k) ?_
  refine own_f s₁ (mkF m 28 #[.val (.ref a1), .val (.int (0 : Int32)), .val (.ref a2), .val (.int (0 : Int32)), .val (.int (4 : Int32)), .val (.int (0 : Int32)), .val (.int c0)] [(.int (0 : Int32)), (.ref a2)]) (fun t k => XS.iloadN X0.here hx rfl (hb hby dci4_2_27) rfl k) ?_
  refine own_f s₁ (mkF m 30 #[.val (.ref a1), .val (.int (0 : Int32)), .val (.ref a2), .val (.int (0 : Int32)), .val (.int (4 : Int32)), .val (.int (0 : Int32)), .val (.int c0)] [(.int c0), (.int (0 : Int32)), (.ref a2)]) (fun t k => XS.iload X0.here hx rfl (hb hby dci4_2_28) rfl k) ?_
  refine own_f s₁ (mkF m 31 #[.val (.ref a1), .val (.int (0 : Int32)), .val (.ref a2), .val (.int (0 : Int32)), .val (.int (4 : Int32)), .val (.int (0 : Int32)), .val (.int c0)] [(.int (c0.toInt8.toInt32)), (.int (0 : Int32)), (.ref a2)]) (fun t k => XS.i2b X0.here hx rfl (hb hby dci4_2_30) rfl k) ?_
  obtain ⟨cl2, Ar2, q12, Sz2, q32, Hs2, Gs2⟩ := id F1
  obtain ⟨T2, h2, X2, e2, W2, st2⟩ := stB X0 hx hZ e0 Ar2 (j := (0 : Int32)) (inb_of Sz2 ⟨by decide, by decide⟩) (g := (mkF m 31 #[.val (.ref a1), .val (.int (0 : Int32)), .val (.ref a2), .val (.int (0 : Int32)), .val (.int (4 : Int32)), .val (.int (0 : Int32)), .val (.int c0)] [(.int (c0.toInt8.toInt32)), (.int (0 : Int32)), (.ref a2)])) rfl rfl (hb hby dci4_2_31)
  have N2 := Fr.snoc X2 N0 ge_a2
  have Zs2 : n0 ≤ h2.size := by rw [W2.size]; exact Z0
  have K2 : Keep h0 h2 [a2] := (Keep.refl h0 [a2]).wr W2 (Or.inl (by simp))
  have F_3 := F0.other W2 hne
  have F_4 : Arv Z h2 a2 k2 .byte (4 : Int32) [.int (c0.toInt8.toInt32), .int 0, .int 0, .int 0] (.int 0) := Arv.set Ar2 q12 Sz2 q32 Hs2 Gs2 (by rw [← ((own_narB _) : nar .byte (c0.toInt8.toInt32) = (c0.toInt8.toInt32))]; exact own_fitB _) (by rw [((own_narB _) : nar .byte (c0.toInt8.toInt32) = (c0.toInt8.toInt32))] at W2; exact W2) 0 (by decide) (by simp)
  refine own_f T2 (mkF m 32 #[.val (.ref a1), .val (.int (0 : Int32)), .val (.ref a2), .val (.int (0 : Int32)), .val (.int (4 : Int32)), .val (.int (0 : Int32)), .val (.int c0)] []) st2 ?_
  refine own_f T2 (mkF m 35 #[.val (.ref a1), .val (.int ((0 : Int32) + (1 : Int32))), .val (.ref a2), .val (.int (0 : Int32)), .val (.int (4 : Int32)), .val (.int (0 : Int32)), .val (.int c0)] []) (fun t k => XT.iincV X2.here hx rfl (l' := #[.val (.ref a1), .val (.int ((0 : Int32) + (1 : Int32))), .val (.ref a2), .val (.int (0 : Int32)), .val (.int (4 : Int32)), .val (.int (0 : Int32)), .val (.int c0)]) (1 : Int32) (hb hby dci4_2_32) (by decide) rfl rfl k) ?_
  rw [show ((0 : Int32) + (1 : Int32)) = (1 : Int32) from by decide]
  refine own_f T2 (mkF m 38 #[.val (.ref a1), .val (.int (1 : Int32)), .val (.ref a2), .val (.int ((0 : Int32) + (1 : Int32))), .val (.int (4 : Int32)), .val (.int (0 : Int32)), .val (.int c0)] []) (fun t k => XT.iincV X2.here hx rfl (l' := #[.val (.ref a1), .val (.int (1 : Int32)), .val (.ref a2), .val (.int ((0 : Int32) + (1 : Int32))), .val (.int (4 : Int32)), .val (.int (0 : Int32)), .val (.int c0)]) (1 : Int32) (hb hby dci4_2_35) (by decide) rfl rfl k) ?_
  rw [show ((0 : Int32) + (1 : Int32)) = (1 : Int32) from by decide]
  refine own_f T2 (mkF m 41 #[.val (.ref a1), .val (.int (1 : Int32)), .val (.ref a2), .val (.int (1 : Int32)), .val (.int (4 : Int32)), .val (.int ((0 : Int32) + (1 : Int32))), .val (.int c0)] []) (fun t k => XT.iincV X2.here hx rfl (l' := #[.val (.ref a1), .val (.int (1 : Int32)), .val (.ref a2), .val (.int (1 : Int32)), .val (.int (4 : Int32)), .val (.int ((0 : Int32) + (1 : Int32))), .val (.int c0)]) (1 : Int32) (hb hby dci4_2_38) (by decide) rfl rfl k) ?_
  rw [show ((0 : Int32) + (1 : Int32)) = (1 : Int32) from by decide]
  refine own_f T2 (mkF m 3 #[.val (.ref a1), .val (.int (1 : Int32)), .val (.ref a2), .val (.int (1 : Int32)), .val (.int (4 : Int32)), .val (.int (1 : Int32)), .val (.int c0)] []) (fun t k => XS.goto X2.here hx rfl (pc0 := 41) (pc' := 3) rfl (hb hby dci4_2_41) (by decide) (by decide) k) ?_
  refine own_f T2 (mkF m 5 #[.val (.ref a1), .val (.int (1 : Int32)), .val (.ref a2), .val (.int (1 : Int32)), .val (.int (4 : Int32)), .val (.int (1 : Int32)), .val (.int c0)] [(.int (1 : Int32))]) (fun t k => XS.iload X2.here hx rfl (hb hby dci4_2_3) rfl k) ?_
  refine own_f T2 (mkF m 7 #[.val (.ref a1), .val (.int (1 : Int32)), .val (.ref a2), .val (.int (1 : Int32)), .val (.int (4 : Int32)), .val (.int (1 : Int32)), .val (.int c0)] [(.int (4 : Int32)), (.int (1 : Int32))]) (fun t k => XS.iload X2.here hx rfl (hb hby dci4_2_5) rfl k) ?_
  refine own_f T2 (mkF m 10 #[.val (.ref a1), .val (.int (1 : Int32)), .val (.ref a2), .val (.int (1 : Int32)), .val (.int (4 : Int32)), .val (.int (1 : Int32)), .val (.int c0)] []) (fun t k => XS.icmpNo X2.here hx rfl (hb hby dci4_2_7) rfl (XT.ii_ge_f (by decide)) k) ?_
  refine own_f T2 (mkF m 11 #[.val (.ref a1), .val (.int (1 : Int32)), .val (.ref a2), .val (.int (1 : Int32)), .val (.int (4 : Int32)), .val (.int (1 : Int32)), .val (.int c0)] [(.ref a1)]) (fun t k => XS.aloadN X2.here hx rfl (hb hby dci4_2_10) rfl rfl k) ?_
  refine own_f T2 (mkF m 12 #[.val (.ref a1), .val (.int (1 : Int32)), .val (.ref a2), .val (.int (1 : Int32)), .val (.int (4 : Int32)), .val (.int (1 : Int32)), .val (.int c0)] [(.int (1 : Int32)), (.ref a1)]) (fun t k => XS.iloadN X2.here hx rfl (hb hby dci4_2_11) rfl k) ?_
  obtain ⟨cl5, Ar5, q15, Sz5, q35, Hs5, Gs5⟩ := id F_3
  have hi5 := inb_of (j := (1 : Int32)) Sz5 ⟨by decide, by decide⟩
  refine own_f T2 (mkF m 13 #[.val (.ref a1), .val (.int (1 : Int32)), .val (.ref a2), .val (.int (1 : Int32)), .val (.int (4 : Int32)), .val (.int (1 : Int32)), .val (.int c0)] [(.int c1)]) (fun t k => X2.caload hx (j := (1 : Int32)) (v := (.int c1)) (by rw [e2]; exact Ar5.1) (State.isArrayOf_alike hZ.alike Ar5.2.1) Ar5.2.2 hi5 (Has.at Hs5 hi5 rfl) (g := (mkF m 12 #[.val (.ref a1), .val (.int (1 : Int32)), .val (.ref a2), .val (.int (1 : Int32)), .val (.int (4 : Int32)), .val (.int (1 : Int32)), .val (.int c0)] [(.int (1 : Int32)), (.ref a1)])) rfl rfl (hb hby dci4_2_12) t k) ?_
  refine own_f T2 (mkF m 15 #[.val (.ref a1), .val (.int (1 : Int32)), .val (.ref a2), .val (.int (1 : Int32)), .val (.int (4 : Int32)), .val (.int (1 : Int32)), .val (.int c1)] []) (fun t k => XS.istore X2.here hx rfl (hb hby dci4_2_13) rfl (l' := #[.val (.ref a1), .val (.int (1 : Int32)), .val (.ref a2), .val (.int (1 : Int32)), .val (.int (4 : Int32)), .val (.int (1 : Int32)), .val (.int c1)]) rfl k) ?_
  refine own_f T2 (mkF m 17 #[.val (.ref a1), .val (.int (1 : Int32)), .val (.ref a2), .val (.int (1 : Int32)), .val (.int (4 : Int32)), .val (.int (1 : Int32)), .val (.int c1)] [(.int c1)]) (fun t k => XS.iload X2.here hx rfl (hb hby dci4_2_15) rfl k) ?_
  refine own_f T2 (mkF m 20 #[.val (.ref a1), .val (.int (1 : Int32)), .val (.ref a2), .val (.int (1 : Int32)), .val (.int (4 : Int32)), .val (.int (1 : Int32)), .val (.int c1)] [(.int (255 : Int32)), (.int c1)]) (fun t k => XT.sipushV X2.here hx rfl (255 : Int32) (hb hby dci4_2_17) (by decide) k) ?_
  refine own_f T2 (mkF m 26 #[.val (.ref a1), .val (.int (1 : Int32)), .val (.ref a2), .val (.int (1 : Int32)), .val (.int (4 : Int32)), .val (.int (1 : Int32)), .val (.int c1)] []) (fun t k => XS.icmpYes X2.here hx rfl (pc0 := 20) (pc' := 26) rfl (hb hby dci4_2_20) rfl (XT.ii_le_t hc_c1) (by decide) (by decide) k) ?_
  refine own_f T2 (mkF m 27 #[.val (.ref a1), .val (.int (1 : Int32)), .val (.ref a2), .val (.int (1 : Int32)), .val (.int (4 : Int32)), .val (.int (1 : Int32)), .val (.int c1)] [(.ref a2)]) (fun t k => XS.aloadN X2.here hx rfl (hb hby dci4_2_26) rfl rfl k) ?_
  refine own_f T2 (mkF m 28 #[.val (.ref a1), .val (.int (1 : Int32)), .val (.ref a2), .val (.int (1 : Int32)), .val (.int (4 : Int32)), .val (.int (1 : Int32)), .val (.int c1)] [(.int (1 : Int32)), (.ref a2)]) (fun t k => XS.iloadN X2.here hx rfl (hb hby dci4_2_27) rfl k) ?_
  refine own_f T2 (mkF m 30 #[.val (.ref a1), .val (.int (1 : Int32)), .val (.ref a2), .val (.int (1 : Int32)), .val (.int (4 : Int32)), .val (.int (1 : Int32)), .val (.int c1)] [(.int c1), (.int (1 : Int32)), (.ref a2)]) (fun t k => XS.iload X2.here hx rfl (hb hby dci4_2_28) rfl k) ?_
  refine own_f T2 (mkF m 31 #[.val (.ref a1), .val (.int (1 : Int32)), .val (.ref a2), .val (.int (1 : Int32)), .val (.int (4 : Int32)), .val (.int (1 : Int32)), .val (.int c1)] [(.int (c1.toInt8.toInt32)), (.int (1 : Int32)), (.ref a2)]) (fun t k => XS.i2b X2.here hx rfl (hb hby dci4_2_30) rfl k) ?_
  obtain ⟨cl6, Ar6, q16, Sz6, q36, Hs6, Gs6⟩ := id F_4
  obtain ⟨T6, h6, X6, e6, W6, st6⟩ := stB X2 hx hZ e2 Ar6 (j := (1 : Int32)) (inb_of Sz6 ⟨by decide, by decide⟩) (g := (mkF m 31 #[.val (.ref a1), .val (.int (1 : Int32)), .val (.ref a2), .val (.int (1 : Int32)), .val (.int (4 : Int32)), .val (.int (1 : Int32)), .val (.int c1)] [(.int (c1.toInt8.toInt32)), (.int (1 : Int32)), (.ref a2)])) rfl rfl (hb hby dci4_2_31)
  have N6 := Fr.snoc X6 N2 ge_a2
  have Zs6 : n0 ≤ h6.size := by rw [W6.size]; exact Zs2
  have K6 : Keep h0 h6 [a2] := K2.wr W6 (Or.inl (by simp))
  have F_7 := F_3.other W6 hne
  have F_8 : Arv Z h6 a2 k2 .byte (4 : Int32) [.int (c0.toInt8.toInt32), .int (c1.toInt8.toInt32), .int 0, .int 0] (.int 0) := Arv.set Ar6 q16 Sz6 q36 Hs6 Gs6 (by rw [← ((own_narB _) : nar .byte (c1.toInt8.toInt32) = (c1.toInt8.toInt32))]; exact own_fitB _) (by rw [((own_narB _) : nar .byte (c1.toInt8.toInt32) = (c1.toInt8.toInt32))] at W6; exact W6) 1 (by decide) (by simp)
  refine own_f T6 (mkF m 32 #[.val (.ref a1), .val (.int (1 : Int32)), .val (.ref a2), .val (.int (1 : Int32)), .val (.int (4 : Int32)), .val (.int (1 : Int32)), .val (.int c1)] []) st6 ?_
  refine own_f T6 (mkF m 35 #[.val (.ref a1), .val (.int ((1 : Int32) + (1 : Int32))), .val (.ref a2), .val (.int (1 : Int32)), .val (.int (4 : Int32)), .val (.int (1 : Int32)), .val (.int c1)] []) (fun t k => XT.iincV X6.here hx rfl (l' := #[.val (.ref a1), .val (.int ((1 : Int32) + (1 : Int32))), .val (.ref a2), .val (.int (1 : Int32)), .val (.int (4 : Int32)), .val (.int (1 : Int32)), .val (.int c1)]) (1 : Int32) (hb hby dci4_2_32) (by decide) rfl rfl k) ?_
  rw [show ((1 : Int32) + (1 : Int32)) = (2 : Int32) from by decide]
  refine own_f T6 (mkF m 38 #[.val (.ref a1), .val (.int (2 : Int32)), .val (.ref a2), .val (.int ((1 : Int32) + (1 : Int32))), .val (.int (4 : Int32)), .val (.int (1 : Int32)), .val (.int c1)] []) (fun t k => XT.iincV X6.here hx rfl (l' := #[.val (.ref a1), .val (.int (2 : Int32)), .val (.ref a2), .val (.int ((1 : Int32) + (1 : Int32))), .val (.int (4 : Int32)), .val (.int (1 : Int32)), .val (.int c1)]) (1 : Int32) (hb hby dci4_2_35) (by decide) rfl rfl k) ?_
  rw [show ((1 : Int32) + (1 : Int32)) = (2 : Int32) from by decide]
  refine own_f T6 (mkF m 41 #[.val (.ref a1), .val (.int (2 : Int32)), .val (.ref a2), .val (.int (2 : Int32)), .val (.int (4 : Int32)), .val (.int ((1 : Int32) + (1 : Int32))), .val (.int c1)] []) (fun t k => XT.iincV X6.here hx rfl (l' := #[.val (.ref a1), .val (.int (2 : Int32)), .val (.ref a2), .val (.int (2 : Int32)), .val (.int (4 : Int32)), .val (.int ((1 : Int32) + (1 : Int32))), .val (.int c1)]) (1 : Int32) (hb hby dci4_2_38) (by decide) rfl rfl k) ?_
  rw [show ((1 : Int32) + (1 : Int32)) = (2 : Int32) from by decide]
  refine own_f T6 (mkF m 3 #[.val (.ref a1), .val (.int (2 : Int32)), .val (.ref a2), .val (.int (2 : Int32)), .val (.int (4 : Int32)), .val (.int (2 : Int32)), .val (.int c1)] []) (fun t k => XS.goto X6.here hx rfl (pc0 := 41) (pc' := 3) rfl (hb hby dci4_2_41) (by decide) (by decide) k) ?_
  refine own_f T6 (mkF m 5 #[.val (.ref a1), .val (.int (2 : Int32)), .val (.ref a2), .val (.int (2 : Int32)), .val (.int (4 : Int32)), .val (.int (2 : Int32)), .val (.int c1)] [(.int (2 : Int32))]) (fun t k => XS.iload X6.here hx rfl (hb hby dci4_2_3) rfl k) ?_
  refine own_f T6 (mkF m 7 #[.val (.ref a1), .val (.int (2 : Int32)), .val (.ref a2), .val (.int (2 : Int32)), .val (.int (4 : Int32)), .val (.int (2 : Int32)), .val (.int c1)] [(.int (4 : Int32)), (.int (2 : Int32))]) (fun t k => XS.iload X6.here hx rfl (hb hby dci4_2_5) rfl k) ?_
  refine own_f T6 (mkF m 10 #[.val (.ref a1), .val (.int (2 : Int32)), .val (.ref a2), .val (.int (2 : Int32)), .val (.int (4 : Int32)), .val (.int (2 : Int32)), .val (.int c1)] []) (fun t k => XS.icmpNo X6.here hx rfl (hb hby dci4_2_7) rfl (XT.ii_ge_f (by decide)) k) ?_
  refine own_f T6 (mkF m 11 #[.val (.ref a1), .val (.int (2 : Int32)), .val (.ref a2), .val (.int (2 : Int32)), .val (.int (4 : Int32)), .val (.int (2 : Int32)), .val (.int c1)] [(.ref a1)]) (fun t k => XS.aloadN X6.here hx rfl (hb hby dci4_2_10) rfl rfl k) ?_
  refine own_f T6 (mkF m 12 #[.val (.ref a1), .val (.int (2 : Int32)), .val (.ref a2), .val (.int (2 : Int32)), .val (.int (4 : Int32)), .val (.int (2 : Int32)), .val (.int c1)] [(.int (2 : Int32)), (.ref a1)]) (fun t k => XS.iloadN X6.here hx rfl (hb hby dci4_2_11) rfl k) ?_
  obtain ⟨cl9, Ar9, q19, Sz9, q39, Hs9, Gs9⟩ := id F_7
  have hi9 := inb_of (j := (2 : Int32)) Sz9 ⟨by decide, by decide⟩
  refine own_f T6 (mkF m 13 #[.val (.ref a1), .val (.int (2 : Int32)), .val (.ref a2), .val (.int (2 : Int32)), .val (.int (4 : Int32)), .val (.int (2 : Int32)), .val (.int c1)] [(.int c2)]) (fun t k => X6.caload hx (j := (2 : Int32)) (v := (.int c2)) (by rw [e6]; exact Ar9.1) (State.isArrayOf_alike hZ.alike Ar9.2.1) Ar9.2.2 hi9 (Has.at Hs9 hi9 rfl) (g := (mkF m 12 #[.val (.ref a1), .val (.int (2 : Int32)), .val (.ref a2), .val (.int (2 : Int32)), .val (.int (4 : Int32)), .val (.int (2 : Int32)), .val (.int c1)] [(.int (2 : Int32)), (.ref a1)])) rfl rfl (hb hby dci4_2_12) t k) ?_
  refine own_f T6 (mkF m 15 #[.val (.ref a1), .val (.int (2 : Int32)), .val (.ref a2), .val (.int (2 : Int32)), .val (.int (4 : Int32)), .val (.int (2 : Int32)), .val (.int c2)] []) (fun t k => XS.istore X6.here hx rfl (hb hby dci4_2_13) rfl (l' := #[.val (.ref a1), .val (.int (2 : Int32)), .val (.ref a2), .val (.int (2 : Int32)), .val (.int (4 : Int32)), .val (.int (2 : Int32)), .val (.int c2)]) rfl k) ?_
  refine own_f T6 (mkF m 17 #[.val (.ref a1), .val (.int (2 : Int32)), .val (.ref a2), .val (.int (2 : Int32)), .val (.int (4 : Int32)), .val (.int (2 : Int32)), .val (.int c2)] [(.int c2)]) (fun t k => XS.iload X6.here hx rfl (hb hby dci4_2_15) rfl k) ?_
  refine own_f T6 (mkF m 20 #[.val (.ref a1), .val (.int (2 : Int32)), .val (.ref a2), .val (.int (2 : Int32)), .val (.int (4 : Int32)), .val (.int (2 : Int32)), .val (.int c2)] [(.int (255 : Int32)), (.int c2)]) (fun t k => XT.sipushV X6.here hx rfl (255 : Int32) (hb hby dci4_2_17) (by decide) k) ?_
  refine own_f T6 (mkF m 23 #[.val (.ref a1), .val (.int (2 : Int32)), .val (.ref a2), .val (.int (2 : Int32)), .val (.int (4 : Int32)), .val (.int (2 : Int32)), .val (.int c2)] []) (fun t k => XS.icmpNo X6.here hx rfl (hb hby dci4_2_20) rfl (XT.ii_le_f hc_c2) k) ?_
  refine own_f T6 (mkF m 25 #[.val (.ref a1), .val (.int (2 : Int32)), .val (.ref a2), .val (.int (2 : Int32)), .val (.int (4 : Int32)), .val (.int (2 : Int32)), .val (.int c2)] [(.int (2 : Int32))]) (fun t k => XS.iload X6.here hx rfl (hb hby dci4_2_23) rfl k) ?_
  obtain ⟨fs, hr, hrun, hended, hW, hsame⟩ := X6.leave (v := some (.int (2 : Int32))) (fun h => by rw [Bd.returns] at h; cases h)
  refine ⟨_, _, retI X6 hx Bd.returns (hb hby dci4_2_25) hr, hrun, hended, _, _, rfl, ?_, ⟨_, rfl⟩, hW, hsame.mono (by decide) (by decide)⟩
  show Qci4_2 Z a1 a2 k1 k2 c0 c1 c2 c3 h0 n0 _ T6.heap _
  rw [e6]
  exact ⟨rfl, N6, K6, F_8⟩
theorem dgc4_2_0 : decode jdk_52_method_5_code 0 = .ok (.getstatic 44, 3) := by decide +kernel
theorem dgc4_2_3 : decode jdk_52_method_5_code 3 = .ok (.ifCond .ne 25, 3) := by decide +kernel
theorem dgc4_2_28 : decode jdk_52_method_5_code 28 = .ok (.iload_n 1, 1) := by decide +kernel
theorem dgc4_2_29 : decode jdk_52_method_5_code 29 = .ok (.iconst 1, 1) := by decide +kernel
theorem dgc4_2_30 : decode jdk_52_method_5_code 30 = .ok (.ishl, 1) := by decide +kernel
theorem dgc4_2_31 : decode jdk_52_method_5_code 31 = .ok (.istore_n 1, 1) := by decide +kernel
theorem dgc4_2_32 : decode jdk_52_method_5_code 32 = .ok (.aload_n 0, 1) := by decide +kernel
theorem dgc4_2_33 : decode jdk_52_method_5_code 33 = .ok (.iload_n 1, 1) := by decide +kernel
theorem dgc4_2_34 : decode jdk_52_method_5_code 34 = .ok (.iinc 1 1, 3) := by decide +kernel
theorem dgc4_2_37 : decode jdk_52_method_5_code 37 = .ok (.baload, 1) := by decide +kernel
theorem dgc4_2_38 : decode jdk_52_method_5_code 38 = .ok (.sipush 255, 3) := by decide +kernel
theorem dgc4_2_41 : decode jdk_52_method_5_code 41 = .ok (.iand, 1) := by decide +kernel
theorem dgc4_2_42 : decode jdk_52_method_5_code 42 = .ok (.getstatic 59, 3) := by decide +kernel
theorem dgc4_2_45 : decode jdk_52_method_5_code 45 = .ok (.ishl, 1) := by decide +kernel
theorem dgc4_2_46 : decode jdk_52_method_5_code 46 = .ok (.aload_n 0, 1) := by decide +kernel
theorem dgc4_2_47 : decode jdk_52_method_5_code 47 = .ok (.iload_n 1, 1) := by decide +kernel
theorem dgc4_2_48 : decode jdk_52_method_5_code 48 = .ok (.baload, 1) := by decide +kernel
theorem dgc4_2_49 : decode jdk_52_method_5_code 49 = .ok (.sipush 255, 3) := by decide +kernel
theorem dgc4_2_52 : decode jdk_52_method_5_code 52 = .ok (.iand, 1) := by decide +kernel
theorem dgc4_2_53 : decode jdk_52_method_5_code 53 = .ok (.getstatic 63, 3) := by decide +kernel
theorem dgc4_2_56 : decode jdk_52_method_5_code 56 = .ok (.ishl, 1) := by decide +kernel
theorem dgc4_2_57 : decode jdk_52_method_5_code 57 = .ok (.ior, 1) := by decide +kernel
theorem dgc4_2_58 : decode jdk_52_method_5_code 58 = .ok (.i2c, 1) := by decide +kernel
theorem dgc4_2_59 : decode jdk_52_method_5_code 59 = .ok (.ireturn, 1) := by decide +kernel
theorem pn_gc4_2 : plainName "java/lang/StringUTF16" = true := by first | (simp [plainName, overriddenIn]; done) | decide +kernel
theorem ef_gc4_2 (m : MethodId) (x0 : Addr) (x1 : Int32) : entryFrame m #[(.ref x0), (.int x1)] 2 = mkF m 0 #[.val (.ref x0), .val (.int x1)] [] := by first | (simp [entryFrame, mkF, argsToLocals, Value.category]; done) | rfl
def Qgc4_2 (Z : State) (a1 : Addr) (k1 : ClassId) (c0 : Int32) (c1 : Int32) (c2 : Int32) (c3 : Int32) (h0 : Heap) (n0 : Nat) (v : Option Value) (h : Heap) (L : List Loc) : Prop := v = some (.int c2) ∧ Fr n0 L ∧ h = h0
set_option maxRecDepth 65536 in
set_option maxHeartbeats 40000000 in
theorem rmgc4_2 (l : Launch) (Z : State) (a0 : Array Value) (hw : ∀ d ∈ tables_1, d.before a0 Z = true) (ws : List Jvm.Cond) (a1 : Addr) (k1 : ClassId) (c0 : Int32) (c1 : Int32) (c2 : Int32) (c3 : Int32) (h0 : Heap) (n0 : Nat) (Z0 : n0 ≤ h0.size) (F0 : Old Z n0 h0) (F1 : Arv Z h0 a1 k1 .byte (8 : Int32) [.int ((c0 >>> ((0 : Int32) &&& 31)).toInt8.toInt32), .int ((c0 >>> ((8 : Int32) &&& 31)).toInt8.toInt32), .int ((c1 >>> ((0 : Int32) &&& 31)).toInt8.toInt32), .int ((c1 >>> ((8 : Int32) &&& 31)).toInt8.toInt32), .int ((c2 >>> ((0 : Int32) &&& 31)).toInt8.toInt32), .int ((c2 >>> ((8 : Int32) &&& 31)).toInt8.toInt32), .int ((c3 >>> ((0 : Int32) &&& 31)).toInt8.toInt32), .int ((c3 >>> ((8 : Int32) &&& 31)).toInt8.toInt32)] (.int 0)) (SH : Sta Z Z.heap "java/lang/StringUTF16" "HI_BYTE_SHIFT" "I" (.int (0 : Int32))) (SL : Sta Z Z.heap "java/lang/StringUTF16" "LO_BYTE_SHIFT" "I" (.int (8 : Int32))) (SA : Sta Z Z.heap "java/lang/StringUTF16" "$assertionsDisabled" "Z" (.int (1 : Int32))) (hw_c2 : own_W c2) :
    MetFree l (⟨"java/lang/StringUTF16", "getChar", "([BI)C"⟩ : MethodName) (head1 (Jvm.Cond.code (⟨"java/lang/StringUTF16", "getChar", "([BI)C"⟩ : MethodName) jdk_52_method_5_code 2 (some .char) :: ws) ({ frames := 0, cells := 0, slots := 0, locals := 0 } : Room)) (fun a U => a = #[(.ref a1), (.int (2 : Int32))] ∧ Z.Warmed39 U.vm ∧ U.heap = h0) (fun _ _ _ _ _ => True) (fun _ U o U' => ∃ v L, o = .returned v ∧ Qgc4_2 Z a1 k1 c0 c1 c2 c3 h0 n0 v U'.heap L ∧ FrameEnd U o U' L ({ frames := 0, cells := 0, slots := 0, locals := 0 } : Room).cells ({ frames := 0, cells := 0, slots := 0, locals := 0 } : Room).slots) := by
  refine MetFree.of_bodySF (plainFor_of_name pn_gc4_2) hisR ?_
  intro p e s m args below meth c s₁ Bd hml0 hP hK
  obtain ⟨rfl, hZ, hh⟩ := hP
  have hx := Bd.exec
  have hby := Bd.bytes
  have hml : c.maxLocals = 2 := hml0
  have hown : s.vm.findClass "java/lang/StringUTF16" = some m.cls := findClass_of_methodNamed Bd.named
  have hnm := (name_of_methodNamed Bd.named Bd.method).1
  have X0 : Stand p l e ({ frames := 0, cells := 0, slots := 0, locals := 0 } : Room) s m #[(.ref a1), (.int (2 : Int32))] below meth c s₁ [] 0 0 := Stand.of_body Bd
  have e0 : s₁.heap = h0 := by rw [← hh, Bd.state]; rfl
  have N0 := Fr.nil n0
  show own_R p.tables e below (own_P s (Qgc4_2 Z a1 k1 c0 c1 c2 c3 h0 n0) ({ frames := 0, cells := 0, slots := 0, locals := 0 } : Room).cells ({ frames := 0, cells := 0, slots := 0, locals := 0 } : Room).slots) (s₁.setTop (entryFrame m #[(.ref a1), (.int (2 : Int32))] 2))
  refine own_f s₁ (mkF m 0 #[.val (.ref a1), .val (.int (2 : Int32))] []) (fun t k => castTop (ef_gc4_2 m a1 (2 : Int32)) k) ?_
  have S1 : Sta Z h0 "java/lang/StringUTF16" "$assertionsDisabled" "Z" (.int (1 : Int32)) := SA.ext F0.2
  obtain ⟨T1, X1, e1, st1⟩ := getS X0 hx hZ (host := "") hown (own_w hw 154 rfl) Via.refl e0 S1 (g := (mkF m 0 #[.val (.ref a1), .val (.int (2 : Int32))] [])) rfl (hb hby dgc4_2_0)
  refine own_f T1 (mkF m 3 #[.val (.ref a1), .val (.int (2 : Int32))] [(.int (1 : Int32))]) st1 ?_
  refine own_f T1 (mkF m 28 #[.val (.ref a1), .val (.int (2 : Int32))] []) (fun t k => XS.ifYes X1.here hx rfl (pc0 := 3) (pc' := 28) rfl (hb hby dgc4_2_3) rfl (XT.i0_ne_t (by decide)) (by decide) (by decide) k) ?_
  refine own_f T1 (mkF m 29 #[.val (.ref a1), .val (.int (2 : Int32))] [(.int (2 : Int32))]) (fun t k => XS.iloadN X1.here hx rfl (hb hby dgc4_2_28) rfl k) ?_
  refine own_f T1 (mkF m 30 #[.val (.ref a1), .val (.int (2 : Int32))] [(.int (1 : Int32)), (.int (2 : Int32))]) (fun t k => XT.iconstV X1.here hx rfl (1 : Int32) (hb hby dgc4_2_29) (by decide) k) ?_
  refine own_f T1 (mkF m 31 #[.val (.ref a1), .val (.int (2 : Int32))] [(.int ((2 : Int32) <<< ((1 : Int32) &&& 31)))]) (fun t k => XS.ishl X1.here hx rfl (hb hby dgc4_2_30) rfl k) ?_
  rw [show ((2 : Int32) <<< ((1 : Int32) &&& 31)) = (4 : Int32) from by decide]
  refine own_f T1 (mkF m 32 #[.val (.ref a1), .val (.int (4 : Int32))] []) (fun t k => XS.istoreN X1.here hx rfl (hb hby dgc4_2_31) rfl (l' := #[.val (.ref a1), .val (.int (4 : Int32))]) rfl k) ?_
  refine own_f T1 (mkF m 33 #[.val (.ref a1), .val (.int (4 : Int32))] [(.ref a1)]) (fun t k => XS.aloadN X1.here hx rfl (hb hby dgc4_2_32) rfl rfl k) ?_
  refine own_f T1 (mkF m 34 #[.val (.ref a1), .val (.int (4 : Int32))] [(.int (4 : Int32)), (.ref a1)]) (fun t k => XS.iloadN X1.here hx rfl (hb hby dgc4_2_33) rfl k) ?_
  refine own_f T1 (mkF m 37 #[.val (.ref a1), .val (.int ((4 : Int32) + (1 : Int32)))] [(.int (4 : Int32)), (.ref a1)]) (fun t k => XT.iincV X1.here hx rfl (l' := #[.val (.ref a1), .val (.int ((4 : Int32) + (1 : Int32)))]) (1 : Int32) (hb hby dgc4_2_34) (by decide) rfl rfl k) ?_
  rw [show ((4 : Int32) + (1 : Int32)) = (5 : Int32) from by decide]
  obtain ⟨cl2, Ar2, q12, Sz2, q32, Hs2, Gs2⟩ := id F1
  have hi2 := inb_of (j := (4 : Int32)) Sz2 ⟨by decide, by decide⟩
  refine own_f T1 (mkF m 38 #[.val (.ref a1), .val (.int (5 : Int32))] [(.int ((c2 >>> ((0 : Int32) &&& 31)).toInt8.toInt32))]) (fun t k => X1.baloadBytes hx (j := (4 : Int32)) (v := (.int ((c2 >>> ((0 : Int32) &&& 31)).toInt8.toInt32))) (by rw [e1]; exact Ar2.1) (State.isArrayOf_alike hZ.alike Ar2.2.1) Ar2.2.2 hi2 (Has.at Hs2 hi2 rfl) (g := (mkF m 37 #[.val (.ref a1), .val (.int (5 : Int32))] [(.int (4 : Int32)), (.ref a1)])) rfl rfl (hb hby dgc4_2_37) t k) ?_
  refine own_f T1 (mkF m 41 #[.val (.ref a1), .val (.int (5 : Int32))] [(.int (255 : Int32)), (.int ((c2 >>> ((0 : Int32) &&& 31)).toInt8.toInt32))]) (fun t k => XT.sipushV X1.here hx rfl (255 : Int32) (hb hby dgc4_2_38) (by decide) k) ?_
  refine own_f T1 (mkF m 42 #[.val (.ref a1), .val (.int (5 : Int32))] [(.int (((c2 >>> ((0 : Int32) &&& 31)).toInt8.toInt32) &&& (255 : Int32)))]) (fun t k => XS.iand X1.here hx rfl (hb hby dgc4_2_41) rfl k) ?_
  have S3 : Sta Z h0 "java/lang/StringUTF16" "HI_BYTE_SHIFT" "I" (.int (0 : Int32)) := SH.ext F0.2
  obtain ⟨T3, X3, e3, st3⟩ := getS X1 hx hZ (host := "") hown (own_w hw 155 rfl) Via.refl e1 S3 (g := (mkF m 42 #[.val (.ref a1), .val (.int (5 : Int32))] [(.int (((c2 >>> ((0 : Int32) &&& 31)).toInt8.toInt32) &&& (255 : Int32)))])) rfl (hb hby dgc4_2_42)
  refine own_f T3 (mkF m 45 #[.val (.ref a1), .val (.int (5 : Int32))] [(.int (0 : Int32)), (.int (((c2 >>> ((0 : Int32) &&& 31)).toInt8.toInt32) &&& (255 : Int32)))]) st3 ?_
  refine own_f T3 (mkF m 46 #[.val (.ref a1), .val (.int (5 : Int32))] [(.int ((((c2 >>> ((0 : Int32) &&& 31)).toInt8.toInt32) &&& (255 : Int32)) <<< ((0 : Int32) &&& 31)))]) (fun t k => XS.ishl X3.here hx rfl (hb hby dgc4_2_45) rfl k) ?_
  refine own_f T3 (mkF m 47 #[.val (.ref a1), .val (.int (5 : Int32))] [(.ref a1), (.int ((((c2 >>> ((0 : Int32) &&& 31)).toInt8.toInt32) &&& (255 : Int32)) <<< ((0 : Int32) &&& 31)))]) (fun t k => XS.aloadN X3.here hx rfl (hb hby dgc4_2_46) rfl rfl k) ?_
  refine own_f T3 (mkF m 48 #[.val (.ref a1), .val (.int (5 : Int32))] [(.int (5 : Int32)), (.ref a1), (.int ((((c2 >>> ((0 : Int32) &&& 31)).toInt8.toInt32) &&& (255 : Int32)) <<< ((0 : Int32) &&& 31)))]) (fun t k => XS.iloadN X3.here hx rfl (hb hby dgc4_2_47) rfl k) ?_
  obtain ⟨cl4, Ar4, q14, Sz4, q34, Hs4, Gs4⟩ := id F1
  have hi4 := inb_of (j := (5 : Int32)) Sz4 ⟨by decide, by decide⟩
  refine own_f T3 (mkF m 49 #[.val (.ref a1), .val (.int (5 : Int32))] [(.int ((c2 >>> ((8 : Int32) &&& 31)).toInt8.toInt32)), (.int ((((c2 >>> ((0 : Int32) &&& 31)).toInt8.toInt32) &&& (255 : Int32)) <<< ((0 : Int32) &&& 31)))]) (fun t k => X3.baloadBytes hx (j := (5 : Int32)) (v := (.int ((c2 >>> ((8 : Int32) &&& 31)).toInt8.toInt32))) (by rw [e3]; exact Ar4.1) (State.isArrayOf_alike hZ.alike Ar4.2.1) Ar4.2.2 hi4 (Has.at Hs4 hi4 rfl) (g := (mkF m 48 #[.val (.ref a1), .val (.int (5 : Int32))] [(.int (5 : Int32)), (.ref a1), (.int ((((c2 >>> ((0 : Int32) &&& 31)).toInt8.toInt32) &&& (255 : Int32)) <<< ((0 : Int32) &&& 31)))])) rfl rfl (hb hby dgc4_2_48) t k) ?_
  refine own_f T3 (mkF m 52 #[.val (.ref a1), .val (.int (5 : Int32))] [(.int (255 : Int32)), (.int ((c2 >>> ((8 : Int32) &&& 31)).toInt8.toInt32)), (.int ((((c2 >>> ((0 : Int32) &&& 31)).toInt8.toInt32) &&& (255 : Int32)) <<< ((0 : Int32) &&& 31)))]) (fun t k => XT.sipushV X3.here hx rfl (255 : Int32) (hb hby dgc4_2_49) (by decide) k) ?_
  refine own_f T3 (mkF m 53 #[.val (.ref a1), .val (.int (5 : Int32))] [(.int (((c2 >>> ((8 : Int32) &&& 31)).toInt8.toInt32) &&& (255 : Int32))), (.int ((((c2 >>> ((0 : Int32) &&& 31)).toInt8.toInt32) &&& (255 : Int32)) <<< ((0 : Int32) &&& 31)))]) (fun t k => XS.iand X3.here hx rfl (hb hby dgc4_2_52) rfl k) ?_
  have S5 : Sta Z h0 "java/lang/StringUTF16" "LO_BYTE_SHIFT" "I" (.int (8 : Int32)) := SL.ext F0.2
  obtain ⟨T5, X5, e5, st5⟩ := getS X3 hx hZ (host := "") hown (own_w hw 156 rfl) Via.refl e3 S5 (g := (mkF m 53 #[.val (.ref a1), .val (.int (5 : Int32))] [(.int (((c2 >>> ((8 : Int32) &&& 31)).toInt8.toInt32) &&& (255 : Int32))), (.int ((((c2 >>> ((0 : Int32) &&& 31)).toInt8.toInt32) &&& (255 : Int32)) <<< ((0 : Int32) &&& 31)))])) rfl (hb hby dgc4_2_53)
  refine own_f T5 (mkF m 56 #[.val (.ref a1), .val (.int (5 : Int32))] [(.int (8 : Int32)), (.int (((c2 >>> ((8 : Int32) &&& 31)).toInt8.toInt32) &&& (255 : Int32))), (.int ((((c2 >>> ((0 : Int32) &&& 31)).toInt8.toInt32) &&& (255 : Int32)) <<< ((0 : Int32) &&& 31)))]) st5 ?_
  refine own_f T5 (mkF m 57 #[.val (.ref a1), .val (.int (5 : Int32))] [(.int ((((c2 >>> ((8 : Int32) &&& 31)).toInt8.toInt32) &&& (255 : Int32)) <<< ((8 : Int32) &&& 31))), (.int ((((c2 >>> ((0 : Int32) &&& 31)).toInt8.toInt32) &&& (255 : Int32)) <<< ((0 : Int32) &&& 31)))]) (fun t k => XS.ishl X5.here hx rfl (hb hby dgc4_2_56) rfl k) ?_
  refine own_f T5 (mkF m 58 #[.val (.ref a1), .val (.int (5 : Int32))] [(.int (((((c2 >>> ((0 : Int32) &&& 31)).toInt8.toInt32) &&& (255 : Int32)) <<< ((0 : Int32) &&& 31)) ||| ((((c2 >>> ((8 : Int32) &&& 31)).toInt8.toInt32) &&& (255 : Int32)) <<< ((8 : Int32) &&& 31))))]) (fun t k => XS.ior X5.here hx rfl (hb hby dgc4_2_57) rfl k) ?_
  refine own_f T5 (mkF m 59 #[.val (.ref a1), .val (.int (5 : Int32))] [(.int ((((((c2 >>> ((0 : Int32) &&& 31)).toInt8.toInt32) &&& (255 : Int32)) <<< ((0 : Int32) &&& 31)) ||| ((((c2 >>> ((8 : Int32) &&& 31)).toInt8.toInt32) &&& (255 : Int32)) <<< ((8 : Int32) &&& 31))).toUInt32.toUInt16.toUInt32.toInt32))]) (fun t k => XS.i2c X5.here hx rfl (hb hby dgc4_2_58) rfl k) ?_
  obtain ⟨fs, hr, hrun, hended, hW, hsame⟩ := X5.leave (v := some (.int ((((((c2 >>> ((0 : Int32) &&& 31)).toInt8.toInt32) &&& (255 : Int32)) <<< ((0 : Int32) &&& 31)) ||| ((((c2 >>> ((8 : Int32) &&& 31)).toInt8.toInt32) &&& (255 : Int32)) <<< ((8 : Int32) &&& 31))).toUInt32.toUInt16.toUInt32.toInt32))) (fun h => by rw [Bd.returns] at h; cases h)
  refine ⟨_, _, own_retB X5 hx (t := .char) Bd.returns (by simp) (own_narC _) (hb hby dgc4_2_59) hr, hrun, hended, _, _, rfl, ?_, ⟨_, rfl⟩, hW, hsame.mono (by decide) (by decide)⟩
  show Qgc4_2 Z a1 k1 c0 c1 c2 c3 h0 n0 _ T5.heap _
  rw [e5]
  exact ⟨by rw [own_gc hw_c2], N0, rfl⟩
theorem dcb4_2_0 : decode jdk_52_method_16_code 0 = .ok (.iload_n 2, 1) := by decide +kernel
theorem dcb4_2_1 : decode jdk_52_method_16_code 1 = .ok (.newarray .byte, 2) := by decide +kernel
theorem dcb4_2_3 : decode jdk_52_method_16_code 3 = .ok (.astore_n 3, 1) := by decide +kernel
theorem dcb4_2_4 : decode jdk_52_method_16_code 4 = .ok (.aload_n 0, 1) := by decide +kernel
theorem dcb4_2_5 : decode jdk_52_method_16_code 5 = .ok (.iload_n 1, 1) := by decide +kernel
theorem dcb4_2_6 : decode jdk_52_method_16_code 6 = .ok (.aload_n 3, 1) := by decide +kernel
theorem dcb4_2_7 : decode jdk_52_method_16_code 7 = .ok (.iconst 0, 1) := by decide +kernel
theorem dcb4_2_8 : decode jdk_52_method_16_code 8 = .ok (.iload_n 2, 1) := by decide +kernel
theorem dcb4_2_9 : decode jdk_52_method_16_code 9 = .ok (.invokestatic 115, 3) := by decide +kernel
theorem dcb4_2_12 : decode jdk_52_method_16_code 12 = .ok (.istore 4, 2) := by decide +kernel
theorem dcb4_2_14 : decode jdk_52_method_16_code 14 = .ok (.iload 4, 2) := by decide +kernel
theorem dcb4_2_16 : decode jdk_52_method_16_code 16 = .ok (.iload_n 2, 1) := by decide +kernel
theorem dcb4_2_17 : decode jdk_52_method_16_code 17 = .ok (.if_icmp .eq 40, 3) := by decide +kernel
theorem dcb4_2_20 : decode jdk_52_method_16_code 20 = .ok (.aload_n 0, 1) := by decide +kernel
theorem dcb4_2_21 : decode jdk_52_method_16_code 21 = .ok (.iload_n 1, 1) := by decide +kernel
theorem dcb4_2_22 : decode jdk_52_method_16_code 22 = .ok (.iload_n 2, 1) := by decide +kernel
theorem dcb4_2_23 : decode jdk_52_method_16_code 23 = .ok (.invokestatic 119, 3) := by decide +kernel
theorem dcb4_2_26 : decode jdk_52_method_16_code 26 = .ok (.astore 5, 2) := by decide +kernel
theorem dcb4_2_28 : decode jdk_52_method_16_code 28 = .ok (.aload 5, 2) := by decide +kernel
theorem dcb4_2_30 : decode jdk_52_method_16_code 30 = .ok (.iload 4, 2) := by decide +kernel
theorem dcb4_2_32 : decode jdk_52_method_16_code 32 = .ok (.invokestatic 71, 3) := by decide +kernel
theorem dcb4_2_35 : decode jdk_52_method_16_code 35 = .ok (.sipush 255, 3) := by decide +kernel
theorem dcb4_2_38 : decode jdk_52_method_16_code 38 = .ok (.if_icmp .gt 16, 3) := by decide +kernel
theorem dcb4_2_54 : decode jdk_52_method_16_code 54 = .ok (.aload 5, 2) := by decide +kernel
theorem dcb4_2_56 : decode jdk_52_method_16_code 56 = .ok (.areturn, 1) := by decide +kernel
theorem pn_cb4_2 : plainName "java/lang/StringUTF16" = true := by first | (simp [plainName, overriddenIn]; done) | decide +kernel
theorem ef_cb4_2 (m : MethodId) (x0 : Addr) (x1 : Int32) (x2 : Int32) : entryFrame m #[(.ref x0), (.int x1), (.int x2)] 6 = mkF m 0 #[.val (.ref x0), .val (.int x1), .val (.int x2), .unset, .unset, .unset] [] := by first | (simp [entryFrame, mkF, argsToLocals, Value.category]; done) | rfl
def Qcb4_2 (Z : State) (a1 : Addr) (k1 : ClassId) (c0 : Int32) (c1 : Int32) (c2 : Int32) (c3 : Int32) (h0 : Heap) (n0 : Nat) (v : Option Value) (h : Heap) (L : List Loc) : Prop := ∃ (b : Addr) (kb : ClassId), v = some (.ref b) ∧ Fr n0 L ∧ Keep h0 h [] ∧ Arv Z h b kb .byte (8 : Int32) [.int ((c0 >>> ((0 : Int32) &&& 31)).toInt8.toInt32), .int ((c0 >>> ((8 : Int32) &&& 31)).toInt8.toInt32), .int ((c1 >>> ((0 : Int32) &&& 31)).toInt8.toInt32), .int ((c1 >>> ((8 : Int32) &&& 31)).toInt8.toInt32), .int ((c2 >>> ((0 : Int32) &&& 31)).toInt8.toInt32), .int ((c2 >>> ((8 : Int32) &&& 31)).toInt8.toInt32), .int ((c3 >>> ((0 : Int32) &&& 31)).toInt8.toInt32), .int ((c3 >>> ((8 : Int32) &&& 31)).toInt8.toInt32)] (.int 0) ∧ h0.size ≤ b
set_option maxRecDepth 65536 in
set_option maxHeartbeats 40000000 in
theorem rmcb4_2 (l : Launch) (Z : State) (a0 : Array Value) (hw : ∀ d ∈ tables_1, d.before a0 Z = true) (ws : List Jvm.Cond) (a1 : Addr) (k1 : ClassId) (c0 : Int32) (c1 : Int32) (c2 : Int32) (c3 : Int32) (h0 : Heap) (n0 : Nat) (Z0 : n0 ≤ h0.size) (F0 : Old Z n0 h0) (F1 : Arv Z h0 a1 k1 .char (4 : Int32) [.int c0, .int c1, .int c2, .int c3] (.int 0)) (hc_c0 : ¬ ((255 : Int32) < c0)) (hc_c1 : ¬ ((255 : Int32) < c1)) (hc_c2 : (255 : Int32) < c2) (SH : Sta Z Z.heap "java/lang/StringUTF16" "HI_BYTE_SHIFT" "I" (.int (0 : Int32))) (SL : Sta Z Z.heap "java/lang/StringUTF16" "LO_BYTE_SHIFT" "I" (.int (8 : Int32))) (SA : Sta Z Z.heap "java/lang/StringUTF16" "$assertionsDisabled" "Z" (.int (1 : Int32))) (hw_c2 : own_W c2) :
    MetFree l (⟨"java/lang/StringUTF16", "compress", "([CII)[B"⟩ : MethodName) (head1 (Jvm.Cond.code (⟨"java/lang/StringUTF16", "compress", "([CII)[B"⟩ : MethodName) jdk_52_method_16_code 6 (some (.array .byte)) :: ws) ({ frames := 3, cells := 2, slots := 12, locals := 40 } : Room)) (fun a U => a = #[(.ref a1), (.int (0 : Int32)), (.int (4 : Int32))] ∧ Z.Warmed39 U.vm ∧ U.heap = h0) (fun _ _ _ _ _ => True) (fun _ U o U' => ∃ v L, o = .returned v ∧ Qcb4_2 Z a1 k1 c0 c1 c2 c3 h0 n0 v U'.heap L ∧ FrameEnd U o U' L ({ frames := 3, cells := 2, slots := 12, locals := 40 } : Room).cells ({ frames := 3, cells := 2, slots := 12, locals := 40 } : Room).slots) := by
  refine MetFree.of_bodySF (plainFor_of_name pn_cb4_2) hisR ?_
  intro p e s m args below meth c s₁ Bd hml0 hP hK
  obtain ⟨rfl, hZ, hh⟩ := hP
  have hx := Bd.exec
  have hby := Bd.bytes
  have hml : c.maxLocals = 6 := hml0
  have hown : s.vm.findClass "java/lang/StringUTF16" = some m.cls := findClass_of_methodNamed Bd.named
  have hnm := (name_of_methodNamed Bd.named Bd.method).1
  have X0 : Stand p l e ({ frames := 3, cells := 2, slots := 12, locals := 40 } : Room) s m #[(.ref a1), (.int (0 : Int32)), (.int (4 : Int32))] below meth c s₁ [] 0 0 := Stand.of_body Bd
  have e0 : s₁.heap = h0 := by rw [← hh, Bd.state]; rfl
  have N0 := Fr.nil n0
  show own_R p.tables e below (own_P s (Qcb4_2 Z a1 k1 c0 c1 c2 c3 h0 n0) ({ frames := 3, cells := 2, slots := 12, locals := 40 } : Room).cells ({ frames := 3, cells := 2, slots := 12, locals := 40 } : Room).slots) (s₁.setTop (entryFrame m #[(.ref a1), (.int (0 : Int32)), (.int (4 : Int32))] 6))
  refine own_f s₁ (mkF m 0 #[.val (.ref a1), .val (.int (0 : Int32)), .val (.int (4 : Int32)), .unset, .unset, .unset] []) (fun t k => castTop (ef_cb4_2 m a1 (0 : Int32) (4 : Int32)) k) ?_
  refine own_f s₁ (mkF m 1 #[.val (.ref a1), .val (.int (0 : Int32)), .val (.int (4 : Int32)), .unset, .unset, .unset] [(.int (4 : Int32))]) (fun t k => XS.iloadN X0.here hx rfl (hb hby dcb4_2_0) rfl k) ?_
  obtain ⟨T1, h1, kA1, X1, e1, E1, A1, st1⟩ := newP X0 hx hZ (own_w hw 10 rfl) e0 (g := (mkF m 1 #[.val (.ref a1), .val (.int (0 : Int32)), .val (.int (4 : Int32)), .unset, .unset, .unset] [(.int (4 : Int32))])) rfl (hb hby dcb4_2_1) rfl (by decide) (cap := 4) (by decide) (by decide) (by decide) (by decide)
  obtain ⟨b1, g1⟩ : ∃ z, z = h0.size := ⟨_, rfl⟩
  rw [← g1] at A1 st1
  have ne1_a1 : a1 ≠ b1 := by rw [g1]; exact Nat.ne_of_lt F1.lt
  have ge1 : n0 ≤ b1 := by rw [g1]; exact Z0
  have gf1 : h0.size ≤ b1 := by rw [g1]; exact (Keep.refl h0 []).1
  have Zs1 : n0 ≤ h1.size := Nat.le_trans Z0 E1.1
  have F_2 := F0.ext E1
  have F_3 := F1.ext E1
  have K1 : Keep h0 h1 [] := (Keep.refl h0 []).ext E1
  have F_4 : Arv Z h1 b1 kA1 .byte (4 : Int32) [.int 0, .int 0, .int 0, .int 0] (.int 0) := own_arvnew 4 A1 (by decide)
  refine own_f T1 (mkF m 3 #[.val (.ref a1), .val (.int (0 : Int32)), .val (.int (4 : Int32)), .unset, .unset, .unset] [(.ref b1)]) st1 ?_
  refine own_f T1 (mkF m 4 #[.val (.ref a1), .val (.int (0 : Int32)), .val (.int (4 : Int32)), .val (.ref b1), .unset, .unset] []) (fun t k => XS.astoreN X1.here hx rfl (hb hby dcb4_2_3) rfl rfl (l' := #[.val (.ref a1), .val (.int (0 : Int32)), .val (.int (4 : Int32)), .val (.ref b1), .unset, .unset]) rfl k) ?_
  refine own_f T1 (mkF m 5 #[.val (.ref a1), .val (.int (0 : Int32)), .val (.int (4 : Int32)), .val (.ref b1), .unset, .unset] [(.ref a1)]) (fun t k => XS.aloadN X1.here hx rfl (hb hby dcb4_2_4) rfl rfl k) ?_
  refine own_f T1 (mkF m 6 #[.val (.ref a1), .val (.int (0 : Int32)), .val (.int (4 : Int32)), .val (.ref b1), .unset, .unset] [(.int (0 : Int32)), (.ref a1)]) (fun t k => XS.iloadN X1.here hx rfl (hb hby dcb4_2_5) rfl k) ?_
  refine own_f T1 (mkF m 7 #[.val (.ref a1), .val (.int (0 : Int32)), .val (.int (4 : Int32)), .val (.ref b1), .unset, .unset] [(.ref b1), (.int (0 : Int32)), (.ref a1)]) (fun t k => XS.aloadN X1.here hx rfl (hb hby dcb4_2_6) rfl rfl k) ?_
  refine own_f T1 (mkF m 8 #[.val (.ref a1), .val (.int (0 : Int32)), .val (.int (4 : Int32)), .val (.ref b1), .unset, .unset] [(.int (0 : Int32)), (.ref b1), (.int (0 : Int32)), (.ref a1)]) (fun t k => XT.iconstV X1.here hx rfl (0 : Int32) (hb hby dcb4_2_7) (by decide) k) ?_
  refine own_f T1 (mkF m 9 #[.val (.ref a1), .val (.int (0 : Int32)), .val (.int (4 : Int32)), .val (.ref b1), .unset, .unset] [(.int (4 : Int32)), (.int (0 : Int32)), (.ref b1), (.int (0 : Int32)), (.ref a1)]) (fun t k => XS.iloadN X1.here hx rfl (hb hby dcb4_2_8) rfl k) ?_
  obtain ⟨_, _, ⟨T5, Lq5, kq_5, nq_5⟩, -, X5, ⟨Lc5, hQ5, lq5, yq5, zq5⟩, st5⟩ := Jvm.LawKit.callS X1 hx (y := (⟨"java/lang/StringUTF16", "compress", "([CI[BII)I"⟩ : MethodName)) hown (mvT hZ (own_w hw 31 rfl)) (mvT hZ (own_w hw 32 rfl)) (mvT hZ (own_w hw 29 rfl)) (mvT hZ (own_w hw 33 rfl)) (by decide) (backOf (W := 0) (rmci4_2 l Z a0 hw [] a1 b1 _ _ _ _ _ _ h1 n0 Zs1 F_3 F_4 ge1 ne1_a1 hc_c0 hc_c1 hc_c2) hZ (own_w hw 33 rfl) (own_w hw 29 rfl) (by decide) (by decide)) (g := (mkF m 9 #[.val (.ref a1), .val (.int (0 : Int32)), .val (.int (4 : Int32)), .val (.ref b1), .unset, .unset] [(.int (4 : Int32)), (.int (0 : Int32)), (.ref b1), (.int (0 : Int32)), (.ref a1)])) rfl (by rw [hml]; rfl) (argsL := [(.ref a1), (.int (0 : Int32)), (.ref b1), (.int (0 : Int32)), (.int (4 : Int32))]) (rest := []) (lenOf pd__CI_BII_I rfl) rfl (by show 2 * 0 + _ ≤ _; exact Nat.le_of_eq rfl) (hb hby dcb4_2_9) (fun _ _ => ⟨rfl, e1, (by decide : 0 + 1 + 0 ≤ _), (by decide : 0 + 4 + 0 ≤ _)⟩)
  dsimp only [Pt.U, Pt.locs, Pt.cells, Pt.slots] at X5 lq5 yq5 zq5 st5 hQ5
  subst lq5 yq5 zq5
  obtain ⟨h5, e5⟩ : ∃ z, T5.heap = z := ⟨_, rfl⟩
  rw [e5] at hQ5
  unfold Qci4_2 at hQ5
  obtain ⟨rfl, Nq5, qh5, G5_0⟩ := hQ5
  have N5 := Fr.app N0 Nq5
  have Zs5 : n0 ≤ h5.size := Nat.le_trans Zs1 qh5.1
  have F_6 := F_2.keep qh5 (allS ge1 all0)
  have F_7 := F_3.keep qh5 (ninS ne1_a1 nin0)
  have K5 : Keep h0 h5 [] := K1.trans qh5 (allS (Or.inr gf1) all0)
  refine own_f T5 (mkF m 12 #[.val (.ref a1), .val (.int (0 : Int32)), .val (.int (4 : Int32)), .val (.ref b1), .unset, .unset] [(.int (2 : Int32))]) st5 ?_
  refine own_f T5 (mkF m 14 #[.val (.ref a1), .val (.int (0 : Int32)), .val (.int (4 : Int32)), .val (.ref b1), .val (.int (2 : Int32)), .unset] []) (fun t k => XS.istore X5.here hx rfl (hb hby dcb4_2_12) rfl (l' := #[.val (.ref a1), .val (.int (0 : Int32)), .val (.int (4 : Int32)), .val (.ref b1), .val (.int (2 : Int32)), .unset]) rfl k) ?_
  refine own_f T5 (mkF m 16 #[.val (.ref a1), .val (.int (0 : Int32)), .val (.int (4 : Int32)), .val (.ref b1), .val (.int (2 : Int32)), .unset] [(.int (2 : Int32))]) (fun t k => XS.iload X5.here hx rfl (hb hby dcb4_2_14) rfl k) ?_
  refine own_f T5 (mkF m 17 #[.val (.ref a1), .val (.int (0 : Int32)), .val (.int (4 : Int32)), .val (.ref b1), .val (.int (2 : Int32)), .unset] [(.int (4 : Int32)), (.int (2 : Int32))]) (fun t k => XS.iloadN X5.here hx rfl (hb hby dcb4_2_16) rfl k) ?_
  refine own_f T5 (mkF m 20 #[.val (.ref a1), .val (.int (0 : Int32)), .val (.int (4 : Int32)), .val (.ref b1), .val (.int (2 : Int32)), .unset] []) (fun t k => XS.icmpNo X5.here hx rfl (hb hby dcb4_2_17) rfl (XT.ii_eq_f (by decide)) k) ?_
  refine own_f T5 (mkF m 21 #[.val (.ref a1), .val (.int (0 : Int32)), .val (.int (4 : Int32)), .val (.ref b1), .val (.int (2 : Int32)), .unset] [(.ref a1)]) (fun t k => XS.aloadN X5.here hx rfl (hb hby dcb4_2_20) rfl rfl k) ?_
  refine own_f T5 (mkF m 22 #[.val (.ref a1), .val (.int (0 : Int32)), .val (.int (4 : Int32)), .val (.ref b1), .val (.int (2 : Int32)), .unset] [(.int (0 : Int32)), (.ref a1)]) (fun t k => XS.iloadN X5.here hx rfl (hb hby dcb4_2_21) rfl k) ?_
  refine own_f T5 (mkF m 23 #[.val (.ref a1), .val (.int (0 : Int32)), .val (.int (4 : Int32)), .val (.ref b1), .val (.int (2 : Int32)), .unset] [(.int (4 : Int32)), (.int (0 : Int32)), (.ref a1)]) (fun t k => XS.iloadN X5.here hx rfl (hb hby dcb4_2_22) rfl k) ?_
  obtain ⟨_, _, ⟨T8, Lq8, kq_8, nq_8⟩, -, X8, ⟨Lc8, hQ8, lq8, yq8, zq8⟩, st8⟩ := Jvm.LawKit.callS X5 hx (y := (⟨"java/lang/StringUTF16", "toBytes", "([CII)[B"⟩ : MethodName)) hown (mvT hZ (own_w hw 141 rfl)) (mvT hZ (own_w hw 142 rfl)) (mvT hZ (own_w hw 29 rfl)) (mvT hZ (own_w hw 143 rfl)) (by decide) (backOf (W := 0) (rmtb4 l Z a0 hw [] a1 _ _ _ _ _ h5 n0 Zs5 F_6 F_7 SH SL SA) hZ (own_w hw 143 rfl) (own_w hw 29 rfl) (by decide) (by decide)) (g := (mkF m 23 #[.val (.ref a1), .val (.int (0 : Int32)), .val (.int (4 : Int32)), .val (.ref b1), .val (.int (2 : Int32)), .unset] [(.int (4 : Int32)), (.int (0 : Int32)), (.ref a1)])) rfl (by rw [hml]; rfl) (argsL := [(.ref a1), (.int (0 : Int32)), (.int (4 : Int32))]) (rest := []) (lenOf pd__CII_B rfl) rfl (by show 2 * 0 + _ ≤ _; exact Nat.le_of_eq rfl) (hb hby dcb4_2_23) (fun _ _ => ⟨rfl, e5, (by decide : 0 + 1 + 0 + 1 ≤ _), (by decide : 0 + 4 + 0 + 8 ≤ _)⟩)
  dsimp only [Pt.U, Pt.locs, Pt.cells, Pt.slots] at X8 lq8 yq8 zq8 st8 hQ8
  subst lq8 yq8 zq8
  obtain ⟨h8, e8⟩ : ∃ z, T8.heap = z := ⟨_, rfl⟩
  rw [e8] at hQ8
  unfold Qtb4 at hQ8
  obtain ⟨b8, kb8, rfl, Nq8, qh8, G8_0, H8_0⟩ := hQ8
  have N8 := Fr.app N5 Nq8
  have Zs8 : n0 ≤ h8.size := Nat.le_trans Zs5 qh8.1
  have F_9 := F_6.keep qh8 all0
  have F_10 := F_7.keep qh8 nin0
  have F_11 := G5_0.keep qh8 nin0
  have K8 : Keep h0 h8 [] := K5.trans qh8 all0
  have ne8_a1 : a1 ≠ b8 := Nat.ne_of_lt (Nat.lt_of_lt_of_le F_7.lt H8_0)
  have ne8_b1 : b1 ≠ b8 := Nat.ne_of_lt (Nat.lt_of_lt_of_le G5_0.lt H8_0)
  have ge8 : n0 ≤ b8 := Nat.le_trans Zs5 H8_0
  have gf8 : h0.size ≤ b8 := Nat.le_trans K5.1 H8_0
  refine own_f T8 (mkF m 26 #[.val (.ref a1), .val (.int (0 : Int32)), .val (.int (4 : Int32)), .val (.ref b1), .val (.int (2 : Int32)), .unset] [(.ref b8)]) st8 ?_
  refine own_f T8 (mkF m 28 #[.val (.ref a1), .val (.int (0 : Int32)), .val (.int (4 : Int32)), .val (.ref b1), .val (.int (2 : Int32)), .val (.ref b8)] []) (fun t k => XS.astore X8.here hx rfl (hb hby dcb4_2_26) rfl rfl (l' := #[.val (.ref a1), .val (.int (0 : Int32)), .val (.int (4 : Int32)), .val (.ref b1), .val (.int (2 : Int32)), .val (.ref b8)]) rfl k) ?_
  refine own_f T8 (mkF m 30 #[.val (.ref a1), .val (.int (0 : Int32)), .val (.int (4 : Int32)), .val (.ref b1), .val (.int (2 : Int32)), .val (.ref b8)] [(.ref b8)]) (fun t k => XS.aload X8.here hx rfl (hb hby dcb4_2_28) rfl rfl k) ?_
  refine own_f T8 (mkF m 32 #[.val (.ref a1), .val (.int (0 : Int32)), .val (.int (4 : Int32)), .val (.ref b1), .val (.int (2 : Int32)), .val (.ref b8)] [(.int (2 : Int32)), (.ref b8)]) (fun t k => XS.iload X8.here hx rfl (hb hby dcb4_2_30) rfl k) ?_
  obtain ⟨_, _, ⟨T12, Lq12, kq_12, nq_12⟩, -, X12, ⟨Lc12, hQ12, lq12, yq12, zq12⟩, st12⟩ := Jvm.LawKit.callS X8 hx (y := (⟨"java/lang/StringUTF16", "getChar", "([BI)C"⟩ : MethodName)) hown (mvT hZ (own_w hw 157 rfl)) (mvT hZ (own_w hw 158 rfl)) (mvT hZ (own_w hw 29 rfl)) (mvT hZ (own_w hw 159 rfl)) (by decide) (backOf (W := 0) (rmgc4_2 l Z a0 hw [] b8 _ _ _ _ _ h8 n0 Zs8 F_9 G8_0 SH SL SA hw_c2) hZ (own_w hw 159 rfl) (own_w hw 29 rfl) (by decide) (by decide)) (g := (mkF m 32 #[.val (.ref a1), .val (.int (0 : Int32)), .val (.int (4 : Int32)), .val (.ref b1), .val (.int (2 : Int32)), .val (.ref b8)] [(.int (2 : Int32)), (.ref b8)])) rfl (by rw [hml]; rfl) (argsL := [(.ref b8), (.int (2 : Int32))]) (rest := []) (lenOf pd__BI_C rfl) rfl (by show 2 * 0 + _ ≤ _; exact Nat.le_of_eq rfl) (hb hby dcb4_2_32) (fun _ _ => ⟨rfl, e8, (by decide : 0 + 1 + 0 + 1 + 0 ≤ _), (by decide : 0 + 4 + 0 + 8 + 0 ≤ _)⟩)
  dsimp only [Pt.U, Pt.locs, Pt.cells, Pt.slots] at X12 lq12 yq12 zq12 st12 hQ12
  subst lq12 yq12 zq12
  obtain ⟨h12, e12⟩ : ∃ z, T12.heap = z := ⟨_, rfl⟩
  rw [e12] at hQ12
  unfold Qgc4_2 at hQ12
  obtain ⟨rfl, Nq12, qh12⟩ := hQ12
  have N12 := Fr.app N8 Nq12
  rw [qh12] at e12
  refine own_f T12 (mkF m 35 #[.val (.ref a1), .val (.int (0 : Int32)), .val (.int (4 : Int32)), .val (.ref b1), .val (.int (2 : Int32)), .val (.ref b8)] [(.int c2)]) st12 ?_
  refine own_f T12 (mkF m 38 #[.val (.ref a1), .val (.int (0 : Int32)), .val (.int (4 : Int32)), .val (.ref b1), .val (.int (2 : Int32)), .val (.ref b8)] [(.int (255 : Int32)), (.int c2)]) (fun t k => XT.sipushV X12.here hx rfl (255 : Int32) (hb hby dcb4_2_35) (by decide) k) ?_
  refine own_f T12 (mkF m 54 #[.val (.ref a1), .val (.int (0 : Int32)), .val (.int (4 : Int32)), .val (.ref b1), .val (.int (2 : Int32)), .val (.ref b8)] []) (fun t k => XS.icmpYes X12.here hx rfl (pc0 := 38) (pc' := 54) rfl (hb hby dcb4_2_38) rfl (XT.ii_gt_t hc_c2) (by decide) (by decide) k) ?_
  refine own_f T12 (mkF m 56 #[.val (.ref a1), .val (.int (0 : Int32)), .val (.int (4 : Int32)), .val (.ref b1), .val (.int (2 : Int32)), .val (.ref b8)] [(.ref b8)]) (fun t k => XS.aload X12.here hx rfl (hb hby dcb4_2_54) rfl rfl k) ?_
  obtain ⟨fs, hr, hrun, hended, hW, hsame⟩ := X12.leave (v := some (.ref b8)) (fun h => by rw [Bd.returns] at h; cases h)
  refine ⟨_, _, retOut X12 hx Bd.returns (by rfl) (Or.inr (Or.inr (Or.inr (Or.inr ⟨rfl, rfl, rfl⟩)))) (hb hby dcb4_2_56) hr, hrun, hended, _, _, rfl, ?_, ⟨_, rfl⟩, hW, hsame.mono (by decide) (by decide)⟩
  show Qcb4_2 Z a1 k1 c0 c1 c2 c3 h0 n0 _ T12.heap _
  rw [e12]
  exact ⟨b8, kb8, rfl, N12, K8, G8_0, gf8⟩
theorem ds44_2_0 : decode jdk_42_method_149_code 0 = .ok (.aload_n 0, 1) := by decide +kernel
theorem ds44_2_1 : decode jdk_42_method_149_code 1 = .ok (.invokespecial 1, 3) := by decide +kernel
theorem ds44_2_4 : decode jdk_42_method_149_code 4 = .ok (.iload_n 3, 1) := by decide +kernel
theorem ds44_2_5 : decode jdk_42_method_149_code 5 = .ok (.ifCond .ne 22, 3) := by decide +kernel
theorem ds44_2_27 : decode jdk_42_method_149_code 27 = .ok (.getstatic 38, 3) := by decide +kernel
theorem ds44_2_30 : decode jdk_42_method_149_code 30 = .ok (.ifCond .eq 28, 3) := by decide +kernel
theorem ds44_2_33 : decode jdk_42_method_149_code 33 = .ok (.aload_n 1, 1) := by decide +kernel
theorem ds44_2_34 : decode jdk_42_method_149_code 34 = .ok (.iload_n 2, 1) := by decide +kernel
theorem ds44_2_35 : decode jdk_42_method_149_code 35 = .ok (.iload_n 3, 1) := by decide +kernel
theorem ds44_2_36 : decode jdk_42_method_149_code 36 = .ok (.invokestatic 177, 3) := by decide +kernel
theorem ds44_2_39 : decode jdk_42_method_149_code 39 = .ok (.astore 5, 2) := by decide +kernel
theorem ds44_2_41 : decode jdk_42_method_149_code 41 = .ok (.aload_n 0, 1) := by decide +kernel
theorem ds44_2_42 : decode jdk_42_method_149_code 42 = .ok (.aload 5, 2) := by decide +kernel
theorem ds44_2_44 : decode jdk_42_method_149_code 44 = .ok (.iload_n 3, 1) := by decide +kernel
theorem ds44_2_45 : decode jdk_42_method_149_code 45 = .ok (.invokestatic 47, 3) := by decide +kernel
theorem ds44_2_48 : decode jdk_42_method_149_code 48 = .ok (.putfield 15, 3) := by decide +kernel
theorem ds44_2_51 : decode jdk_42_method_149_code 51 = .ok (.aload_n 0, 1) := by decide +kernel
theorem ds44_2_52 : decode jdk_42_method_149_code 52 = .ok (.aload 5, 2) := by decide +kernel
theorem ds44_2_54 : decode jdk_42_method_149_code 54 = .ok (.putfield 9, 3) := by decide +kernel
theorem ds44_2_57 : decode jdk_42_method_149_code 57 = .ok (.return_, 1) := by decide +kernel
theorem pn_s44_2 : plainName "java/lang/String" = true := by first | (simp [plainName, overriddenIn]; done) | decide +kernel
theorem ef_s44_2 (m : MethodId) (x0 : Addr) (x1 : Addr) (x2 : Int32) (x3 : Int32) : entryFrame m #[(.ref x0), (.ref x1), (.int x2), (.int x3), .null] 6 = mkF m 0 #[.val (.ref x0), .val (.ref x1), .val (.int x2), .val (.int x3), .val .null, .unset] [] := by first | (simp [entryFrame, mkF, argsToLocals, Value.category]; done) | rfl
def Qs44_2 (Z : State) (a1 : Addr) (a2 : Addr) (k2 : ClassId) (c0 : Int32) (c1 : Int32) (c2 : Int32) (c3 : Int32) (u0 : Value) (u1 : Value) (wc : Int32) (h0 : Heap) (n0 : Nat) (v : Option Value) (h : Heap) (L : List Loc) : Prop := ∃ (b : Addr) (kb : ClassId), v = none ∧ Fr n0 L ∧ Keep h0 h [a1] ∧ Exa Z h a1 "java/lang/String" ∧ Fld Z h a1 "java/lang/String" "coder" "B" (.int (1 : Int32)) ∧ Fld Z h a1 "java/lang/String" "value" "[B" (.ref b) ∧ Arv Z h b kb .byte (8 : Int32) [.int ((c0 >>> ((0 : Int32) &&& 31)).toInt8.toInt32), .int ((c0 >>> ((8 : Int32) &&& 31)).toInt8.toInt32), .int ((c1 >>> ((0 : Int32) &&& 31)).toInt8.toInt32), .int ((c1 >>> ((8 : Int32) &&& 31)).toInt8.toInt32), .int ((c2 >>> ((0 : Int32) &&& 31)).toInt8.toInt32), .int ((c2 >>> ((8 : Int32) &&& 31)).toInt8.toInt32), .int ((c3 >>> ((0 : Int32) &&& 31)).toInt8.toInt32), .int ((c3 >>> ((8 : Int32) &&& 31)).toInt8.toInt32)] (.int 0) ∧ h0.size ≤ b
set_option maxRecDepth 65536 in
set_option maxHeartbeats 40000000 in
theorem rms44_2 (l : Launch) (Z : State) (a0 : Array Value) (hw : ∀ d ∈ tables_1, d.before a0 Z = true) (ws : List Jvm.Cond) (a1 : Addr) (a2 : Addr) (k2 : ClassId) (c0 : Int32) (c1 : Int32) (c2 : Int32) (c3 : Int32) (u0 : Value) (u1 : Value) (wc : Int32) (h0 : Heap) (n0 : Nat) (Z0 : n0 ≤ h0.size) (F0 : Old Z n0 h0) (F1 : Exa Z h0 a1 "java/lang/String") (F2 : Fld Z h0 a1 "java/lang/String" "value" "[B" u0) (F3 : Fld Z h0 a1 "java/lang/String" "coder" "B" u1) (F4 : Arv Z h0 a2 k2 .char (4 : Int32) [.int c0, .int c1, .int c2, .int c3] (.int 0)) (ge_a1 : n0 ≤ a1) (SC : Sta Z Z.heap "java/lang/String" "COMPACT_STRINGS" "Z" (.int wc)) (HWC : ¬ (wc = 0)) (SH : Sta Z Z.heap "java/lang/StringUTF16" "HI_BYTE_SHIFT" "I" (.int (0 : Int32))) (SL : Sta Z Z.heap "java/lang/StringUTF16" "LO_BYTE_SHIFT" "I" (.int (8 : Int32))) (SA : Sta Z Z.heap "java/lang/StringUTF16" "$assertionsDisabled" "Z" (.int (1 : Int32))) (hne : a2 ≠ a1) (hc_c0 : ¬ ((255 : Int32) < c0)) (hc_c1 : ¬ ((255 : Int32) < c1)) (hc_c2 : (255 : Int32) < c2) (hw_c2 : own_W c2) :
    MetFree l (⟨"java/lang/String", "<init>", "([CIILjava/lang/Void;)V"⟩ : MethodName) (head1 (Jvm.Cond.code (⟨"java/lang/String", "<init>", "([CIILjava/lang/Void;)V"⟩ : MethodName) jdk_42_method_149_code 6 none :: ws) ({ frames := 4, cells := 2, slots := 12, locals := 57 } : Room)) (fun a U => a = #[(.ref a1), (.ref a2), (.int (0 : Int32)), (.int (4 : Int32)), .null] ∧ Z.Warmed39 U.vm ∧ U.heap = h0) (fun _ _ _ _ _ => True) (fun _ U o U' => ∃ v L, o = .returned v ∧ Qs44_2 Z a1 a2 k2 c0 c1 c2 c3 u0 u1 wc h0 n0 v U'.heap L ∧ FrameEnd U o U' L ({ frames := 4, cells := 2, slots := 12, locals := 57 } : Room).cells ({ frames := 4, cells := 2, slots := 12, locals := 57 } : Room).slots) := by
  refine MetFree.of_bodySF (plainFor_of_name pn_s44_2) hisR ?_
  intro p e s m args below meth c s₁ Bd hml0 hP hK
  obtain ⟨rfl, hZ, hh⟩ := hP
  have hx := Bd.exec
  have hby := Bd.bytes
  have hml : c.maxLocals = 6 := hml0
  have hown : s.vm.findClass "java/lang/String" = some m.cls := findClass_of_methodNamed Bd.named
  have hnm := (name_of_methodNamed Bd.named Bd.method).1
  have X0 : Stand p l e ({ frames := 4, cells := 2, slots := 12, locals := 57 } : Room) s m #[(.ref a1), (.ref a2), (.int (0 : Int32)), (.int (4 : Int32)), .null] below meth c s₁ [] 0 0 := Stand.of_body Bd
  have e0 : s₁.heap = h0 := by rw [← hh, Bd.state]; rfl
  have N0 := Fr.nil n0
  show own_R p.tables e below (own_P s (Qs44_2 Z a1 a2 k2 c0 c1 c2 c3 u0 u1 wc h0 n0) ({ frames := 4, cells := 2, slots := 12, locals := 57 } : Room).cells ({ frames := 4, cells := 2, slots := 12, locals := 57 } : Room).slots) (s₁.setTop (entryFrame m #[(.ref a1), (.ref a2), (.int (0 : Int32)), (.int (4 : Int32)), .null] 6))
  refine own_f s₁ (mkF m 0 #[.val (.ref a1), .val (.ref a2), .val (.int (0 : Int32)), .val (.int (4 : Int32)), .val .null, .unset] []) (fun t k => castTop (ef_s44_2 m a1 a2 (0 : Int32) (4 : Int32)) k) ?_
  refine own_f s₁ (mkF m 1 #[.val (.ref a1), .val (.ref a2), .val (.int (0 : Int32)), .val (.int (4 : Int32)), .val .null, .unset] [(.ref a1)]) (fun t k => XS.aloadN X0.here hx rfl (hb hby ds44_2_0) rfl rfl k) ?_
  obtain ⟨T1, X1, e1, st1⟩ := initO X0 hx hZ hown (own_w hw 23 rfl) (own_w hw 24 rfl) (own_w hw 25 rfl) e0 (g := (mkF m 1 #[.val (.ref a1), .val (.ref a2), .val (.int (0 : Int32)), .val (.int (4 : Int32)), .val .null, .unset] [(.ref a1)])) rfl (by rw [hml]; rfl) rfl (hb hby ds44_2_1) (by decide) (W := 0) (by show 2 * 0 + _ ≤ _; exact Nat.le_of_eq rfl) (by decide)
  refine own_f T1 (mkF m 4 #[.val (.ref a1), .val (.ref a2), .val (.int (0 : Int32)), .val (.int (4 : Int32)), .val .null, .unset] []) st1 ?_
  refine own_f T1 (mkF m 5 #[.val (.ref a1), .val (.ref a2), .val (.int (0 : Int32)), .val (.int (4 : Int32)), .val .null, .unset] [(.int (4 : Int32))]) (fun t k => XS.iloadN X1.here hx rfl (hb hby ds44_2_4) rfl k) ?_
  refine own_f T1 (mkF m 27 #[.val (.ref a1), .val (.ref a2), .val (.int (0 : Int32)), .val (.int (4 : Int32)), .val .null, .unset] []) (fun t k => XS.ifYes X1.here hx rfl (pc0 := 5) (pc' := 27) rfl (hb hby ds44_2_5) rfl (XT.i0_ne_t (by decide)) (by decide) (by decide) k) ?_
  have S2 : Sta Z h0 "java/lang/String" "COMPACT_STRINGS" "Z" (.int wc) := SC.ext F0.2
  obtain ⟨T2, X2, e2, st2⟩ := getS X1 hx hZ (host := "") hown (own_w hw 26 rfl) Via.refl e1 S2 (g := (mkF m 27 #[.val (.ref a1), .val (.ref a2), .val (.int (0 : Int32)), .val (.int (4 : Int32)), .val .null, .unset] [])) rfl (hb hby ds44_2_27)
  refine own_f T2 (mkF m 30 #[.val (.ref a1), .val (.ref a2), .val (.int (0 : Int32)), .val (.int (4 : Int32)), .val .null, .unset] [(.int wc)]) st2 ?_
  refine own_f T2 (mkF m 33 #[.val (.ref a1), .val (.ref a2), .val (.int (0 : Int32)), .val (.int (4 : Int32)), .val .null, .unset] []) (fun t k => XS.ifNo X2.here hx rfl (hb hby ds44_2_30) rfl (XT.i0_eq_f HWC) k) ?_
  refine own_f T2 (mkF m 34 #[.val (.ref a1), .val (.ref a2), .val (.int (0 : Int32)), .val (.int (4 : Int32)), .val .null, .unset] [(.ref a2)]) (fun t k => XS.aloadN X2.here hx rfl (hb hby ds44_2_33) rfl rfl k) ?_
  refine own_f T2 (mkF m 35 #[.val (.ref a1), .val (.ref a2), .val (.int (0 : Int32)), .val (.int (4 : Int32)), .val .null, .unset] [(.int (0 : Int32)), (.ref a2)]) (fun t k => XS.iloadN X2.here hx rfl (hb hby ds44_2_34) rfl k) ?_
  refine own_f T2 (mkF m 36 #[.val (.ref a1), .val (.ref a2), .val (.int (0 : Int32)), .val (.int (4 : Int32)), .val .null, .unset] [(.int (4 : Int32)), (.int (0 : Int32)), (.ref a2)]) (fun t k => XS.iloadN X2.here hx rfl (hb hby ds44_2_35) rfl k) ?_
  obtain ⟨_, _, ⟨T3, Lq3, kq_3, nq_3⟩, -, X3, ⟨Lc3, hQ3, lq3, yq3, zq3⟩, st3⟩ := Jvm.LawKit.callS X2 hx (y := (⟨"java/lang/StringUTF16", "compress", "([CII)[B"⟩ : MethodName)) hown (mvT hZ (own_w hw 27 rfl)) (mvT hZ (own_w hw 28 rfl)) (mvT hZ (own_w hw 29 rfl)) (mvT hZ (own_w hw 30 rfl)) (by decide) (backOf (W := 0) (rmcb4_2 l Z a0 hw [] a2 _ _ _ _ _ h0 n0 Z0 F0 F4 hc_c0 hc_c1 hc_c2 SH SL SA hw_c2) hZ (own_w hw 30 rfl) (own_w hw 29 rfl) (by decide) (by decide)) (g := (mkF m 36 #[.val (.ref a1), .val (.ref a2), .val (.int (0 : Int32)), .val (.int (4 : Int32)), .val .null, .unset] [(.int (4 : Int32)), (.int (0 : Int32)), (.ref a2)])) rfl (by rw [hml]; rfl) (argsL := [(.ref a2), (.int (0 : Int32)), (.int (4 : Int32))]) (rest := []) (lenOf pd__CII_B rfl) rfl (by show 2 * 0 + _ ≤ _; exact Nat.le_of_eq rfl) (hb hby ds44_2_36) (fun _ _ => ⟨rfl, e2, (by decide : 0 + 2 ≤ _), (by decide : 0 + 12 ≤ _)⟩)
  dsimp only [Pt.U, Pt.locs, Pt.cells, Pt.slots] at X3 lq3 yq3 zq3 st3 hQ3
  subst lq3 yq3 zq3
  obtain ⟨h3, e3⟩ : ∃ z, T3.heap = z := ⟨_, rfl⟩
  rw [e3] at hQ3
  unfold Qcb4_2 at hQ3
  obtain ⟨b3, kb3, rfl, Nq3, qh3, G3_0, H3_0⟩ := hQ3
  have N3 := Fr.app N0 Nq3
  have Zs3 : n0 ≤ h3.size := Nat.le_trans Z0 qh3.1
  have F_4 := F0.keep qh3 all0
  have F_5 := F1.keep qh3
  have F_6 := F2.keep qh3 nin0
  have F_7 := F3.keep qh3 nin0
  have F_8 := F4.keep qh3 nin0
  have K3 : Keep h0 h3 [a1] := (Keep.refl h0 [a1]).trans qh3 all0
  have ne3_a1 : a1 ≠ b3 := Nat.ne_of_lt (Nat.lt_of_lt_of_le F1.lt H3_0)
  have ne3_a2 : a2 ≠ b3 := Nat.ne_of_lt (Nat.lt_of_lt_of_le F4.lt H3_0)
  have ge3 : n0 ≤ b3 := Nat.le_trans Z0 H3_0
  have gf3 : h0.size ≤ b3 := Nat.le_trans (Keep.refl h0 [a1]).1 H3_0
  refine own_f T3 (mkF m 39 #[.val (.ref a1), .val (.ref a2), .val (.int (0 : Int32)), .val (.int (4 : Int32)), .val .null, .unset] [(.ref b3)]) st3 ?_
  refine own_f T3 (mkF m 41 #[.val (.ref a1), .val (.ref a2), .val (.int (0 : Int32)), .val (.int (4 : Int32)), .val .null, .val (.ref b3)] []) (fun t k => XS.astore X3.here hx rfl (hb hby ds44_2_39) rfl rfl (l' := #[.val (.ref a1), .val (.ref a2), .val (.int (0 : Int32)), .val (.int (4 : Int32)), .val .null, .val (.ref b3)]) rfl k) ?_
  refine own_f T3 (mkF m 42 #[.val (.ref a1), .val (.ref a2), .val (.int (0 : Int32)), .val (.int (4 : Int32)), .val .null, .val (.ref b3)] [(.ref a1)]) (fun t k => XS.aloadN X3.here hx rfl (hb hby ds44_2_41) rfl rfl k) ?_
  refine own_f T3 (mkF m 44 #[.val (.ref a1), .val (.ref a2), .val (.int (0 : Int32)), .val (.int (4 : Int32)), .val .null, .val (.ref b3)] [(.ref b3), (.ref a1)]) (fun t k => XS.aload X3.here hx rfl (hb hby ds44_2_42) rfl rfl k) ?_
  refine own_f T3 (mkF m 45 #[.val (.ref a1), .val (.ref a2), .val (.int (0 : Int32)), .val (.int (4 : Int32)), .val .null, .val (.ref b3)] [(.int (4 : Int32)), (.ref b3), (.ref a1)]) (fun t k => XS.iloadN X3.here hx rfl (hb hby ds44_2_44) rfl k) ?_
  obtain ⟨_, _, ⟨T9, Lq9, kq_9, nq_9⟩, -, X9, ⟨Lc9, hQ9, lq9, yq9, zq9⟩, st9⟩ := Jvm.LawKit.callS X3 hx (y := (⟨"java/lang/StringUTF16", "coderFromArrayLen", "([BI)B"⟩ : MethodName)) hown (mvT hZ (own_w hw 34 rfl)) (mvT hZ (own_w hw 35 rfl)) (mvT hZ (own_w hw 29 rfl)) (mvT hZ (own_w hw 36 rfl)) (by decide) (backOf (W := 1) (rmco4_8 l Z a0 hw [] b3 _ _ h3 n0 Zs3 G3_0) hZ (own_w hw 36 rfl) (own_w hw 29 rfl) (by decide) (by decide)) (g := (mkF m 45 #[.val (.ref a1), .val (.ref a2), .val (.int (0 : Int32)), .val (.int (4 : Int32)), .val .null, .val (.ref b3)] [(.int (4 : Int32)), (.ref b3), (.ref a1)])) rfl (by rw [hml]; rfl) (argsL := [(.ref b3), (.int (4 : Int32))]) (rest := [(.ref a1)]) (lenOf pd__BI_B rfl) rfl (by show 2 * 0 + _ ≤ _; exact Nat.le_of_eq rfl) (hb hby ds44_2_45) (fun _ _ => ⟨rfl, e3, (by decide : 0 + 2 + 0 ≤ _), (by decide : 0 + 12 + 0 ≤ _)⟩)
  dsimp only [Pt.U, Pt.locs, Pt.cells, Pt.slots] at X9 lq9 yq9 zq9 st9 hQ9
  subst lq9 yq9 zq9
  obtain ⟨h9, e9⟩ : ∃ z, T9.heap = z := ⟨_, rfl⟩
  rw [e9] at hQ9
  unfold Qco4_8 at hQ9
  obtain ⟨rfl, Nq9, qh9⟩ := hQ9
  have N9 := Fr.app N3 Nq9
  rw [qh9] at e9
  refine own_f T9 (mkF m 48 #[.val (.ref a1), .val (.ref a2), .val (.int (0 : Int32)), .val (.int (4 : Int32)), .val .null, .val (.ref b3)] [(.int (1 : Int32)), (.ref a1)]) st9 ?_
  obtain ⟨T10, h10, X10, e10, W10, st10⟩ := putF X9 hx hZ hown (host := "") (Or.inl (own_w hw 37 rfl)) Via.refl e9 F_7 F_5 (Or.inr ⟨(own_w hw 12 rfl), rfl, hnm⟩) (own_w hw 9 rfl) (ty := .byte) (by decide) rfl rfl (g := (mkF m 48 #[.val (.ref a1), .val (.ref a2), .val (.int (0 : Int32)), .val (.int (4 : Int32)), .val .null, .val (.ref b3)] [(.int (1 : Int32)), (.ref a1)])) rfl rfl (hb hby ds44_2_48)
  have N10 := Fr.snoc X10 N9 ge_a1
  have Zs10 : n0 ≤ h10.size := by rw [W10.size]; exact Zs3
  have K10 : Keep h0 h10 [a1] := K3.wr W10 (Or.inl (by simp))
  have F_11 := F_4.wr W10 ge_a1
  have F_12 := F_5.wr W10
  have F_13 := F_6.other W10 (Or.inr (slot_ne (Or.inr (own_w hw 11 rfl)) (Or.inr (own_w hw 12 rfl)) (by decide) (t := (.array .byte)) (t' := .byte) (by decide) (by decide)))
  have F_14 := F_7.same W10
  have F_15 := F_8.other W10 hne
  have F_16 := G3_0.other W10 (Ne.symm ne3_a1)
  refine own_f T10 (mkF m 51 #[.val (.ref a1), .val (.ref a2), .val (.int (0 : Int32)), .val (.int (4 : Int32)), .val .null, .val (.ref b3)] []) st10 ?_
  refine own_f T10 (mkF m 52 #[.val (.ref a1), .val (.ref a2), .val (.int (0 : Int32)), .val (.int (4 : Int32)), .val .null, .val (.ref b3)] [(.ref a1)]) (fun t k => XS.aloadN X10.here hx rfl (hb hby ds44_2_51) rfl rfl k) ?_
  refine own_f T10 (mkF m 54 #[.val (.ref a1), .val (.ref a2), .val (.int (0 : Int32)), .val (.int (4 : Int32)), .val .null, .val (.ref b3)] [(.ref b3), (.ref a1)]) (fun t k => XS.aload X10.here hx rfl (hb hby ds44_2_52) rfl rfl k) ?_
  obtain ⟨T17, h17, X17, e17, W17, st17⟩ := putF X10 hx hZ hown (host := "") (Or.inl (own_w hw 38 rfl)) Via.refl e10 F_13 F_12 (Or.inr ⟨(own_w hw 11 rfl), rfl, hnm⟩) (own_w hw 9 rfl) (ty := (.array .byte)) (by decide) rfl rfl (g := (mkF m 54 #[.val (.ref a1), .val (.ref a2), .val (.int (0 : Int32)), .val (.int (4 : Int32)), .val .null, .val (.ref b3)] [(.ref b3), (.ref a1)])) rfl rfl (hb hby ds44_2_54)
  have N17 := Fr.snoc X17 N10 ge_a1
  have Zs17 : n0 ≤ h17.size := by rw [W17.size]; exact Zs10
  have K17 : Keep h0 h17 [a1] := K10.wr W17 (Or.inl (by simp))
  have F_18 := F_11.wr W17 ge_a1
  have F_19 := F_12.wr W17
  have F_20 := F_13.same W17
  have F_21 := F_14.other W17 (Or.inr (slot_ne (Or.inr (own_w hw 12 rfl)) (Or.inr (own_w hw 11 rfl)) (by decide) (t := .byte) (t' := (.array .byte)) (by decide) (by decide)))
  have F_22 := F_15.other W17 hne
  have F_23 := F_16.other W17 (Ne.symm ne3_a1)
  refine own_f T17 (mkF m 57 #[.val (.ref a1), .val (.ref a2), .val (.int (0 : Int32)), .val (.int (4 : Int32)), .val .null, .val (.ref b3)] []) st17 ?_
  obtain ⟨fs, hr, hrun, hended, hW, hsame⟩ := X17.leave (v := none) (fun _ => rfl)
  refine ⟨_, _, X17.returnOut hx Bd.returns (hb hby ds44_2_57) hr, hrun, hended, _, _, rfl, ?_, ⟨_, rfl⟩, hW, hsame.mono (by decide) (by decide)⟩
  show Qs44_2 Z a1 a2 k2 c0 c1 c2 c3 u0 u1 wc h0 n0 _ T17.heap _
  rw [e17]
  exact ⟨b3, kb3, rfl, N17, K17, F_19, F_21, F_20, F_23, gf3⟩
theorem ds24_2_0 : decode jdk_42_method_3_code 0 = .ok (.aload_n 0, 1) := by decide +kernel
theorem ds24_2_1 : decode jdk_42_method_3_code 1 = .ok (.aload_n 1, 1) := by decide +kernel
theorem ds24_2_2 : decode jdk_42_method_3_code 2 = .ok (.iconst 0, 1) := by decide +kernel
theorem ds24_2_3 : decode jdk_42_method_3_code 3 = .ok (.aload_n 1, 1) := by decide +kernel
theorem ds24_2_4 : decode jdk_42_method_3_code 4 = .ok (.arraylength, 1) := by decide +kernel
theorem ds24_2_5 : decode jdk_42_method_3_code 5 = .ok (.aconst_null, 1) := by decide +kernel
theorem ds24_2_6 : decode jdk_42_method_3_code 6 = .ok (.invokespecial 27, 3) := by decide +kernel
theorem ds24_2_9 : decode jdk_42_method_3_code 9 = .ok (.return_, 1) := by decide +kernel
theorem pn_s24_2 : plainName "java/lang/String" = true := by first | (simp [plainName, overriddenIn]; done) | decide +kernel
theorem ef_s24_2 (m : MethodId) (x0 : Addr) (x1 : Addr) : entryFrame m #[(.ref x0), (.ref x1)] 2 = mkF m 0 #[.val (.ref x0), .val (.ref x1)] [] := by first | (simp [entryFrame, mkF, argsToLocals, Value.category]; done) | rfl
def Qs24_2 (Z : State) (a1 : Addr) (a2 : Addr) (k2 : ClassId) (c0 : Int32) (c1 : Int32) (c2 : Int32) (c3 : Int32) (u0 : Value) (u1 : Value) (wc : Int32) (h0 : Heap) (n0 : Nat) (v : Option Value) (h : Heap) (L : List Loc) : Prop := ∃ (b : Addr) (kb : ClassId), v = none ∧ Fr n0 L ∧ Keep h0 h [a1] ∧ Exa Z h a1 "java/lang/String" ∧ Fld Z h a1 "java/lang/String" "coder" "B" (.int (1 : Int32)) ∧ Fld Z h a1 "java/lang/String" "value" "[B" (.ref b) ∧ Arv Z h b kb .byte (8 : Int32) [.int ((c0 >>> ((0 : Int32) &&& 31)).toInt8.toInt32), .int ((c0 >>> ((8 : Int32) &&& 31)).toInt8.toInt32), .int ((c1 >>> ((0 : Int32) &&& 31)).toInt8.toInt32), .int ((c1 >>> ((8 : Int32) &&& 31)).toInt8.toInt32), .int ((c2 >>> ((0 : Int32) &&& 31)).toInt8.toInt32), .int ((c2 >>> ((8 : Int32) &&& 31)).toInt8.toInt32), .int ((c3 >>> ((0 : Int32) &&& 31)).toInt8.toInt32), .int ((c3 >>> ((8 : Int32) &&& 31)).toInt8.toInt32)] (.int 0) ∧ h0.size ≤ b
set_option maxRecDepth 65536 in
set_option maxHeartbeats 40000000 in
theorem rms24_2 (l : Launch) (Z : State) (a0 : Array Value) (hw : ∀ d ∈ tables_1, d.before a0 Z = true) (ws : List Jvm.Cond) (a1 : Addr) (a2 : Addr) (k2 : ClassId) (c0 : Int32) (c1 : Int32) (c2 : Int32) (c3 : Int32) (u0 : Value) (u1 : Value) (wc : Int32) (h0 : Heap) (n0 : Nat) (Z0 : n0 ≤ h0.size) (F0 : Old Z n0 h0) (F1 : Exa Z h0 a1 "java/lang/String") (F2 : Fld Z h0 a1 "java/lang/String" "value" "[B" u0) (F3 : Fld Z h0 a1 "java/lang/String" "coder" "B" u1) (F4 : Arv Z h0 a2 k2 .char (4 : Int32) [.int c0, .int c1, .int c2, .int c3] (.int 0)) (ge_a1 : n0 ≤ a1) (SC : Sta Z Z.heap "java/lang/String" "COMPACT_STRINGS" "Z" (.int wc)) (HWC : ¬ (wc = 0)) (SH : Sta Z Z.heap "java/lang/StringUTF16" "HI_BYTE_SHIFT" "I" (.int (0 : Int32))) (SL : Sta Z Z.heap "java/lang/StringUTF16" "LO_BYTE_SHIFT" "I" (.int (8 : Int32))) (SA : Sta Z Z.heap "java/lang/StringUTF16" "$assertionsDisabled" "Z" (.int (1 : Int32))) (hne : a2 ≠ a1) (hc_c0 : ¬ ((255 : Int32) < c0)) (hc_c1 : ¬ ((255 : Int32) < c1)) (hc_c2 : (255 : Int32) < c2) (hw_c2 : own_W c2) :
    MetFree l (⟨"java/lang/String", "<init>", "([C)V"⟩ : MethodName) (head1 (Jvm.Cond.code (⟨"java/lang/String", "<init>", "([C)V"⟩ : MethodName) jdk_42_method_3_code 2 none :: ws) ({ frames := 5, cells := 2, slots := 12, locals := 74 } : Room)) (fun a U => a = #[(.ref a1), (.ref a2)] ∧ Z.Warmed39 U.vm ∧ U.heap = h0) (fun _ _ _ _ _ => True) (fun _ U o U' => ∃ v L, o = .returned v ∧ Qs24_2 Z a1 a2 k2 c0 c1 c2 c3 u0 u1 wc h0 n0 v U'.heap L ∧ FrameEnd U o U' L ({ frames := 5, cells := 2, slots := 12, locals := 74 } : Room).cells ({ frames := 5, cells := 2, slots := 12, locals := 74 } : Room).slots) := by
  refine MetFree.of_bodySF (plainFor_of_name pn_s24_2) hisR ?_
  intro p e s m args below meth c s₁ Bd hml0 hP hK
  obtain ⟨rfl, hZ, hh⟩ := hP
  have hx := Bd.exec
  have hby := Bd.bytes
  have hml : c.maxLocals = 2 := hml0
  have hown : s.vm.findClass "java/lang/String" = some m.cls := findClass_of_methodNamed Bd.named
  have hnm := (name_of_methodNamed Bd.named Bd.method).1
  have X0 : Stand p l e ({ frames := 5, cells := 2, slots := 12, locals := 74 } : Room) s m #[(.ref a1), (.ref a2)] below meth c s₁ [] 0 0 := Stand.of_body Bd
  have e0 : s₁.heap = h0 := by rw [← hh, Bd.state]; rfl
  have N0 := Fr.nil n0
  show own_R p.tables e below (own_P s (Qs24_2 Z a1 a2 k2 c0 c1 c2 c3 u0 u1 wc h0 n0) ({ frames := 5, cells := 2, slots := 12, locals := 74 } : Room).cells ({ frames := 5, cells := 2, slots := 12, locals := 74 } : Room).slots) (s₁.setTop (entryFrame m #[(.ref a1), (.ref a2)] 2))
  refine own_f s₁ (mkF m 0 #[.val (.ref a1), .val (.ref a2)] []) (fun t k => castTop (ef_s24_2 m a1 a2) k) ?_
  refine own_f s₁ (mkF m 1 #[.val (.ref a1), .val (.ref a2)] [(.ref a1)]) (fun t k => XS.aloadN X0.here hx rfl (hb hby ds24_2_0) rfl rfl k) ?_
  refine own_f s₁ (mkF m 2 #[.val (.ref a1), .val (.ref a2)] [(.ref a2), (.ref a1)]) (fun t k => XS.aloadN X0.here hx rfl (hb hby ds24_2_1) rfl rfl k) ?_
  refine own_f s₁ (mkF m 3 #[.val (.ref a1), .val (.ref a2)] [(.int (0 : Int32)), (.ref a2), (.ref a1)]) (fun t k => XT.iconstV X0.here hx rfl (0 : Int32) (hb hby ds24_2_2) (by decide) k) ?_
  refine own_f s₁ (mkF m 4 #[.val (.ref a1), .val (.ref a2)] [(.ref a2), (.int (0 : Int32)), (.ref a2), (.ref a1)]) (fun t k => XS.aloadN X0.here hx rfl (hb hby ds24_2_3) rfl rfl k) ?_
  refine own_f s₁ (mkF m 5 #[.val (.ref a1), .val (.ref a2)] [(.int (4 : Int32)), (.int (0 : Int32)), (.ref a2), (.ref a1)]) (fun t k => own_len X0 hx hZ e0 F4 (g := (mkF m 4 #[.val (.ref a1), .val (.ref a2)] [(.ref a2), (.int (0 : Int32)), (.ref a2), (.ref a1)])) rfl rfl (hb hby ds24_2_4) k) ?_
  refine own_f s₁ (mkF m 6 #[.val (.ref a1), .val (.ref a2)] [.null, (.int (4 : Int32)), (.int (0 : Int32)), (.ref a2), (.ref a1)]) (fun t k => XS.aconstNull X0.here hx rfl (hb hby ds24_2_5) k) ?_
  obtain ⟨_, _, ⟨T2, Lq2, kq_2, nq_2⟩, -, X2, ⟨Lc2, hQ2, lq2, yq2, zq2⟩, st2⟩ := X0.specialBack hx (y := (⟨"java/lang/String", "<init>", "([CIILjava/lang/Void;)V"⟩ : MethodName)) rfl hown (mvT hZ (own_w hw 19 rfl)) (mvT hZ (own_w hw 20 rfl)) (mvT hZ (own_w hw 22 rfl)) (by decide) (backOf (W := 0) (rms44_2 l Z a0 hw [] a1 a2 _ _ _ _ _ _ _ _ h0 n0 Z0 F0 F1 F2 F3 F4 ge_a1 SC HWC SH SL SA hne hc_c0 hc_c1 hc_c2 hw_c2) hZ (own_w hw 22 rfl) (own_w hw 8 rfl) (by decide) (by decide)) (g := (mkF m 6 #[.val (.ref a1), .val (.ref a2)] [.null, (.int (4 : Int32)), (.int (0 : Int32)), (.ref a2), (.ref a1)])) rfl (by rw [hml]; rfl) (Steps.refl _) (a := a1) (argsL := [(.ref a2), (.int (0 : Int32)), (.int (4 : Int32)), .null]) (rest := []) (lenOf pd__CIILjava_lang_Void_V rfl) rfl (by show 2 * 0 + _ ≤ _; exact Nat.le_of_eq rfl) (hb hby ds24_2_6) (fun _ _ => ⟨rfl, e0, (by decide : 0 + 2 ≤ _), (by decide : 0 + 12 ≤ _)⟩)
  dsimp only [Pt.U, Pt.locs, Pt.cells, Pt.slots] at X2 lq2 yq2 zq2 st2 hQ2
  subst lq2 yq2 zq2
  obtain ⟨h2, e2⟩ : ∃ z, T2.heap = z := ⟨_, rfl⟩
  rw [e2] at hQ2
  unfold Qs44_2 at hQ2
  obtain ⟨b2, kb2, rfl, Nq2, qh2, G2_0, G2_1, G2_2, G2_3, H2_0⟩ := hQ2
  have N2 := Fr.app N0 Nq2
  have Zs2 : n0 ≤ h2.size := Nat.le_trans Z0 qh2.1
  have F_3 := F0.keep qh2 (allS ge_a1 all0)
  have F_4 := F4.keep qh2 (ninS hne nin0)
  have K2 : Keep h0 h2 [a1] := (Keep.refl h0 [a1]).trans qh2 (allS (Or.inl (by simp)) all0)
  have ne2_a1 : a1 ≠ b2 := Nat.ne_of_lt (Nat.lt_of_lt_of_le F1.lt H2_0)
  have ne2_a2 : a2 ≠ b2 := Nat.ne_of_lt (Nat.lt_of_lt_of_le F4.lt H2_0)
  have ge2 : n0 ≤ b2 := Nat.le_trans Z0 H2_0
  have gf2 : h0.size ≤ b2 := Nat.le_trans (Keep.refl h0 [a1]).1 H2_0
  refine own_g T2 (mkF m 9 #[.val (.ref a1), .val (.ref a2)] []) st2 ?_
  obtain ⟨fs, hr, hrun, hended, hW, hsame⟩ := X2.leave (v := none) (fun _ => rfl)
  refine ⟨_, _, X2.returnOut hx Bd.returns (hb hby ds24_2_9) hr, hrun, hended, _, _, rfl, ?_, ⟨_, rfl⟩, hW, hsame.mono (by decide) (by decide)⟩
  show Qs24_2 Z a1 a2 k2 c0 c1 c2 c3 u0 u1 wc h0 n0 _ T2.heap _
  rw [e2]
  exact ⟨b2, kb2, rfl, N2, K2, G2_0, G2_1, G2_2, G2_3, gf2⟩
theorem dci4_4_0 : decode jdk_52_method_21_code 0 = .ok (.iconst 0, 1) := by decide +kernel
theorem dci4_4_1 : decode jdk_52_method_21_code 1 = .ok (.istore 5, 2) := by decide +kernel
theorem dci4_4_3 : decode jdk_52_method_21_code 3 = .ok (.iload 5, 2) := by decide +kernel
theorem dci4_4_5 : decode jdk_52_method_21_code 5 = .ok (.iload 4, 2) := by decide +kernel
theorem dci4_4_7 : decode jdk_52_method_21_code 7 = .ok (.if_icmp .ge 37, 3) := by decide +kernel
theorem dci4_4_10 : decode jdk_52_method_21_code 10 = .ok (.aload_n 0, 1) := by decide +kernel
theorem dci4_4_11 : decode jdk_52_method_21_code 11 = .ok (.iload_n 1, 1) := by decide +kernel
theorem dci4_4_12 : decode jdk_52_method_21_code 12 = .ok (.caload, 1) := by decide +kernel
theorem dci4_4_13 : decode jdk_52_method_21_code 13 = .ok (.istore 6, 2) := by decide +kernel
theorem dci4_4_15 : decode jdk_52_method_21_code 15 = .ok (.iload 6, 2) := by decide +kernel
theorem dci4_4_17 : decode jdk_52_method_21_code 17 = .ok (.sipush 255, 3) := by decide +kernel
theorem dci4_4_20 : decode jdk_52_method_21_code 20 = .ok (.if_icmp .le 6, 3) := by decide +kernel
theorem dci4_4_26 : decode jdk_52_method_21_code 26 = .ok (.aload_n 2, 1) := by decide +kernel
theorem dci4_4_27 : decode jdk_52_method_21_code 27 = .ok (.iload_n 3, 1) := by decide +kernel
theorem dci4_4_28 : decode jdk_52_method_21_code 28 = .ok (.iload 6, 2) := by decide +kernel
theorem dci4_4_30 : decode jdk_52_method_21_code 30 = .ok (.i2b, 1) := by decide +kernel
theorem dci4_4_31 : decode jdk_52_method_21_code 31 = .ok (.bastore, 1) := by decide +kernel
theorem dci4_4_32 : decode jdk_52_method_21_code 32 = .ok (.iinc 1 1, 3) := by decide +kernel
theorem dci4_4_35 : decode jdk_52_method_21_code 35 = .ok (.iinc 3 1, 3) := by decide +kernel
theorem dci4_4_38 : decode jdk_52_method_21_code 38 = .ok (.iinc 5 1, 3) := by decide +kernel
theorem dci4_4_41 : decode jdk_52_method_21_code 41 = .ok (.goto (-38), 3) := by decide +kernel
theorem dci4_4_44 : decode jdk_52_method_21_code 44 = .ok (.iload 4, 2) := by decide +kernel
theorem dci4_4_46 : decode jdk_52_method_21_code 46 = .ok (.ireturn, 1) := by decide +kernel
theorem pn_ci4_4 : plainName "java/lang/StringUTF16" = true := by first | (simp [plainName, overriddenIn]; done) | decide +kernel
theorem ef_ci4_4 (m : MethodId) (x0 : Addr) (x1 : Int32) (x2 : Addr) (x3 : Int32) (x4 : Int32) : entryFrame m #[(.ref x0), (.int x1), (.ref x2), (.int x3), (.int x4)] 7 = mkF m 0 #[.val (.ref x0), .val (.int x1), .val (.ref x2), .val (.int x3), .val (.int x4), .unset, .unset] [] := by first | (simp [entryFrame, mkF, argsToLocals, Value.category]; done) | rfl
def Qci4_4 (Z : State) (a1 : Addr) (a2 : Addr) (k1 : ClassId) (k2 : ClassId) (c0 : Int32) (c1 : Int32) (c2 : Int32) (c3 : Int32) (h0 : Heap) (n0 : Nat) (v : Option Value) (h : Heap) (L : List Loc) : Prop := v = some (.int (4 : Int32)) ∧ Fr n0 L ∧ Keep h0 h [a2] ∧ Arv Z h a2 k2 .byte (4 : Int32) [.int (c0.toInt8.toInt32), .int (c1.toInt8.toInt32), .int (c2.toInt8.toInt32), .int (c3.toInt8.toInt32)] (.int 0)
set_option maxRecDepth 65536 in
set_option maxHeartbeats 40000000 in
theorem rmci4_4 (l : Launch) (Z : State) (a0 : Array Value) (hw : ∀ d ∈ tables_1, d.before a0 Z = true) (ws : List Jvm.Cond) (a1 : Addr) (a2 : Addr) (k1 : ClassId) (k2 : ClassId) (c0 : Int32) (c1 : Int32) (c2 : Int32) (c3 : Int32) (h0 : Heap) (n0 : Nat) (Z0 : n0 ≤ h0.size) (F0 : Arv Z h0 a1 k1 .char (4 : Int32) [.int c0, .int c1, .int c2, .int c3] (.int 0)) (F1 : Arv Z h0 a2 k2 .byte (4 : Int32) [.int 0, .int 0, .int 0, .int 0] (.int 0)) (ge_a2 : n0 ≤ a2) (hne : a1 ≠ a2) (hc_c0 : ¬ ((255 : Int32) < c0)) (hc_c1 : ¬ ((255 : Int32) < c1)) (hc_c2 : ¬ ((255 : Int32) < c2)) (hc_c3 : ¬ ((255 : Int32) < c3)) :
    MetFree l (⟨"java/lang/StringUTF16", "compress", "([CI[BII)I"⟩ : MethodName) (head1 (Jvm.Cond.code (⟨"java/lang/StringUTF16", "compress", "([CI[BII)I"⟩ : MethodName) jdk_52_method_21_code 7 (some .int) :: ws) ({ frames := 0, cells := 0, slots := 0, locals := 0 } : Room)) (fun a U => a = #[(.ref a1), (.int (0 : Int32)), (.ref a2), (.int (0 : Int32)), (.int (4 : Int32))] ∧ Z.Warmed39 U.vm ∧ U.heap = h0) (fun _ _ _ _ _ => True) (fun _ U o U' => ∃ v L, o = .returned v ∧ Qci4_4 Z a1 a2 k1 k2 c0 c1 c2 c3 h0 n0 v U'.heap L ∧ FrameEnd U o U' L ({ frames := 0, cells := 0, slots := 0, locals := 0 } : Room).cells ({ frames := 0, cells := 0, slots := 0, locals := 0 } : Room).slots) := by
  refine MetFree.of_bodySF (plainFor_of_name pn_ci4_4) hisR ?_
  intro p e s m args below meth c s₁ Bd hml0 hP hK
  obtain ⟨rfl, hZ, hh⟩ := hP
  have hx := Bd.exec
  have hby := Bd.bytes
  have hml : c.maxLocals = 7 := hml0
  have hown : s.vm.findClass "java/lang/StringUTF16" = some m.cls := findClass_of_methodNamed Bd.named
  have hnm := (name_of_methodNamed Bd.named Bd.method).1
  have X0 : Stand p l e ({ frames := 0, cells := 0, slots := 0, locals := 0 } : Room) s m #[(.ref a1), (.int (0 : Int32)), (.ref a2), (.int (0 : Int32)), (.int (4 : Int32))] below meth c s₁ [] 0 0 := Stand.of_body Bd
  have e0 : s₁.heap = h0 := by rw [← hh, Bd.state]; rfl
  have N0 := Fr.nil n0
  show own_R p.tables e below (own_P s (Qci4_4 Z a1 a2 k1 k2 c0 c1 c2 c3 h0 n0) ({ frames := 0, cells := 0, slots := 0, locals := 0 } : Room).cells ({ frames := 0, cells := 0, slots := 0, locals := 0 } : Room).slots) (s₁.setTop (entryFrame m #[(.ref a1), (.int (0 : Int32)), (.ref a2), (.int (0 : Int32)), (.int (4 : Int32))] 7))
  refine own_f s₁ (mkF m 0 #[.val (.ref a1), .val (.int (0 : Int32)), .val (.ref a2), .val (.int (0 : Int32)), .val (.int (4 : Int32)), .unset, .unset] []) (fun t k => castTop (ef_ci4_4 m a1 (0 : Int32) a2 (0 : Int32) (4 : Int32)) k) ?_
  refine own_f s₁ (mkF m 1 #[.val (.ref a1), .val (.int (0 : Int32)), .val (.ref a2), .val (.int (0 : Int32)), .val (.int (4 : Int32)), .unset, .unset] [(.int (0 : Int32))]) (fun t k => XT.iconstV X0.here hx rfl (0 : Int32) (hb hby dci4_4_0) (by decide) k) ?_
  refine own_f s₁ (mkF m 3 #[.val (.ref a1), .val (.int (0 : Int32)), .val (.ref a2), .val (.int (0 : Int32)), .val (.int (4 : Int32)), .val (.int (0 : Int32)), .unset] []) (fun t k => XS.istore X0.here hx rfl (hb hby dci4_4_1) rfl (l' := #[.val (.ref a1), .val (.int (0 : Int32)), .val (.ref a2), .val (.int (0 : Int32)), .val (.int (4 : Int32)), .val (.int (0 : Int32)), .unset]) rfl k) ?_
  refine own_f s₁ (mkF m 5 #[.val (.ref a1), .val (.int (0 : Int32)), .val (.ref a2), .val (.int (0 : Int32)), .val (.int (4 : Int32)), .val (.int (0 : Int32)), .unset] [(.int (0 : Int32))]) (fun t k => XS.iload X0.here hx rfl (hb hby dci4_4_3) rfl k) ?_
  refine own_f s₁ (mkF m 7 #[.val (.ref a1), .val (.int (0 : Int32)), .val (.ref a2), .val (.int (0 : Int32)), .val (.int (4 : Int32)), .val (.int (0 : Int32)), .unset] [(.int (4 : Int32)), (.int (0 : Int32))]) (fun t k => XS.iload X0.here hx rfl (hb hby dci4_4_5) rfl k) ?_
  refine own_f s₁ (mkF m 10 #[.val (.ref a1), .val (.int (0 : Int32)), .val (.ref a2), .val (.int (0 : Int32)), .val (.int (4 : Int32)), .val (.int (0 : Int32)), .unset] []) (fun t k => XS.icmpNo X0.here hx rfl (hb hby dci4_4_7) rfl (XT.ii_ge_f (by decide)) k) ?_
  refine own_f s₁ (mkF m 11 #[.val (.ref a1), .val (.int (0 : Int32)), .val (.ref a2), .val (.int (0 : Int32)), .val (.int (4 : Int32)), .val (.int (0 : Int32)), .unset] [(.ref a1)]) (fun t k => XS.aloadN X0.here hx rfl (hb hby dci4_4_10) rfl rfl k) ?_
  refine own_f s₁ (mkF m 12 #[.val (.ref a1), .val (.int (0 : Int32)), .val (.ref a2), .val (.int (0 : Int32)), .val (.int (4 : Int32)), .val (.int (0 : Int32)), .unset] [(.int (0 : Int32)), (.ref a1)]) (fun t k => XS.iloadN X0.here hx rfl (hb hby dci4_4_11) rfl k) ?_
  obtain ⟨cl1, Ar1, q11, Sz1, q31, Hs1, Gs1⟩ := id F0
  have hi1 := inb_of (j := (0 : Int32)) Sz1 ⟨by decide, by decide⟩
  refine own_f s₁ (mkF m 13 #[.val (.ref a1), .val (.int (0 : Int32)), .val (.ref a2), .val (.int (0 : Int32)), .val (.int (4 : Int32)), .val (.int (0 : Int32)), .unset] [(.int c0)]) (fun t k => X0.caload hx (j := (0 : Int32)) (v := (.int c0)) (by rw [e0]; exact Ar1.1) (State.isArrayOf_alike hZ.alike Ar1.2.1) Ar1.2.2 hi1 (Has.at Hs1 hi1 rfl) (g := (mkF m 12 #[.val (.ref a1), .val (.int (0 : Int32)), .val (.ref a2), .val (.int (0 : Int32)), .val (.int (4 : Int32)), .val (.int (0 : Int32)), .unset] [(.int (0 : Int32)), (.ref a1)])) rfl rfl (hb hby dci4_4_12) t k) ?_
  refine own_f s₁ (mkF m 15 #[.val (.ref a1), .val (.int (0 : Int32)), .val (.ref a2), .val (.int (0 : Int32)), .val (.int (4 : Int32)), .val (.int (0 : Int32)), .val (.int c0)] []) (fun t k => XS.istore X0.here hx rfl (hb hby dci4_4_13) rfl (l' := #[.val (.ref a1), .val (.int (0 : Int32)), .val (.ref a2), .val (.int (0 : Int32)), .val (.int (4 : Int32)), .val (.int (0 : Int32)), .val (.int c0)]) rfl k) ?_
  refine own_f s₁ (mkF m 17 #[.val (.ref a1), .val (.int (0 : Int32)), .val (.ref a2), .val (.int (0 : Int32)), .val (.int (4 : Int32)), .val (.int (0 : Int32)), .val (.int c0)] [(.int c0)]) (fun t k => XS.iload X0.here hx rfl (hb hby dci4_4_15) rfl k) ?_
  refine own_f s₁ (mkF m 20 #[.val (.ref a1), .val (.int (0 : Int32)), .val (.ref a2), .val (.int (0 : Int32)), .val (.int (4 : Int32)), .val (.int (0 : Int32)), .val (.int c0)] [(.int (255 : Int32)), (.int c0)]) (fun t k => XT.sipushV X0.here hx rfl (255 : Int32) (hb hby dci4_4_17) (by decide) k) ?_
  refine own_f s₁ (mkF m 26 #[.val (.ref a1), .val (.int (0 : Int32)), .val (.ref a2), .val (.int (0 : Int32)), .val (.int (4 : Int32)), .val (.int (0 : Int32)), .val (.int c0)] []) (fun t k => XS.icmpYes X0.here hx rfl (pc0 := 20) (pc' := 26) rfl (hb hby dci4_4_20) rfl (XT.ii_le_t hc_c0) (by decide) (by decide) k) ?_
  refine own_f s₁ (mkF m 27 #[.val (.ref a1), .val (.int (0 : Int32)), .val (.ref a2), .val (.int (0 : Int32)), .val (.int (4 : Int32)), .val (.int (0 : Int32)), .val (.int c0)] [(.ref a2)]) (fun t k => XS.aloadN X0.here hx rfl (hb hby dci4_4_26) rfl rfl k) ?_
  refine own_f s₁ (mkF m 28 #[.val (.ref a1), .val (.int (0 : Int32)), .val (.ref a2), .val (.int (0 : Int32)), .val (.int (4 : Int32)), .val (.int (0 : Int32)), .val (.int c0)] [(.int (0 : Int32)), (.ref a2)]) (fun t k => XS.iloadN X0.here hx rfl (hb hby dci4_4_27) rfl k) ?_
  refine own_f s₁ (mkF m 30 #[.val (.ref a1), .val (.int (0 : Int32)), .val (.ref a2), .val (.int (0 : Int32)), .val (.int (4 : Int32)), .val (.int (0 : Int32)), .val (.int c0)] [(.int c0), (.int (0 : Int32)), (.ref a2)]) (fun t k => XS.iload X0.here hx rfl (hb hby dci4_4_28) rfl k) ?_
  refine own_f s₁ (mkF m 31 #[.val (.ref a1), .val (.int (0 : Int32)), .val (.ref a2), .val (.int (0 : Int32)), .val (.int (4 : Int32)), .val (.int (0 : Int32)), .val (.int c0)] [(.int (c0.toInt8.toInt32)), (.int (0 : Int32)), (.ref a2)]) (fun t k => XS.i2b X0.here hx rfl (hb hby dci4_4_30) rfl k) ?_
  obtain ⟨cl2, Ar2, q12, Sz2, q32, Hs2, Gs2⟩ := id F1
  obtain ⟨T2, h2, X2, e2, W2, st2⟩ := stB X0 hx hZ e0 Ar2 (j := (0 : Int32)) (inb_of Sz2 ⟨by decide, by decide⟩) (g := (mkF m 31 #[.val (.ref a1), .val (.int (0 : Int32)), .val (.ref a2), .val (.int (0 : Int32)), .val (.int (4 : Int32)), .val (.int (0 : Int32)), .val (.int c0)] [(.int (c0.toInt8.toInt32)), (.int (0 : Int32)), (.ref a2)])) rfl rfl (hb hby dci4_4_31)
  have N2 := Fr.snoc X2 N0 ge_a2
  have Zs2 : n0 ≤ h2.size := by rw [W2.size]; exact Z0
  have K2 : Keep h0 h2 [a2] := (Keep.refl h0 [a2]).wr W2 (Or.inl (by simp))
  have F_3 := F0.other W2 hne
  have F_4 : Arv Z h2 a2 k2 .byte (4 : Int32) [.int (c0.toInt8.toInt32), .int 0, .int 0, .int 0] (.int 0) := Arv.set Ar2 q12 Sz2 q32 Hs2 Gs2 (by rw [← ((own_narB _) : nar .byte (c0.toInt8.toInt32) = (c0.toInt8.toInt32))]; exact own_fitB _) (by rw [((own_narB _) : nar .byte (c0.toInt8.toInt32) = (c0.toInt8.toInt32))] at W2; exact W2) 0 (by decide) (by simp)
  refine own_f T2 (mkF m 32 #[.val (.ref a1), .val (.int (0 : Int32)), .val (.ref a2), .val (.int (0 : Int32)), .val (.int (4 : Int32)), .val (.int (0 : Int32)), .val (.int c0)] []) st2 ?_
  refine own_f T2 (mkF m 35 #[.val (.ref a1), .val (.int ((0 : Int32) + (1 : Int32))), .val (.ref a2), .val (.int (0 : Int32)), .val (.int (4 : Int32)), .val (.int (0 : Int32)), .val (.int c0)] []) (fun t k => XT.iincV X2.here hx rfl (l' := #[.val (.ref a1), .val (.int ((0 : Int32) + (1 : Int32))), .val (.ref a2), .val (.int (0 : Int32)), .val (.int (4 : Int32)), .val (.int (0 : Int32)), .val (.int c0)]) (1 : Int32) (hb hby dci4_4_32) (by decide) rfl rfl k) ?_
  rw [show ((0 : Int32) + (1 : Int32)) = (1 : Int32) from by decide]
  refine own_f T2 (mkF m 38 #[.val (.ref a1), .val (.int (1 : Int32)), .val (.ref a2), .val (.int ((0 : Int32) + (1 : Int32))), .val (.int (4 : Int32)), .val (.int (0 : Int32)), .val (.int c0)] []) (fun t k => XT.iincV X2.here hx rfl (l' := #[.val (.ref a1), .val (.int (1 : Int32)), .val (.ref a2), .val (.int ((0 : Int32) + (1 : Int32))), .val (.int (4 : Int32)), .val (.int (0 : Int32)), .val (.int c0)]) (1 : Int32) (hb hby dci4_4_35) (by decide) rfl rfl k) ?_
  rw [show ((0 : Int32) + (1 : Int32)) = (1 : Int32) from by decide]
  refine own_f T2 (mkF m 41 #[.val (.ref a1), .val (.int (1 : Int32)), .val (.ref a2), .val (.int (1 : Int32)), .val (.int (4 : Int32)), .val (.int ((0 : Int32) + (1 : Int32))), .val (.int c0)] []) (fun t k => XT.iincV X2.here hx rfl (l' := #[.val (.ref a1), .val (.int (1 : Int32)), .val (.ref a2), .val (.int (1 : Int32)), .val (.int (4 : Int32)), .val (.int ((0 : Int32) + (1 : Int32))), .val (.int c0)]) (1 : Int32) (hb hby dci4_4_38) (by decide) rfl rfl k) ?_
  rw [show ((0 : Int32) + (1 : Int32)) = (1 : Int32) from by decide]
  refine own_f T2 (mkF m 3 #[.val (.ref a1), .val (.int (1 : Int32)), .val (.ref a2), .val (.int (1 : Int32)), .val (.int (4 : Int32)), .val (.int (1 : Int32)), .val (.int c0)] []) (fun t k => XS.goto X2.here hx rfl (pc0 := 41) (pc' := 3) rfl (hb hby dci4_4_41) (by decide) (by decide) k) ?_
  refine own_f T2 (mkF m 5 #[.val (.ref a1), .val (.int (1 : Int32)), .val (.ref a2), .val (.int (1 : Int32)), .val (.int (4 : Int32)), .val (.int (1 : Int32)), .val (.int c0)] [(.int (1 : Int32))]) (fun t k => XS.iload X2.here hx rfl (hb hby dci4_4_3) rfl k) ?_
  refine own_f T2 (mkF m 7 #[.val (.ref a1), .val (.int (1 : Int32)), .val (.ref a2), .val (.int (1 : Int32)), .val (.int (4 : Int32)), .val (.int (1 : Int32)), .val (.int c0)] [(.int (4 : Int32)), (.int (1 : Int32))]) (fun t k => XS.iload X2.here hx rfl (hb hby dci4_4_5) rfl k) ?_
  refine own_f T2 (mkF m 10 #[.val (.ref a1), .val (.int (1 : Int32)), .val (.ref a2), .val (.int (1 : Int32)), .val (.int (4 : Int32)), .val (.int (1 : Int32)), .val (.int c0)] []) (fun t k => XS.icmpNo X2.here hx rfl (hb hby dci4_4_7) rfl (XT.ii_ge_f (by decide)) k) ?_
  refine own_f T2 (mkF m 11 #[.val (.ref a1), .val (.int (1 : Int32)), .val (.ref a2), .val (.int (1 : Int32)), .val (.int (4 : Int32)), .val (.int (1 : Int32)), .val (.int c0)] [(.ref a1)]) (fun t k => XS.aloadN X2.here hx rfl (hb hby dci4_4_10) rfl rfl k) ?_
  refine own_f T2 (mkF m 12 #[.val (.ref a1), .val (.int (1 : Int32)), .val (.ref a2), .val (.int (1 : Int32)), .val (.int (4 : Int32)), .val (.int (1 : Int32)), .val (.int c0)] [(.int (1 : Int32)), (.ref a1)]) (fun t k => XS.iloadN X2.here hx rfl (hb hby dci4_4_11) rfl k) ?_
  obtain ⟨cl5, Ar5, q15, Sz5, q35, Hs5, Gs5⟩ := id F_3
  have hi5 := inb_of (j := (1 : Int32)) Sz5 ⟨by decide, by decide⟩
  refine own_f T2 (mkF m 13 #[.val (.ref a1), .val (.int (1 : Int32)), .val (.ref a2), .val (.int (1 : Int32)), .val (.int (4 : Int32)), .val (.int (1 : Int32)), .val (.int c0)] [(.int c1)]) (fun t k => X2.caload hx (j := (1 : Int32)) (v := (.int c1)) (by rw [e2]; exact Ar5.1) (State.isArrayOf_alike hZ.alike Ar5.2.1) Ar5.2.2 hi5 (Has.at Hs5 hi5 rfl) (g := (mkF m 12 #[.val (.ref a1), .val (.int (1 : Int32)), .val (.ref a2), .val (.int (1 : Int32)), .val (.int (4 : Int32)), .val (.int (1 : Int32)), .val (.int c0)] [(.int (1 : Int32)), (.ref a1)])) rfl rfl (hb hby dci4_4_12) t k) ?_
  refine own_f T2 (mkF m 15 #[.val (.ref a1), .val (.int (1 : Int32)), .val (.ref a2), .val (.int (1 : Int32)), .val (.int (4 : Int32)), .val (.int (1 : Int32)), .val (.int c1)] []) (fun t k => XS.istore X2.here hx rfl (hb hby dci4_4_13) rfl (l' := #[.val (.ref a1), .val (.int (1 : Int32)), .val (.ref a2), .val (.int (1 : Int32)), .val (.int (4 : Int32)), .val (.int (1 : Int32)), .val (.int c1)]) rfl k) ?_
  refine own_f T2 (mkF m 17 #[.val (.ref a1), .val (.int (1 : Int32)), .val (.ref a2), .val (.int (1 : Int32)), .val (.int (4 : Int32)), .val (.int (1 : Int32)), .val (.int c1)] [(.int c1)]) (fun t k => XS.iload X2.here hx rfl (hb hby dci4_4_15) rfl k) ?_
  refine own_f T2 (mkF m 20 #[.val (.ref a1), .val (.int (1 : Int32)), .val (.ref a2), .val (.int (1 : Int32)), .val (.int (4 : Int32)), .val (.int (1 : Int32)), .val (.int c1)] [(.int (255 : Int32)), (.int c1)]) (fun t k => XT.sipushV X2.here hx rfl (255 : Int32) (hb hby dci4_4_17) (by decide) k) ?_
  refine own_f T2 (mkF m 26 #[.val (.ref a1), .val (.int (1 : Int32)), .val (.ref a2), .val (.int (1 : Int32)), .val (.int (4 : Int32)), .val (.int (1 : Int32)), .val (.int c1)] []) (fun t k => XS.icmpYes X2.here hx rfl (pc0 := 20) (pc' := 26) rfl (hb hby dci4_4_20) rfl (XT.ii_le_t hc_c1) (by decide) (by decide) k) ?_
  refine own_f T2 (mkF m 27 #[.val (.ref a1), .val (.int (1 : Int32)), .val (.ref a2), .val (.int (1 : Int32)), .val (.int (4 : Int32)), .val (.int (1 : Int32)), .val (.int c1)] [(.ref a2)]) (fun t k => XS.aloadN X2.here hx rfl (hb hby dci4_4_26) rfl rfl k) ?_
  refine own_f T2 (mkF m 28 #[.val (.ref a1), .val (.int (1 : Int32)), .val (.ref a2), .val (.int (1 : Int32)), .val (.int (4 : Int32)), .val (.int (1 : Int32)), .val (.int c1)] [(.int (1 : Int32)), (.ref a2)]) (fun t k => XS.iloadN X2.here hx rfl (hb hby dci4_4_27) rfl k) ?_
  refine own_f T2 (mkF m 30 #[.val (.ref a1), .val (.int (1 : Int32)), .val (.ref a2), .val (.int (1 : Int32)), .val (.int (4 : Int32)), .val (.int (1 : Int32)), .val (.int c1)] [(.int c1), (.int (1 : Int32)), (.ref a2)]) (fun t k => XS.iload X2.here hx rfl (hb hby dci4_4_28) rfl k) ?_
  refine own_f T2 (mkF m 31 #[.val (.ref a1), .val (.int (1 : Int32)), .val (.ref a2), .val (.int (1 : Int32)), .val (.int (4 : Int32)), .val (.int (1 : Int32)), .val (.int c1)] [(.int (c1.toInt8.toInt32)), (.int (1 : Int32)), (.ref a2)]) (fun t k => XS.i2b X2.here hx rfl (hb hby dci4_4_30) rfl k) ?_
  obtain ⟨cl6, Ar6, q16, Sz6, q36, Hs6, Gs6⟩ := id F_4
  obtain ⟨T6, h6, X6, e6, W6, st6⟩ := stB X2 hx hZ e2 Ar6 (j := (1 : Int32)) (inb_of Sz6 ⟨by decide, by decide⟩) (g := (mkF m 31 #[.val (.ref a1), .val (.int (1 : Int32)), .val (.ref a2), .val (.int (1 : Int32)), .val (.int (4 : Int32)), .val (.int (1 : Int32)), .val (.int c1)] [(.int (c1.toInt8.toInt32)), (.int (1 : Int32)), (.ref a2)])) rfl rfl (hb hby dci4_4_31)
  have N6 := Fr.snoc X6 N2 ge_a2
  have Zs6 : n0 ≤ h6.size := by rw [W6.size]; exact Zs2
  have K6 : Keep h0 h6 [a2] := K2.wr W6 (Or.inl (by simp))
  have F_7 := F_3.other W6 hne
  have F_8 : Arv Z h6 a2 k2 .byte (4 : Int32) [.int (c0.toInt8.toInt32), .int (c1.toInt8.toInt32), .int 0, .int 0] (.int 0) := Arv.set Ar6 q16 Sz6 q36 Hs6 Gs6 (by rw [← ((own_narB _) : nar .byte (c1.toInt8.toInt32) = (c1.toInt8.toInt32))]; exact own_fitB _) (by rw [((own_narB _) : nar .byte (c1.toInt8.toInt32) = (c1.toInt8.toInt32))] at W6; exact W6) 1 (by decide) (by simp)
  refine own_f T6 (mkF m 32 #[.val (.ref a1), .val (.int (1 : Int32)), .val (.ref a2), .val (.int (1 : Int32)), .val (.int (4 : Int32)), .val (.int (1 : Int32)), .val (.int c1)] []) st6 ?_
  refine own_f T6 (mkF m 35 #[.val (.ref a1), .val (.int ((1 : Int32) + (1 : Int32))), .val (.ref a2), .val (.int (1 : Int32)), .val (.int (4 : Int32)), .val (.int (1 : Int32)), .val (.int c1)] []) (fun t k => XT.iincV X6.here hx rfl (l' := #[.val (.ref a1), .val (.int ((1 : Int32) + (1 : Int32))), .val (.ref a2), .val (.int (1 : Int32)), .val (.int (4 : Int32)), .val (.int (1 : Int32)), .val (.int c1)]) (1 : Int32) (hb hby dci4_4_32) (by decide) rfl rfl k) ?_
  rw [show ((1 : Int32) + (1 : Int32)) = (2 : Int32) from by decide]
  refine own_f T6 (mkF m 38 #[.val (.ref a1), .val (.int (2 : Int32)), .val (.ref a2), .val (.int ((1 : Int32) + (1 : Int32))), .val (.int (4 : Int32)), .val (.int (1 : Int32)), .val (.int c1)] []) (fun t k => XT.iincV X6.here hx rfl (l' := #[.val (.ref a1), .val (.int (2 : Int32)), .val (.ref a2), .val (.int ((1 : Int32) + (1 : Int32))), .val (.int (4 : Int32)), .val (.int (1 : Int32)), .val (.int c1)]) (1 : Int32) (hb hby dci4_4_35) (by decide) rfl rfl k) ?_
  rw [show ((1 : Int32) + (1 : Int32)) = (2 : Int32) from by decide]
  refine own_f T6 (mkF m 41 #[.val (.ref a1), .val (.int (2 : Int32)), .val (.ref a2), .val (.int (2 : Int32)), .val (.int (4 : Int32)), .val (.int ((1 : Int32) + (1 : Int32))), .val (.int c1)] []) (fun t k => XT.iincV X6.here hx rfl (l' := #[.val (.ref a1), .val (.int (2 : Int32)), .val (.ref a2), .val (.int (2 : Int32)), .val (.int (4 : Int32)), .val (.int ((1 : Int32) + (1 : Int32))), .val (.int c1)]) (1 : Int32) (hb hby dci4_4_38) (by decide) rfl rfl k) ?_
  rw [show ((1 : Int32) + (1 : Int32)) = (2 : Int32) from by decide]
  refine own_f T6 (mkF m 3 #[.val (.ref a1), .val (.int (2 : Int32)), .val (.ref a2), .val (.int (2 : Int32)), .val (.int (4 : Int32)), .val (.int (2 : Int32)), .val (.int c1)] []) (fun t k => XS.goto X6.here hx rfl (pc0 := 41) (pc' := 3) rfl (hb hby dci4_4_41) (by decide) (by decide) k) ?_
  refine own_f T6 (mkF m 5 #[.val (.ref a1), .val (.int (2 : Int32)), .val (.ref a2), .val (.int (2 : Int32)), .val (.int (4 : Int32)), .val (.int (2 : Int32)), .val (.int c1)] [(.int (2 : Int32))]) (fun t k => XS.iload X6.here hx rfl (hb hby dci4_4_3) rfl k) ?_
  refine own_f T6 (mkF m 7 #[.val (.ref a1), .val (.int (2 : Int32)), .val (.ref a2), .val (.int (2 : Int32)), .val (.int (4 : Int32)), .val (.int (2 : Int32)), .val (.int c1)] [(.int (4 : Int32)), (.int (2 : Int32))]) (fun t k => XS.iload X6.here hx rfl (hb hby dci4_4_5) rfl k) ?_
  refine own_f T6 (mkF m 10 #[.val (.ref a1), .val (.int (2 : Int32)), .val (.ref a2), .val (.int (2 : Int32)), .val (.int (4 : Int32)), .val (.int (2 : Int32)), .val (.int c1)] []) (fun t k => XS.icmpNo X6.here hx rfl (hb hby dci4_4_7) rfl (XT.ii_ge_f (by decide)) k) ?_
  refine own_f T6 (mkF m 11 #[.val (.ref a1), .val (.int (2 : Int32)), .val (.ref a2), .val (.int (2 : Int32)), .val (.int (4 : Int32)), .val (.int (2 : Int32)), .val (.int c1)] [(.ref a1)]) (fun t k => XS.aloadN X6.here hx rfl (hb hby dci4_4_10) rfl rfl k) ?_
  refine own_f T6 (mkF m 12 #[.val (.ref a1), .val (.int (2 : Int32)), .val (.ref a2), .val (.int (2 : Int32)), .val (.int (4 : Int32)), .val (.int (2 : Int32)), .val (.int c1)] [(.int (2 : Int32)), (.ref a1)]) (fun t k => XS.iloadN X6.here hx rfl (hb hby dci4_4_11) rfl k) ?_
  obtain ⟨cl9, Ar9, q19, Sz9, q39, Hs9, Gs9⟩ := id F_7
  have hi9 := inb_of (j := (2 : Int32)) Sz9 ⟨by decide, by decide⟩
  refine own_f T6 (mkF m 13 #[.val (.ref a1), .val (.int (2 : Int32)), .val (.ref a2), .val (.int (2 : Int32)), .val (.int (4 : Int32)), .val (.int (2 : Int32)), .val (.int c1)] [(.int c2)]) (fun t k => X6.caload hx (j := (2 : Int32)) (v := (.int c2)) (by rw [e6]; exact Ar9.1) (State.isArrayOf_alike hZ.alike Ar9.2.1) Ar9.2.2 hi9 (Has.at Hs9 hi9 rfl) (g := (mkF m 12 #[.val (.ref a1), .val (.int (2 : Int32)), .val (.ref a2), .val (.int (2 : Int32)), .val (.int (4 : Int32)), .val (.int (2 : Int32)), .val (.int c1)] [(.int (2 : Int32)), (.ref a1)])) rfl rfl (hb hby dci4_4_12) t k) ?_
  refine own_f T6 (mkF m 15 #[.val (.ref a1), .val (.int (2 : Int32)), .val (.ref a2), .val (.int (2 : Int32)), .val (.int (4 : Int32)), .val (.int (2 : Int32)), .val (.int c2)] []) (fun t k => XS.istore X6.here hx rfl (hb hby dci4_4_13) rfl (l' := #[.val (.ref a1), .val (.int (2 : Int32)), .val (.ref a2), .val (.int (2 : Int32)), .val (.int (4 : Int32)), .val (.int (2 : Int32)), .val (.int c2)]) rfl k) ?_
  refine own_f T6 (mkF m 17 #[.val (.ref a1), .val (.int (2 : Int32)), .val (.ref a2), .val (.int (2 : Int32)), .val (.int (4 : Int32)), .val (.int (2 : Int32)), .val (.int c2)] [(.int c2)]) (fun t k => XS.iload X6.here hx rfl (hb hby dci4_4_15) rfl k) ?_
  refine own_f T6 (mkF m 20 #[.val (.ref a1), .val (.int (2 : Int32)), .val (.ref a2), .val (.int (2 : Int32)), .val (.int (4 : Int32)), .val (.int (2 : Int32)), .val (.int c2)] [(.int (255 : Int32)), (.int c2)]) (fun t k => XT.sipushV X6.here hx rfl (255 : Int32) (hb hby dci4_4_17) (by decide) k) ?_
  refine own_f T6 (mkF m 26 #[.val (.ref a1), .val (.int (2 : Int32)), .val (.ref a2), .val (.int (2 : Int32)), .val (.int (4 : Int32)), .val (.int (2 : Int32)), .val (.int c2)] []) (fun t k => XS.icmpYes X6.here hx rfl (pc0 := 20) (pc' := 26) rfl (hb hby dci4_4_20) rfl (XT.ii_le_t hc_c2) (by decide) (by decide) k) ?_
  refine own_f T6 (mkF m 27 #[.val (.ref a1), .val (.int (2 : Int32)), .val (.ref a2), .val (.int (2 : Int32)), .val (.int (4 : Int32)), .val (.int (2 : Int32)), .val (.int c2)] [(.ref a2)]) (fun t k => XS.aloadN X6.here hx rfl (hb hby dci4_4_26) rfl rfl k) ?_
  refine own_f T6 (mkF m 28 #[.val (.ref a1), .val (.int (2 : Int32)), .val (.ref a2), .val (.int (2 : Int32)), .val (.int (4 : Int32)), .val (.int (2 : Int32)), .val (.int c2)] [(.int (2 : Int32)), (.ref a2)]) (fun t k => XS.iloadN X6.here hx rfl (hb hby dci4_4_27) rfl k) ?_
  refine own_f T6 (mkF m 30 #[.val (.ref a1), .val (.int (2 : Int32)), .val (.ref a2), .val (.int (2 : Int32)), .val (.int (4 : Int32)), .val (.int (2 : Int32)), .val (.int c2)] [(.int c2), (.int (2 : Int32)), (.ref a2)]) (fun t k => XS.iload X6.here hx rfl (hb hby dci4_4_28) rfl k) ?_
  refine own_f T6 (mkF m 31 #[.val (.ref a1), .val (.int (2 : Int32)), .val (.ref a2), .val (.int (2 : Int32)), .val (.int (4 : Int32)), .val (.int (2 : Int32)), .val (.int c2)] [(.int (c2.toInt8.toInt32)), (.int (2 : Int32)), (.ref a2)]) (fun t k => XS.i2b X6.here hx rfl (hb hby dci4_4_30) rfl k) ?_
  obtain ⟨cl10, Ar10, q110, Sz10, q310, Hs10, Gs10⟩ := id F_8
  obtain ⟨T10, h10, X10, e10, W10, st10⟩ := stB X6 hx hZ e6 Ar10 (j := (2 : Int32)) (inb_of Sz10 ⟨by decide, by decide⟩) (g := (mkF m 31 #[.val (.ref a1), .val (.int (2 : Int32)), .val (.ref a2), .val (.int (2 : Int32)), .val (.int (4 : Int32)), .val (.int (2 : Int32)), .val (.int c2)] [(.int (c2.toInt8.toInt32)), (.int (2 : Int32)), (.ref a2)])) rfl rfl (hb hby dci4_4_31)
  have N10 := Fr.snoc X10 N6 ge_a2
  have Zs10 : n0 ≤ h10.size := by rw [W10.size]; exact Zs6
  have K10 : Keep h0 h10 [a2] := K6.wr W10 (Or.inl (by simp))
  have F_11 := F_7.other W10 hne
  have F_12 : Arv Z h10 a2 k2 .byte (4 : Int32) [.int (c0.toInt8.toInt32), .int (c1.toInt8.toInt32), .int (c2.toInt8.toInt32), .int 0] (.int 0) := Arv.set Ar10 q110 Sz10 q310 Hs10 Gs10 (by rw [← ((own_narB _) : nar .byte (c2.toInt8.toInt32) = (c2.toInt8.toInt32))]; exact own_fitB _) (by rw [((own_narB _) : nar .byte (c2.toInt8.toInt32) = (c2.toInt8.toInt32))] at W10; exact W10) 2 (by decide) (by simp)
  refine own_f T10 (mkF m 32 #[.val (.ref a1), .val (.int (2 : Int32)), .val (.ref a2), .val (.int (2 : Int32)), .val (.int (4 : Int32)), .val (.int (2 : Int32)), .val (.int c2)] []) st10 ?_
  refine own_f T10 (mkF m 35 #[.val (.ref a1), .val (.int ((2 : Int32) + (1 : Int32))), .val (.ref a2), .val (.int (2 : Int32)), .val (.int (4 : Int32)), .val (.int (2 : Int32)), .val (.int c2)] []) (fun t k => XT.iincV X10.here hx rfl (l' := #[.val (.ref a1), .val (.int ((2 : Int32) + (1 : Int32))), .val (.ref a2), .val (.int (2 : Int32)), .val (.int (4 : Int32)), .val (.int (2 : Int32)), .val (.int c2)]) (1 : Int32) (hb hby dci4_4_32) (by decide) rfl rfl k) ?_
  rw [show ((2 : Int32) + (1 : Int32)) = (3 : Int32) from by decide]
  refine own_f T10 (mkF m 38 #[.val (.ref a1), .val (.int (3 : Int32)), .val (.ref a2), .val (.int ((2 : Int32) + (1 : Int32))), .val (.int (4 : Int32)), .val (.int (2 : Int32)), .val (.int c2)] []) (fun t k => XT.iincV X10.here hx rfl (l' := #[.val (.ref a1), .val (.int (3 : Int32)), .val (.ref a2), .val (.int ((2 : Int32) + (1 : Int32))), .val (.int (4 : Int32)), .val (.int (2 : Int32)), .val (.int c2)]) (1 : Int32) (hb hby dci4_4_35) (by decide) rfl rfl k) ?_
  rw [show ((2 : Int32) + (1 : Int32)) = (3 : Int32) from by decide]
  refine own_f T10 (mkF m 41 #[.val (.ref a1), .val (.int (3 : Int32)), .val (.ref a2), .val (.int (3 : Int32)), .val (.int (4 : Int32)), .val (.int ((2 : Int32) + (1 : Int32))), .val (.int c2)] []) (fun t k => XT.iincV X10.here hx rfl (l' := #[.val (.ref a1), .val (.int (3 : Int32)), .val (.ref a2), .val (.int (3 : Int32)), .val (.int (4 : Int32)), .val (.int ((2 : Int32) + (1 : Int32))), .val (.int c2)]) (1 : Int32) (hb hby dci4_4_38) (by decide) rfl rfl k) ?_
  rw [show ((2 : Int32) + (1 : Int32)) = (3 : Int32) from by decide]
  refine own_f T10 (mkF m 3 #[.val (.ref a1), .val (.int (3 : Int32)), .val (.ref a2), .val (.int (3 : Int32)), .val (.int (4 : Int32)), .val (.int (3 : Int32)), .val (.int c2)] []) (fun t k => XS.goto X10.here hx rfl (pc0 := 41) (pc' := 3) rfl (hb hby dci4_4_41) (by decide) (by decide) k) ?_
  refine own_f T10 (mkF m 5 #[.val (.ref a1), .val (.int (3 : Int32)), .val (.ref a2), .val (.int (3 : Int32)), .val (.int (4 : Int32)), .val (.int (3 : Int32)), .val (.int c2)] [(.int (3 : Int32))]) (fun t k => XS.iload X10.here hx rfl (hb hby dci4_4_3) rfl k) ?_
  refine own_f T10 (mkF m 7 #[.val (.ref a1), .val (.int (3 : Int32)), .val (.ref a2), .val (.int (3 : Int32)), .val (.int (4 : Int32)), .val (.int (3 : Int32)), .val (.int c2)] [(.int (4 : Int32)), (.int (3 : Int32))]) (fun t k => XS.iload X10.here hx rfl (hb hby dci4_4_5) rfl k) ?_
  refine own_f T10 (mkF m 10 #[.val (.ref a1), .val (.int (3 : Int32)), .val (.ref a2), .val (.int (3 : Int32)), .val (.int (4 : Int32)), .val (.int (3 : Int32)), .val (.int c2)] []) (fun t k => XS.icmpNo X10.here hx rfl (hb hby dci4_4_7) rfl (XT.ii_ge_f (by decide)) k) ?_
  refine own_f T10 (mkF m 11 #[.val (.ref a1), .val (.int (3 : Int32)), .val (.ref a2), .val (.int (3 : Int32)), .val (.int (4 : Int32)), .val (.int (3 : Int32)), .val (.int c2)] [(.ref a1)]) (fun t k => XS.aloadN X10.here hx rfl (hb hby dci4_4_10) rfl rfl k) ?_
  refine own_f T10 (mkF m 12 #[.val (.ref a1), .val (.int (3 : Int32)), .val (.ref a2), .val (.int (3 : Int32)), .val (.int (4 : Int32)), .val (.int (3 : Int32)), .val (.int c2)] [(.int (3 : Int32)), (.ref a1)]) (fun t k => XS.iloadN X10.here hx rfl (hb hby dci4_4_11) rfl k) ?_
  obtain ⟨cl13, Ar13, q113, Sz13, q313, Hs13, Gs13⟩ := id F_11
  have hi13 := inb_of (j := (3 : Int32)) Sz13 ⟨by decide, by decide⟩
  refine own_f T10 (mkF m 13 #[.val (.ref a1), .val (.int (3 : Int32)), .val (.ref a2), .val (.int (3 : Int32)), .val (.int (4 : Int32)), .val (.int (3 : Int32)), .val (.int c2)] [(.int c3)]) (fun t k => X10.caload hx (j := (3 : Int32)) (v := (.int c3)) (by rw [e10]; exact Ar13.1) (State.isArrayOf_alike hZ.alike Ar13.2.1) Ar13.2.2 hi13 (Has.at Hs13 hi13 rfl) (g := (mkF m 12 #[.val (.ref a1), .val (.int (3 : Int32)), .val (.ref a2), .val (.int (3 : Int32)), .val (.int (4 : Int32)), .val (.int (3 : Int32)), .val (.int c2)] [(.int (3 : Int32)), (.ref a1)])) rfl rfl (hb hby dci4_4_12) t k) ?_
  refine own_f T10 (mkF m 15 #[.val (.ref a1), .val (.int (3 : Int32)), .val (.ref a2), .val (.int (3 : Int32)), .val (.int (4 : Int32)), .val (.int (3 : Int32)), .val (.int c3)] []) (fun t k => XS.istore X10.here hx rfl (hb hby dci4_4_13) rfl (l' := #[.val (.ref a1), .val (.int (3 : Int32)), .val (.ref a2), .val (.int (3 : Int32)), .val (.int (4 : Int32)), .val (.int (3 : Int32)), .val (.int c3)]) rfl k) ?_
  refine own_f T10 (mkF m 17 #[.val (.ref a1), .val (.int (3 : Int32)), .val (.ref a2), .val (.int (3 : Int32)), .val (.int (4 : Int32)), .val (.int (3 : Int32)), .val (.int c3)] [(.int c3)]) (fun t k => XS.iload X10.here hx rfl (hb hby dci4_4_15) rfl k) ?_
  refine own_f T10 (mkF m 20 #[.val (.ref a1), .val (.int (3 : Int32)), .val (.ref a2), .val (.int (3 : Int32)), .val (.int (4 : Int32)), .val (.int (3 : Int32)), .val (.int c3)] [(.int (255 : Int32)), (.int c3)]) (fun t k => XT.sipushV X10.here hx rfl (255 : Int32) (hb hby dci4_4_17) (by decide) k) ?_
  refine own_f T10 (mkF m 26 #[.val (.ref a1), .val (.int (3 : Int32)), .val (.ref a2), .val (.int (3 : Int32)), .val (.int (4 : Int32)), .val (.int (3 : Int32)), .val (.int c3)] []) (fun t k => XS.icmpYes X10.here hx rfl (pc0 := 20) (pc' := 26) rfl (hb hby dci4_4_20) rfl (XT.ii_le_t hc_c3) (by decide) (by decide) k) ?_
  refine own_f T10 (mkF m 27 #[.val (.ref a1), .val (.int (3 : Int32)), .val (.ref a2), .val (.int (3 : Int32)), .val (.int (4 : Int32)), .val (.int (3 : Int32)), .val (.int c3)] [(.ref a2)]) (fun t k => XS.aloadN X10.here hx rfl (hb hby dci4_4_26) rfl rfl k) ?_
  refine own_f T10 (mkF m 28 #[.val (.ref a1), .val (.int (3 : Int32)), .val (.ref a2), .val (.int (3 : Int32)), .val (.int (4 : Int32)), .val (.int (3 : Int32)), .val (.int c3)] [(.int (3 : Int32)), (.ref a2)]) (fun t k => XS.iloadN X10.here hx rfl (hb hby dci4_4_27) rfl k) ?_
  refine own_f T10 (mkF m 30 #[.val (.ref a1), .val (.int (3 : Int32)), .val (.ref a2), .val (.int (3 : Int32)), .val (.int (4 : Int32)), .val (.int (3 : Int32)), .val (.int c3)] [(.int c3), (.int (3 : Int32)), (.ref a2)]) (fun t k => XS.iload X10.here hx rfl (hb hby dci4_4_28) rfl k) ?_
  refine own_f T10 (mkF m 31 #[.val (.ref a1), .val (.int (3 : Int32)), .val (.ref a2), .val (.int (3 : Int32)), .val (.int (4 : Int32)), .val (.int (3 : Int32)), .val (.int c3)] [(.int (c3.toInt8.toInt32)), (.int (3 : Int32)), (.ref a2)]) (fun t k => XS.i2b X10.here hx rfl (hb hby dci4_4_30) rfl k) ?_
  obtain ⟨cl14, Ar14, q114, Sz14, q314, Hs14, Gs14⟩ := id F_12
  obtain ⟨T14, h14, X14, e14, W14, st14⟩ := stB X10 hx hZ e10 Ar14 (j := (3 : Int32)) (inb_of Sz14 ⟨by decide, by decide⟩) (g := (mkF m 31 #[.val (.ref a1), .val (.int (3 : Int32)), .val (.ref a2), .val (.int (3 : Int32)), .val (.int (4 : Int32)), .val (.int (3 : Int32)), .val (.int c3)] [(.int (c3.toInt8.toInt32)), (.int (3 : Int32)), (.ref a2)])) rfl rfl (hb hby dci4_4_31)
  have N14 := Fr.snoc X14 N10 ge_a2
  have Zs14 : n0 ≤ h14.size := by rw [W14.size]; exact Zs10
  have K14 : Keep h0 h14 [a2] := K10.wr W14 (Or.inl (by simp))
  have F_15 := F_11.other W14 hne
  have F_16 : Arv Z h14 a2 k2 .byte (4 : Int32) [.int (c0.toInt8.toInt32), .int (c1.toInt8.toInt32), .int (c2.toInt8.toInt32), .int (c3.toInt8.toInt32)] (.int 0) := Arv.set Ar14 q114 Sz14 q314 Hs14 Gs14 (by rw [← ((own_narB _) : nar .byte (c3.toInt8.toInt32) = (c3.toInt8.toInt32))]; exact own_fitB _) (by rw [((own_narB _) : nar .byte (c3.toInt8.toInt32) = (c3.toInt8.toInt32))] at W14; exact W14) 3 (by decide) (by simp)
  refine own_f T14 (mkF m 32 #[.val (.ref a1), .val (.int (3 : Int32)), .val (.ref a2), .val (.int (3 : Int32)), .val (.int (4 : Int32)), .val (.int (3 : Int32)), .val (.int c3)] []) st14 ?_
  refine own_f T14 (mkF m 35 #[.val (.ref a1), .val (.int ((3 : Int32) + (1 : Int32))), .val (.ref a2), .val (.int (3 : Int32)), .val (.int (4 : Int32)), .val (.int (3 : Int32)), .val (.int c3)] []) (fun t k => XT.iincV X14.here hx rfl (l' := #[.val (.ref a1), .val (.int ((3 : Int32) + (1 : Int32))), .val (.ref a2), .val (.int (3 : Int32)), .val (.int (4 : Int32)), .val (.int (3 : Int32)), .val (.int c3)]) (1 : Int32) (hb hby dci4_4_32) (by decide) rfl rfl k) ?_
  rw [show ((3 : Int32) + (1 : Int32)) = (4 : Int32) from by decide]
  refine own_f T14 (mkF m 38 #[.val (.ref a1), .val (.int (4 : Int32)), .val (.ref a2), .val (.int ((3 : Int32) + (1 : Int32))), .val (.int (4 : Int32)), .val (.int (3 : Int32)), .val (.int c3)] []) (fun t k => XT.iincV X14.here hx rfl (l' := #[.val (.ref a1), .val (.int (4 : Int32)), .val (.ref a2), .val (.int ((3 : Int32) + (1 : Int32))), .val (.int (4 : Int32)), .val (.int (3 : Int32)), .val (.int c3)]) (1 : Int32) (hb hby dci4_4_35) (by decide) rfl rfl k) ?_
  rw [show ((3 : Int32) + (1 : Int32)) = (4 : Int32) from by decide]
  refine own_f T14 (mkF m 41 #[.val (.ref a1), .val (.int (4 : Int32)), .val (.ref a2), .val (.int (4 : Int32)), .val (.int (4 : Int32)), .val (.int ((3 : Int32) + (1 : Int32))), .val (.int c3)] []) (fun t k => XT.iincV X14.here hx rfl (l' := #[.val (.ref a1), .val (.int (4 : Int32)), .val (.ref a2), .val (.int (4 : Int32)), .val (.int (4 : Int32)), .val (.int ((3 : Int32) + (1 : Int32))), .val (.int c3)]) (1 : Int32) (hb hby dci4_4_38) (by decide) rfl rfl k) ?_
  rw [show ((3 : Int32) + (1 : Int32)) = (4 : Int32) from by decide]
  refine own_f T14 (mkF m 3 #[.val (.ref a1), .val (.int (4 : Int32)), .val (.ref a2), .val (.int (4 : Int32)), .val (.int (4 : Int32)), .val (.int (4 : Int32)), .val (.int c3)] []) (fun t k => XS.goto X14.here hx rfl (pc0 := 41) (pc' := 3) rfl (hb hby dci4_4_41) (by decide) (by decide) k) ?_
  refine own_f T14 (mkF m 5 #[.val (.ref a1), .val (.int (4 : Int32)), .val (.ref a2), .val (.int (4 : Int32)), .val (.int (4 : Int32)), .val (.int (4 : Int32)), .val (.int c3)] [(.int (4 : Int32))]) (fun t k => XS.iload X14.here hx rfl (hb hby dci4_4_3) rfl k) ?_
  refine own_f T14 (mkF m 7 #[.val (.ref a1), .val (.int (4 : Int32)), .val (.ref a2), .val (.int (4 : Int32)), .val (.int (4 : Int32)), .val (.int (4 : Int32)), .val (.int c3)] [(.int (4 : Int32)), (.int (4 : Int32))]) (fun t k => XS.iload X14.here hx rfl (hb hby dci4_4_5) rfl k) ?_
  refine own_f T14 (mkF m 44 #[.val (.ref a1), .val (.int (4 : Int32)), .val (.ref a2), .val (.int (4 : Int32)), .val (.int (4 : Int32)), .val (.int (4 : Int32)), .val (.int c3)] []) (fun t k => XS.icmpYes X14.here hx rfl (pc0 := 7) (pc' := 44) rfl (hb hby dci4_4_7) rfl (XT.ii_ge_t (by decide)) (by decide) (by decide) k) ?_
  refine own_f T14 (mkF m 46 #[.val (.ref a1), .val (.int (4 : Int32)), .val (.ref a2), .val (.int (4 : Int32)), .val (.int (4 : Int32)), .val (.int (4 : Int32)), .val (.int c3)] [(.int (4 : Int32))]) (fun t k => XS.iload X14.here hx rfl (hb hby dci4_4_44) rfl k) ?_
  obtain ⟨fs, hr, hrun, hended, hW, hsame⟩ := X14.leave (v := some (.int (4 : Int32))) (fun h => by rw [Bd.returns] at h; cases h)
  refine ⟨_, _, retI X14 hx Bd.returns (hb hby dci4_4_46) hr, hrun, hended, _, _, rfl, ?_, ⟨_, rfl⟩, hW, hsame.mono (by decide) (by decide)⟩
  show Qci4_4 Z a1 a2 k1 k2 c0 c1 c2 c3 h0 n0 _ T14.heap _
  rw [e14]
  exact ⟨rfl, N14, K14, F_16⟩
theorem dcb4_4_0 : decode jdk_52_method_16_code 0 = .ok (.iload_n 2, 1) := by decide +kernel
theorem dcb4_4_1 : decode jdk_52_method_16_code 1 = .ok (.newarray .byte, 2) := by decide +kernel
theorem dcb4_4_3 : decode jdk_52_method_16_code 3 = .ok (.astore_n 3, 1) := by decide +kernel
theorem dcb4_4_4 : decode jdk_52_method_16_code 4 = .ok (.aload_n 0, 1) := by decide +kernel
theorem dcb4_4_5 : decode jdk_52_method_16_code 5 = .ok (.iload_n 1, 1) := by decide +kernel
theorem dcb4_4_6 : decode jdk_52_method_16_code 6 = .ok (.aload_n 3, 1) := by decide +kernel
theorem dcb4_4_7 : decode jdk_52_method_16_code 7 = .ok (.iconst 0, 1) := by decide +kernel
theorem dcb4_4_8 : decode jdk_52_method_16_code 8 = .ok (.iload_n 2, 1) := by decide +kernel
theorem dcb4_4_9 : decode jdk_52_method_16_code 9 = .ok (.invokestatic 115, 3) := by decide +kernel
theorem dcb4_4_12 : decode jdk_52_method_16_code 12 = .ok (.istore 4, 2) := by decide +kernel
theorem dcb4_4_14 : decode jdk_52_method_16_code 14 = .ok (.iload 4, 2) := by decide +kernel
theorem dcb4_4_16 : decode jdk_52_method_16_code 16 = .ok (.iload_n 2, 1) := by decide +kernel
theorem dcb4_4_17 : decode jdk_52_method_16_code 17 = .ok (.if_icmp .eq 40, 3) := by decide +kernel
theorem dcb4_4_57 : decode jdk_52_method_16_code 57 = .ok (.aload_n 3, 1) := by decide +kernel
theorem dcb4_4_58 : decode jdk_52_method_16_code 58 = .ok (.areturn, 1) := by decide +kernel
theorem pn_cb4_4 : plainName "java/lang/StringUTF16" = true := by first | (simp [plainName, overriddenIn]; done) | decide +kernel
theorem ef_cb4_4 (m : MethodId) (x0 : Addr) (x1 : Int32) (x2 : Int32) : entryFrame m #[(.ref x0), (.int x1), (.int x2)] 6 = mkF m 0 #[.val (.ref x0), .val (.int x1), .val (.int x2), .unset, .unset, .unset] [] := by first | (simp [entryFrame, mkF, argsToLocals, Value.category]; done) | rfl
def Qcb4_4 (Z : State) (a1 : Addr) (k1 : ClassId) (c0 : Int32) (c1 : Int32) (c2 : Int32) (c3 : Int32) (h0 : Heap) (n0 : Nat) (v : Option Value) (h : Heap) (L : List Loc) : Prop := ∃ (b : Addr) (kb : ClassId), v = some (.ref b) ∧ Fr n0 L ∧ Keep h0 h [] ∧ Arv Z h b kb .byte (4 : Int32) [.int (c0.toInt8.toInt32), .int (c1.toInt8.toInt32), .int (c2.toInt8.toInt32), .int (c3.toInt8.toInt32)] (.int 0) ∧ h0.size ≤ b
set_option maxRecDepth 65536 in
set_option maxHeartbeats 40000000 in
theorem rmcb4_4 (l : Launch) (Z : State) (a0 : Array Value) (hw : ∀ d ∈ tables_1, d.before a0 Z = true) (ws : List Jvm.Cond) (a1 : Addr) (k1 : ClassId) (c0 : Int32) (c1 : Int32) (c2 : Int32) (c3 : Int32) (h0 : Heap) (n0 : Nat) (Z0 : n0 ≤ h0.size) (F0 : Old Z n0 h0) (F1 : Arv Z h0 a1 k1 .char (4 : Int32) [.int c0, .int c1, .int c2, .int c3] (.int 0)) (hc_c0 : ¬ ((255 : Int32) < c0)) (hc_c1 : ¬ ((255 : Int32) < c1)) (hc_c2 : ¬ ((255 : Int32) < c2)) (hc_c3 : ¬ ((255 : Int32) < c3)) :
    MetFree l (⟨"java/lang/StringUTF16", "compress", "([CII)[B"⟩ : MethodName) (head1 (Jvm.Cond.code (⟨"java/lang/StringUTF16", "compress", "([CII)[B"⟩ : MethodName) jdk_52_method_16_code 6 (some (.array .byte)) :: ws) ({ frames := 3, cells := 2, slots := 12, locals := 40 } : Room)) (fun a U => a = #[(.ref a1), (.int (0 : Int32)), (.int (4 : Int32))] ∧ Z.Warmed39 U.vm ∧ U.heap = h0) (fun _ _ _ _ _ => True) (fun _ U o U' => ∃ v L, o = .returned v ∧ Qcb4_4 Z a1 k1 c0 c1 c2 c3 h0 n0 v U'.heap L ∧ FrameEnd U o U' L ({ frames := 3, cells := 2, slots := 12, locals := 40 } : Room).cells ({ frames := 3, cells := 2, slots := 12, locals := 40 } : Room).slots) := by
  refine MetFree.of_bodySF (plainFor_of_name pn_cb4_4) hisR ?_
  intro p e s m args below meth c s₁ Bd hml0 hP hK
  obtain ⟨rfl, hZ, hh⟩ := hP
  have hx := Bd.exec
  have hby := Bd.bytes
  have hml : c.maxLocals = 6 := hml0
  have hown : s.vm.findClass "java/lang/StringUTF16" = some m.cls := findClass_of_methodNamed Bd.named
  have hnm := (name_of_methodNamed Bd.named Bd.method).1
  have X0 : Stand p l e ({ frames := 3, cells := 2, slots := 12, locals := 40 } : Room) s m #[(.ref a1), (.int (0 : Int32)), (.int (4 : Int32))] below meth c s₁ [] 0 0 := Stand.of_body Bd
  have e0 : s₁.heap = h0 := by rw [← hh, Bd.state]; rfl
  have N0 := Fr.nil n0
  show own_R p.tables e below (own_P s (Qcb4_4 Z a1 k1 c0 c1 c2 c3 h0 n0) ({ frames := 3, cells := 2, slots := 12, locals := 40 } : Room).cells ({ frames := 3, cells := 2, slots := 12, locals := 40 } : Room).slots) (s₁.setTop (entryFrame m #[(.ref a1), (.int (0 : Int32)), (.int (4 : Int32))] 6))
  refine own_f s₁ (mkF m 0 #[.val (.ref a1), .val (.int (0 : Int32)), .val (.int (4 : Int32)), .unset, .unset, .unset] []) (fun t k => castTop (ef_cb4_4 m a1 (0 : Int32) (4 : Int32)) k) ?_
  refine own_f s₁ (mkF m 1 #[.val (.ref a1), .val (.int (0 : Int32)), .val (.int (4 : Int32)), .unset, .unset, .unset] [(.int (4 : Int32))]) (fun t k => XS.iloadN X0.here hx rfl (hb hby dcb4_4_0) rfl k) ?_
  obtain ⟨T1, h1, kA1, X1, e1, E1, A1, st1⟩ := newP X0 hx hZ (own_w hw 10 rfl) e0 (g := (mkF m 1 #[.val (.ref a1), .val (.int (0 : Int32)), .val (.int (4 : Int32)), .unset, .unset, .unset] [(.int (4 : Int32))])) rfl (hb hby dcb4_4_1) rfl (by decide) (cap := 4) (by decide) (by decide) (by decide) (by decide)
  obtain ⟨b1, g1⟩ : ∃ z, z = h0.size := ⟨_, rfl⟩
  rw [← g1] at A1 st1
  have ne1_a1 : a1 ≠ b1 := by rw [g1]; exact Nat.ne_of_lt F1.lt
  have ge1 : n0 ≤ b1 := by rw [g1]; exact Z0
  have gf1 : h0.size ≤ b1 := by rw [g1]; exact (Keep.refl h0 []).1
  have Zs1 : n0 ≤ h1.size := Nat.le_trans Z0 E1.1
  have F_2 := F0.ext E1
  have F_3 := F1.ext E1
  have K1 : Keep h0 h1 [] := (Keep.refl h0 []).ext E1
  have F_4 : Arv Z h1 b1 kA1 .byte (4 : Int32) [.int 0, .int 0, .int 0, .int 0] (.int 0) := own_arvnew 4 A1 (by decide)
  refine own_f T1 (mkF m 3 #[.val (.ref a1), .val (.int (0 : Int32)), .val (.int (4 : Int32)), .unset, .unset, .unset] [(.ref b1)]) st1 ?_
  refine own_f T1 (mkF m 4 #[.val (.ref a1), .val (.int (0 : Int32)), .val (.int (4 : Int32)), .val (.ref b1), .unset, .unset] []) (fun t k => XS.astoreN X1.here hx rfl (hb hby dcb4_4_3) rfl rfl (l' := #[.val (.ref a1), .val (.int (0 : Int32)), .val (.int (4 : Int32)), .val (.ref b1), .unset, .unset]) rfl k) ?_
  refine own_f T1 (mkF m 5 #[.val (.ref a1), .val (.int (0 : Int32)), .val (.int (4 : Int32)), .val (.ref b1), .unset, .unset] [(.ref a1)]) (fun t k => XS.aloadN X1.here hx rfl (hb hby dcb4_4_4) rfl rfl k) ?_
  refine own_f T1 (mkF m 6 #[.val (.ref a1), .val (.int (0 : Int32)), .val (.int (4 : Int32)), .val (.ref b1), .unset, .unset] [(.int (0 : Int32)), (.ref a1)]) (fun t k => XS.iloadN X1.here hx rfl (hb hby dcb4_4_5) rfl k) ?_
  refine own_f T1 (mkF m 7 #[.val (.ref a1), .val (.int (0 : Int32)), .val (.int (4 : Int32)), .val (.ref b1), .unset, .unset] [(.ref b1), (.int (0 : Int32)), (.ref a1)]) (fun t k => XS.aloadN X1.here hx rfl (hb hby dcb4_4_6) rfl rfl k) ?_
  refine own_f T1 (mkF m 8 #[.val (.ref a1), .val (.int (0 : Int32)), .val (.int (4 : Int32)), .val (.ref b1), .unset, .unset] [(.int (0 : Int32)), (.ref b1), (.int (0 : Int32)), (.ref a1)]) (fun t k => XT.iconstV X1.here hx rfl (0 : Int32) (hb hby dcb4_4_7) (by decide) k) ?_
  refine own_f T1 (mkF m 9 #[.val (.ref a1), .val (.int (0 : Int32)), .val (.int (4 : Int32)), .val (.ref b1), .unset, .unset] [(.int (4 : Int32)), (.int (0 : Int32)), (.ref b1), (.int (0 : Int32)), (.ref a1)]) (fun t k => XS.iloadN X1.here hx rfl (hb hby dcb4_4_8) rfl k) ?_
  obtain ⟨_, _, ⟨T5, Lq5, kq_5, nq_5⟩, -, X5, ⟨Lc5, hQ5, lq5, yq5, zq5⟩, st5⟩ := Jvm.LawKit.callS X1 hx (y := (⟨"java/lang/StringUTF16", "compress", "([CI[BII)I"⟩ : MethodName)) hown (mvT hZ (own_w hw 31 rfl)) (mvT hZ (own_w hw 32 rfl)) (mvT hZ (own_w hw 29 rfl)) (mvT hZ (own_w hw 33 rfl)) (by decide) (backOf (W := 0) (rmci4_4 l Z a0 hw [] a1 b1 _ _ _ _ _ _ h1 n0 Zs1 F_3 F_4 ge1 ne1_a1 hc_c0 hc_c1 hc_c2 hc_c3) hZ (own_w hw 33 rfl) (own_w hw 29 rfl) (by decide) (by decide)) (g := (mkF m 9 #[.val (.ref a1), .val (.int (0 : Int32)), .val (.int (4 : Int32)), .val (.ref b1), .unset, .unset] [(.int (4 : Int32)), (.int (0 : Int32)), (.ref b1), (.int (0 : Int32)), (.ref a1)])) rfl (by rw [hml]; rfl) (argsL := [(.ref a1), (.int (0 : Int32)), (.ref b1), (.int (0 : Int32)), (.int (4 : Int32))]) (rest := []) (lenOf pd__CI_BII_I rfl) rfl (by show 2 * 0 + _ ≤ _; exact Nat.le_of_eq rfl) (hb hby dcb4_4_9) (fun _ _ => ⟨rfl, e1, (by decide : 0 + 1 + 0 ≤ _), (by decide : 0 + 4 + 0 ≤ _)⟩)
  dsimp only [Pt.U, Pt.locs, Pt.cells, Pt.slots] at X5 lq5 yq5 zq5 st5 hQ5
  subst lq5 yq5 zq5
  obtain ⟨h5, e5⟩ : ∃ z, T5.heap = z := ⟨_, rfl⟩
  rw [e5] at hQ5
  unfold Qci4_4 at hQ5
  obtain ⟨rfl, Nq5, qh5, G5_0⟩ := hQ5
  have N5 := Fr.app N0 Nq5
  have Zs5 : n0 ≤ h5.size := Nat.le_trans Zs1 qh5.1
  have F_6 := F_2.keep qh5 (allS ge1 all0)
  have F_7 := F_3.keep qh5 (ninS ne1_a1 nin0)
  have K5 : Keep h0 h5 [] := K1.trans qh5 (allS (Or.inr gf1) all0)
  refine own_f T5 (mkF m 12 #[.val (.ref a1), .val (.int (0 : Int32)), .val (.int (4 : Int32)), .val (.ref b1), .unset, .unset] [(.int (4 : Int32))]) st5 ?_
  refine own_f T5 (mkF m 14 #[.val (.ref a1), .val (.int (0 : Int32)), .val (.int (4 : Int32)), .val (.ref b1), .val (.int (4 : Int32)), .unset] []) (fun t k => XS.istore X5.here hx rfl (hb hby dcb4_4_12) rfl (l' := #[.val (.ref a1), .val (.int (0 : Int32)), .val (.int (4 : Int32)), .val (.ref b1), .val (.int (4 : Int32)), .unset]) rfl k) ?_
  refine own_f T5 (mkF m 16 #[.val (.ref a1), .val (.int (0 : Int32)), .val (.int (4 : Int32)), .val (.ref b1), .val (.int (4 : Int32)), .unset] [(.int (4 : Int32))]) (fun t k => XS.iload X5.here hx rfl (hb hby dcb4_4_14) rfl k) ?_
  refine own_f T5 (mkF m 17 #[.val (.ref a1), .val (.int (0 : Int32)), .val (.int (4 : Int32)), .val (.ref b1), .val (.int (4 : Int32)), .unset] [(.int (4 : Int32)), (.int (4 : Int32))]) (fun t k => XS.iloadN X5.here hx rfl (hb hby dcb4_4_16) rfl k) ?_
  refine own_f T5 (mkF m 57 #[.val (.ref a1), .val (.int (0 : Int32)), .val (.int (4 : Int32)), .val (.ref b1), .val (.int (4 : Int32)), .unset] []) (fun t k => XS.icmpYes X5.here hx rfl (pc0 := 17) (pc' := 57) rfl (hb hby dcb4_4_17) rfl (XT.ii_eq_t (by decide)) (by decide) (by decide) k) ?_
  refine own_f T5 (mkF m 58 #[.val (.ref a1), .val (.int (0 : Int32)), .val (.int (4 : Int32)), .val (.ref b1), .val (.int (4 : Int32)), .unset] [(.ref b1)]) (fun t k => XS.aloadN X5.here hx rfl (hb hby dcb4_4_57) rfl rfl k) ?_
  obtain ⟨fs, hr, hrun, hended, hW, hsame⟩ := X5.leave (v := some (.ref b1)) (fun h => by rw [Bd.returns] at h; cases h)
  refine ⟨_, _, retOut X5 hx Bd.returns (by rfl) (Or.inr (Or.inr (Or.inr (Or.inr ⟨rfl, rfl, rfl⟩)))) (hb hby dcb4_4_58) hr, hrun, hended, _, _, rfl, ?_, ⟨_, rfl⟩, hW, hsame.mono (by decide) (by decide)⟩
  show Qcb4_4 Z a1 k1 c0 c1 c2 c3 h0 n0 _ T5.heap _
  rw [e5]
  exact ⟨b1, kA1, rfl, N5, K5, G5_0, gf1⟩
theorem ds44_4_0 : decode jdk_42_method_149_code 0 = .ok (.aload_n 0, 1) := by decide +kernel
theorem ds44_4_1 : decode jdk_42_method_149_code 1 = .ok (.invokespecial 1, 3) := by decide +kernel
theorem ds44_4_4 : decode jdk_42_method_149_code 4 = .ok (.iload_n 3, 1) := by decide +kernel
theorem ds44_4_5 : decode jdk_42_method_149_code 5 = .ok (.ifCond .ne 22, 3) := by decide +kernel
theorem ds44_4_27 : decode jdk_42_method_149_code 27 = .ok (.getstatic 38, 3) := by decide +kernel
theorem ds44_4_30 : decode jdk_42_method_149_code 30 = .ok (.ifCond .eq 28, 3) := by decide +kernel
theorem ds44_4_33 : decode jdk_42_method_149_code 33 = .ok (.aload_n 1, 1) := by decide +kernel
theorem ds44_4_34 : decode jdk_42_method_149_code 34 = .ok (.iload_n 2, 1) := by decide +kernel
theorem ds44_4_35 : decode jdk_42_method_149_code 35 = .ok (.iload_n 3, 1) := by decide +kernel
theorem ds44_4_36 : decode jdk_42_method_149_code 36 = .ok (.invokestatic 177, 3) := by decide +kernel
theorem ds44_4_39 : decode jdk_42_method_149_code 39 = .ok (.astore 5, 2) := by decide +kernel
theorem ds44_4_41 : decode jdk_42_method_149_code 41 = .ok (.aload_n 0, 1) := by decide +kernel
theorem ds44_4_42 : decode jdk_42_method_149_code 42 = .ok (.aload 5, 2) := by decide +kernel
theorem ds44_4_44 : decode jdk_42_method_149_code 44 = .ok (.iload_n 3, 1) := by decide +kernel
theorem ds44_4_45 : decode jdk_42_method_149_code 45 = .ok (.invokestatic 47, 3) := by decide +kernel
theorem ds44_4_48 : decode jdk_42_method_149_code 48 = .ok (.putfield 15, 3) := by decide +kernel
theorem ds44_4_51 : decode jdk_42_method_149_code 51 = .ok (.aload_n 0, 1) := by decide +kernel
theorem ds44_4_52 : decode jdk_42_method_149_code 52 = .ok (.aload 5, 2) := by decide +kernel
theorem ds44_4_54 : decode jdk_42_method_149_code 54 = .ok (.putfield 9, 3) := by decide +kernel
theorem ds44_4_57 : decode jdk_42_method_149_code 57 = .ok (.return_, 1) := by decide +kernel
theorem pn_s44_4 : plainName "java/lang/String" = true := by first | (simp [plainName, overriddenIn]; done) | decide +kernel
theorem ef_s44_4 (m : MethodId) (x0 : Addr) (x1 : Addr) (x2 : Int32) (x3 : Int32) : entryFrame m #[(.ref x0), (.ref x1), (.int x2), (.int x3), .null] 6 = mkF m 0 #[.val (.ref x0), .val (.ref x1), .val (.int x2), .val (.int x3), .val .null, .unset] [] := by first | (simp [entryFrame, mkF, argsToLocals, Value.category]; done) | rfl
def Qs44_4 (Z : State) (a1 : Addr) (a2 : Addr) (k2 : ClassId) (c0 : Int32) (c1 : Int32) (c2 : Int32) (c3 : Int32) (u0 : Value) (u1 : Value) (wc : Int32) (h0 : Heap) (n0 : Nat) (v : Option Value) (h : Heap) (L : List Loc) : Prop := ∃ (b : Addr) (kb : ClassId), v = none ∧ Fr n0 L ∧ Keep h0 h [a1] ∧ Exa Z h a1 "java/lang/String" ∧ Fld Z h a1 "java/lang/String" "coder" "B" (.int (0 : Int32)) ∧ Fld Z h a1 "java/lang/String" "value" "[B" (.ref b) ∧ Arv Z h b kb .byte (4 : Int32) [.int (c0.toInt8.toInt32), .int (c1.toInt8.toInt32), .int (c2.toInt8.toInt32), .int (c3.toInt8.toInt32)] (.int 0) ∧ h0.size ≤ b
set_option maxRecDepth 65536 in
set_option maxHeartbeats 40000000 in
theorem rms44_4 (l : Launch) (Z : State) (a0 : Array Value) (hw : ∀ d ∈ tables_1, d.before a0 Z = true) (ws : List Jvm.Cond) (a1 : Addr) (a2 : Addr) (k2 : ClassId) (c0 : Int32) (c1 : Int32) (c2 : Int32) (c3 : Int32) (u0 : Value) (u1 : Value) (wc : Int32) (h0 : Heap) (n0 : Nat) (Z0 : n0 ≤ h0.size) (F0 : Old Z n0 h0) (F1 : Exa Z h0 a1 "java/lang/String") (F2 : Fld Z h0 a1 "java/lang/String" "value" "[B" u0) (F3 : Fld Z h0 a1 "java/lang/String" "coder" "B" u1) (F4 : Arv Z h0 a2 k2 .char (4 : Int32) [.int c0, .int c1, .int c2, .int c3] (.int 0)) (ge_a1 : n0 ≤ a1) (SC : Sta Z Z.heap "java/lang/String" "COMPACT_STRINGS" "Z" (.int wc)) (HWC : ¬ (wc = 0)) (hne : a2 ≠ a1) (hc_c0 : ¬ ((255 : Int32) < c0)) (hc_c1 : ¬ ((255 : Int32) < c1)) (hc_c2 : ¬ ((255 : Int32) < c2)) (hc_c3 : ¬ ((255 : Int32) < c3)) :
    MetFree l (⟨"java/lang/String", "<init>", "([CIILjava/lang/Void;)V"⟩ : MethodName) (head1 (Jvm.Cond.code (⟨"java/lang/String", "<init>", "([CIILjava/lang/Void;)V"⟩ : MethodName) jdk_42_method_149_code 6 none :: ws) ({ frames := 4, cells := 2, slots := 12, locals := 57 } : Room)) (fun a U => a = #[(.ref a1), (.ref a2), (.int (0 : Int32)), (.int (4 : Int32)), .null] ∧ Z.Warmed39 U.vm ∧ U.heap = h0) (fun _ _ _ _ _ => True) (fun _ U o U' => ∃ v L, o = .returned v ∧ Qs44_4 Z a1 a2 k2 c0 c1 c2 c3 u0 u1 wc h0 n0 v U'.heap L ∧ FrameEnd U o U' L ({ frames := 4, cells := 2, slots := 12, locals := 57 } : Room).cells ({ frames := 4, cells := 2, slots := 12, locals := 57 } : Room).slots) := by
  refine MetFree.of_bodySF (plainFor_of_name pn_s44_4) hisR ?_
  intro p e s m args below meth c s₁ Bd hml0 hP hK
  obtain ⟨rfl, hZ, hh⟩ := hP
  have hx := Bd.exec
  have hby := Bd.bytes
  have hml : c.maxLocals = 6 := hml0
  have hown : s.vm.findClass "java/lang/String" = some m.cls := findClass_of_methodNamed Bd.named
  have hnm := (name_of_methodNamed Bd.named Bd.method).1
  have X0 : Stand p l e ({ frames := 4, cells := 2, slots := 12, locals := 57 } : Room) s m #[(.ref a1), (.ref a2), (.int (0 : Int32)), (.int (4 : Int32)), .null] below meth c s₁ [] 0 0 := Stand.of_body Bd
  have e0 : s₁.heap = h0 := by rw [← hh, Bd.state]; rfl
  have N0 := Fr.nil n0
  show own_R p.tables e below (own_P s (Qs44_4 Z a1 a2 k2 c0 c1 c2 c3 u0 u1 wc h0 n0) ({ frames := 4, cells := 2, slots := 12, locals := 57 } : Room).cells ({ frames := 4, cells := 2, slots := 12, locals := 57 } : Room).slots) (s₁.setTop (entryFrame m #[(.ref a1), (.ref a2), (.int (0 : Int32)), (.int (4 : Int32)), .null] 6))
  refine own_f s₁ (mkF m 0 #[.val (.ref a1), .val (.ref a2), .val (.int (0 : Int32)), .val (.int (4 : Int32)), .val .null, .unset] []) (fun t k => castTop (ef_s44_4 m a1 a2 (0 : Int32) (4 : Int32)) k) ?_
  refine own_f s₁ (mkF m 1 #[.val (.ref a1), .val (.ref a2), .val (.int (0 : Int32)), .val (.int (4 : Int32)), .val .null, .unset] [(.ref a1)]) (fun t k => XS.aloadN X0.here hx rfl (hb hby ds44_4_0) rfl rfl k) ?_
  obtain ⟨T1, X1, e1, st1⟩ := initO X0 hx hZ hown (own_w hw 23 rfl) (own_w hw 24 rfl) (own_w hw 25 rfl) e0 (g := (mkF m 1 #[.val (.ref a1), .val (.ref a2), .val (.int (0 : Int32)), .val (.int (4 : Int32)), .val .null, .unset] [(.ref a1)])) rfl (by rw [hml]; rfl) rfl (hb hby ds44_4_1) (by decide) (W := 0) (by show 2 * 0 + _ ≤ _; exact Nat.le_of_eq rfl) (by decide)
  refine own_f T1 (mkF m 4 #[.val (.ref a1), .val (.ref a2), .val (.int (0 : Int32)), .val (.int (4 : Int32)), .val .null, .unset] []) st1 ?_
  refine own_f T1 (mkF m 5 #[.val (.ref a1), .val (.ref a2), .val (.int (0 : Int32)), .val (.int (4 : Int32)), .val .null, .unset] [(.int (4 : Int32))]) (fun t k => XS.iloadN X1.here hx rfl (hb hby ds44_4_4) rfl k) ?_
  refine own_f T1 (mkF m 27 #[.val (.ref a1), .val (.ref a2), .val (.int (0 : Int32)), .val (.int (4 : Int32)), .val .null, .unset] []) (fun t k => XS.ifYes X1.here hx rfl (pc0 := 5) (pc' := 27) rfl (hb hby ds44_4_5) rfl (XT.i0_ne_t (by decide)) (by decide) (by decide) k) ?_
  have S2 : Sta Z h0 "java/lang/String" "COMPACT_STRINGS" "Z" (.int wc) := SC.ext F0.2
  obtain ⟨T2, X2, e2, st2⟩ := getS X1 hx hZ (host := "") hown (own_w hw 26 rfl) Via.refl e1 S2 (g := (mkF m 27 #[.val (.ref a1), .val (.ref a2), .val (.int (0 : Int32)), .val (.int (4 : Int32)), .val .null, .unset] [])) rfl (hb hby ds44_4_27)
  refine own_f T2 (mkF m 30 #[.val (.ref a1), .val (.ref a2), .val (.int (0 : Int32)), .val (.int (4 : Int32)), .val .null, .unset] [(.int wc)]) st2 ?_
  refine own_f T2 (mkF m 33 #[.val (.ref a1), .val (.ref a2), .val (.int (0 : Int32)), .val (.int (4 : Int32)), .val .null, .unset] []) (fun t k => XS.ifNo X2.here hx rfl (hb hby ds44_4_30) rfl (XT.i0_eq_f HWC) k) ?_
  refine own_f T2 (mkF m 34 #[.val (.ref a1), .val (.ref a2), .val (.int (0 : Int32)), .val (.int (4 : Int32)), .val .null, .unset] [(.ref a2)]) (fun t k => XS.aloadN X2.here hx rfl (hb hby ds44_4_33) rfl rfl k) ?_
  refine own_f T2 (mkF m 35 #[.val (.ref a1), .val (.ref a2), .val (.int (0 : Int32)), .val (.int (4 : Int32)), .val .null, .unset] [(.int (0 : Int32)), (.ref a2)]) (fun t k => XS.iloadN X2.here hx rfl (hb hby ds44_4_34) rfl k) ?_
  refine own_f T2 (mkF m 36 #[.val (.ref a1), .val (.ref a2), .val (.int (0 : Int32)), .val (.int (4 : Int32)), .val .null, .unset] [(.int (4 : Int32)), (.int (0 : Int32)), (.ref a2)]) (fun t k => XS.iloadN X2.here hx rfl (hb hby ds44_4_35) rfl k) ?_
  obtain ⟨_, _, ⟨T3, Lq3, kq_3, nq_3⟩, -, X3, ⟨Lc3, hQ3, lq3, yq3, zq3⟩, st3⟩ := Jvm.LawKit.callS X2 hx (y := (⟨"java/lang/StringUTF16", "compress", "([CII)[B"⟩ : MethodName)) hown (mvT hZ (own_w hw 27 rfl)) (mvT hZ (own_w hw 28 rfl)) (mvT hZ (own_w hw 29 rfl)) (mvT hZ (own_w hw 30 rfl)) (by decide) (backOf (W := 0) (rmcb4_4 l Z a0 hw [] a2 _ _ _ _ _ h0 n0 Z0 F0 F4 hc_c0 hc_c1 hc_c2 hc_c3) hZ (own_w hw 30 rfl) (own_w hw 29 rfl) (by decide) (by decide)) (g := (mkF m 36 #[.val (.ref a1), .val (.ref a2), .val (.int (0 : Int32)), .val (.int (4 : Int32)), .val .null, .unset] [(.int (4 : Int32)), (.int (0 : Int32)), (.ref a2)])) rfl (by rw [hml]; rfl) (argsL := [(.ref a2), (.int (0 : Int32)), (.int (4 : Int32))]) (rest := []) (lenOf pd__CII_B rfl) rfl (by show 2 * 0 + _ ≤ _; exact Nat.le_of_eq rfl) (hb hby ds44_4_36) (fun _ _ => ⟨rfl, e2, (by decide : 0 + 2 ≤ _), (by decide : 0 + 12 ≤ _)⟩)
  dsimp only [Pt.U, Pt.locs, Pt.cells, Pt.slots] at X3 lq3 yq3 zq3 st3 hQ3
  subst lq3 yq3 zq3
  obtain ⟨h3, e3⟩ : ∃ z, T3.heap = z := ⟨_, rfl⟩
  rw [e3] at hQ3
  unfold Qcb4_4 at hQ3
  obtain ⟨b3, kb3, rfl, Nq3, qh3, G3_0, H3_0⟩ := hQ3
  have N3 := Fr.app N0 Nq3
  have Zs3 : n0 ≤ h3.size := Nat.le_trans Z0 qh3.1
  have F_4 := F0.keep qh3 all0
  have F_5 := F1.keep qh3
  have F_6 := F2.keep qh3 nin0
  have F_7 := F3.keep qh3 nin0
  have F_8 := F4.keep qh3 nin0
  have K3 : Keep h0 h3 [a1] := (Keep.refl h0 [a1]).trans qh3 all0
  have ne3_a1 : a1 ≠ b3 := Nat.ne_of_lt (Nat.lt_of_lt_of_le F1.lt H3_0)
  have ne3_a2 : a2 ≠ b3 := Nat.ne_of_lt (Nat.lt_of_lt_of_le F4.lt H3_0)
  have ge3 : n0 ≤ b3 := Nat.le_trans Z0 H3_0
  have gf3 : h0.size ≤ b3 := Nat.le_trans (Keep.refl h0 [a1]).1 H3_0
  refine own_f T3 (mkF m 39 #[.val (.ref a1), .val (.ref a2), .val (.int (0 : Int32)), .val (.int (4 : Int32)), .val .null, .unset] [(.ref b3)]) st3 ?_
  refine own_f T3 (mkF m 41 #[.val (.ref a1), .val (.ref a2), .val (.int (0 : Int32)), .val (.int (4 : Int32)), .val .null, .val (.ref b3)] []) (fun t k => XS.astore X3.here hx rfl (hb hby ds44_4_39) rfl rfl (l' := #[.val (.ref a1), .val (.ref a2), .val (.int (0 : Int32)), .val (.int (4 : Int32)), .val .null, .val (.ref b3)]) rfl k) ?_
  refine own_f T3 (mkF m 42 #[.val (.ref a1), .val (.ref a2), .val (.int (0 : Int32)), .val (.int (4 : Int32)), .val .null, .val (.ref b3)] [(.ref a1)]) (fun t k => XS.aloadN X3.here hx rfl (hb hby ds44_4_41) rfl rfl k) ?_
  refine own_f T3 (mkF m 44 #[.val (.ref a1), .val (.ref a2), .val (.int (0 : Int32)), .val (.int (4 : Int32)), .val .null, .val (.ref b3)] [(.ref b3), (.ref a1)]) (fun t k => XS.aload X3.here hx rfl (hb hby ds44_4_42) rfl rfl k) ?_
  refine own_f T3 (mkF m 45 #[.val (.ref a1), .val (.ref a2), .val (.int (0 : Int32)), .val (.int (4 : Int32)), .val .null, .val (.ref b3)] [(.int (4 : Int32)), (.ref b3), (.ref a1)]) (fun t k => XS.iloadN X3.here hx rfl (hb hby ds44_4_44) rfl k) ?_
  obtain ⟨_, _, ⟨T9, Lq9, kq_9, nq_9⟩, -, X9, ⟨Lc9, hQ9, lq9, yq9, zq9⟩, st9⟩ := Jvm.LawKit.callS X3 hx (y := (⟨"java/lang/StringUTF16", "coderFromArrayLen", "([BI)B"⟩ : MethodName)) hown (mvT hZ (own_w hw 34 rfl)) (mvT hZ (own_w hw 35 rfl)) (mvT hZ (own_w hw 29 rfl)) (mvT hZ (own_w hw 36 rfl)) (by decide) (backOf (W := 1) (rmco4_4 l Z a0 hw [] b3 _ _ h3 n0 Zs3 G3_0) hZ (own_w hw 36 rfl) (own_w hw 29 rfl) (by decide) (by decide)) (g := (mkF m 45 #[.val (.ref a1), .val (.ref a2), .val (.int (0 : Int32)), .val (.int (4 : Int32)), .val .null, .val (.ref b3)] [(.int (4 : Int32)), (.ref b3), (.ref a1)])) rfl (by rw [hml]; rfl) (argsL := [(.ref b3), (.int (4 : Int32))]) (rest := [(.ref a1)]) (lenOf pd__BI_B rfl) rfl (by show 2 * 0 + _ ≤ _; exact Nat.le_of_eq rfl) (hb hby ds44_4_45) (fun _ _ => ⟨rfl, e3, (by decide : 0 + 2 + 0 ≤ _), (by decide : 0 + 12 + 0 ≤ _)⟩)
  dsimp only [Pt.U, Pt.locs, Pt.cells, Pt.slots] at X9 lq9 yq9 zq9 st9 hQ9
  subst lq9 yq9 zq9
  obtain ⟨h9, e9⟩ : ∃ z, T9.heap = z := ⟨_, rfl⟩
  rw [e9] at hQ9
  unfold Qco4_4 at hQ9
  obtain ⟨rfl, Nq9, qh9⟩ := hQ9
  have N9 := Fr.app N3 Nq9
  rw [qh9] at e9
  refine own_f T9 (mkF m 48 #[.val (.ref a1), .val (.ref a2), .val (.int (0 : Int32)), .val (.int (4 : Int32)), .val .null, .val (.ref b3)] [(.int (0 : Int32)), (.ref a1)]) st9 ?_
  obtain ⟨T10, h10, X10, e10, W10, st10⟩ := putF X9 hx hZ hown (host := "") (Or.inl (own_w hw 37 rfl)) Via.refl e9 F_7 F_5 (Or.inr ⟨(own_w hw 12 rfl), rfl, hnm⟩) (own_w hw 9 rfl) (ty := .byte) (by decide) rfl rfl (g := (mkF m 48 #[.val (.ref a1), .val (.ref a2), .val (.int (0 : Int32)), .val (.int (4 : Int32)), .val .null, .val (.ref b3)] [(.int (0 : Int32)), (.ref a1)])) rfl rfl (hb hby ds44_4_48)
  have N10 := Fr.snoc X10 N9 ge_a1
  have Zs10 : n0 ≤ h10.size := by rw [W10.size]; exact Zs3
  have K10 : Keep h0 h10 [a1] := K3.wr W10 (Or.inl (by simp))
  have F_11 := F_4.wr W10 ge_a1
  have F_12 := F_5.wr W10
  have F_13 := F_6.other W10 (Or.inr (slot_ne (Or.inr (own_w hw 11 rfl)) (Or.inr (own_w hw 12 rfl)) (by decide) (t := (.array .byte)) (t' := .byte) (by decide) (by decide)))
  have F_14 := F_7.same W10
  have F_15 := F_8.other W10 hne
  have F_16 := G3_0.other W10 (Ne.symm ne3_a1)
  refine own_f T10 (mkF m 51 #[.val (.ref a1), .val (.ref a2), .val (.int (0 : Int32)), .val (.int (4 : Int32)), .val .null, .val (.ref b3)] []) st10 ?_
  refine own_f T10 (mkF m 52 #[.val (.ref a1), .val (.ref a2), .val (.int (0 : Int32)), .val (.int (4 : Int32)), .val .null, .val (.ref b3)] [(.ref a1)]) (fun t k => XS.aloadN X10.here hx rfl (hb hby ds44_4_51) rfl rfl k) ?_
  refine own_f T10 (mkF m 54 #[.val (.ref a1), .val (.ref a2), .val (.int (0 : Int32)), .val (.int (4 : Int32)), .val .null, .val (.ref b3)] [(.ref b3), (.ref a1)]) (fun t k => XS.aload X10.here hx rfl (hb hby ds44_4_52) rfl rfl k) ?_
  obtain ⟨T17, h17, X17, e17, W17, st17⟩ := putF X10 hx hZ hown (host := "") (Or.inl (own_w hw 38 rfl)) Via.refl e10 F_13 F_12 (Or.inr ⟨(own_w hw 11 rfl), rfl, hnm⟩) (own_w hw 9 rfl) (ty := (.array .byte)) (by decide) rfl rfl (g := (mkF m 54 #[.val (.ref a1), .val (.ref a2), .val (.int (0 : Int32)), .val (.int (4 : Int32)), .val .null, .val (.ref b3)] [(.ref b3), (.ref a1)])) rfl rfl (hb hby ds44_4_54)
  have N17 := Fr.snoc X17 N10 ge_a1
  have Zs17 : n0 ≤ h17.size := by rw [W17.size]; exact Zs10
  have K17 : Keep h0 h17 [a1] := K10.wr W17 (Or.inl (by simp))
  have F_18 := F_11.wr W17 ge_a1
  have F_19 := F_12.wr W17
  have F_20 := F_13.same W17
  have F_21 := F_14.other W17 (Or.inr (slot_ne (Or.inr (own_w hw 12 rfl)) (Or.inr (own_w hw 11 rfl)) (by decide) (t := .byte) (t' := (.array .byte)) (by decide) (by decide)))
  have F_22 := F_15.other W17 hne
  have F_23 := F_16.other W17 (Ne.symm ne3_a1)
  refine own_f T17 (mkF m 57 #[.val (.ref a1), .val (.ref a2), .val (.int (0 : Int32)), .val (.int (4 : Int32)), .val .null, .val (.ref b3)] []) st17 ?_
  obtain ⟨fs, hr, hrun, hended, hW, hsame⟩ := X17.leave (v := none) (fun _ => rfl)
  refine ⟨_, _, X17.returnOut hx Bd.returns (hb hby ds44_4_57) hr, hrun, hended, _, _, rfl, ?_, ⟨_, rfl⟩, hW, hsame.mono (by decide) (by decide)⟩
  show Qs44_4 Z a1 a2 k2 c0 c1 c2 c3 u0 u1 wc h0 n0 _ T17.heap _
  rw [e17]
  exact ⟨b3, kb3, rfl, N17, K17, F_19, F_21, F_20, F_23, gf3⟩
theorem ds24_4_0 : decode jdk_42_method_3_code 0 = .ok (.aload_n 0, 1) := by decide +kernel
theorem ds24_4_1 : decode jdk_42_method_3_code 1 = .ok (.aload_n 1, 1) := by decide +kernel
theorem ds24_4_2 : decode jdk_42_method_3_code 2 = .ok (.iconst 0, 1) := by decide +kernel
theorem ds24_4_3 : decode jdk_42_method_3_code 3 = .ok (.aload_n 1, 1) := by decide +kernel
theorem ds24_4_4 : decode jdk_42_method_3_code 4 = .ok (.arraylength, 1) := by decide +kernel
theorem ds24_4_5 : decode jdk_42_method_3_code 5 = .ok (.aconst_null, 1) := by decide +kernel
theorem ds24_4_6 : decode jdk_42_method_3_code 6 = .ok (.invokespecial 27, 3) := by decide +kernel
theorem ds24_4_9 : decode jdk_42_method_3_code 9 = .ok (.return_, 1) := by decide +kernel
theorem pn_s24_4 : plainName "java/lang/String" = true := by first | (simp [plainName, overriddenIn]; done) | decide +kernel
theorem ef_s24_4 (m : MethodId) (x0 : Addr) (x1 : Addr) : entryFrame m #[(.ref x0), (.ref x1)] 2 = mkF m 0 #[.val (.ref x0), .val (.ref x1)] [] := by first | (simp [entryFrame, mkF, argsToLocals, Value.category]; done) | rfl
def Qs24_4 (Z : State) (a1 : Addr) (a2 : Addr) (k2 : ClassId) (c0 : Int32) (c1 : Int32) (c2 : Int32) (c3 : Int32) (u0 : Value) (u1 : Value) (wc : Int32) (h0 : Heap) (n0 : Nat) (v : Option Value) (h : Heap) (L : List Loc) : Prop := ∃ (b : Addr) (kb : ClassId), v = none ∧ Fr n0 L ∧ Keep h0 h [a1] ∧ Exa Z h a1 "java/lang/String" ∧ Fld Z h a1 "java/lang/String" "coder" "B" (.int (0 : Int32)) ∧ Fld Z h a1 "java/lang/String" "value" "[B" (.ref b) ∧ Arv Z h b kb .byte (4 : Int32) [.int (c0.toInt8.toInt32), .int (c1.toInt8.toInt32), .int (c2.toInt8.toInt32), .int (c3.toInt8.toInt32)] (.int 0) ∧ h0.size ≤ b
set_option maxRecDepth 65536 in
set_option maxHeartbeats 40000000 in
theorem rms24_4 (l : Launch) (Z : State) (a0 : Array Value) (hw : ∀ d ∈ tables_1, d.before a0 Z = true) (ws : List Jvm.Cond) (a1 : Addr) (a2 : Addr) (k2 : ClassId) (c0 : Int32) (c1 : Int32) (c2 : Int32) (c3 : Int32) (u0 : Value) (u1 : Value) (wc : Int32) (h0 : Heap) (n0 : Nat) (Z0 : n0 ≤ h0.size) (F0 : Old Z n0 h0) (F1 : Exa Z h0 a1 "java/lang/String") (F2 : Fld Z h0 a1 "java/lang/String" "value" "[B" u0) (F3 : Fld Z h0 a1 "java/lang/String" "coder" "B" u1) (F4 : Arv Z h0 a2 k2 .char (4 : Int32) [.int c0, .int c1, .int c2, .int c3] (.int 0)) (ge_a1 : n0 ≤ a1) (SC : Sta Z Z.heap "java/lang/String" "COMPACT_STRINGS" "Z" (.int wc)) (HWC : ¬ (wc = 0)) (hne : a2 ≠ a1) (hc_c0 : ¬ ((255 : Int32) < c0)) (hc_c1 : ¬ ((255 : Int32) < c1)) (hc_c2 : ¬ ((255 : Int32) < c2)) (hc_c3 : ¬ ((255 : Int32) < c3)) :
    MetFree l (⟨"java/lang/String", "<init>", "([C)V"⟩ : MethodName) (head1 (Jvm.Cond.code (⟨"java/lang/String", "<init>", "([C)V"⟩ : MethodName) jdk_42_method_3_code 2 none :: ws) ({ frames := 5, cells := 2, slots := 12, locals := 74 } : Room)) (fun a U => a = #[(.ref a1), (.ref a2)] ∧ Z.Warmed39 U.vm ∧ U.heap = h0) (fun _ _ _ _ _ => True) (fun _ U o U' => ∃ v L, o = .returned v ∧ Qs24_4 Z a1 a2 k2 c0 c1 c2 c3 u0 u1 wc h0 n0 v U'.heap L ∧ FrameEnd U o U' L ({ frames := 5, cells := 2, slots := 12, locals := 74 } : Room).cells ({ frames := 5, cells := 2, slots := 12, locals := 74 } : Room).slots) := by
  refine MetFree.of_bodySF (plainFor_of_name pn_s24_4) hisR ?_
  intro p e s m args below meth c s₁ Bd hml0 hP hK
  obtain ⟨rfl, hZ, hh⟩ := hP
  have hx := Bd.exec
  have hby := Bd.bytes
  have hml : c.maxLocals = 2 := hml0
  have hown : s.vm.findClass "java/lang/String" = some m.cls := findClass_of_methodNamed Bd.named
  have hnm := (name_of_methodNamed Bd.named Bd.method).1
  have X0 : Stand p l e ({ frames := 5, cells := 2, slots := 12, locals := 74 } : Room) s m #[(.ref a1), (.ref a2)] below meth c s₁ [] 0 0 := Stand.of_body Bd
  have e0 : s₁.heap = h0 := by rw [← hh, Bd.state]; rfl
  have N0 := Fr.nil n0
  show own_R p.tables e below (own_P s (Qs24_4 Z a1 a2 k2 c0 c1 c2 c3 u0 u1 wc h0 n0) ({ frames := 5, cells := 2, slots := 12, locals := 74 } : Room).cells ({ frames := 5, cells := 2, slots := 12, locals := 74 } : Room).slots) (s₁.setTop (entryFrame m #[(.ref a1), (.ref a2)] 2))
  refine own_f s₁ (mkF m 0 #[.val (.ref a1), .val (.ref a2)] []) (fun t k => castTop (ef_s24_4 m a1 a2) k) ?_
  refine own_f s₁ (mkF m 1 #[.val (.ref a1), .val (.ref a2)] [(.ref a1)]) (fun t k => XS.aloadN X0.here hx rfl (hb hby ds24_4_0) rfl rfl k) ?_
  refine own_f s₁ (mkF m 2 #[.val (.ref a1), .val (.ref a2)] [(.ref a2), (.ref a1)]) (fun t k => XS.aloadN X0.here hx rfl (hb hby ds24_4_1) rfl rfl k) ?_
  refine own_f s₁ (mkF m 3 #[.val (.ref a1), .val (.ref a2)] [(.int (0 : Int32)), (.ref a2), (.ref a1)]) (fun t k => XT.iconstV X0.here hx rfl (0 : Int32) (hb hby ds24_4_2) (by decide) k) ?_
  refine own_f s₁ (mkF m 4 #[.val (.ref a1), .val (.ref a2)] [(.ref a2), (.int (0 : Int32)), (.ref a2), (.ref a1)]) (fun t k => XS.aloadN X0.here hx rfl (hb hby ds24_4_3) rfl rfl k) ?_
  refine own_f s₁ (mkF m 5 #[.val (.ref a1), .val (.ref a2)] [(.int (4 : Int32)), (.int (0 : Int32)), (.ref a2), (.ref a1)]) (fun t k => own_len X0 hx hZ e0 F4 (g := (mkF m 4 #[.val (.ref a1), .val (.ref a2)] [(.ref a2), (.int (0 : Int32)), (.ref a2), (.ref a1)])) rfl rfl (hb hby ds24_4_4) k) ?_
  refine own_f s₁ (mkF m 6 #[.val (.ref a1), .val (.ref a2)] [.null, (.int (4 : Int32)), (.int (0 : Int32)), (.ref a2), (.ref a1)]) (fun t k => XS.aconstNull X0.here hx rfl (hb hby ds24_4_5) k) ?_
  obtain ⟨_, _, ⟨T2, Lq2, kq_2, nq_2⟩, -, X2, ⟨Lc2, hQ2, lq2, yq2, zq2⟩, st2⟩ := X0.specialBack hx (y := (⟨"java/lang/String", "<init>", "([CIILjava/lang/Void;)V"⟩ : MethodName)) rfl hown (mvT hZ (own_w hw 19 rfl)) (mvT hZ (own_w hw 20 rfl)) (mvT hZ (own_w hw 22 rfl)) (by decide) (backOf (W := 0) (rms44_4 l Z a0 hw [] a1 a2 _ _ _ _ _ _ _ _ h0 n0 Z0 F0 F1 F2 F3 F4 ge_a1 SC HWC hne hc_c0 hc_c1 hc_c2 hc_c3) hZ (own_w hw 22 rfl) (own_w hw 8 rfl) (by decide) (by decide)) (g := (mkF m 6 #[.val (.ref a1), .val (.ref a2)] [.null, (.int (4 : Int32)), (.int (0 : Int32)), (.ref a2), (.ref a1)])) rfl (by rw [hml]; rfl) (Steps.refl _) (a := a1) (argsL := [(.ref a2), (.int (0 : Int32)), (.int (4 : Int32)), .null]) (rest := []) (lenOf pd__CIILjava_lang_Void_V rfl) rfl (by show 2 * 0 + _ ≤ _; exact Nat.le_of_eq rfl) (hb hby ds24_4_6) (fun _ _ => ⟨rfl, e0, (by decide : 0 + 2 ≤ _), (by decide : 0 + 12 ≤ _)⟩)
  dsimp only [Pt.U, Pt.locs, Pt.cells, Pt.slots] at X2 lq2 yq2 zq2 st2 hQ2
  subst lq2 yq2 zq2
  obtain ⟨h2, e2⟩ : ∃ z, T2.heap = z := ⟨_, rfl⟩
  rw [e2] at hQ2
  unfold Qs44_4 at hQ2
  obtain ⟨b2, kb2, rfl, Nq2, qh2, G2_0, G2_1, G2_2, G2_3, H2_0⟩ := hQ2
  have N2 := Fr.app N0 Nq2
  have Zs2 : n0 ≤ h2.size := Nat.le_trans Z0 qh2.1
  have F_3 := F0.keep qh2 (allS ge_a1 all0)
  have F_4 := F4.keep qh2 (ninS hne nin0)
  have K2 : Keep h0 h2 [a1] := (Keep.refl h0 [a1]).trans qh2 (allS (Or.inl (by simp)) all0)
  have ne2_a1 : a1 ≠ b2 := Nat.ne_of_lt (Nat.lt_of_lt_of_le F1.lt H2_0)
  have ne2_a2 : a2 ≠ b2 := Nat.ne_of_lt (Nat.lt_of_lt_of_le F4.lt H2_0)
  have ge2 : n0 ≤ b2 := Nat.le_trans Z0 H2_0
  have gf2 : h0.size ≤ b2 := Nat.le_trans (Keep.refl h0 [a1]).1 H2_0
  refine own_g T2 (mkF m 9 #[.val (.ref a1), .val (.ref a2)] []) st2 ?_
  obtain ⟨fs, hr, hrun, hended, hW, hsame⟩ := X2.leave (v := none) (fun _ => rfl)
  refine ⟨_, _, X2.returnOut hx Bd.returns (hb hby ds24_4_9) hr, hrun, hended, _, _, rfl, ?_, ⟨_, rfl⟩, hW, hsame.mono (by decide) (by decide)⟩
  show Qs24_4 Z a1 a2 k2 c0 c1 c2 c3 u0 u1 wc h0 n0 _ T2.heap _
  rw [e2]
  exact ⟨b2, kb2, rfl, N2, K2, G2_0, G2_1, G2_2, G2_3, gf2⟩
def own_T (Z : State) (h : Heap) (a : Addr) (c0 c2 : Int32) (m : Nat) : Prop := ∃ (d : Addr) (k : ClassId) (cd z : Int32) (vs : List Value), Exa Z h a "java/lang/String" ∧ Fld Z h a "java/lang/String" "coder" "B" (.int cd) ∧ Fld Z h a "java/lang/String" "value" "[B" (.ref d) ∧ Arv Z h d k .byte z vs (.int 0) ∧ ((cd = (0 : Int32) ∧ z = (4 : Int32) ∧ vs = [.int (c0.toInt8.toInt32), .int ((10 : Int32).toInt8.toInt32), .int (c2.toInt8.toInt32), .int ((10 : Int32).toInt8.toInt32)] ∧ ¬ ((255 : Int32) < c0) ∧ ¬ ((255 : Int32) < c2)) ∨ (cd = (1 : Int32) ∧ z = (8 : Int32) ∧ vs = [.int ((c0 >>> ((0 : Int32) &&& 31)).toInt8.toInt32), .int ((c0 >>> ((8 : Int32) &&& 31)).toInt8.toInt32), .int (((10 : Int32) >>> ((0 : Int32) &&& 31)).toInt8.toInt32), .int (((10 : Int32) >>> ((8 : Int32) &&& 31)).toInt8.toInt32), .int ((c2 >>> ((0 : Int32) &&& 31)).toInt8.toInt32), .int ((c2 >>> ((8 : Int32) &&& 31)).toInt8.toInt32), .int (((10 : Int32) >>> ((0 : Int32) &&& 31)).toInt8.toInt32), .int (((10 : Int32) >>> ((8 : Int32) &&& 31)).toInt8.toInt32)])) ∧ a < m ∧ d < m
theorem own_T.lt {Z : State} {h : Heap} {a : Addr} {c0 c2 : Int32} {m : Nat} (G : own_T Z h a c0 c2 m) : a < h.size := by obtain ⟨d, k, cd, z, vs, E1, -⟩ := G; exact E1.lt
theorem own_T.ext {Z : State} {h h' : Heap} {a : Addr} {c0 c2 : Int32} {m : Nat} (G : own_T Z h a c0 c2 m) (E : Ext h h') : own_T Z h' a c0 c2 m := by
  obtain ⟨d, k, cd, z, vs, E1, F1, F2, A, r⟩ := G
  exact ⟨d, k, cd, z, vs, E1.ext E, F1.ext E, F2.ext E, A.ext E, r⟩
theorem own_T.keep {Z : State} {h h' : Heap} {a : Addr} {c0 c2 : Int32} {m : Nat} {ws : List Addr} (G : own_T Z h a c0 c2 m) (K : Keep h h' ws) (q : ∀ x ∈ ws, m ≤ x) : own_T Z h' a c0 c2 m := by
  obtain ⟨d, k, cd, z, vs, E1, F1, F2, A, r, l1, l2⟩ := G
  have n1 : a ∉ ws := fun z => absurd l1 (Nat.not_lt.mpr (q a z))
  have n2 : d ∉ ws := fun z => absurd l2 (Nat.not_lt.mpr (q d z))
  exact ⟨d, k, cd, z, vs, E1.keep K, F1.keep K n1, F2.keep K n1, A.keep K n2, r, l1, l2⟩
def Qsu (Z : State) (a1 : Addr) (c0 c2 : Int32) (h0 : Heap) (n0 : Nat) (v : Option Value) (h : Heap) (L : List Loc) : Prop := v = none ∧ Fr n0 L ∧ Keep h0 h [a1] ∧ ∃ m : Nat, m = h.size ∧ own_T Z h a1 c0 c2 m
theorem own_q0 {Z : State} {a1 a2 : Addr} {k2 : ClassId} {c0 c2 : Int32} {u0 u1 : Value} {wc : Int32} {h0 : Heap} {n0 : Nat} {v : Option Value} {h : Heap} {L : List Loc} (q : Qs24_0 Z a1 a2 k2 c0 (10 : Int32) c2 (10 : Int32) u0 u1 wc h0 n0 v h L) : Qsu Z a1 c0 c2 h0 n0 v h L := by
  obtain ⟨b, kb, h1, h2, h3, h4, h5, h6, h7, h8⟩ := q
  exact ⟨h1, h2, h3, _, rfl, b, kb, _, _, _, h4, h5, h6, h7, Or.inr ⟨rfl, rfl, rfl⟩, h4.lt, h7.lt⟩
theorem own_q2 {Z : State} {a1 a2 : Addr} {k2 : ClassId} {c0 c2 : Int32} {u0 u1 : Value} {wc : Int32} {h0 : Heap} {n0 : Nat} {v : Option Value} {h : Heap} {L : List Loc} (q : Qs24_2 Z a1 a2 k2 c0 (10 : Int32) c2 (10 : Int32) u0 u1 wc h0 n0 v h L) : Qsu Z a1 c0 c2 h0 n0 v h L := by
  obtain ⟨b, kb, h1, h2, h3, h4, h5, h6, h7, h8⟩ := q
  exact ⟨h1, h2, h3, _, rfl, b, kb, _, _, _, h4, h5, h6, h7, Or.inr ⟨rfl, rfl, rfl⟩, h4.lt, h7.lt⟩
theorem own_q4 {Z : State} {a1 a2 : Addr} {k2 : ClassId} {c0 c2 : Int32} {u0 u1 : Value} {wc : Int32} {h0 : Heap} {n0 : Nat} {v : Option Value} {h : Heap} {L : List Loc} (g0 : ¬ ((255 : Int32) < c0)) (g2 : ¬ ((255 : Int32) < c2)) (q : Qs24_4 Z a1 a2 k2 c0 (10 : Int32) c2 (10 : Int32) u0 u1 wc h0 n0 v h L) : Qsu Z a1 c0 c2 h0 n0 v h L := by
  obtain ⟨b, kb, h1, h2, h3, h4, h5, h6, h7, h8⟩ := q
  exact ⟨h1, h2, h3, _, rfl, b, kb, _, _, _, h4, h5, h6, h7, Or.inl ⟨rfl, rfl, rfl, g0, g2⟩, h4.lt, h7.lt⟩
theorem rmsu (l : Launch) (Z : State) (a0 : Array Value) (hw : ∀ d ∈ tables_1, d.before a0 Z = true) (ws : List Jvm.Cond) (a1 a2 : Addr) (k2 : ClassId) (c0 c2 : Int32) (u0 u1 : Value) (wc : Int32) (h0 : Heap) (n0 : Nat) (Z0 : n0 ≤ h0.size) (F0 : Old Z n0 h0) (F1 : Exa Z h0 a1 "java/lang/String") (F2 : Fld Z h0 a1 "java/lang/String" "value" "[B" u0) (F3 : Fld Z h0 a1 "java/lang/String" "coder" "B" u1) (F4 : Arv Z h0 a2 k2 .char (4 : Int32) [.int c0, .int (10 : Int32), .int c2, .int (10 : Int32)] (.int 0)) (ge : n0 ≤ a1) (SC : Sta Z Z.heap "java/lang/String" "COMPACT_STRINGS" "Z" (.int wc)) (HWC : ¬ (wc = 0)) (SH : Sta Z Z.heap "java/lang/StringUTF16" "HI_BYTE_SHIFT" "I" (.int (0 : Int32))) (SL : Sta Z Z.heap "java/lang/StringUTF16" "LO_BYTE_SHIFT" "I" (.int (8 : Int32))) (SA : Sta Z Z.heap "java/lang/StringUTF16" "$assertionsDisabled" "Z" (.int (1 : Int32))) (hne : a2 ≠ a1) (hw0 : own_W c0) (hw2 : own_W c2) :
    MetFree l (⟨"java/lang/String", "<init>", "([C)V"⟩ : MethodName) (head1 (Jvm.Cond.code (⟨"java/lang/String", "<init>", "([C)V"⟩ : MethodName) jdk_42_method_3_code 2 none :: ws) ({ frames := 5, cells := 2, slots := 12, locals := 74 } : Room)) (fun a U => a = #[(.ref a1), (.ref a2)] ∧ Z.Warmed39 U.vm ∧ U.heap = h0) (fun _ _ _ _ _ => True) (fun _ U o U' => ∃ v L, o = .returned v ∧ Qsu Z a1 c0 c2 h0 n0 v U'.heap L ∧ FrameEnd U o U' L ({ frames := 5, cells := 2, slots := 12, locals := 74 } : Room).cells ({ frames := 5, cells := 2, slots := 12, locals := 74 } : Room).slots) := by
  by_cases g0 : (255 : Int32) < c0
  · exact own_mono (rms24_0 l Z a0 hw ws a1 a2 k2 c0 (10 : Int32) c2 (10 : Int32) u0 u1 wc h0 n0 Z0 F0 F1 F2 F3 F4 ge SC HWC SH SL SA hne g0 hw0) fun _ _ _ q => own_q0 q
  by_cases g2 : (255 : Int32) < c2
  · exact own_mono (rms24_2 l Z a0 hw ws a1 a2 k2 c0 (10 : Int32) c2 (10 : Int32) u0 u1 wc h0 n0 Z0 F0 F1 F2 F3 F4 ge SC HWC SH SL SA hne g0 (by decide) g2 hw2) fun _ _ _ q => own_q2 q
  exact own_mono (rms24_4 l Z a0 hw ws a1 a2 k2 c0 (10 : Int32) c2 (10 : Int32) u0 u1 wc h0 n0 Z0 F0 F1 F2 F3 F4 ge SC HWC hne g0 (by decide) g2 (by decide)) fun _ _ _ q => own_q4 g0 g2 q
theorem own_T.over {Z : State} {h h' : Heap} {a x : Addr} {c0 c2 : Int32} {m : Nat} (G : own_T Z h a c0 c2 m) (K : Keep h h' [x]) (hx : Exa Z h x "com/example/modelwright/modelwright/model/SourceParserNextLinePinLaw") {a0 : Array Value} (wi : (Jvm.Cond.instantiable "com/example/modelwright/modelwright/model/SourceParserNextLinePinLaw" 11).before a0 Z = true) : own_T Z h' a c0 c2 m := by
  obtain ⟨d, k, cd, z, vs, E1, F1, F2, A, r, l1, l2⟩ := G
  have n1 : a ∉ [x] := ninS (ne_exa E1 hx (by decide)) nin0
  have n2 : d ∉ [x] := ninS (by obtain ⟨c, A', -⟩ := A; exact (ne_arr hx wi A').symm) nin0
  exact ⟨d, k, cd, z, vs, E1.keep K, F1.keep K n1, F2.keep K n1, A.keep K n2, r, l1, l2⟩
theorem ddr_0 : decode method_2_code 0 = .ok (.iload_n 0, 1) := by decide +kernel
theorem ddr_1 : decode method_2_code 1 = .ok (.bipush 16, 2) := by decide +kernel
theorem ddr_3 : decode method_2_code 3 = .ok (.iushr, 1) := by decide +kernel
theorem ddr_4 : decode method_2_code 4 = .ok (.iconst 1, 1) := by decide +kernel
theorem ddr_5 : decode method_2_code 5 = .ok (.iand, 1) := by decide +kernel
theorem ddr_6 : decode method_2_code 6 = .ok (.ifCond .eq 13, 3) := by decide +kernel
theorem ddr_9 : decode method_2_code 9 = .ok (.ldc 7, 2) := by decide +kernel
theorem ddr_11 : decode method_2_code 11 = .ok (.iload_n 0, 1) := by decide +kernel
theorem ddr_12 : decode method_2_code 12 = .ok (.sipush 1023, 3) := by decide +kernel
theorem ddr_15 : decode method_2_code 15 = .ok (.iand, 1) := by decide +kernel
theorem ddr_16 : decode method_2_code 16 = .ok (.ior, 1) := by decide +kernel
theorem ddr_17 : decode method_2_code 17 = .ok (.i2c, 1) := by decide +kernel
theorem ddr_18 : decode method_2_code 18 = .ok (.ireturn, 1) := by decide +kernel
theorem ddr_19 : decode method_2_code 19 = .ok (.iload_n 0, 1) := by decide +kernel
theorem ddr_20 : decode method_2_code 20 = .ok (.i2c, 1) := by decide +kernel
theorem ddr_21 : decode method_2_code 21 = .ok (.ireturn, 1) := by decide +kernel
theorem pn_dr : plainName "com/example/modelwright/modelwright/model/SourceParserNextLinePinLaw" = true := by first | (simp [plainName, overriddenIn]; done) | decide +kernel
theorem ef_dr (m : MethodId) (x0 : Int32) : entryFrame m #[(.int x0)] 1 = mkF m 0 #[.val (.int x0)] [] := by first | (simp [entryFrame, mkF, argsToLocals, Value.category]; done) | rfl
def Qdr (Z : State) (p1 : Int32) (h0 : Heap) (n0 : Nat) (v : Option Value) (h : Heap) (L : List Loc) : Prop := ∃ c : Int32, v = some (.int c) ∧ Fr n0 L ∧ h = h0 ∧ own_W c
set_option maxRecDepth 65536 in
set_option maxHeartbeats 40000000 in
theorem rmdr (l : Launch) (Z : State) (a0 : Array Value) (hw : ∀ d ∈ tables_1, d.before a0 Z = true) (ws : List Jvm.Cond) (p1 : Int32) (h0 : Heap) (n0 : Nat) (Z0 : n0 ≤ h0.size) :
    MetFree l (⟨"com/example/modelwright/modelwright/model/SourceParserNextLinePinLaw", "draw", "(I)C"⟩ : MethodName) (head1 (Jvm.Cond.code (⟨"com/example/modelwright/modelwright/model/SourceParserNextLinePinLaw", "draw", "(I)C"⟩ : MethodName) method_2_code 1 (some .char) :: ws) ({ frames := 0, cells := 0, slots := 0, locals := 0 } : Room)) (fun a U => a = #[(.int p1)] ∧ Z.Warmed39 U.vm ∧ U.heap = h0) (fun _ _ _ _ _ => True) (fun _ U o U' => ∃ v L, o = .returned v ∧ Qdr Z p1 h0 n0 v U'.heap L ∧ FrameEnd U o U' L ({ frames := 0, cells := 0, slots := 0, locals := 0 } : Room).cells ({ frames := 0, cells := 0, slots := 0, locals := 0 } : Room).slots) := by
  refine MetFree.of_bodySF (plainFor_of_name pn_dr) hisR ?_
  intro p e s m args below meth c s₁ Bd hml0 hP hK
  obtain ⟨rfl, hZ, hh⟩ := hP
  have hx := Bd.exec
  have hby := Bd.bytes
  have hml : c.maxLocals = 1 := hml0
  have hown : s.vm.findClass "com/example/modelwright/modelwright/model/SourceParserNextLinePinLaw" = some m.cls := findClass_of_methodNamed Bd.named
  have hnm := (name_of_methodNamed Bd.named Bd.method).1
  have X0 : Stand p l e ({ frames := 0, cells := 0, slots := 0, locals := 0 } : Room) s m #[(.int p1)] below meth c s₁ [] 0 0 := Stand.of_body Bd
  have e0 : s₁.heap = h0 := by rw [← hh, Bd.state]; rfl
  have N0 := Fr.nil n0
  show own_R p.tables e below (own_P s (Qdr Z p1 h0 n0) ({ frames := 0, cells := 0, slots := 0, locals := 0 } : Room).cells ({ frames := 0, cells := 0, slots := 0, locals := 0 } : Room).slots) (s₁.setTop (entryFrame m #[(.int p1)] 1))
  refine own_f s₁ (mkF m 0 #[.val (.int p1)] []) (fun t k => castTop (ef_dr m p1) k) ?_
  refine own_f s₁ (mkF m 1 #[.val (.int p1)] [(.int p1)]) (fun t k => XS.iloadN X0.here hx rfl (hb hby ddr_0) rfl k) ?_
  refine own_f s₁ (mkF m 3 #[.val (.int p1)] [(.int (16 : Int32)), (.int p1)]) (fun t k => XT.bipushV X0.here hx rfl (16 : Int32) (hb hby ddr_1) (by decide) k) ?_
  refine own_f s₁ (mkF m 4 #[.val (.int p1)] [(.int ((p1.toUInt32 >>> ((16 : Int32) &&& 31).toUInt32).toInt32))]) (fun t k => XS.iushr X0.here hx rfl (hb hby ddr_3) rfl k) ?_
  refine own_f s₁ (mkF m 5 #[.val (.int p1)] [(.int (1 : Int32)), (.int ((p1.toUInt32 >>> ((16 : Int32) &&& 31).toUInt32).toInt32))]) (fun t k => XT.iconstV X0.here hx rfl (1 : Int32) (hb hby ddr_4) (by decide) k) ?_
  refine own_f s₁ (mkF m 6 #[.val (.int p1)] [(.int (((p1.toUInt32 >>> ((16 : Int32) &&& 31).toUInt32).toInt32) &&& (1 : Int32)))]) (fun t k => XS.iand X0.here hx rfl (hb hby ddr_5) rfl k) ?_
  by_cases hc1 : (((p1.toUInt32 >>> ((16 : Int32) &&& 31).toUInt32).toInt32) &&& (1 : Int32)) = 0
  · skip
    refine own_f s₁ (mkF m 19 #[.val (.int p1)] []) (fun t k => XS.ifYes X0.here hx rfl (pc0 := 6) (pc' := 19) rfl (hb hby ddr_6) rfl (XT.i0_eq_t hc1) (by decide) (by decide) k) ?_
    refine own_f s₁ (mkF m 20 #[.val (.int p1)] [(.int p1)]) (fun t k => XS.iloadN X0.here hx rfl (hb hby ddr_19) rfl k) ?_
    refine own_f s₁ (mkF m 21 #[.val (.int p1)] [(.int (p1.toUInt32.toUInt16.toUInt32.toInt32))]) (fun t k => XS.i2c X0.here hx rfl (hb hby ddr_20) rfl k) ?_
    obtain ⟨fs, hr, hrun, hended, hW, hsame⟩ := X0.leave (v := some (.int (p1.toUInt32.toUInt16.toUInt32.toInt32))) (fun h => by rw [Bd.returns] at h; cases h)
    refine ⟨_, _, own_retB X0 hx (t := .char) Bd.returns (by simp) (own_narC _) (hb hby ddr_21) hr, hrun, hended, _, _, rfl, ?_, ⟨_, rfl⟩, hW, hsame.mono (by decide) (by decide)⟩
    show Qdr Z p1 h0 n0 _ s₁.heap _
    rw [e0]
    exact ⟨(p1.toUInt32.toUInt16.toUInt32.toInt32), rfl, N0, rfl, own_Wc _⟩
  · skip
    refine own_f s₁ (mkF m 9 #[.val (.int p1)] []) (fun t k => XS.ifNo X0.here hx rfl (hb hby ddr_6) rfl (XT.i0_eq_f hc1) k) ?_
    refine own_f s₁ (mkF m 11 #[.val (.int p1)] [(.int (56320 : Int32))]) (fun t k => X0.ldcI hx hown (mvT hZ (own_w hw 140 rfl)) rfl (hb hby ddr_9) k) ?_
    refine own_f s₁ (mkF m 12 #[.val (.int p1)] [(.int p1), (.int (56320 : Int32))]) (fun t k => XS.iloadN X0.here hx rfl (hb hby ddr_11) rfl k) ?_
    refine own_f s₁ (mkF m 15 #[.val (.int p1)] [(.int (1023 : Int32)), (.int p1), (.int (56320 : Int32))]) (fun t k => XT.sipushV X0.here hx rfl (1023 : Int32) (hb hby ddr_12) (by decide) k) ?_
    refine own_f s₁ (mkF m 16 #[.val (.int p1)] [(.int (p1 &&& (1023 : Int32))), (.int (56320 : Int32))]) (fun t k => XS.iand X0.here hx rfl (hb hby ddr_15) rfl k) ?_
    refine own_f s₁ (mkF m 17 #[.val (.int p1)] [(.int ((56320 : Int32) ||| (p1 &&& (1023 : Int32))))]) (fun t k => XS.ior X0.here hx rfl (hb hby ddr_16) rfl k) ?_
    refine own_f s₁ (mkF m 18 #[.val (.int p1)] [(.int (((56320 : Int32) ||| (p1 &&& (1023 : Int32))).toUInt32.toUInt16.toUInt32.toInt32))]) (fun t k => XS.i2c X0.here hx rfl (hb hby ddr_17) rfl k) ?_
    obtain ⟨fs, hr, hrun, hended, hW, hsame⟩ := X0.leave (v := some (.int (((56320 : Int32) ||| (p1 &&& (1023 : Int32))).toUInt32.toUInt16.toUInt32.toInt32))) (fun h => by rw [Bd.returns] at h; cases h)
    refine ⟨_, _, own_retB X0 hx (t := .char) Bd.returns (by simp) (own_narC _) (hb hby ddr_18) hr, hrun, hended, _, _, rfl, ?_, ⟨_, rfl⟩, hW, hsame.mono (by decide) (by decide)⟩
    show Qdr Z p1 h0 n0 _ s₁.heap _
    rw [e0]
    exact ⟨(((56320 : Int32) ||| (p1 &&& (1023 : Int32))).toUInt32.toUInt16.toUInt32.toInt32), rfl, N0, rfl, own_Wc _⟩
theorem dlo_0 : decode method_3_code 0 = .ok (.iload_n 0, 1) := by decide +kernel
theorem dlo_1 : decode method_3_code 1 = .ok (.ldc 7, 2) := by decide +kernel
theorem dlo_3 : decode method_3_code 3 = .ok (.if_icmp .lt 13, 3) := by decide +kernel
theorem dlo_6 : decode method_3_code 6 = .ok (.iload_n 0, 1) := by decide +kernel
theorem dlo_7 : decode method_3_code 7 = .ok (.ldc 8, 2) := by decide +kernel
theorem dlo_9 : decode method_3_code 9 = .ok (.if_icmp .gt 7, 3) := by decide +kernel
theorem dlo_12 : decode method_3_code 12 = .ok (.iconst 1, 1) := by decide +kernel
theorem dlo_13 : decode method_3_code 13 = .ok (.goto 4, 3) := by decide +kernel
theorem dlo_16 : decode method_3_code 16 = .ok (.iconst 0, 1) := by decide +kernel
theorem dlo_17 : decode method_3_code 17 = .ok (.ireturn, 1) := by decide +kernel
theorem pn_lo : plainName "com/example/modelwright/modelwright/model/SourceParserNextLinePinLaw" = true := by first | (simp [plainName, overriddenIn]; done) | decide +kernel
theorem ef_lo (m : MethodId) (x0 : Int32) : entryFrame m #[(.int x0)] 1 = mkF m 0 #[.val (.int x0)] [] := by first | (simp [entryFrame, mkF, argsToLocals, Value.category]; done) | rfl
def Qlo (Z : State) (p1 : Int32) (h0 : Heap) (n0 : Nat) (v : Option Value) (h : Heap) (L : List Loc) : Prop := v = some (.int (own_low p1)) ∧ Fr n0 L ∧ h = h0
set_option maxRecDepth 65536 in
set_option maxHeartbeats 40000000 in
theorem rmlo (l : Launch) (Z : State) (a0 : Array Value) (hw : ∀ d ∈ tables_1, d.before a0 Z = true) (ws : List Jvm.Cond) (p1 : Int32) (h0 : Heap) (n0 : Nat) (Z0 : n0 ≤ h0.size) :
    MetFree l (⟨"com/example/modelwright/modelwright/model/SourceParserNextLinePinLaw", "low", "(C)I"⟩ : MethodName) (head1 (Jvm.Cond.code (⟨"com/example/modelwright/modelwright/model/SourceParserNextLinePinLaw", "low", "(C)I"⟩ : MethodName) method_3_code 1 (some .int) :: ws) ({ frames := 0, cells := 0, slots := 0, locals := 0 } : Room)) (fun a U => a = #[(.int p1)] ∧ Z.Warmed39 U.vm ∧ U.heap = h0) (fun _ _ _ _ _ => True) (fun _ U o U' => ∃ v L, o = .returned v ∧ Qlo Z p1 h0 n0 v U'.heap L ∧ FrameEnd U o U' L ({ frames := 0, cells := 0, slots := 0, locals := 0 } : Room).cells ({ frames := 0, cells := 0, slots := 0, locals := 0 } : Room).slots) := by
  refine MetFree.of_bodySF (plainFor_of_name pn_lo) hisR ?_
  intro p e s m args below meth c s₁ Bd hml0 hP hK
  obtain ⟨rfl, hZ, hh⟩ := hP
  have hx := Bd.exec
  have hby := Bd.bytes
  have hml : c.maxLocals = 1 := hml0
  have hown : s.vm.findClass "com/example/modelwright/modelwright/model/SourceParserNextLinePinLaw" = some m.cls := findClass_of_methodNamed Bd.named
  have hnm := (name_of_methodNamed Bd.named Bd.method).1
  have X0 : Stand p l e ({ frames := 0, cells := 0, slots := 0, locals := 0 } : Room) s m #[(.int p1)] below meth c s₁ [] 0 0 := Stand.of_body Bd
  have e0 : s₁.heap = h0 := by rw [← hh, Bd.state]; rfl
  have N0 := Fr.nil n0
  show own_R p.tables e below (own_P s (Qlo Z p1 h0 n0) ({ frames := 0, cells := 0, slots := 0, locals := 0 } : Room).cells ({ frames := 0, cells := 0, slots := 0, locals := 0 } : Room).slots) (s₁.setTop (entryFrame m #[(.int p1)] 1))
  refine own_f s₁ (mkF m 0 #[.val (.int p1)] []) (fun t k => castTop (ef_lo m p1) k) ?_
  refine own_f s₁ (mkF m 1 #[.val (.int p1)] [(.int p1)]) (fun t k => XS.iloadN X0.here hx rfl (hb hby dlo_0) rfl k) ?_
  refine own_f s₁ (mkF m 3 #[.val (.int p1)] [(.int (56320 : Int32)), (.int p1)]) (fun t k => X0.ldcI hx hown (mvT hZ (own_w hw 140 rfl)) rfl (hb hby dlo_1) k) ?_
  by_cases hc1 : p1 < (56320 : Int32)
  · skip
    refine own_f s₁ (mkF m 16 #[.val (.int p1)] []) (fun t k => XS.icmpYes X0.here hx rfl (pc0 := 3) (pc' := 16) rfl (hb hby dlo_3) rfl (XT.ii_lt_t hc1) (by decide) (by decide) k) ?_
    refine own_f s₁ (mkF m 17 #[.val (.int p1)] [(.int (0 : Int32))]) (fun t k => XT.iconstV X0.here hx rfl (0 : Int32) (hb hby dlo_16) (by decide) k) ?_
    obtain ⟨fs, hr, hrun, hended, hW, hsame⟩ := X0.leave (v := some (.int (0 : Int32))) (fun h => by rw [Bd.returns] at h; cases h)
    refine ⟨_, _, retI X0 hx Bd.returns (hb hby dlo_17) hr, hrun, hended, _, _, rfl, ?_, ⟨_, rfl⟩, hW, hsame.mono (by decide) (by decide)⟩
    show Qlo Z p1 h0 n0 _ s₁.heap _
    rw [e0]
    exact ⟨by rw [own_low, if_neg (fun z => z.1 hc1)] <;> rfl, N0, rfl⟩
  · skip
    refine own_f s₁ (mkF m 6 #[.val (.int p1)] []) (fun t k => XS.icmpNo X0.here hx rfl (hb hby dlo_3) rfl (XT.ii_lt_f hc1) k) ?_
    refine own_f s₁ (mkF m 7 #[.val (.int p1)] [(.int p1)]) (fun t k => XS.iloadN X0.here hx rfl (hb hby dlo_6) rfl k) ?_
    refine own_f s₁ (mkF m 9 #[.val (.int p1)] [(.int (57343 : Int32)), (.int p1)]) (fun t k => X0.ldcI hx hown (mvT hZ (own_w hw 171 rfl)) rfl (hb hby dlo_7) k) ?_
    by_cases hc2 : (57343 : Int32) < p1
    · skip
      refine own_f s₁ (mkF m 16 #[.val (.int p1)] []) (fun t k => XS.icmpYes X0.here hx rfl (pc0 := 9) (pc' := 16) rfl (hb hby dlo_9) rfl (XT.ii_gt_t hc2) (by decide) (by decide) k) ?_
      refine own_f s₁ (mkF m 17 #[.val (.int p1)] [(.int (0 : Int32))]) (fun t k => XT.iconstV X0.here hx rfl (0 : Int32) (hb hby dlo_16) (by decide) k) ?_
      obtain ⟨fs, hr, hrun, hended, hW, hsame⟩ := X0.leave (v := some (.int (0 : Int32))) (fun h => by rw [Bd.returns] at h; cases h)
      refine ⟨_, _, retI X0 hx Bd.returns (hb hby dlo_17) hr, hrun, hended, _, _, rfl, ?_, ⟨_, rfl⟩, hW, hsame.mono (by decide) (by decide)⟩
      show Qlo Z p1 h0 n0 _ s₁.heap _
      rw [e0]
      exact ⟨by rw [own_low, if_neg (fun z => z.2 hc2)] <;> rfl, N0, rfl⟩
    · skip
      refine own_f s₁ (mkF m 12 #[.val (.int p1)] []) (fun t k => XS.icmpNo X0.here hx rfl (hb hby dlo_9) rfl (XT.ii_gt_f hc2) k) ?_
      refine own_f s₁ (mkF m 13 #[.val (.int p1)] [(.int (1 : Int32))]) (fun t k => XT.iconstV X0.here hx rfl (1 : Int32) (hb hby dlo_12) (by decide) k) ?_
      refine own_f s₁ (mkF m 17 #[.val (.int p1)] [(.int (1 : Int32))]) (fun t k => XS.goto X0.here hx rfl (pc0 := 13) (pc' := 17) rfl (hb hby dlo_13) (by decide) (by decide) k) ?_
      obtain ⟨fs, hr, hrun, hended, hW, hsame⟩ := X0.leave (v := some (.int (1 : Int32))) (fun h => by rw [Bd.returns] at h; cases h)
      refine ⟨_, _, retI X0 hx Bd.returns (hb hby dlo_17) hr, hrun, hended, _, _, rfl, ?_, ⟨_, rfl⟩, hW, hsame.mono (by decide) (by decide)⟩
      show Qlo Z p1 h0 n0 _ s₁.heap _
      rw [e0]
      exact ⟨by rw [own_low, if_pos ⟨hc1, hc2⟩] <;> rfl, N0, rfl⟩
theorem dil_0 : decode jdk_89_method_15_code 0 = .ok (.iload_n 0, 1) := by decide +kernel
theorem dil_1 : decode jdk_89_method_15_code 1 = .ok (.ldc 76, 2) := by decide +kernel
theorem dil_3 : decode jdk_89_method_15_code 3 = .ok (.if_icmp .lt 13, 3) := by decide +kernel
theorem dil_6 : decode jdk_89_method_15_code 6 = .ok (.iload_n 0, 1) := by decide +kernel
theorem dil_7 : decode jdk_89_method_15_code 7 = .ok (.ldc 77, 2) := by decide +kernel
theorem dil_9 : decode jdk_89_method_15_code 9 = .ok (.if_icmp .ge 7, 3) := by decide +kernel
theorem dil_12 : decode jdk_89_method_15_code 12 = .ok (.iconst 1, 1) := by decide +kernel
theorem dil_13 : decode jdk_89_method_15_code 13 = .ok (.goto 4, 3) := by decide +kernel
theorem dil_16 : decode jdk_89_method_15_code 16 = .ok (.iconst 0, 1) := by decide +kernel
theorem dil_17 : decode jdk_89_method_15_code 17 = .ok (.ireturn, 1) := by decide +kernel
theorem pn_il : plainName "java/lang/Character" = true := by first | (simp [plainName, overriddenIn]; done) | decide +kernel
theorem ef_il (m : MethodId) (x0 : Int32) : entryFrame m #[(.int x0)] 1 = mkF m 0 #[.val (.int x0)] [] := by first | (simp [entryFrame, mkF, argsToLocals, Value.category]; done) | rfl
def Qil (Z : State) (p1 : Int32) (h0 : Heap) (n0 : Nat) (v : Option Value) (h : Heap) (L : List Loc) : Prop := v = some (.int (own_low p1)) ∧ Fr n0 L ∧ h = h0
set_option maxRecDepth 65536 in
set_option maxHeartbeats 40000000 in
theorem rmil (l : Launch) (Z : State) (a0 : Array Value) (hw : ∀ d ∈ tables_1, d.before a0 Z = true) (ws : List Jvm.Cond) (p1 : Int32) (h0 : Heap) (n0 : Nat) (Z0 : n0 ≤ h0.size) :
    MetFree l (⟨"java/lang/Character", "isLowSurrogate", "(C)Z"⟩ : MethodName) (head1 (Jvm.Cond.code (⟨"java/lang/Character", "isLowSurrogate", "(C)Z"⟩ : MethodName) jdk_89_method_15_code 1 (some .boolean) :: ws) ({ frames := 0, cells := 0, slots := 0, locals := 0 } : Room)) (fun a U => a = #[(.int p1)] ∧ Z.Warmed39 U.vm ∧ U.heap = h0) (fun _ _ _ _ _ => True) (fun _ U o U' => ∃ v L, o = .returned v ∧ Qil Z p1 h0 n0 v U'.heap L ∧ FrameEnd U o U' L ({ frames := 0, cells := 0, slots := 0, locals := 0 } : Room).cells ({ frames := 0, cells := 0, slots := 0, locals := 0 } : Room).slots) := by
  refine MetFree.of_bodySF (plainFor_of_name pn_il) hisR ?_
  intro p e s m args below meth c s₁ Bd hml0 hP hK
  obtain ⟨rfl, hZ, hh⟩ := hP
  have hx := Bd.exec
  have hby := Bd.bytes
  have hml : c.maxLocals = 1 := hml0
  have hown : s.vm.findClass "java/lang/Character" = some m.cls := findClass_of_methodNamed Bd.named
  have hnm := (name_of_methodNamed Bd.named Bd.method).1
  have X0 : Stand p l e ({ frames := 0, cells := 0, slots := 0, locals := 0 } : Room) s m #[(.int p1)] below meth c s₁ [] 0 0 := Stand.of_body Bd
  have e0 : s₁.heap = h0 := by rw [← hh, Bd.state]; rfl
  have N0 := Fr.nil n0
  show own_R p.tables e below (own_P s (Qil Z p1 h0 n0) ({ frames := 0, cells := 0, slots := 0, locals := 0 } : Room).cells ({ frames := 0, cells := 0, slots := 0, locals := 0 } : Room).slots) (s₁.setTop (entryFrame m #[(.int p1)] 1))
  refine own_f s₁ (mkF m 0 #[.val (.int p1)] []) (fun t k => castTop (ef_il m p1) k) ?_
  refine own_f s₁ (mkF m 1 #[.val (.int p1)] [(.int p1)]) (fun t k => XS.iloadN X0.here hx rfl (hb hby dil_0) rfl k) ?_
  refine own_f s₁ (mkF m 3 #[.val (.int p1)] [(.int (56320 : Int32)), (.int p1)]) (fun t k => X0.ldcI hx hown (mvT hZ (own_w hw 112 rfl)) rfl (hb hby dil_1) k) ?_
  by_cases hc1 : p1 < (56320 : Int32)
  · skip
    refine own_f s₁ (mkF m 16 #[.val (.int p1)] []) (fun t k => XS.icmpYes X0.here hx rfl (pc0 := 3) (pc' := 16) rfl (hb hby dil_3) rfl (XT.ii_lt_t hc1) (by decide) (by decide) k) ?_
    refine own_f s₁ (mkF m 17 #[.val (.int p1)] [(.int (0 : Int32))]) (fun t k => XT.iconstV X0.here hx rfl (0 : Int32) (hb hby dil_16) (by decide) k) ?_
    obtain ⟨fs, hr, hrun, hended, hW, hsame⟩ := X0.leave (v := some (.int (0 : Int32))) (fun h => by rw [Bd.returns] at h; cases h)
    refine ⟨_, _, retN X0 hx (t := .boolean) Bd.returns (by simp) (hb hby dil_17) hr, hrun, hended, _, _, rfl, ?_, ⟨_, rfl⟩, hW, hsame.mono (by decide) (by decide)⟩
    show Qil Z p1 h0 n0 _ s₁.heap _
    rw [e0]
    exact ⟨by rw [own_low, if_neg (fun z => z.1 hc1)] <;> rfl, N0, rfl⟩
  · skip
    refine own_f s₁ (mkF m 6 #[.val (.int p1)] []) (fun t k => XS.icmpNo X0.here hx rfl (hb hby dil_3) rfl (XT.ii_lt_f hc1) k) ?_
    refine own_f s₁ (mkF m 7 #[.val (.int p1)] [(.int p1)]) (fun t k => XS.iloadN X0.here hx rfl (hb hby dil_6) rfl k) ?_
    refine own_f s₁ (mkF m 9 #[.val (.int p1)] [(.int (57344 : Int32)), (.int p1)]) (fun t k => X0.ldcI hx hown (mvT hZ (own_w hw 170 rfl)) rfl (hb hby dil_7) k) ?_
    by_cases hc2 : p1 < (57344 : Int32)
    · skip
      refine own_f s₁ (mkF m 12 #[.val (.int p1)] []) (fun t k => XS.icmpNo X0.here hx rfl (hb hby dil_9) rfl (XT.ii_ge_f hc2) k) ?_
      refine own_f s₁ (mkF m 13 #[.val (.int p1)] [(.int (1 : Int32))]) (fun t k => XT.iconstV X0.here hx rfl (1 : Int32) (hb hby dil_12) (by decide) k) ?_
      refine own_f s₁ (mkF m 17 #[.val (.int p1)] [(.int (1 : Int32))]) (fun t k => XS.goto X0.here hx rfl (pc0 := 13) (pc' := 17) rfl (hb hby dil_13) (by decide) (by decide) k) ?_
      obtain ⟨fs, hr, hrun, hended, hW, hsame⟩ := X0.leave (v := some (.int (1 : Int32))) (fun h => by rw [Bd.returns] at h; cases h)
      refine ⟨_, _, retN X0 hx (t := .boolean) Bd.returns (by simp) (hb hby dil_17) hr, hrun, hended, _, _, rfl, ?_, ⟨_, rfl⟩, hW, hsame.mono (by decide) (by decide)⟩
      show Qil Z p1 h0 n0 _ s₁.heap _
      rw [e0]
      exact ⟨by rw [own_low, if_pos ⟨hc1, (own_57 hc2)⟩] <;> rfl, N0, rfl⟩
    · skip
      refine own_f s₁ (mkF m 16 #[.val (.int p1)] []) (fun t k => XS.icmpYes X0.here hx rfl (pc0 := 9) (pc' := 16) rfl (hb hby dil_9) rfl (XT.ii_ge_t hc2) (by decide) (by decide) k) ?_
      refine own_f s₁ (mkF m 17 #[.val (.int p1)] [(.int (0 : Int32))]) (fun t k => XT.iconstV X0.here hx rfl (0 : Int32) (hb hby dil_16) (by decide) k) ?_
      obtain ⟨fs, hr, hrun, hended, hW, hsame⟩ := X0.leave (v := some (.int (0 : Int32))) (fun h => by rw [Bd.returns] at h; cases h)
      refine ⟨_, _, retN X0 hx (t := .boolean) Bd.returns (by simp) (hb hby dil_17) hr, hrun, hended, _, _, rfl, ?_, ⟨_, rfl⟩, hW, hsame.mono (by decide) (by decide)⟩
      show Qil Z p1 h0 n0 _ s₁.heap _
      rw [e0]
      exact ⟨by rw [own_low, if_neg (fun z => hc2 (own_75 z.2))] <;> rfl, N0, rfl⟩
theorem dpk_0 : decode jdk_41_method_11_code 0 = .ok (.iload_n 0, 1) := by decide +kernel
theorem dpk_1 : decode jdk_41_method_11_code 1 = .ok (.ifCond .lt 8, 3) := by decide +kernel
theorem dpk_4 : decode jdk_41_method_11_code 4 = .ok (.iload_n 0, 1) := by decide +kernel
theorem dpk_5 : decode jdk_41_method_11_code 5 = .ok (.iload_n 1, 1) := by decide +kernel
theorem dpk_6 : decode jdk_41_method_11_code 6 = .ok (.if_icmp .lt 10, 3) := by decide +kernel
theorem dpk_16 : decode jdk_41_method_11_code 16 = .ok (.iload_n 0, 1) := by decide +kernel
theorem dpk_17 : decode jdk_41_method_11_code 17 = .ok (.ireturn, 1) := by decide +kernel
theorem pn_pk : plainName "jdk/internal/util/Preconditions" = true := by first | (simp [plainName, overriddenIn]; done) | decide +kernel
theorem ef_pk (m : MethodId) (x0 : Int32) (x1 : Int32) (x2 : Value) (r2 : x2.isRef = true) : entryFrame m #[(.int x0), (.int x1), x2] 3 = mkF m 0 #[.val (.int x0), .val (.int x1), .val x2] [] := by rcases ref_cases r2 with rfl | ⟨y2, rfl⟩ <;> first | (simp [entryFrame, mkF, argsToLocals, Value.category]; done) | rfl
def Qpk (Z : State) (i1 : Int32) (z1 : Int32) (vf : Value) (h0 : Heap) (n0 : Nat) (v : Option Value) (h : Heap) (L : List Loc) : Prop := v = some (.int i1) ∧ Fr n0 L ∧ h = h0
set_option maxRecDepth 65536 in
set_option maxHeartbeats 40000000 in
theorem rmpk (l : Launch) (Z : State) (a0 : Array Value) (hw : ∀ d ∈ tables_1, d.before a0 Z = true) (ws : List Jvm.Cond) (i1 : Int32) (z1 : Int32) (vf : Value) (h0 : Heap) (n0 : Nat) (Z0 : n0 ≤ h0.size) (hvf : vf.isRef = true) (hi0 : ¬ (i1 < 0)) (hi1 : i1 < z1) :
    MetFree l (⟨"jdk/internal/util/Preconditions", "checkIndex", "(IILjava/util/function/BiFunction;)I"⟩ : MethodName) (head1 (Jvm.Cond.code (⟨"jdk/internal/util/Preconditions", "checkIndex", "(IILjava/util/function/BiFunction;)I"⟩ : MethodName) jdk_41_method_11_code 3 (some .int) :: ws) ({ frames := 0, cells := 0, slots := 0, locals := 0 } : Room)) (fun a U => a = #[(.int i1), (.int z1), vf] ∧ Z.Warmed39 U.vm ∧ U.heap = h0) (fun _ _ _ _ _ => True) (fun _ U o U' => ∃ v L, o = .returned v ∧ Qpk Z i1 z1 vf h0 n0 v U'.heap L ∧ FrameEnd U o U' L ({ frames := 0, cells := 0, slots := 0, locals := 0 } : Room).cells ({ frames := 0, cells := 0, slots := 0, locals := 0 } : Room).slots) := by
  refine MetFree.of_bodySF (plainFor_of_name pn_pk) hisR ?_
  intro p e s m args below meth c s₁ Bd hml0 hP hK
  obtain ⟨rfl, hZ, hh⟩ := hP
  have hx := Bd.exec
  have hby := Bd.bytes
  have hml : c.maxLocals = 3 := hml0
  have hown : s.vm.findClass "jdk/internal/util/Preconditions" = some m.cls := findClass_of_methodNamed Bd.named
  have hnm := (name_of_methodNamed Bd.named Bd.method).1
  have X0 : Stand p l e ({ frames := 0, cells := 0, slots := 0, locals := 0 } : Room) s m #[(.int i1), (.int z1), vf] below meth c s₁ [] 0 0 := Stand.of_body Bd
  have e0 : s₁.heap = h0 := by rw [← hh, Bd.state]; rfl
  have N0 := Fr.nil n0
  show own_R p.tables e below (own_P s (Qpk Z i1 z1 vf h0 n0) ({ frames := 0, cells := 0, slots := 0, locals := 0 } : Room).cells ({ frames := 0, cells := 0, slots := 0, locals := 0 } : Room).slots) (s₁.setTop (entryFrame m #[(.int i1), (.int z1), vf] 3))
  refine own_f s₁ (mkF m 0 #[.val (.int i1), .val (.int z1), .val vf] []) (fun t k => castTop (ef_pk m i1 z1 vf hvf) k) ?_
  refine own_f s₁ (mkF m 1 #[.val (.int i1), .val (.int z1), .val vf] [(.int i1)]) (fun t k => XS.iloadN X0.here hx rfl (hb hby dpk_0) rfl k) ?_
  refine own_f s₁ (mkF m 4 #[.val (.int i1), .val (.int z1), .val vf] []) (fun t k => XS.ifNo X0.here hx rfl (hb hby dpk_1) rfl (XT.i0_lt_f hi0) k) ?_
  refine own_f s₁ (mkF m 5 #[.val (.int i1), .val (.int z1), .val vf] [(.int i1)]) (fun t k => XS.iloadN X0.here hx rfl (hb hby dpk_4) rfl k) ?_
  refine own_f s₁ (mkF m 6 #[.val (.int i1), .val (.int z1), .val vf] [(.int z1), (.int i1)]) (fun t k => XS.iloadN X0.here hx rfl (hb hby dpk_5) rfl k) ?_
  refine own_f s₁ (mkF m 16 #[.val (.int i1), .val (.int z1), .val vf] []) (fun t k => XS.icmpYes X0.here hx rfl (pc0 := 6) (pc' := 16) rfl (hb hby dpk_6) rfl (XT.ii_lt_t hi1) (by decide) (by decide) k) ?_
  refine own_f s₁ (mkF m 17 #[.val (.int i1), .val (.int z1), .val vf] [(.int i1)]) (fun t k => XS.iloadN X0.here hx rfl (hb hby dpk_16) rfl k) ?_
  obtain ⟨fs, hr, hrun, hended, hW, hsame⟩ := X0.leave (v := some (.int i1)) (fun h => by rw [Bd.returns] at h; cases h)
  refine ⟨_, _, retI X0 hx Bd.returns (hb hby dpk_17) hr, hrun, hended, _, _, rfl, ?_, ⟨_, rfl⟩, hW, hsame.mono (by decide) (by decide)⟩
  show Qpk Z i1 z1 vf h0 n0 _ s₁.heap _
  rw [e0]
  exact ⟨rfl, N0, rfl⟩
theorem dsk_0 : decode jdk_42_method_155_code 0 = .ok (.iload_n 0, 1) := by decide +kernel
theorem dsk_1 : decode jdk_42_method_155_code 1 = .ok (.iload_n 1, 1) := by decide +kernel
theorem dsk_2 : decode jdk_42_method_155_code 2 = .ok (.getstatic 1053, 3) := by decide +kernel
theorem dsk_5 : decode jdk_42_method_155_code 5 = .ok (.invokestatic 1059, 3) := by decide +kernel
theorem dsk_8 : decode jdk_42_method_155_code 8 = .ok (.pop, 1) := by decide +kernel
theorem dsk_9 : decode jdk_42_method_155_code 9 = .ok (.return_, 1) := by decide +kernel
theorem pn_sk : plainName "java/lang/String" = true := by first | (simp [plainName, overriddenIn]; done) | decide +kernel
theorem ef_sk (m : MethodId) (x0 : Int32) (x1 : Int32) : entryFrame m #[(.int x0), (.int x1)] 2 = mkF m 0 #[.val (.int x0), .val (.int x1)] [] := by first | (simp [entryFrame, mkF, argsToLocals, Value.category]; done) | rfl
def Qsk (Z : State) (i1 : Int32) (z1 : Int32) (vf : Value) (h0 : Heap) (n0 : Nat) (v : Option Value) (h : Heap) (L : List Loc) : Prop := v = none ∧ Fr n0 L ∧ h = h0
set_option maxRecDepth 65536 in
set_option maxHeartbeats 40000000 in
theorem rmsk (l : Launch) (Z : State) (a0 : Array Value) (hw : ∀ d ∈ tables_1, d.before a0 Z = true) (ws : List Jvm.Cond) (i1 : Int32) (z1 : Int32) (vf : Value) (h0 : Heap) (n0 : Nat) (Z0 : n0 ≤ h0.size) (F0 : Old Z n0 h0) (SF : Sta Z Z.heap "jdk/internal/util/Preconditions" "SIOOBE_FORMATTER" "Ljava/util/function/BiFunction;" vf) (hvf : vf.isRef = true) (hi0 : ¬ (i1 < 0)) (hi1 : i1 < z1) :
    MetFree l (⟨"java/lang/String", "checkIndex", "(II)V"⟩ : MethodName) (head1 (Jvm.Cond.code (⟨"java/lang/String", "checkIndex", "(II)V"⟩ : MethodName) jdk_42_method_155_code 2 none :: ws) ({ frames := 1, cells := 0, slots := 0, locals := 14 } : Room)) (fun a U => a = #[(.int i1), (.int z1)] ∧ Z.Warmed39 U.vm ∧ U.heap = h0) (fun _ _ _ _ _ => True) (fun _ U o U' => ∃ v L, o = .returned v ∧ Qsk Z i1 z1 vf h0 n0 v U'.heap L ∧ FrameEnd U o U' L ({ frames := 1, cells := 0, slots := 0, locals := 14 } : Room).cells ({ frames := 1, cells := 0, slots := 0, locals := 14 } : Room).slots) := by
  refine MetFree.of_bodySF (plainFor_of_name pn_sk) hisR ?_
  intro p e s m args below meth c s₁ Bd hml0 hP hK
  obtain ⟨rfl, hZ, hh⟩ := hP
  have hx := Bd.exec
  have hby := Bd.bytes
  have hml : c.maxLocals = 2 := hml0
  have hown : s.vm.findClass "java/lang/String" = some m.cls := findClass_of_methodNamed Bd.named
  have hnm := (name_of_methodNamed Bd.named Bd.method).1
  have X0 : Stand p l e ({ frames := 1, cells := 0, slots := 0, locals := 14 } : Room) s m #[(.int i1), (.int z1)] below meth c s₁ [] 0 0 := Stand.of_body Bd
  have e0 : s₁.heap = h0 := by rw [← hh, Bd.state]; rfl
  have N0 := Fr.nil n0
  show own_R p.tables e below (own_P s (Qsk Z i1 z1 vf h0 n0) ({ frames := 1, cells := 0, slots := 0, locals := 14 } : Room).cells ({ frames := 1, cells := 0, slots := 0, locals := 14 } : Room).slots) (s₁.setTop (entryFrame m #[(.int i1), (.int z1)] 2))
  refine own_f s₁ (mkF m 0 #[.val (.int i1), .val (.int z1)] []) (fun t k => castTop (ef_sk m i1 z1) k) ?_
  refine own_f s₁ (mkF m 1 #[.val (.int i1), .val (.int z1)] [(.int i1)]) (fun t k => XS.iloadN X0.here hx rfl (hb hby dsk_0) rfl k) ?_
  refine own_f s₁ (mkF m 2 #[.val (.int i1), .val (.int z1)] [(.int z1), (.int i1)]) (fun t k => XS.iloadN X0.here hx rfl (hb hby dsk_1) rfl k) ?_
  have S1 : Sta Z h0 "jdk/internal/util/Preconditions" "SIOOBE_FORMATTER" "Ljava/util/function/BiFunction;" vf := SF.ext F0.2
  obtain ⟨T1, X1, e1, st1⟩ := getS X0 hx hZ (host := "") hown (own_w hw 103 rfl) Via.refl e0 S1 (g := (mkF m 2 #[.val (.int i1), .val (.int z1)] [(.int z1), (.int i1)])) rfl (hb hby dsk_2)
  refine own_f T1 (mkF m 5 #[.val (.int i1), .val (.int z1)] [vf, (.int z1), (.int i1)]) st1 ?_
  obtain ⟨_, _, ⟨T2, Lq2, kq_2, nq_2⟩, -, X2, ⟨Lc2, hQ2, lq2, yq2, zq2⟩, st2⟩ := Jvm.LawKit.callS X1 hx (y := (⟨"jdk/internal/util/Preconditions", "checkIndex", "(IILjava/util/function/BiFunction;)I"⟩ : MethodName)) hown (mvT hZ (own_w hw 105 rfl)) (mvT hZ (own_w hw 106 rfl)) (mvT hZ (own_w hw 104 rfl)) (mvT hZ (own_w hw 107 rfl)) (by decide) (backOf (W := 0) (rmpk l Z a0 hw [] i1 z1 vf h0 n0 Z0 hvf hi0 hi1) hZ (own_w hw 107 rfl) (own_w hw 104 rfl) (by decide) (by decide)) (g := (mkF m 5 #[.val (.int i1), .val (.int z1)] [vf, (.int z1), (.int i1)])) rfl (by rw [hml]; rfl) (argsL := [(.int i1), (.int z1), vf]) (rest := []) (lenOf pd__IILjava_util_function_BiFunction_I rfl) rfl (by show 2 * 0 + _ ≤ _; exact Nat.le_of_eq rfl) (hb hby dsk_5) (fun _ _ => ⟨rfl, e1, (by decide : 0 + 0 ≤ _), (by decide : 0 + 0 ≤ _)⟩)
  dsimp only [Pt.U, Pt.locs, Pt.cells, Pt.slots] at X2 lq2 yq2 zq2 st2 hQ2
  subst lq2 yq2 zq2
  obtain ⟨h2, e2⟩ : ∃ z, T2.heap = z := ⟨_, rfl⟩
  rw [e2] at hQ2
  unfold Qpk at hQ2
  obtain ⟨rfl, Nq2, qh2⟩ := hQ2
  have N2 := Fr.app N0 Nq2
  rw [qh2] at e2
  refine own_f T2 (mkF m 8 #[.val (.int i1), .val (.int z1)] [(.int i1)]) st2 ?_
  refine own_f T2 (mkF m 9 #[.val (.int i1), .val (.int z1)] []) (fun t k => XT.pop X2.here hx rfl (hb hby dsk_8) rfl rfl k) ?_
  obtain ⟨fs, hr, hrun, hended, hW, hsame⟩ := X2.leave (v := none) (fun _ => rfl)
  refine ⟨_, _, X2.returnOut hx Bd.returns (hb hby dsk_9) hr, hrun, hended, _, _, rfl, ?_, ⟨_, rfl⟩, hW, hsame.mono (by decide) (by decide)⟩
  show Qsk Z i1 z1 vf h0 n0 _ T2.heap _
  rw [e2]
  exact ⟨rfl, N2, rfl⟩
theorem dis0_0 : decode jdk_42_method_154_code 0 = .ok (.getstatic 38, 3) := by decide +kernel
theorem dis0_3 : decode jdk_42_method_154_code 3 = .ok (.ifCond .eq 14, 3) := by decide +kernel
theorem dis0_6 : decode jdk_42_method_154_code 6 = .ok (.aload_n 0, 1) := by decide +kernel
theorem dis0_7 : decode jdk_42_method_154_code 7 = .ok (.getfield 15, 3) := by decide +kernel
theorem dis0_10 : decode jdk_42_method_154_code 10 = .ok (.ifCond .ne 7, 3) := by decide +kernel
theorem dis0_13 : decode jdk_42_method_154_code 13 = .ok (.iconst 1, 1) := by decide +kernel
theorem dis0_14 : decode jdk_42_method_154_code 14 = .ok (.goto 4, 3) := by decide +kernel
theorem dis0_18 : decode jdk_42_method_154_code 18 = .ok (.ireturn, 1) := by decide +kernel
theorem pn_is0 : plainName "java/lang/String" = true := by first | (simp [plainName, overriddenIn]; done) | decide +kernel
theorem ef_is0 (m : MethodId) (x0 : Addr) : entryFrame m #[(.ref x0)] 1 = mkF m 0 #[.val (.ref x0)] [] := by first | (simp [entryFrame, mkF, argsToLocals, Value.category]; done) | rfl
def Qis0 (Z : State) (a1 : Addr) (wc : Int32) (h0 : Heap) (n0 : Nat) (v : Option Value) (h : Heap) (L : List Loc) : Prop := v = some (.int (1 : Int32)) ∧ Fr n0 L ∧ h = h0
set_option maxRecDepth 65536 in
set_option maxHeartbeats 40000000 in
theorem rmis0 (l : Launch) (Z : State) (a0 : Array Value) (hw : ∀ d ∈ tables_1, d.before a0 Z = true) (ws : List Jvm.Cond) (a1 : Addr) (wc : Int32) (h0 : Heap) (n0 : Nat) (Z0 : n0 ≤ h0.size) (F0 : Old Z n0 h0) (F1 : Fld Z h0 a1 "java/lang/String" "coder" "B" (.int (0 : Int32))) (SC : Sta Z Z.heap "java/lang/String" "COMPACT_STRINGS" "Z" (.int wc)) (HWC : ¬ (wc = 0)) :
    MetFree l (⟨"java/lang/String", "isLatin1", "()Z"⟩ : MethodName) (head1 (Jvm.Cond.code (⟨"java/lang/String", "isLatin1", "()Z"⟩ : MethodName) jdk_42_method_154_code 1 (some .boolean) :: ws) ({ frames := 0, cells := 0, slots := 0, locals := 0 } : Room)) (fun a U => a = #[(.ref a1)] ∧ Z.Warmed39 U.vm ∧ U.heap = h0) (fun _ _ _ _ _ => True) (fun _ U o U' => ∃ v L, o = .returned v ∧ Qis0 Z a1 wc h0 n0 v U'.heap L ∧ FrameEnd U o U' L ({ frames := 0, cells := 0, slots := 0, locals := 0 } : Room).cells ({ frames := 0, cells := 0, slots := 0, locals := 0 } : Room).slots) := by
  refine MetFree.of_bodySF (plainFor_of_name pn_is0) hisR ?_
  intro p e s m args below meth c s₁ Bd hml0 hP hK
  obtain ⟨rfl, hZ, hh⟩ := hP
  have hx := Bd.exec
  have hby := Bd.bytes
  have hml : c.maxLocals = 1 := hml0
  have hown : s.vm.findClass "java/lang/String" = some m.cls := findClass_of_methodNamed Bd.named
  have hnm := (name_of_methodNamed Bd.named Bd.method).1
  have X0 : Stand p l e ({ frames := 0, cells := 0, slots := 0, locals := 0 } : Room) s m #[(.ref a1)] below meth c s₁ [] 0 0 := Stand.of_body Bd
  have e0 : s₁.heap = h0 := by rw [← hh, Bd.state]; rfl
  have N0 := Fr.nil n0
  show own_R p.tables e below (own_P s (Qis0 Z a1 wc h0 n0) ({ frames := 0, cells := 0, slots := 0, locals := 0 } : Room).cells ({ frames := 0, cells := 0, slots := 0, locals := 0 } : Room).slots) (s₁.setTop (entryFrame m #[(.ref a1)] 1))
  refine own_f s₁ (mkF m 0 #[.val (.ref a1)] []) (fun t k => castTop (ef_is0 m a1) k) ?_
  have S1 : Sta Z h0 "java/lang/String" "COMPACT_STRINGS" "Z" (.int wc) := SC.ext F0.2
  obtain ⟨T1, X1, e1, st1⟩ := getS X0 hx hZ (host := "") hown (own_w hw 26 rfl) Via.refl e0 S1 (g := (mkF m 0 #[.val (.ref a1)] [])) rfl (hb hby dis0_0)
  refine own_f T1 (mkF m 3 #[.val (.ref a1)] [(.int wc)]) st1 ?_
  refine own_f T1 (mkF m 6 #[.val (.ref a1)] []) (fun t k => XS.ifNo X1.here hx rfl (hb hby dis0_3) rfl (XT.i0_eq_f HWC) k) ?_
  refine own_f T1 (mkF m 7 #[.val (.ref a1)] [(.ref a1)]) (fun t k => XS.aloadN X1.here hx rfl (hb hby dis0_6) rfl rfl k) ?_
  obtain ⟨T2, X2, e2, st2⟩ := getF X1 hx hZ hown (host := "") (Or.inl (own_w hw 37 rfl)) Via.refl e1 F1 (g := (mkF m 7 #[.val (.ref a1)] [(.ref a1)])) rfl rfl (hb hby dis0_7)
  refine own_f T2 (mkF m 10 #[.val (.ref a1)] [(.int (0 : Int32))]) st2 ?_
  refine own_f T2 (mkF m 13 #[.val (.ref a1)] []) (fun t k => XS.ifNo X2.here hx rfl (hb hby dis0_10) rfl (XT.i0_ne_f (by decide)) k) ?_
  refine own_f T2 (mkF m 14 #[.val (.ref a1)] [(.int (1 : Int32))]) (fun t k => XT.iconstV X2.here hx rfl (1 : Int32) (hb hby dis0_13) (by decide) k) ?_
  refine own_f T2 (mkF m 18 #[.val (.ref a1)] [(.int (1 : Int32))]) (fun t k => XS.goto X2.here hx rfl (pc0 := 14) (pc' := 18) rfl (hb hby dis0_14) (by decide) (by decide) k) ?_
  obtain ⟨fs, hr, hrun, hended, hW, hsame⟩ := X2.leave (v := some (.int (1 : Int32))) (fun h => by rw [Bd.returns] at h; cases h)
  refine ⟨_, _, retN X2 hx (t := .boolean) Bd.returns (by simp) (hb hby dis0_18) hr, hrun, hended, _, _, rfl, ?_, ⟨_, rfl⟩, hW, hsame.mono (by decide) (by decide)⟩
  show Qis0 Z a1 wc h0 n0 _ T2.heap _
  rw [e2]
  exact ⟨rfl, N0, rfl⟩
theorem dis1_0 : decode jdk_42_method_154_code 0 = .ok (.getstatic 38, 3) := by decide +kernel
theorem dis1_3 : decode jdk_42_method_154_code 3 = .ok (.ifCond .eq 14, 3) := by decide +kernel
theorem dis1_6 : decode jdk_42_method_154_code 6 = .ok (.aload_n 0, 1) := by decide +kernel
theorem dis1_7 : decode jdk_42_method_154_code 7 = .ok (.getfield 15, 3) := by decide +kernel
theorem dis1_10 : decode jdk_42_method_154_code 10 = .ok (.ifCond .ne 7, 3) := by decide +kernel
theorem dis1_17 : decode jdk_42_method_154_code 17 = .ok (.iconst 0, 1) := by decide +kernel
theorem dis1_18 : decode jdk_42_method_154_code 18 = .ok (.ireturn, 1) := by decide +kernel
theorem pn_is1 : plainName "java/lang/String" = true := by first | (simp [plainName, overriddenIn]; done) | decide +kernel
theorem ef_is1 (m : MethodId) (x0 : Addr) : entryFrame m #[(.ref x0)] 1 = mkF m 0 #[.val (.ref x0)] [] := by first | (simp [entryFrame, mkF, argsToLocals, Value.category]; done) | rfl
def Qis1 (Z : State) (a1 : Addr) (wc : Int32) (h0 : Heap) (n0 : Nat) (v : Option Value) (h : Heap) (L : List Loc) : Prop := v = some (.int (0 : Int32)) ∧ Fr n0 L ∧ h = h0
set_option maxRecDepth 65536 in
set_option maxHeartbeats 40000000 in
theorem rmis1 (l : Launch) (Z : State) (a0 : Array Value) (hw : ∀ d ∈ tables_1, d.before a0 Z = true) (ws : List Jvm.Cond) (a1 : Addr) (wc : Int32) (h0 : Heap) (n0 : Nat) (Z0 : n0 ≤ h0.size) (F0 : Old Z n0 h0) (F1 : Fld Z h0 a1 "java/lang/String" "coder" "B" (.int (1 : Int32))) (SC : Sta Z Z.heap "java/lang/String" "COMPACT_STRINGS" "Z" (.int wc)) (HWC : ¬ (wc = 0)) :
    MetFree l (⟨"java/lang/String", "isLatin1", "()Z"⟩ : MethodName) (head1 (Jvm.Cond.code (⟨"java/lang/String", "isLatin1", "()Z"⟩ : MethodName) jdk_42_method_154_code 1 (some .boolean) :: ws) ({ frames := 0, cells := 0, slots := 0, locals := 0 } : Room)) (fun a U => a = #[(.ref a1)] ∧ Z.Warmed39 U.vm ∧ U.heap = h0) (fun _ _ _ _ _ => True) (fun _ U o U' => ∃ v L, o = .returned v ∧ Qis1 Z a1 wc h0 n0 v U'.heap L ∧ FrameEnd U o U' L ({ frames := 0, cells := 0, slots := 0, locals := 0 } : Room).cells ({ frames := 0, cells := 0, slots := 0, locals := 0 } : Room).slots) := by
  refine MetFree.of_bodySF (plainFor_of_name pn_is1) hisR ?_
  intro p e s m args below meth c s₁ Bd hml0 hP hK
  obtain ⟨rfl, hZ, hh⟩ := hP
  have hx := Bd.exec
  have hby := Bd.bytes
  have hml : c.maxLocals = 1 := hml0
  have hown : s.vm.findClass "java/lang/String" = some m.cls := findClass_of_methodNamed Bd.named
  have hnm := (name_of_methodNamed Bd.named Bd.method).1
  have X0 : Stand p l e ({ frames := 0, cells := 0, slots := 0, locals := 0 } : Room) s m #[(.ref a1)] below meth c s₁ [] 0 0 := Stand.of_body Bd
  have e0 : s₁.heap = h0 := by rw [← hh, Bd.state]; rfl
  have N0 := Fr.nil n0
  show own_R p.tables e below (own_P s (Qis1 Z a1 wc h0 n0) ({ frames := 0, cells := 0, slots := 0, locals := 0 } : Room).cells ({ frames := 0, cells := 0, slots := 0, locals := 0 } : Room).slots) (s₁.setTop (entryFrame m #[(.ref a1)] 1))
  refine own_f s₁ (mkF m 0 #[.val (.ref a1)] []) (fun t k => castTop (ef_is1 m a1) k) ?_
  have S1 : Sta Z h0 "java/lang/String" "COMPACT_STRINGS" "Z" (.int wc) := SC.ext F0.2
  obtain ⟨T1, X1, e1, st1⟩ := getS X0 hx hZ (host := "") hown (own_w hw 26 rfl) Via.refl e0 S1 (g := (mkF m 0 #[.val (.ref a1)] [])) rfl (hb hby dis1_0)
  refine own_f T1 (mkF m 3 #[.val (.ref a1)] [(.int wc)]) st1 ?_
  refine own_f T1 (mkF m 6 #[.val (.ref a1)] []) (fun t k => XS.ifNo X1.here hx rfl (hb hby dis1_3) rfl (XT.i0_eq_f HWC) k) ?_
  refine own_f T1 (mkF m 7 #[.val (.ref a1)] [(.ref a1)]) (fun t k => XS.aloadN X1.here hx rfl (hb hby dis1_6) rfl rfl k) ?_
  obtain ⟨T2, X2, e2, st2⟩ := getF X1 hx hZ hown (host := "") (Or.inl (own_w hw 37 rfl)) Via.refl e1 F1 (g := (mkF m 7 #[.val (.ref a1)] [(.ref a1)])) rfl rfl (hb hby dis1_7)
  refine own_f T2 (mkF m 10 #[.val (.ref a1)] [(.int (1 : Int32))]) st2 ?_
  refine own_f T2 (mkF m 17 #[.val (.ref a1)] []) (fun t k => XS.ifYes X2.here hx rfl (pc0 := 10) (pc' := 17) rfl (hb hby dis1_10) rfl (XT.i0_ne_t (by decide)) (by decide) (by decide) k) ?_
  refine own_f T2 (mkF m 18 #[.val (.ref a1)] [(.int (0 : Int32))]) (fun t k => XT.iconstV X2.here hx rfl (0 : Int32) (hb hby dis1_17) (by decide) k) ?_
  obtain ⟨fs, hr, hrun, hended, hW, hsame⟩ := X2.leave (v := some (.int (0 : Int32))) (fun h => by rw [Bd.returns] at h; cases h)
  refine ⟨_, _, retN X2 hx (t := .boolean) Bd.returns (by simp) (hb hby dis1_18) hr, hrun, hended, _, _, rfl, ?_, ⟨_, rfl⟩, hW, hsame.mono (by decide) (by decide)⟩
  show Qis1 Z a1 wc h0 n0 _ T2.heap _
  rw [e2]
  exact ⟨rfl, N0, rfl⟩
theorem dla0_0 : decode jdk_43_method_2_code 0 = .ok (.iload_n 1, 1) := by decide +kernel
theorem dla0_1 : decode jdk_43_method_2_code 1 = .ok (.aload_n 0, 1) := by decide +kernel
theorem dla0_2 : decode jdk_43_method_2_code 2 = .ok (.arraylength, 1) := by decide +kernel
theorem dla0_3 : decode jdk_43_method_2_code 3 = .ok (.invokestatic 9, 3) := by decide +kernel
theorem dla0_6 : decode jdk_43_method_2_code 6 = .ok (.aload_n 0, 1) := by decide +kernel
theorem dla0_7 : decode jdk_43_method_2_code 7 = .ok (.iload_n 1, 1) := by decide +kernel
theorem dla0_8 : decode jdk_43_method_2_code 8 = .ok (.baload, 1) := by decide +kernel
theorem dla0_9 : decode jdk_43_method_2_code 9 = .ok (.sipush 255, 3) := by decide +kernel
theorem dla0_12 : decode jdk_43_method_2_code 12 = .ok (.iand, 1) := by decide +kernel
theorem dla0_13 : decode jdk_43_method_2_code 13 = .ok (.i2c, 1) := by decide +kernel
theorem dla0_14 : decode jdk_43_method_2_code 14 = .ok (.ireturn, 1) := by decide +kernel
theorem pn_la0 : plainName "java/lang/StringLatin1" = true := by first | (simp [plainName, overriddenIn]; done) | decide +kernel
theorem ef_la0 (m : MethodId) (x0 : Addr) (x1 : Int32) : entryFrame m #[(.ref x0), (.int x1)] 2 = mkF m 0 #[.val (.ref x0), .val (.int x1)] [] := by first | (simp [entryFrame, mkF, argsToLocals, Value.category]; done) | rfl
def Qla0 (Z : State) (a1 : Addr) (k1 : ClassId) (c0 : Int32) (c1 : Int32) (c2 : Int32) (c3 : Int32) (vf : Value) (h0 : Heap) (n0 : Nat) (v : Option Value) (h : Heap) (L : List Loc) : Prop := v = some (.int c0) ∧ Fr n0 L ∧ h = h0
set_option maxRecDepth 65536 in
set_option maxHeartbeats 40000000 in
theorem rmla0 (l : Launch) (Z : State) (a0 : Array Value) (hw : ∀ d ∈ tables_1, d.before a0 Z = true) (ws : List Jvm.Cond) (a1 : Addr) (k1 : ClassId) (c0 : Int32) (c1 : Int32) (c2 : Int32) (c3 : Int32) (vf : Value) (h0 : Heap) (n0 : Nat) (Z0 : n0 ≤ h0.size) (F0 : Old Z n0 h0) (F1 : Arv Z h0 a1 k1 .byte (4 : Int32) [.int (c0.toInt8.toInt32), .int (c1.toInt8.toInt32), .int (c2.toInt8.toInt32), .int (c3.toInt8.toInt32)] (.int 0)) (SF : Sta Z Z.heap "jdk/internal/util/Preconditions" "SIOOBE_FORMATTER" "Ljava/util/function/BiFunction;" vf) (hvf : vf.isRef = true) (hwc : own_W c0) (hlc : ¬ ((255 : Int32) < c0)) :
    MetFree l (⟨"java/lang/StringLatin1", "charAt", "([BI)C"⟩ : MethodName) (head1 (Jvm.Cond.code (⟨"java/lang/StringLatin1", "charAt", "([BI)C"⟩ : MethodName) jdk_43_method_2_code 2 (some .char) :: ws) ({ frames := 2, cells := 0, slots := 0, locals := 27 } : Room)) (fun a U => a = #[(.ref a1), (.int (0 : Int32))] ∧ Z.Warmed39 U.vm ∧ U.heap = h0) (fun _ _ _ _ _ => True) (fun _ U o U' => ∃ v L, o = .returned v ∧ Qla0 Z a1 k1 c0 c1 c2 c3 vf h0 n0 v U'.heap L ∧ FrameEnd U o U' L ({ frames := 2, cells := 0, slots := 0, locals := 27 } : Room).cells ({ frames := 2, cells := 0, slots := 0, locals := 27 } : Room).slots) := by
  refine MetFree.of_bodySF (plainFor_of_name pn_la0) hisR ?_
  intro p e s m args below meth c s₁ Bd hml0 hP hK
  obtain ⟨rfl, hZ, hh⟩ := hP
  have hx := Bd.exec
  have hby := Bd.bytes
  have hml : c.maxLocals = 2 := hml0
  have hown : s.vm.findClass "java/lang/StringLatin1" = some m.cls := findClass_of_methodNamed Bd.named
  have hnm := (name_of_methodNamed Bd.named Bd.method).1
  have X0 : Stand p l e ({ frames := 2, cells := 0, slots := 0, locals := 27 } : Room) s m #[(.ref a1), (.int (0 : Int32))] below meth c s₁ [] 0 0 := Stand.of_body Bd
  have e0 : s₁.heap = h0 := by rw [← hh, Bd.state]; rfl
  have N0 := Fr.nil n0
  show own_R p.tables e below (own_P s (Qla0 Z a1 k1 c0 c1 c2 c3 vf h0 n0) ({ frames := 2, cells := 0, slots := 0, locals := 27 } : Room).cells ({ frames := 2, cells := 0, slots := 0, locals := 27 } : Room).slots) (s₁.setTop (entryFrame m #[(.ref a1), (.int (0 : Int32))] 2))
  refine own_f s₁ (mkF m 0 #[.val (.ref a1), .val (.int (0 : Int32))] []) (fun t k => castTop (ef_la0 m a1 (0 : Int32)) k) ?_
  refine own_f s₁ (mkF m 1 #[.val (.ref a1), .val (.int (0 : Int32))] [(.int (0 : Int32))]) (fun t k => XS.iloadN X0.here hx rfl (hb hby dla0_0) rfl k) ?_
  refine own_f s₁ (mkF m 2 #[.val (.ref a1), .val (.int (0 : Int32))] [(.ref a1), (.int (0 : Int32))]) (fun t k => XS.aloadN X0.here hx rfl (hb hby dla0_1) rfl rfl k) ?_
  refine own_f s₁ (mkF m 3 #[.val (.ref a1), .val (.int (0 : Int32))] [(.int (4 : Int32)), (.int (0 : Int32))]) (fun t k => own_len X0 hx hZ e0 F1 (g := (mkF m 2 #[.val (.ref a1), .val (.int (0 : Int32))] [(.ref a1), (.int (0 : Int32))])) rfl rfl (hb hby dla0_2) k) ?_
  obtain ⟨_, _, ⟨T2, Lq2, kq_2, nq_2⟩, -, X2, ⟨Lc2, hQ2, lq2, yq2, zq2⟩, st2⟩ := Jvm.LawKit.callS X0 hx (y := (⟨"java/lang/String", "checkIndex", "(II)V"⟩ : MethodName)) hown (mvT hZ (own_w hw 100 rfl)) (mvT hZ (own_w hw 101 rfl)) (mvT hZ (own_w hw 8 rfl)) (mvT hZ (own_w hw 102 rfl)) (by decide) (backOf (W := 0) (rmsk l Z a0 hw [] (0 : Int32) (4 : Int32) _ h0 n0 Z0 F0 SF hvf (by decide) (by decide)) hZ (own_w hw 102 rfl) (own_w hw 8 rfl) (by decide) (by decide)) (g := (mkF m 3 #[.val (.ref a1), .val (.int (0 : Int32))] [(.int (4 : Int32)), (.int (0 : Int32))])) rfl (by rw [hml]; rfl) (argsL := [(.int (0 : Int32)), (.int (4 : Int32))]) (rest := []) (lenOf pd__II_V rfl) rfl (by show 2 * 0 + _ ≤ _; exact Nat.le_of_eq rfl) (hb hby dla0_3) (fun _ _ => ⟨rfl, e0, (by decide : 0 + 0 ≤ _), (by decide : 0 + 0 ≤ _)⟩)
  dsimp only [Pt.U, Pt.locs, Pt.cells, Pt.slots] at X2 lq2 yq2 zq2 st2 hQ2
  subst lq2 yq2 zq2
  obtain ⟨h2, e2⟩ : ∃ z, T2.heap = z := ⟨_, rfl⟩
  rw [e2] at hQ2
  unfold Qsk at hQ2
  obtain ⟨rfl, Nq2, qh2⟩ := hQ2
  have N2 := Fr.app N0 Nq2
  rw [qh2] at e2
  refine own_f T2 (mkF m 6 #[.val (.ref a1), .val (.int (0 : Int32))] []) st2 ?_
  refine own_f T2 (mkF m 7 #[.val (.ref a1), .val (.int (0 : Int32))] [(.ref a1)]) (fun t k => XS.aloadN X2.here hx rfl (hb hby dla0_6) rfl rfl k) ?_
  refine own_f T2 (mkF m 8 #[.val (.ref a1), .val (.int (0 : Int32))] [(.int (0 : Int32)), (.ref a1)]) (fun t k => XS.iloadN X2.here hx rfl (hb hby dla0_7) rfl k) ?_
  obtain ⟨cl3, Ar3, q13, Sz3, q33, Hs3, Gs3⟩ := id F1
  have hi3 := inb_of (j := (0 : Int32)) Sz3 ⟨by decide, by decide⟩
  refine own_f T2 (mkF m 9 #[.val (.ref a1), .val (.int (0 : Int32))] [(.int (c0.toInt8.toInt32))]) (fun t k => X2.baloadBytes hx (j := (0 : Int32)) (v := (.int (c0.toInt8.toInt32))) (by rw [e2]; exact Ar3.1) (State.isArrayOf_alike hZ.alike Ar3.2.1) Ar3.2.2 hi3 (Has.at Hs3 hi3 rfl) (g := (mkF m 8 #[.val (.ref a1), .val (.int (0 : Int32))] [(.int (0 : Int32)), (.ref a1)])) rfl rfl (hb hby dla0_8) t k) ?_
  refine own_f T2 (mkF m 12 #[.val (.ref a1), .val (.int (0 : Int32))] [(.int (255 : Int32)), (.int (c0.toInt8.toInt32))]) (fun t k => XT.sipushV X2.here hx rfl (255 : Int32) (hb hby dla0_9) (by decide) k) ?_
  refine own_f T2 (mkF m 13 #[.val (.ref a1), .val (.int (0 : Int32))] [(.int ((c0.toInt8.toInt32) &&& (255 : Int32)))]) (fun t k => XS.iand X2.here hx rfl (hb hby dla0_12) rfl k) ?_
  refine own_f T2 (mkF m 14 #[.val (.ref a1), .val (.int (0 : Int32))] [(.int (((c0.toInt8.toInt32) &&& (255 : Int32)).toUInt32.toUInt16.toUInt32.toInt32))]) (fun t k => XS.i2c X2.here hx rfl (hb hby dla0_13) rfl k) ?_
  obtain ⟨fs, hr, hrun, hended, hW, hsame⟩ := X2.leave (v := some (.int (((c0.toInt8.toInt32) &&& (255 : Int32)).toUInt32.toUInt16.toUInt32.toInt32))) (fun h => by rw [Bd.returns] at h; cases h)
  refine ⟨_, _, own_retB X2 hx (t := .char) Bd.returns (by simp) (own_narC _) (hb hby dla0_14) hr, hrun, hended, _, _, rfl, ?_, ⟨_, rfl⟩, hW, hsame.mono (by decide) (by decide)⟩
  show Qla0 Z a1 k1 c0 c1 c2 c3 vf h0 n0 _ T2.heap _
  rw [e2]
  exact ⟨by rw [own_lc hwc hlc], N2, rfl⟩
theorem dla2_0 : decode jdk_43_method_2_code 0 = .ok (.iload_n 1, 1) := by decide +kernel
theorem dla2_1 : decode jdk_43_method_2_code 1 = .ok (.aload_n 0, 1) := by decide +kernel
theorem dla2_2 : decode jdk_43_method_2_code 2 = .ok (.arraylength, 1) := by decide +kernel
theorem dla2_3 : decode jdk_43_method_2_code 3 = .ok (.invokestatic 9, 3) := by decide +kernel
theorem dla2_6 : decode jdk_43_method_2_code 6 = .ok (.aload_n 0, 1) := by decide +kernel
theorem dla2_7 : decode jdk_43_method_2_code 7 = .ok (.iload_n 1, 1) := by decide +kernel
theorem dla2_8 : decode jdk_43_method_2_code 8 = .ok (.baload, 1) := by decide +kernel
theorem dla2_9 : decode jdk_43_method_2_code 9 = .ok (.sipush 255, 3) := by decide +kernel
theorem dla2_12 : decode jdk_43_method_2_code 12 = .ok (.iand, 1) := by decide +kernel
theorem dla2_13 : decode jdk_43_method_2_code 13 = .ok (.i2c, 1) := by decide +kernel
theorem dla2_14 : decode jdk_43_method_2_code 14 = .ok (.ireturn, 1) := by decide +kernel
theorem pn_la2 : plainName "java/lang/StringLatin1" = true := by first | (simp [plainName, overriddenIn]; done) | decide +kernel
theorem ef_la2 (m : MethodId) (x0 : Addr) (x1 : Int32) : entryFrame m #[(.ref x0), (.int x1)] 2 = mkF m 0 #[.val (.ref x0), .val (.int x1)] [] := by first | (simp [entryFrame, mkF, argsToLocals, Value.category]; done) | rfl
def Qla2 (Z : State) (a1 : Addr) (k1 : ClassId) (c0 : Int32) (c1 : Int32) (c2 : Int32) (c3 : Int32) (vf : Value) (h0 : Heap) (n0 : Nat) (v : Option Value) (h : Heap) (L : List Loc) : Prop := v = some (.int c2) ∧ Fr n0 L ∧ h = h0
set_option maxRecDepth 65536 in
set_option maxHeartbeats 40000000 in
theorem rmla2 (l : Launch) (Z : State) (a0 : Array Value) (hw : ∀ d ∈ tables_1, d.before a0 Z = true) (ws : List Jvm.Cond) (a1 : Addr) (k1 : ClassId) (c0 : Int32) (c1 : Int32) (c2 : Int32) (c3 : Int32) (vf : Value) (h0 : Heap) (n0 : Nat) (Z0 : n0 ≤ h0.size) (F0 : Old Z n0 h0) (F1 : Arv Z h0 a1 k1 .byte (4 : Int32) [.int (c0.toInt8.toInt32), .int (c1.toInt8.toInt32), .int (c2.toInt8.toInt32), .int (c3.toInt8.toInt32)] (.int 0)) (SF : Sta Z Z.heap "jdk/internal/util/Preconditions" "SIOOBE_FORMATTER" "Ljava/util/function/BiFunction;" vf) (hvf : vf.isRef = true) (hwc : own_W c2) (hlc : ¬ ((255 : Int32) < c2)) :
    MetFree l (⟨"java/lang/StringLatin1", "charAt", "([BI)C"⟩ : MethodName) (head1 (Jvm.Cond.code (⟨"java/lang/StringLatin1", "charAt", "([BI)C"⟩ : MethodName) jdk_43_method_2_code 2 (some .char) :: ws) ({ frames := 2, cells := 0, slots := 0, locals := 27 } : Room)) (fun a U => a = #[(.ref a1), (.int (2 : Int32))] ∧ Z.Warmed39 U.vm ∧ U.heap = h0) (fun _ _ _ _ _ => True) (fun _ U o U' => ∃ v L, o = .returned v ∧ Qla2 Z a1 k1 c0 c1 c2 c3 vf h0 n0 v U'.heap L ∧ FrameEnd U o U' L ({ frames := 2, cells := 0, slots := 0, locals := 27 } : Room).cells ({ frames := 2, cells := 0, slots := 0, locals := 27 } : Room).slots) := by
  refine MetFree.of_bodySF (plainFor_of_name pn_la2) hisR ?_
  intro p e s m args below meth c s₁ Bd hml0 hP hK
  obtain ⟨rfl, hZ, hh⟩ := hP
  have hx := Bd.exec
  have hby := Bd.bytes
  have hml : c.maxLocals = 2 := hml0
  have hown : s.vm.findClass "java/lang/StringLatin1" = some m.cls := findClass_of_methodNamed Bd.named
  have hnm := (name_of_methodNamed Bd.named Bd.method).1
  have X0 : Stand p l e ({ frames := 2, cells := 0, slots := 0, locals := 27 } : Room) s m #[(.ref a1), (.int (2 : Int32))] below meth c s₁ [] 0 0 := Stand.of_body Bd
  have e0 : s₁.heap = h0 := by rw [← hh, Bd.state]; rfl
  have N0 := Fr.nil n0
  show own_R p.tables e below (own_P s (Qla2 Z a1 k1 c0 c1 c2 c3 vf h0 n0) ({ frames := 2, cells := 0, slots := 0, locals := 27 } : Room).cells ({ frames := 2, cells := 0, slots := 0, locals := 27 } : Room).slots) (s₁.setTop (entryFrame m #[(.ref a1), (.int (2 : Int32))] 2))
  refine own_f s₁ (mkF m 0 #[.val (.ref a1), .val (.int (2 : Int32))] []) (fun t k => castTop (ef_la2 m a1 (2 : Int32)) k) ?_
  refine own_f s₁ (mkF m 1 #[.val (.ref a1), .val (.int (2 : Int32))] [(.int (2 : Int32))]) (fun t k => XS.iloadN X0.here hx rfl (hb hby dla2_0) rfl k) ?_
  refine own_f s₁ (mkF m 2 #[.val (.ref a1), .val (.int (2 : Int32))] [(.ref a1), (.int (2 : Int32))]) (fun t k => XS.aloadN X0.here hx rfl (hb hby dla2_1) rfl rfl k) ?_
  refine own_f s₁ (mkF m 3 #[.val (.ref a1), .val (.int (2 : Int32))] [(.int (4 : Int32)), (.int (2 : Int32))]) (fun t k => own_len X0 hx hZ e0 F1 (g := (mkF m 2 #[.val (.ref a1), .val (.int (2 : Int32))] [(.ref a1), (.int (2 : Int32))])) rfl rfl (hb hby dla2_2) k) ?_
  obtain ⟨_, _, ⟨T2, Lq2, kq_2, nq_2⟩, -, X2, ⟨Lc2, hQ2, lq2, yq2, zq2⟩, st2⟩ := Jvm.LawKit.callS X0 hx (y := (⟨"java/lang/String", "checkIndex", "(II)V"⟩ : MethodName)) hown (mvT hZ (own_w hw 100 rfl)) (mvT hZ (own_w hw 101 rfl)) (mvT hZ (own_w hw 8 rfl)) (mvT hZ (own_w hw 102 rfl)) (by decide) (backOf (W := 0) (rmsk l Z a0 hw [] (2 : Int32) (4 : Int32) _ h0 n0 Z0 F0 SF hvf (by decide) (by decide)) hZ (own_w hw 102 rfl) (own_w hw 8 rfl) (by decide) (by decide)) (g := (mkF m 3 #[.val (.ref a1), .val (.int (2 : Int32))] [(.int (4 : Int32)), (.int (2 : Int32))])) rfl (by rw [hml]; rfl) (argsL := [(.int (2 : Int32)), (.int (4 : Int32))]) (rest := []) (lenOf pd__II_V rfl) rfl (by show 2 * 0 + _ ≤ _; exact Nat.le_of_eq rfl) (hb hby dla2_3) (fun _ _ => ⟨rfl, e0, (by decide : 0 + 0 ≤ _), (by decide : 0 + 0 ≤ _)⟩)
  dsimp only [Pt.U, Pt.locs, Pt.cells, Pt.slots] at X2 lq2 yq2 zq2 st2 hQ2
  subst lq2 yq2 zq2
  obtain ⟨h2, e2⟩ : ∃ z, T2.heap = z := ⟨_, rfl⟩
  rw [e2] at hQ2
  unfold Qsk at hQ2
  obtain ⟨rfl, Nq2, qh2⟩ := hQ2
  have N2 := Fr.app N0 Nq2
  rw [qh2] at e2
  refine own_f T2 (mkF m 6 #[.val (.ref a1), .val (.int (2 : Int32))] []) st2 ?_
  refine own_f T2 (mkF m 7 #[.val (.ref a1), .val (.int (2 : Int32))] [(.ref a1)]) (fun t k => XS.aloadN X2.here hx rfl (hb hby dla2_6) rfl rfl k) ?_
  refine own_f T2 (mkF m 8 #[.val (.ref a1), .val (.int (2 : Int32))] [(.int (2 : Int32)), (.ref a1)]) (fun t k => XS.iloadN X2.here hx rfl (hb hby dla2_7) rfl k) ?_
  obtain ⟨cl3, Ar3, q13, Sz3, q33, Hs3, Gs3⟩ := id F1
  have hi3 := inb_of (j := (2 : Int32)) Sz3 ⟨by decide, by decide⟩
  refine own_f T2 (mkF m 9 #[.val (.ref a1), .val (.int (2 : Int32))] [(.int (c2.toInt8.toInt32))]) (fun t k => X2.baloadBytes hx (j := (2 : Int32)) (v := (.int (c2.toInt8.toInt32))) (by rw [e2]; exact Ar3.1) (State.isArrayOf_alike hZ.alike Ar3.2.1) Ar3.2.2 hi3 (Has.at Hs3 hi3 rfl) (g := (mkF m 8 #[.val (.ref a1), .val (.int (2 : Int32))] [(.int (2 : Int32)), (.ref a1)])) rfl rfl (hb hby dla2_8) t k) ?_
  refine own_f T2 (mkF m 12 #[.val (.ref a1), .val (.int (2 : Int32))] [(.int (255 : Int32)), (.int (c2.toInt8.toInt32))]) (fun t k => XT.sipushV X2.here hx rfl (255 : Int32) (hb hby dla2_9) (by decide) k) ?_
  refine own_f T2 (mkF m 13 #[.val (.ref a1), .val (.int (2 : Int32))] [(.int ((c2.toInt8.toInt32) &&& (255 : Int32)))]) (fun t k => XS.iand X2.here hx rfl (hb hby dla2_12) rfl k) ?_
  refine own_f T2 (mkF m 14 #[.val (.ref a1), .val (.int (2 : Int32))] [(.int (((c2.toInt8.toInt32) &&& (255 : Int32)).toUInt32.toUInt16.toUInt32.toInt32))]) (fun t k => XS.i2c X2.here hx rfl (hb hby dla2_13) rfl k) ?_
  obtain ⟨fs, hr, hrun, hended, hW, hsame⟩ := X2.leave (v := some (.int (((c2.toInt8.toInt32) &&& (255 : Int32)).toUInt32.toUInt16.toUInt32.toInt32))) (fun h => by rw [Bd.returns] at h; cases h)
  refine ⟨_, _, own_retB X2 hx (t := .char) Bd.returns (by simp) (own_narC _) (hb hby dla2_14) hr, hrun, hended, _, _, rfl, ?_, ⟨_, rfl⟩, hW, hsame.mono (by decide) (by decide)⟩
  show Qla2 Z a1 k1 c0 c1 c2 c3 vf h0 n0 _ T2.heap _
  rw [e2]
  exact ⟨by rw [own_lc hwc hlc], N2, rfl⟩
theorem dul_0 : decode jdk_52_method_6_code 0 = .ok (.aload_n 0, 1) := by decide +kernel
theorem dul_1 : decode jdk_52_method_6_code 1 = .ok (.arraylength, 1) := by decide +kernel
theorem dul_2 : decode jdk_52_method_6_code 2 = .ok (.iconst 1, 1) := by decide +kernel
theorem dul_3 : decode jdk_52_method_6_code 3 = .ok (.ishr, 1) := by decide +kernel
theorem dul_4 : decode jdk_52_method_6_code 4 = .ok (.ireturn, 1) := by decide +kernel
theorem pn_ul : plainName "java/lang/StringUTF16" = true := by first | (simp [plainName, overriddenIn]; done) | decide +kernel
theorem ef_ul (m : MethodId) (x0 : Addr) : entryFrame m #[(.ref x0)] 1 = mkF m 0 #[.val (.ref x0)] [] := by first | (simp [entryFrame, mkF, argsToLocals, Value.category]; done) | rfl
def Qul (Z : State) (a1 : Addr) (k1 : ClassId) (vv : List Value) (h0 : Heap) (n0 : Nat) (v : Option Value) (h : Heap) (L : List Loc) : Prop := v = some (.int (4 : Int32)) ∧ Fr n0 L ∧ h = h0
set_option maxRecDepth 65536 in
set_option maxHeartbeats 40000000 in
theorem rmul (l : Launch) (Z : State) (a0 : Array Value) (hw : ∀ d ∈ tables_1, d.before a0 Z = true) (ws : List Jvm.Cond) (a1 : Addr) (k1 : ClassId) (vv : List Value) (h0 : Heap) (n0 : Nat) (Z0 : n0 ≤ h0.size) (F0 : Arv Z h0 a1 k1 .byte (8 : Int32) vv (.int 0)) :
    MetFree l (⟨"java/lang/StringUTF16", "length", "([B)I"⟩ : MethodName) (head1 (Jvm.Cond.code (⟨"java/lang/StringUTF16", "length", "([B)I"⟩ : MethodName) jdk_52_method_6_code 1 (some .int) :: ws) ({ frames := 0, cells := 0, slots := 0, locals := 0 } : Room)) (fun a U => a = #[(.ref a1)] ∧ Z.Warmed39 U.vm ∧ U.heap = h0) (fun _ _ _ _ _ => True) (fun _ U o U' => ∃ v L, o = .returned v ∧ Qul Z a1 k1 vv h0 n0 v U'.heap L ∧ FrameEnd U o U' L ({ frames := 0, cells := 0, slots := 0, locals := 0 } : Room).cells ({ frames := 0, cells := 0, slots := 0, locals := 0 } : Room).slots) := by
  refine MetFree.of_bodySF (plainFor_of_name pn_ul) hisR ?_
  intro p e s m args below meth c s₁ Bd hml0 hP hK
  obtain ⟨rfl, hZ, hh⟩ := hP
  have hx := Bd.exec
  have hby := Bd.bytes
  have hml : c.maxLocals = 1 := hml0
  have hown : s.vm.findClass "java/lang/StringUTF16" = some m.cls := findClass_of_methodNamed Bd.named
  have hnm := (name_of_methodNamed Bd.named Bd.method).1
  have X0 : Stand p l e ({ frames := 0, cells := 0, slots := 0, locals := 0 } : Room) s m #[(.ref a1)] below meth c s₁ [] 0 0 := Stand.of_body Bd
  have e0 : s₁.heap = h0 := by rw [← hh, Bd.state]; rfl
  have N0 := Fr.nil n0
  show own_R p.tables e below (own_P s (Qul Z a1 k1 vv h0 n0) ({ frames := 0, cells := 0, slots := 0, locals := 0 } : Room).cells ({ frames := 0, cells := 0, slots := 0, locals := 0 } : Room).slots) (s₁.setTop (entryFrame m #[(.ref a1)] 1))
  refine own_f s₁ (mkF m 0 #[.val (.ref a1)] []) (fun t k => castTop (ef_ul m a1) k) ?_
  refine own_f s₁ (mkF m 1 #[.val (.ref a1)] [(.ref a1)]) (fun t k => XS.aloadN X0.here hx rfl (hb hby dul_0) rfl rfl k) ?_
  refine own_f s₁ (mkF m 2 #[.val (.ref a1)] [(.int (8 : Int32))]) (fun t k => own_len X0 hx hZ e0 F0 (g := (mkF m 1 #[.val (.ref a1)] [(.ref a1)])) rfl rfl (hb hby dul_1) k) ?_
  refine own_f s₁ (mkF m 3 #[.val (.ref a1)] [(.int (1 : Int32)), (.int (8 : Int32))]) (fun t k => XT.iconstV X0.here hx rfl (1 : Int32) (hb hby dul_2) (by decide) k) ?_
  refine own_f s₁ (mkF m 4 #[.val (.ref a1)] [(.int ((8 : Int32) >>> ((1 : Int32) &&& 31)))]) (fun t k => XS.ishr X0.here hx rfl (hb hby dul_3) rfl k) ?_
  rw [show ((8 : Int32) >>> ((1 : Int32) &&& 31)) = (4 : Int32) from by decide]
  obtain ⟨fs, hr, hrun, hended, hW, hsame⟩ := X0.leave (v := some (.int (4 : Int32))) (fun h => by rw [Bd.returns] at h; cases h)
  refine ⟨_, _, retI X0 hx Bd.returns (hb hby dul_4) hr, hrun, hended, _, _, rfl, ?_, ⟨_, rfl⟩, hW, hsame.mono (by decide) (by decide)⟩
  show Qul Z a1 k1 vv h0 n0 _ s₁.heap _
  rw [e0]
  exact ⟨rfl, N0, rfl⟩
theorem duk0_0 : decode jdk_52_method_91_code 0 = .ok (.iload_n 0, 1) := by decide +kernel
theorem duk0_1 : decode jdk_52_method_91_code 1 = .ok (.aload_n 1, 1) := by decide +kernel
theorem duk0_2 : decode jdk_52_method_91_code 2 = .ok (.invokestatic 48, 3) := by decide +kernel
theorem duk0_5 : decode jdk_52_method_91_code 5 = .ok (.invokestatic 414, 3) := by decide +kernel
theorem duk0_8 : decode jdk_52_method_91_code 8 = .ok (.return_, 1) := by decide +kernel
theorem pn_uk0 : plainName "java/lang/StringUTF16" = true := by first | (simp [plainName, overriddenIn]; done) | decide +kernel
theorem ef_uk0 (m : MethodId) (x0 : Int32) (x1 : Addr) : entryFrame m #[(.int x0), (.ref x1)] 2 = mkF m 0 #[.val (.int x0), .val (.ref x1)] [] := by first | (simp [entryFrame, mkF, argsToLocals, Value.category]; done) | rfl
def Quk0 (Z : State) (a1 : Addr) (k1 : ClassId) (vv : List Value) (vf : Value) (h0 : Heap) (n0 : Nat) (v : Option Value) (h : Heap) (L : List Loc) : Prop := v = none ∧ Fr n0 L ∧ h = h0
set_option maxRecDepth 65536 in
set_option maxHeartbeats 40000000 in
theorem rmuk0 (l : Launch) (Z : State) (a0 : Array Value) (hw : ∀ d ∈ tables_1, d.before a0 Z = true) (ws : List Jvm.Cond) (a1 : Addr) (k1 : ClassId) (vv : List Value) (vf : Value) (h0 : Heap) (n0 : Nat) (Z0 : n0 ≤ h0.size) (F0 : Old Z n0 h0) (F1 : Arv Z h0 a1 k1 .byte (8 : Int32) vv (.int 0)) (SF : Sta Z Z.heap "jdk/internal/util/Preconditions" "SIOOBE_FORMATTER" "Ljava/util/function/BiFunction;" vf) (hvf : vf.isRef = true) :
    MetFree l (⟨"java/lang/StringUTF16", "checkIndex", "(I[B)V"⟩ : MethodName) (head1 (Jvm.Cond.code (⟨"java/lang/StringUTF16", "checkIndex", "(I[B)V"⟩ : MethodName) jdk_52_method_91_code 2 none :: ws) ({ frames := 2, cells := 0, slots := 0, locals := 27 } : Room)) (fun a U => a = #[(.int (0 : Int32)), (.ref a1)] ∧ Z.Warmed39 U.vm ∧ U.heap = h0) (fun _ _ _ _ _ => True) (fun _ U o U' => ∃ v L, o = .returned v ∧ Quk0 Z a1 k1 vv vf h0 n0 v U'.heap L ∧ FrameEnd U o U' L ({ frames := 2, cells := 0, slots := 0, locals := 27 } : Room).cells ({ frames := 2, cells := 0, slots := 0, locals := 27 } : Room).slots) := by
  refine MetFree.of_bodySF (plainFor_of_name pn_uk0) hisR ?_
  intro p e s m args below meth c s₁ Bd hml0 hP hK
  obtain ⟨rfl, hZ, hh⟩ := hP
  have hx := Bd.exec
  have hby := Bd.bytes
  have hml : c.maxLocals = 2 := hml0
  have hown : s.vm.findClass "java/lang/StringUTF16" = some m.cls := findClass_of_methodNamed Bd.named
  have hnm := (name_of_methodNamed Bd.named Bd.method).1
  have X0 : Stand p l e ({ frames := 2, cells := 0, slots := 0, locals := 27 } : Room) s m #[(.int (0 : Int32)), (.ref a1)] below meth c s₁ [] 0 0 := Stand.of_body Bd
  have e0 : s₁.heap = h0 := by rw [← hh, Bd.state]; rfl
  have N0 := Fr.nil n0
  show own_R p.tables e below (own_P s (Quk0 Z a1 k1 vv vf h0 n0) ({ frames := 2, cells := 0, slots := 0, locals := 27 } : Room).cells ({ frames := 2, cells := 0, slots := 0, locals := 27 } : Room).slots) (s₁.setTop (entryFrame m #[(.int (0 : Int32)), (.ref a1)] 2))
  refine own_f s₁ (mkF m 0 #[.val (.int (0 : Int32)), .val (.ref a1)] []) (fun t k => castTop (ef_uk0 m (0 : Int32) a1) k) ?_
  refine own_f s₁ (mkF m 1 #[.val (.int (0 : Int32)), .val (.ref a1)] [(.int (0 : Int32))]) (fun t k => XS.iloadN X0.here hx rfl (hb hby duk0_0) rfl k) ?_
  refine own_f s₁ (mkF m 2 #[.val (.int (0 : Int32)), .val (.ref a1)] [(.ref a1), (.int (0 : Int32))]) (fun t k => XS.aloadN X0.here hx rfl (hb hby duk0_1) rfl rfl k) ?_
  obtain ⟨_, _, ⟨T1, Lq1, kq_1, nq_1⟩, -, X1, ⟨Lc1, hQ1, lq1, yq1, zq1⟩, st1⟩ := Jvm.LawKit.callS X0 hx (y := (⟨"java/lang/StringUTF16", "length", "([B)I"⟩ : MethodName)) hown (mvT hZ (own_w hw 166 rfl)) (mvT hZ (own_w hw 167 rfl)) (mvT hZ (own_w hw 29 rfl)) (mvT hZ (own_w hw 168 rfl)) (by decide) (backOf (W := 1) (rmul l Z a0 hw [] a1 _ _ h0 n0 Z0 F1) hZ (own_w hw 168 rfl) (own_w hw 29 rfl) (by decide) (by decide)) (g := (mkF m 2 #[.val (.int (0 : Int32)), .val (.ref a1)] [(.ref a1), (.int (0 : Int32))])) rfl (by rw [hml]; rfl) (argsL := [(.ref a1)]) (rest := [(.int (0 : Int32))]) (lenOf pd__B_I rfl) rfl (by show 2 * 0 + _ ≤ _; exact Nat.le_of_eq rfl) (hb hby duk0_2) (fun _ _ => ⟨rfl, e0, (by decide : 0 + 0 ≤ _), (by decide : 0 + 0 ≤ _)⟩)
  dsimp only [Pt.U, Pt.locs, Pt.cells, Pt.slots] at X1 lq1 yq1 zq1 st1 hQ1
  subst lq1 yq1 zq1
  obtain ⟨h1, e1⟩ : ∃ z, T1.heap = z := ⟨_, rfl⟩
  rw [e1] at hQ1
  unfold Qul at hQ1
  obtain ⟨rfl, Nq1, qh1⟩ := hQ1
  have N1 := Fr.app N0 Nq1
  rw [qh1] at e1
  refine own_f T1 (mkF m 5 #[.val (.int (0 : Int32)), .val (.ref a1)] [(.int (4 : Int32)), (.int (0 : Int32))]) st1 ?_
  obtain ⟨_, _, ⟨T2, Lq2, kq_2, nq_2⟩, -, X2, ⟨Lc2, hQ2, lq2, yq2, zq2⟩, st2⟩ := Jvm.LawKit.callS X1 hx (y := (⟨"java/lang/String", "checkIndex", "(II)V"⟩ : MethodName)) hown (mvT hZ (own_w hw 169 rfl)) (mvT hZ (own_w hw 101 rfl)) (mvT hZ (own_w hw 8 rfl)) (mvT hZ (own_w hw 102 rfl)) (by decide) (backOf (W := 0) (rmsk l Z a0 hw [] (0 : Int32) (4 : Int32) _ h0 n0 Z0 F0 SF hvf (by decide) (by decide)) hZ (own_w hw 102 rfl) (own_w hw 8 rfl) (by decide) (by decide)) (g := (mkF m 5 #[.val (.int (0 : Int32)), .val (.ref a1)] [(.int (4 : Int32)), (.int (0 : Int32))])) rfl (by rw [hml]; rfl) (argsL := [(.int (0 : Int32)), (.int (4 : Int32))]) (rest := []) (lenOf pd__II_V rfl) rfl (by show 2 * 0 + _ ≤ _; exact Nat.le_of_eq rfl) (hb hby duk0_5) (fun _ _ => ⟨rfl, e1, (by decide : 0 + 0 + 0 ≤ _), (by decide : 0 + 0 + 0 ≤ _)⟩)
  dsimp only [Pt.U, Pt.locs, Pt.cells, Pt.slots] at X2 lq2 yq2 zq2 st2 hQ2
  subst lq2 yq2 zq2
  obtain ⟨h2, e2⟩ : ∃ z, T2.heap = z := ⟨_, rfl⟩
  rw [e2] at hQ2
  unfold Qsk at hQ2
  obtain ⟨rfl, Nq2, qh2⟩ := hQ2
  have N2 := Fr.app N1 Nq2
  rw [qh2] at e2
  refine own_f T2 (mkF m 8 #[.val (.int (0 : Int32)), .val (.ref a1)] []) st2 ?_
  obtain ⟨fs, hr, hrun, hended, hW, hsame⟩ := X2.leave (v := none) (fun _ => rfl)
  refine ⟨_, _, X2.returnOut hx Bd.returns (hb hby duk0_8) hr, hrun, hended, _, _, rfl, ?_, ⟨_, rfl⟩, hW, hsame.mono (by decide) (by decide)⟩
  show Quk0 Z a1 k1 vv vf h0 n0 _ T2.heap _
  rw [e2]
  exact ⟨rfl, N2, rfl⟩
theorem dua0_0 : decode jdk_52_method_83_code 0 = .ok (.iload_n 1, 1) := by decide +kernel
theorem dua0_1 : decode jdk_52_method_83_code 1 = .ok (.aload_n 0, 1) := by decide +kernel
theorem dua0_2 : decode jdk_52_method_83_code 2 = .ok (.invokestatic 67, 3) := by decide +kernel
theorem dua0_5 : decode jdk_52_method_83_code 5 = .ok (.aload_n 0, 1) := by decide +kernel
theorem dua0_6 : decode jdk_52_method_83_code 6 = .ok (.iload_n 1, 1) := by decide +kernel
theorem dua0_7 : decode jdk_52_method_83_code 7 = .ok (.invokestatic 71, 3) := by decide +kernel
theorem dua0_10 : decode jdk_52_method_83_code 10 = .ok (.ireturn, 1) := by decide +kernel
theorem pn_ua0 : plainName "java/lang/StringUTF16" = true := by first | (simp [plainName, overriddenIn]; done) | decide +kernel
theorem ef_ua0 (m : MethodId) (x0 : Addr) (x1 : Int32) : entryFrame m #[(.ref x0), (.int x1)] 2 = mkF m 0 #[.val (.ref x0), .val (.int x1)] [] := by first | (simp [entryFrame, mkF, argsToLocals, Value.category]; done) | rfl
def Qua0 (Z : State) (a1 : Addr) (k1 : ClassId) (c0 : Int32) (c1 : Int32) (c2 : Int32) (c3 : Int32) (vf : Value) (h0 : Heap) (n0 : Nat) (v : Option Value) (h : Heap) (L : List Loc) : Prop := v = some (.int c0) ∧ Fr n0 L ∧ h = h0
set_option maxRecDepth 65536 in
set_option maxHeartbeats 40000000 in
theorem rmua0 (l : Launch) (Z : State) (a0 : Array Value) (hw : ∀ d ∈ tables_1, d.before a0 Z = true) (ws : List Jvm.Cond) (a1 : Addr) (k1 : ClassId) (c0 : Int32) (c1 : Int32) (c2 : Int32) (c3 : Int32) (vf : Value) (h0 : Heap) (n0 : Nat) (Z0 : n0 ≤ h0.size) (F0 : Old Z n0 h0) (F1 : Arv Z h0 a1 k1 .byte (8 : Int32) [.int ((c0 >>> ((0 : Int32) &&& 31)).toInt8.toInt32), .int ((c0 >>> ((8 : Int32) &&& 31)).toInt8.toInt32), .int ((c1 >>> ((0 : Int32) &&& 31)).toInt8.toInt32), .int ((c1 >>> ((8 : Int32) &&& 31)).toInt8.toInt32), .int ((c2 >>> ((0 : Int32) &&& 31)).toInt8.toInt32), .int ((c2 >>> ((8 : Int32) &&& 31)).toInt8.toInt32), .int ((c3 >>> ((0 : Int32) &&& 31)).toInt8.toInt32), .int ((c3 >>> ((8 : Int32) &&& 31)).toInt8.toInt32)] (.int 0)) (SF : Sta Z Z.heap "jdk/internal/util/Preconditions" "SIOOBE_FORMATTER" "Ljava/util/function/BiFunction;" vf) (hvf : vf.isRef = true) (hwc : own_W c0) (SH : Sta Z Z.heap "java/lang/StringUTF16" "HI_BYTE_SHIFT" "I" (.int (0 : Int32))) (SL : Sta Z Z.heap "java/lang/StringUTF16" "LO_BYTE_SHIFT" "I" (.int (8 : Int32))) (SA : Sta Z Z.heap "java/lang/StringUTF16" "$assertionsDisabled" "Z" (.int (1 : Int32))) :
    MetFree l (⟨"java/lang/StringUTF16", "charAt", "([BI)C"⟩ : MethodName) (head1 (Jvm.Cond.code (⟨"java/lang/StringUTF16", "charAt", "([BI)C"⟩ : MethodName) jdk_52_method_83_code 2 (some .char) :: ws) ({ frames := 3, cells := 0, slots := 0, locals := 40 } : Room)) (fun a U => a = #[(.ref a1), (.int (0 : Int32))] ∧ Z.Warmed39 U.vm ∧ U.heap = h0) (fun _ _ _ _ _ => True) (fun _ U o U' => ∃ v L, o = .returned v ∧ Qua0 Z a1 k1 c0 c1 c2 c3 vf h0 n0 v U'.heap L ∧ FrameEnd U o U' L ({ frames := 3, cells := 0, slots := 0, locals := 40 } : Room).cells ({ frames := 3, cells := 0, slots := 0, locals := 40 } : Room).slots) := by
  refine MetFree.of_bodySF (plainFor_of_name pn_ua0) hisR ?_
  intro p e s m args below meth c s₁ Bd hml0 hP hK
  obtain ⟨rfl, hZ, hh⟩ := hP
  have hx := Bd.exec
  have hby := Bd.bytes
  have hml : c.maxLocals = 2 := hml0
  have hown : s.vm.findClass "java/lang/StringUTF16" = some m.cls := findClass_of_methodNamed Bd.named
  have hnm := (name_of_methodNamed Bd.named Bd.method).1
  have X0 : Stand p l e ({ frames := 3, cells := 0, slots := 0, locals := 40 } : Room) s m #[(.ref a1), (.int (0 : Int32))] below meth c s₁ [] 0 0 := Stand.of_body Bd
  have e0 : s₁.heap = h0 := by rw [← hh, Bd.state]; rfl
  have N0 := Fr.nil n0
  show own_R p.tables e below (own_P s (Qua0 Z a1 k1 c0 c1 c2 c3 vf h0 n0) ({ frames := 3, cells := 0, slots := 0, locals := 40 } : Room).cells ({ frames := 3, cells := 0, slots := 0, locals := 40 } : Room).slots) (s₁.setTop (entryFrame m #[(.ref a1), (.int (0 : Int32))] 2))
  refine own_f s₁ (mkF m 0 #[.val (.ref a1), .val (.int (0 : Int32))] []) (fun t k => castTop (ef_ua0 m a1 (0 : Int32)) k) ?_
  refine own_f s₁ (mkF m 1 #[.val (.ref a1), .val (.int (0 : Int32))] [(.int (0 : Int32))]) (fun t k => XS.iloadN X0.here hx rfl (hb hby dua0_0) rfl k) ?_
  refine own_f s₁ (mkF m 2 #[.val (.ref a1), .val (.int (0 : Int32))] [(.ref a1), (.int (0 : Int32))]) (fun t k => XS.aloadN X0.here hx rfl (hb hby dua0_1) rfl rfl k) ?_
  obtain ⟨_, _, ⟨T1, Lq1, kq_1, nq_1⟩, -, X1, ⟨Lc1, hQ1, lq1, yq1, zq1⟩, st1⟩ := Jvm.LawKit.callS X0 hx (y := (⟨"java/lang/StringUTF16", "checkIndex", "(I[B)V"⟩ : MethodName)) hown (mvT hZ (own_w hw 163 rfl)) (mvT hZ (own_w hw 164 rfl)) (mvT hZ (own_w hw 29 rfl)) (mvT hZ (own_w hw 165 rfl)) (by decide) (backOf (W := 0) (rmuk0 l Z a0 hw [] a1 _ _ _ h0 n0 Z0 F0 F1 SF hvf) hZ (own_w hw 165 rfl) (own_w hw 29 rfl) (by decide) (by decide)) (g := (mkF m 2 #[.val (.ref a1), .val (.int (0 : Int32))] [(.ref a1), (.int (0 : Int32))])) rfl (by rw [hml]; rfl) (argsL := [(.int (0 : Int32)), (.ref a1)]) (rest := []) (lenOf pd__I_B_V rfl) rfl (by show 2 * 0 + _ ≤ _; exact Nat.le_of_eq rfl) (hb hby dua0_2) (fun _ _ => ⟨rfl, e0, (by decide : 0 + 0 ≤ _), (by decide : 0 + 0 ≤ _)⟩)
  dsimp only [Pt.U, Pt.locs, Pt.cells, Pt.slots] at X1 lq1 yq1 zq1 st1 hQ1
  subst lq1 yq1 zq1
  obtain ⟨h1, e1⟩ : ∃ z, T1.heap = z := ⟨_, rfl⟩
  rw [e1] at hQ1
  unfold Quk0 at hQ1
  obtain ⟨rfl, Nq1, qh1⟩ := hQ1
  have N1 := Fr.app N0 Nq1
  rw [qh1] at e1
  refine own_f T1 (mkF m 5 #[.val (.ref a1), .val (.int (0 : Int32))] []) st1 ?_
  refine own_f T1 (mkF m 6 #[.val (.ref a1), .val (.int (0 : Int32))] [(.ref a1)]) (fun t k => XS.aloadN X1.here hx rfl (hb hby dua0_5) rfl rfl k) ?_
  refine own_f T1 (mkF m 7 #[.val (.ref a1), .val (.int (0 : Int32))] [(.int (0 : Int32)), (.ref a1)]) (fun t k => XS.iloadN X1.here hx rfl (hb hby dua0_6) rfl k) ?_
  obtain ⟨_, _, ⟨T2, Lq2, kq_2, nq_2⟩, -, X2, ⟨Lc2, hQ2, lq2, yq2, zq2⟩, st2⟩ := Jvm.LawKit.callS X1 hx (y := (⟨"java/lang/StringUTF16", "getChar", "([BI)C"⟩ : MethodName)) hown (mvT hZ (own_w hw 157 rfl)) (mvT hZ (own_w hw 158 rfl)) (mvT hZ (own_w hw 29 rfl)) (mvT hZ (own_w hw 159 rfl)) (by decide) (backOf (W := 0) (rmgc4_0 l Z a0 hw [] a1 _ _ _ _ _ h0 n0 Z0 F0 F1 SH SL SA hwc) hZ (own_w hw 159 rfl) (own_w hw 29 rfl) (by decide) (by decide)) (g := (mkF m 7 #[.val (.ref a1), .val (.int (0 : Int32))] [(.int (0 : Int32)), (.ref a1)])) rfl (by rw [hml]; rfl) (argsL := [(.ref a1), (.int (0 : Int32))]) (rest := []) (lenOf pd__BI_C rfl) rfl (by show 2 * 0 + _ ≤ _; exact Nat.le_of_eq rfl) (hb hby dua0_7) (fun _ _ => ⟨rfl, e1, (by decide : 0 + 0 + 0 ≤ _), (by decide : 0 + 0 + 0 ≤ _)⟩)
  dsimp only [Pt.U, Pt.locs, Pt.cells, Pt.slots] at X2 lq2 yq2 zq2 st2 hQ2
  subst lq2 yq2 zq2
  obtain ⟨h2, e2⟩ : ∃ z, T2.heap = z := ⟨_, rfl⟩
  rw [e2] at hQ2
  unfold Qgc4_0 at hQ2
  obtain ⟨rfl, Nq2, qh2⟩ := hQ2
  have N2 := Fr.app N1 Nq2
  rw [qh2] at e2
  refine own_f T2 (mkF m 10 #[.val (.ref a1), .val (.int (0 : Int32))] [(.int c0)]) st2 ?_
  obtain ⟨fs, hr, hrun, hended, hW, hsame⟩ := X2.leave (v := some (.int c0)) (fun h => by rw [Bd.returns] at h; cases h)
  refine ⟨_, _, own_retB X2 hx (t := .char) Bd.returns (by simp) hwc.nar (hb hby dua0_10) hr, hrun, hended, _, _, rfl, ?_, ⟨_, rfl⟩, hW, hsame.mono (by decide) (by decide)⟩
  show Qua0 Z a1 k1 c0 c1 c2 c3 vf h0 n0 _ T2.heap _
  rw [e2]
  exact ⟨rfl, N2, rfl⟩
theorem duk2_0 : decode jdk_52_method_91_code 0 = .ok (.iload_n 0, 1) := by decide +kernel
theorem duk2_1 : decode jdk_52_method_91_code 1 = .ok (.aload_n 1, 1) := by decide +kernel
theorem duk2_2 : decode jdk_52_method_91_code 2 = .ok (.invokestatic 48, 3) := by decide +kernel
theorem duk2_5 : decode jdk_52_method_91_code 5 = .ok (.invokestatic 414, 3) := by decide +kernel
theorem duk2_8 : decode jdk_52_method_91_code 8 = .ok (.return_, 1) := by decide +kernel
theorem pn_uk2 : plainName "java/lang/StringUTF16" = true := by first | (simp [plainName, overriddenIn]; done) | decide +kernel
theorem ef_uk2 (m : MethodId) (x0 : Int32) (x1 : Addr) : entryFrame m #[(.int x0), (.ref x1)] 2 = mkF m 0 #[.val (.int x0), .val (.ref x1)] [] := by first | (simp [entryFrame, mkF, argsToLocals, Value.category]; done) | rfl
def Quk2 (Z : State) (a1 : Addr) (k1 : ClassId) (vv : List Value) (vf : Value) (h0 : Heap) (n0 : Nat) (v : Option Value) (h : Heap) (L : List Loc) : Prop := v = none ∧ Fr n0 L ∧ h = h0
set_option maxRecDepth 65536 in
set_option maxHeartbeats 40000000 in
theorem rmuk2 (l : Launch) (Z : State) (a0 : Array Value) (hw : ∀ d ∈ tables_1, d.before a0 Z = true) (ws : List Jvm.Cond) (a1 : Addr) (k1 : ClassId) (vv : List Value) (vf : Value) (h0 : Heap) (n0 : Nat) (Z0 : n0 ≤ h0.size) (F0 : Old Z n0 h0) (F1 : Arv Z h0 a1 k1 .byte (8 : Int32) vv (.int 0)) (SF : Sta Z Z.heap "jdk/internal/util/Preconditions" "SIOOBE_FORMATTER" "Ljava/util/function/BiFunction;" vf) (hvf : vf.isRef = true) :
    MetFree l (⟨"java/lang/StringUTF16", "checkIndex", "(I[B)V"⟩ : MethodName) (head1 (Jvm.Cond.code (⟨"java/lang/StringUTF16", "checkIndex", "(I[B)V"⟩ : MethodName) jdk_52_method_91_code 2 none :: ws) ({ frames := 2, cells := 0, slots := 0, locals := 27 } : Room)) (fun a U => a = #[(.int (2 : Int32)), (.ref a1)] ∧ Z.Warmed39 U.vm ∧ U.heap = h0) (fun _ _ _ _ _ => True) (fun _ U o U' => ∃ v L, o = .returned v ∧ Quk2 Z a1 k1 vv vf h0 n0 v U'.heap L ∧ FrameEnd U o U' L ({ frames := 2, cells := 0, slots := 0, locals := 27 } : Room).cells ({ frames := 2, cells := 0, slots := 0, locals := 27 } : Room).slots) := by
  refine MetFree.of_bodySF (plainFor_of_name pn_uk2) hisR ?_
  intro p e s m args below meth c s₁ Bd hml0 hP hK
  obtain ⟨rfl, hZ, hh⟩ := hP
  have hx := Bd.exec
  have hby := Bd.bytes
  have hml : c.maxLocals = 2 := hml0
  have hown : s.vm.findClass "java/lang/StringUTF16" = some m.cls := findClass_of_methodNamed Bd.named
  have hnm := (name_of_methodNamed Bd.named Bd.method).1
  have X0 : Stand p l e ({ frames := 2, cells := 0, slots := 0, locals := 27 } : Room) s m #[(.int (2 : Int32)), (.ref a1)] below meth c s₁ [] 0 0 := Stand.of_body Bd
  have e0 : s₁.heap = h0 := by rw [← hh, Bd.state]; rfl
  have N0 := Fr.nil n0
  show own_R p.tables e below (own_P s (Quk2 Z a1 k1 vv vf h0 n0) ({ frames := 2, cells := 0, slots := 0, locals := 27 } : Room).cells ({ frames := 2, cells := 0, slots := 0, locals := 27 } : Room).slots) (s₁.setTop (entryFrame m #[(.int (2 : Int32)), (.ref a1)] 2))
  refine own_f s₁ (mkF m 0 #[.val (.int (2 : Int32)), .val (.ref a1)] []) (fun t k => castTop (ef_uk2 m (2 : Int32) a1) k) ?_
  refine own_f s₁ (mkF m 1 #[.val (.int (2 : Int32)), .val (.ref a1)] [(.int (2 : Int32))]) (fun t k => XS.iloadN X0.here hx rfl (hb hby duk2_0) rfl k) ?_
  refine own_f s₁ (mkF m 2 #[.val (.int (2 : Int32)), .val (.ref a1)] [(.ref a1), (.int (2 : Int32))]) (fun t k => XS.aloadN X0.here hx rfl (hb hby duk2_1) rfl rfl k) ?_
  obtain ⟨_, _, ⟨T1, Lq1, kq_1, nq_1⟩, -, X1, ⟨Lc1, hQ1, lq1, yq1, zq1⟩, st1⟩ := Jvm.LawKit.callS X0 hx (y := (⟨"java/lang/StringUTF16", "length", "([B)I"⟩ : MethodName)) hown (mvT hZ (own_w hw 166 rfl)) (mvT hZ (own_w hw 167 rfl)) (mvT hZ (own_w hw 29 rfl)) (mvT hZ (own_w hw 168 rfl)) (by decide) (backOf (W := 1) (rmul l Z a0 hw [] a1 _ _ h0 n0 Z0 F1) hZ (own_w hw 168 rfl) (own_w hw 29 rfl) (by decide) (by decide)) (g := (mkF m 2 #[.val (.int (2 : Int32)), .val (.ref a1)] [(.ref a1), (.int (2 : Int32))])) rfl (by rw [hml]; rfl) (argsL := [(.ref a1)]) (rest := [(.int (2 : Int32))]) (lenOf pd__B_I rfl) rfl (by show 2 * 0 + _ ≤ _; exact Nat.le_of_eq rfl) (hb hby duk2_2) (fun _ _ => ⟨rfl, e0, (by decide : 0 + 0 ≤ _), (by decide : 0 + 0 ≤ _)⟩)
  dsimp only [Pt.U, Pt.locs, Pt.cells, Pt.slots] at X1 lq1 yq1 zq1 st1 hQ1
  subst lq1 yq1 zq1
  obtain ⟨h1, e1⟩ : ∃ z, T1.heap = z := ⟨_, rfl⟩
  rw [e1] at hQ1
  unfold Qul at hQ1
  obtain ⟨rfl, Nq1, qh1⟩ := hQ1
  have N1 := Fr.app N0 Nq1
  rw [qh1] at e1
  refine own_f T1 (mkF m 5 #[.val (.int (2 : Int32)), .val (.ref a1)] [(.int (4 : Int32)), (.int (2 : Int32))]) st1 ?_
  obtain ⟨_, _, ⟨T2, Lq2, kq_2, nq_2⟩, -, X2, ⟨Lc2, hQ2, lq2, yq2, zq2⟩, st2⟩ := Jvm.LawKit.callS X1 hx (y := (⟨"java/lang/String", "checkIndex", "(II)V"⟩ : MethodName)) hown (mvT hZ (own_w hw 169 rfl)) (mvT hZ (own_w hw 101 rfl)) (mvT hZ (own_w hw 8 rfl)) (mvT hZ (own_w hw 102 rfl)) (by decide) (backOf (W := 0) (rmsk l Z a0 hw [] (2 : Int32) (4 : Int32) _ h0 n0 Z0 F0 SF hvf (by decide) (by decide)) hZ (own_w hw 102 rfl) (own_w hw 8 rfl) (by decide) (by decide)) (g := (mkF m 5 #[.val (.int (2 : Int32)), .val (.ref a1)] [(.int (4 : Int32)), (.int (2 : Int32))])) rfl (by rw [hml]; rfl) (argsL := [(.int (2 : Int32)), (.int (4 : Int32))]) (rest := []) (lenOf pd__II_V rfl) rfl (by show 2 * 0 + _ ≤ _; exact Nat.le_of_eq rfl) (hb hby duk2_5) (fun _ _ => ⟨rfl, e1, (by decide : 0 + 0 + 0 ≤ _), (by decide : 0 + 0 + 0 ≤ _)⟩)
  dsimp only [Pt.U, Pt.locs, Pt.cells, Pt.slots] at X2 lq2 yq2 zq2 st2 hQ2
  subst lq2 yq2 zq2
  obtain ⟨h2, e2⟩ : ∃ z, T2.heap = z := ⟨_, rfl⟩
  rw [e2] at hQ2
  unfold Qsk at hQ2
  obtain ⟨rfl, Nq2, qh2⟩ := hQ2
  have N2 := Fr.app N1 Nq2
  rw [qh2] at e2
  refine own_f T2 (mkF m 8 #[.val (.int (2 : Int32)), .val (.ref a1)] []) st2 ?_
  obtain ⟨fs, hr, hrun, hended, hW, hsame⟩ := X2.leave (v := none) (fun _ => rfl)
  refine ⟨_, _, X2.returnOut hx Bd.returns (hb hby duk2_8) hr, hrun, hended, _, _, rfl, ?_, ⟨_, rfl⟩, hW, hsame.mono (by decide) (by decide)⟩
  show Quk2 Z a1 k1 vv vf h0 n0 _ T2.heap _
  rw [e2]
  exact ⟨rfl, N2, rfl⟩
theorem dua2_0 : decode jdk_52_method_83_code 0 = .ok (.iload_n 1, 1) := by decide +kernel
theorem dua2_1 : decode jdk_52_method_83_code 1 = .ok (.aload_n 0, 1) := by decide +kernel
theorem dua2_2 : decode jdk_52_method_83_code 2 = .ok (.invokestatic 67, 3) := by decide +kernel
theorem dua2_5 : decode jdk_52_method_83_code 5 = .ok (.aload_n 0, 1) := by decide +kernel
theorem dua2_6 : decode jdk_52_method_83_code 6 = .ok (.iload_n 1, 1) := by decide +kernel
theorem dua2_7 : decode jdk_52_method_83_code 7 = .ok (.invokestatic 71, 3) := by decide +kernel
theorem dua2_10 : decode jdk_52_method_83_code 10 = .ok (.ireturn, 1) := by decide +kernel
theorem pn_ua2 : plainName "java/lang/StringUTF16" = true := by first | (simp [plainName, overriddenIn]; done) | decide +kernel
theorem ef_ua2 (m : MethodId) (x0 : Addr) (x1 : Int32) : entryFrame m #[(.ref x0), (.int x1)] 2 = mkF m 0 #[.val (.ref x0), .val (.int x1)] [] := by first | (simp [entryFrame, mkF, argsToLocals, Value.category]; done) | rfl
def Qua2 (Z : State) (a1 : Addr) (k1 : ClassId) (c0 : Int32) (c1 : Int32) (c2 : Int32) (c3 : Int32) (vf : Value) (h0 : Heap) (n0 : Nat) (v : Option Value) (h : Heap) (L : List Loc) : Prop := v = some (.int c2) ∧ Fr n0 L ∧ h = h0
set_option maxRecDepth 65536 in
set_option maxHeartbeats 40000000 in
theorem rmua2 (l : Launch) (Z : State) (a0 : Array Value) (hw : ∀ d ∈ tables_1, d.before a0 Z = true) (ws : List Jvm.Cond) (a1 : Addr) (k1 : ClassId) (c0 : Int32) (c1 : Int32) (c2 : Int32) (c3 : Int32) (vf : Value) (h0 : Heap) (n0 : Nat) (Z0 : n0 ≤ h0.size) (F0 : Old Z n0 h0) (F1 : Arv Z h0 a1 k1 .byte (8 : Int32) [.int ((c0 >>> ((0 : Int32) &&& 31)).toInt8.toInt32), .int ((c0 >>> ((8 : Int32) &&& 31)).toInt8.toInt32), .int ((c1 >>> ((0 : Int32) &&& 31)).toInt8.toInt32), .int ((c1 >>> ((8 : Int32) &&& 31)).toInt8.toInt32), .int ((c2 >>> ((0 : Int32) &&& 31)).toInt8.toInt32), .int ((c2 >>> ((8 : Int32) &&& 31)).toInt8.toInt32), .int ((c3 >>> ((0 : Int32) &&& 31)).toInt8.toInt32), .int ((c3 >>> ((8 : Int32) &&& 31)).toInt8.toInt32)] (.int 0)) (SF : Sta Z Z.heap "jdk/internal/util/Preconditions" "SIOOBE_FORMATTER" "Ljava/util/function/BiFunction;" vf) (hvf : vf.isRef = true) (hwc : own_W c2) (SH : Sta Z Z.heap "java/lang/StringUTF16" "HI_BYTE_SHIFT" "I" (.int (0 : Int32))) (SL : Sta Z Z.heap "java/lang/StringUTF16" "LO_BYTE_SHIFT" "I" (.int (8 : Int32))) (SA : Sta Z Z.heap "java/lang/StringUTF16" "$assertionsDisabled" "Z" (.int (1 : Int32))) :
    MetFree l (⟨"java/lang/StringUTF16", "charAt", "([BI)C"⟩ : MethodName) (head1 (Jvm.Cond.code (⟨"java/lang/StringUTF16", "charAt", "([BI)C"⟩ : MethodName) jdk_52_method_83_code 2 (some .char) :: ws) ({ frames := 3, cells := 0, slots := 0, locals := 40 } : Room)) (fun a U => a = #[(.ref a1), (.int (2 : Int32))] ∧ Z.Warmed39 U.vm ∧ U.heap = h0) (fun _ _ _ _ _ => True) (fun _ U o U' => ∃ v L, o = .returned v ∧ Qua2 Z a1 k1 c0 c1 c2 c3 vf h0 n0 v U'.heap L ∧ FrameEnd U o U' L ({ frames := 3, cells := 0, slots := 0, locals := 40 } : Room).cells ({ frames := 3, cells := 0, slots := 0, locals := 40 } : Room).slots) := by
  refine MetFree.of_bodySF (plainFor_of_name pn_ua2) hisR ?_
  intro p e s m args below meth c s₁ Bd hml0 hP hK
  obtain ⟨rfl, hZ, hh⟩ := hP
  have hx := Bd.exec
  have hby := Bd.bytes
  have hml : c.maxLocals = 2 := hml0
  have hown : s.vm.findClass "java/lang/StringUTF16" = some m.cls := findClass_of_methodNamed Bd.named
  have hnm := (name_of_methodNamed Bd.named Bd.method).1
  have X0 : Stand p l e ({ frames := 3, cells := 0, slots := 0, locals := 40 } : Room) s m #[(.ref a1), (.int (2 : Int32))] below meth c s₁ [] 0 0 := Stand.of_body Bd
  have e0 : s₁.heap = h0 := by rw [← hh, Bd.state]; rfl
  have N0 := Fr.nil n0
  show own_R p.tables e below (own_P s (Qua2 Z a1 k1 c0 c1 c2 c3 vf h0 n0) ({ frames := 3, cells := 0, slots := 0, locals := 40 } : Room).cells ({ frames := 3, cells := 0, slots := 0, locals := 40 } : Room).slots) (s₁.setTop (entryFrame m #[(.ref a1), (.int (2 : Int32))] 2))
  refine own_f s₁ (mkF m 0 #[.val (.ref a1), .val (.int (2 : Int32))] []) (fun t k => castTop (ef_ua2 m a1 (2 : Int32)) k) ?_
  refine own_f s₁ (mkF m 1 #[.val (.ref a1), .val (.int (2 : Int32))] [(.int (2 : Int32))]) (fun t k => XS.iloadN X0.here hx rfl (hb hby dua2_0) rfl k) ?_
  refine own_f s₁ (mkF m 2 #[.val (.ref a1), .val (.int (2 : Int32))] [(.ref a1), (.int (2 : Int32))]) (fun t k => XS.aloadN X0.here hx rfl (hb hby dua2_1) rfl rfl k) ?_
  obtain ⟨_, _, ⟨T1, Lq1, kq_1, nq_1⟩, -, X1, ⟨Lc1, hQ1, lq1, yq1, zq1⟩, st1⟩ := Jvm.LawKit.callS X0 hx (y := (⟨"java/lang/StringUTF16", "checkIndex", "(I[B)V"⟩ : MethodName)) hown (mvT hZ (own_w hw 163 rfl)) (mvT hZ (own_w hw 164 rfl)) (mvT hZ (own_w hw 29 rfl)) (mvT hZ (own_w hw 165 rfl)) (by decide) (backOf (W := 0) (rmuk2 l Z a0 hw [] a1 _ _ _ h0 n0 Z0 F0 F1 SF hvf) hZ (own_w hw 165 rfl) (own_w hw 29 rfl) (by decide) (by decide)) (g := (mkF m 2 #[.val (.ref a1), .val (.int (2 : Int32))] [(.ref a1), (.int (2 : Int32))])) rfl (by rw [hml]; rfl) (argsL := [(.int (2 : Int32)), (.ref a1)]) (rest := []) (lenOf pd__I_B_V rfl) rfl (by show 2 * 0 + _ ≤ _; exact Nat.le_of_eq rfl) (hb hby dua2_2) (fun _ _ => ⟨rfl, e0, (by decide : 0 + 0 ≤ _), (by decide : 0 + 0 ≤ _)⟩)
  dsimp only [Pt.U, Pt.locs, Pt.cells, Pt.slots] at X1 lq1 yq1 zq1 st1 hQ1
  subst lq1 yq1 zq1
  obtain ⟨h1, e1⟩ : ∃ z, T1.heap = z := ⟨_, rfl⟩
  rw [e1] at hQ1
  unfold Quk2 at hQ1
  obtain ⟨rfl, Nq1, qh1⟩ := hQ1
  have N1 := Fr.app N0 Nq1
  rw [qh1] at e1
  refine own_f T1 (mkF m 5 #[.val (.ref a1), .val (.int (2 : Int32))] []) st1 ?_
  refine own_f T1 (mkF m 6 #[.val (.ref a1), .val (.int (2 : Int32))] [(.ref a1)]) (fun t k => XS.aloadN X1.here hx rfl (hb hby dua2_5) rfl rfl k) ?_
  refine own_f T1 (mkF m 7 #[.val (.ref a1), .val (.int (2 : Int32))] [(.int (2 : Int32)), (.ref a1)]) (fun t k => XS.iloadN X1.here hx rfl (hb hby dua2_6) rfl k) ?_
  obtain ⟨_, _, ⟨T2, Lq2, kq_2, nq_2⟩, -, X2, ⟨Lc2, hQ2, lq2, yq2, zq2⟩, st2⟩ := Jvm.LawKit.callS X1 hx (y := (⟨"java/lang/StringUTF16", "getChar", "([BI)C"⟩ : MethodName)) hown (mvT hZ (own_w hw 157 rfl)) (mvT hZ (own_w hw 158 rfl)) (mvT hZ (own_w hw 29 rfl)) (mvT hZ (own_w hw 159 rfl)) (by decide) (backOf (W := 0) (rmgc4_2 l Z a0 hw [] a1 _ _ _ _ _ h0 n0 Z0 F0 F1 SH SL SA hwc) hZ (own_w hw 159 rfl) (own_w hw 29 rfl) (by decide) (by decide)) (g := (mkF m 7 #[.val (.ref a1), .val (.int (2 : Int32))] [(.int (2 : Int32)), (.ref a1)])) rfl (by rw [hml]; rfl) (argsL := [(.ref a1), (.int (2 : Int32))]) (rest := []) (lenOf pd__BI_C rfl) rfl (by show 2 * 0 + _ ≤ _; exact Nat.le_of_eq rfl) (hb hby dua2_7) (fun _ _ => ⟨rfl, e1, (by decide : 0 + 0 + 0 ≤ _), (by decide : 0 + 0 + 0 ≤ _)⟩)
  dsimp only [Pt.U, Pt.locs, Pt.cells, Pt.slots] at X2 lq2 yq2 zq2 st2 hQ2
  subst lq2 yq2 zq2
  obtain ⟨h2, e2⟩ : ∃ z, T2.heap = z := ⟨_, rfl⟩
  rw [e2] at hQ2
  unfold Qgc4_2 at hQ2
  obtain ⟨rfl, Nq2, qh2⟩ := hQ2
  have N2 := Fr.app N1 Nq2
  rw [qh2] at e2
  refine own_f T2 (mkF m 10 #[.val (.ref a1), .val (.int (2 : Int32))] [(.int c2)]) st2 ?_
  obtain ⟨fs, hr, hrun, hended, hW, hsame⟩ := X2.leave (v := some (.int c2)) (fun h => by rw [Bd.returns] at h; cases h)
  refine ⟨_, _, own_retB X2 hx (t := .char) Bd.returns (by simp) hwc.nar (hb hby dua2_10) hr, hrun, hended, _, _, rfl, ?_, ⟨_, rfl⟩, hW, hsame.mono (by decide) (by decide)⟩
  show Qua2 Z a1 k1 c0 c1 c2 c3 vf h0 n0 _ T2.heap _
  rw [e2]
  exact ⟨rfl, N2, rfl⟩
theorem dsc00_0 : decode jdk_42_method_56_code 0 = .ok (.aload_n 0, 1) := by decide +kernel
theorem dsc00_1 : decode jdk_42_method_56_code 1 = .ok (.invokevirtual 492, 3) := by decide +kernel
theorem dsc00_4 : decode jdk_42_method_56_code 4 = .ok (.ifCond .eq 12, 3) := by decide +kernel
theorem dsc00_7 : decode jdk_42_method_56_code 7 = .ok (.aload_n 0, 1) := by decide +kernel
theorem dsc00_8 : decode jdk_42_method_56_code 8 = .ok (.getfield 9, 3) := by decide +kernel
theorem dsc00_11 : decode jdk_42_method_56_code 11 = .ok (.iload_n 1, 1) := by decide +kernel
theorem dsc00_12 : decode jdk_42_method_56_code 12 = .ok (.invokestatic 495, 3) := by decide +kernel
theorem dsc00_15 : decode jdk_42_method_56_code 15 = .ok (.ireturn, 1) := by decide +kernel
theorem pn_sc00 : plainName "java/lang/String" = true := by first | (simp [plainName, overriddenIn]; done) | decide +kernel
theorem ef_sc00 (m : MethodId) (x0 : Addr) (x1 : Int32) : entryFrame m #[(.ref x0), (.int x1)] 2 = mkF m 0 #[.val (.ref x0), .val (.int x1)] [] := by first | (simp [entryFrame, mkF, argsToLocals, Value.category]; done) | rfl
def Qsc00 (Z : State) (a1 : Addr) (d1 : Addr) (k1 : ClassId) (c0 : Int32) (c2 : Int32) (wc : Int32) (vf : Value) (h0 : Heap) (n0 : Nat) (v : Option Value) (h : Heap) (L : List Loc) : Prop := v = some (.int c0) ∧ Fr n0 L ∧ h = h0
set_option maxRecDepth 65536 in
set_option maxHeartbeats 40000000 in
theorem rmsc00 (l : Launch) (Z : State) (a0 : Array Value) (hw : ∀ d ∈ tables_1, d.before a0 Z = true) (ws : List Jvm.Cond) (a1 : Addr) (d1 : Addr) (k1 : ClassId) (c0 : Int32) (c2 : Int32) (wc : Int32) (vf : Value) (h0 : Heap) (n0 : Nat) (Z0 : n0 ≤ h0.size) (F0 : Old Z n0 h0) (F1 : Exa Z h0 a1 "java/lang/String") (F2 : Fld Z h0 a1 "java/lang/String" "coder" "B" (.int (0 : Int32))) (F3 : Fld Z h0 a1 "java/lang/String" "value" "[B" (.ref d1)) (F4 : Arv Z h0 d1 k1 .byte (4 : Int32) [.int (c0.toInt8.toInt32), .int ((10 : Int32).toInt8.toInt32), .int (c2.toInt8.toInt32), .int ((10 : Int32).toInt8.toInt32)] (.int 0)) (SC : Sta Z Z.heap "java/lang/String" "COMPACT_STRINGS" "Z" (.int wc)) (HWC : ¬ (wc = 0)) (SF : Sta Z Z.heap "jdk/internal/util/Preconditions" "SIOOBE_FORMATTER" "Ljava/util/function/BiFunction;" vf) (hvf : vf.isRef = true) (hwc : own_W c0) (hlc : ¬ ((255 : Int32) < c0)) :
    MetFree l (⟨"java/lang/String", "charAt", "(I)C"⟩ : MethodName) (head1 (Jvm.Cond.code (⟨"java/lang/String", "charAt", "(I)C"⟩ : MethodName) jdk_42_method_56_code 2 (some .char) :: ws) ({ frames := 4, cells := 0, slots := 0, locals := 53 } : Room)) (fun a U => a = #[(.ref a1), (.int (0 : Int32))] ∧ Z.Warmed39 U.vm ∧ U.heap = h0) (fun _ _ _ _ _ => True) (fun _ U o U' => ∃ v L, o = .returned v ∧ Qsc00 Z a1 d1 k1 c0 c2 wc vf h0 n0 v U'.heap L ∧ FrameEnd U o U' L ({ frames := 4, cells := 0, slots := 0, locals := 53 } : Room).cells ({ frames := 4, cells := 0, slots := 0, locals := 53 } : Room).slots) := by
  refine MetFree.of_bodySF (plainFor_of_name pn_sc00) hisR ?_
  intro p e s m args below meth c s₁ Bd hml0 hP hK
  obtain ⟨rfl, hZ, hh⟩ := hP
  have hx := Bd.exec
  have hby := Bd.bytes
  have hml : c.maxLocals = 2 := hml0
  have hown : s.vm.findClass "java/lang/String" = some m.cls := findClass_of_methodNamed Bd.named
  have hnm := (name_of_methodNamed Bd.named Bd.method).1
  have X0 : Stand p l e ({ frames := 4, cells := 0, slots := 0, locals := 53 } : Room) s m #[(.ref a1), (.int (0 : Int32))] below meth c s₁ [] 0 0 := Stand.of_body Bd
  have e0 : s₁.heap = h0 := by rw [← hh, Bd.state]; rfl
  have N0 := Fr.nil n0
  show own_R p.tables e below (own_P s (Qsc00 Z a1 d1 k1 c0 c2 wc vf h0 n0) ({ frames := 4, cells := 0, slots := 0, locals := 53 } : Room).cells ({ frames := 4, cells := 0, slots := 0, locals := 53 } : Room).slots) (s₁.setTop (entryFrame m #[(.ref a1), (.int (0 : Int32))] 2))
  refine own_f s₁ (mkF m 0 #[.val (.ref a1), .val (.int (0 : Int32))] []) (fun t k => castTop (ef_sc00 m a1 (0 : Int32)) k) ?_
  refine own_f s₁ (mkF m 1 #[.val (.ref a1), .val (.int (0 : Int32))] [(.ref a1)]) (fun t k => XS.aloadN X0.here hx rfl (hb hby dsc00_0) rfl rfl k) ?_
  obtain ⟨cq1, kq1, qa1, qb1, qc1⟩ := isOf hZ e0 F1
  obtain ⟨_, _, ⟨T1, Lq1, kq_1, nq_1⟩, -, X1, ⟨Lc1, hQ1, lq1, yq1, zq1⟩, st1⟩ := X0.virtualBack hx (y := (⟨"java/lang/String", "isLatin1", "()Z"⟩ : MethodName)) (z := (⟨"java/lang/String", "isLatin1", "()Z"⟩ : MethodName)) hown (mvT hZ (own_w hw 91 rfl)) (mvT hZ (own_w hw 92 rfl)) (notFace_of_selects (args := #[]) (mvT hZ (own_w hw 94 rfl))) (mvT hZ (own_w hw 94 rfl)) (mvT hZ (own_w hw 93 rfl)) (by decide) (backOf (W := 0) (rmis0 l Z a0 hw [] a1 _ h0 n0 Z0 F0 F2 SC HWC) hZ (own_w hw 95 rfl) (own_w hw 8 rfl) (by decide) (by decide)) qa1 qc1 (g := (mkF m 1 #[.val (.ref a1), .val (.int (0 : Int32))] [(.ref a1)])) rfl (by rw [hml]; rfl) (Steps.refl _) (argsL := []) (rest := []) (lenOf pd__Z rfl) rfl (by show 2 * 0 + _ ≤ _; exact Nat.le_of_eq rfl) (hb hby dsc00_1) (fun _ _ => ⟨rfl, e0, (by decide : 0 + 0 ≤ _), (by decide : 0 + 0 ≤ _)⟩)
  dsimp only [Pt.U, Pt.locs, Pt.cells, Pt.slots] at X1 lq1 yq1 zq1 st1 hQ1
  subst lq1 yq1 zq1
  obtain ⟨h1, e1⟩ : ∃ z, T1.heap = z := ⟨_, rfl⟩
  rw [e1] at hQ1
  unfold Qis0 at hQ1
  obtain ⟨rfl, Nq1, qh1⟩ := hQ1
  have N1 := Fr.app N0 Nq1
  rw [qh1] at e1
  refine own_g T1 (mkF m 4 #[.val (.ref a1), .val (.int (0 : Int32))] [(.int (1 : Int32))]) st1 ?_
  refine own_f T1 (mkF m 7 #[.val (.ref a1), .val (.int (0 : Int32))] []) (fun t k => XS.ifNo X1.here hx rfl (hb hby dsc00_4) rfl (XT.i0_eq_f (by decide)) k) ?_
  refine own_f T1 (mkF m 8 #[.val (.ref a1), .val (.int (0 : Int32))] [(.ref a1)]) (fun t k => XS.aloadN X1.here hx rfl (hb hby dsc00_7) rfl rfl k) ?_
  obtain ⟨T2, X2, e2, st2⟩ := getF X1 hx hZ hown (host := "") (Or.inl (own_w hw 38 rfl)) Via.refl e1 F3 (g := (mkF m 8 #[.val (.ref a1), .val (.int (0 : Int32))] [(.ref a1)])) rfl rfl (hb hby dsc00_8)
  refine own_f T2 (mkF m 11 #[.val (.ref a1), .val (.int (0 : Int32))] [(.ref d1)]) st2 ?_
  refine own_f T2 (mkF m 12 #[.val (.ref a1), .val (.int (0 : Int32))] [(.int (0 : Int32)), (.ref d1)]) (fun t k => XS.iloadN X2.here hx rfl (hb hby dsc00_11) rfl k) ?_
  obtain ⟨_, _, ⟨T3, Lq3, kq_3, nq_3⟩, -, X3, ⟨Lc3, hQ3, lq3, yq3, zq3⟩, st3⟩ := Jvm.LawKit.callS X2 hx (y := (⟨"java/lang/StringLatin1", "charAt", "([BI)C"⟩ : MethodName)) hown (mvT hZ (own_w hw 96 rfl)) (mvT hZ (own_w hw 97 rfl)) (mvT hZ (own_w hw 98 rfl)) (mvT hZ (own_w hw 99 rfl)) (by decide) (backOf (W := 0) (rmla0 l Z a0 hw [] d1 _ _ _ _ _ _ h0 n0 Z0 F0 F4 SF hvf hwc hlc) hZ (own_w hw 99 rfl) (own_w hw 98 rfl) (by decide) (by decide)) (g := (mkF m 12 #[.val (.ref a1), .val (.int (0 : Int32))] [(.int (0 : Int32)), (.ref d1)])) rfl (by rw [hml]; rfl) (argsL := [(.ref d1), (.int (0 : Int32))]) (rest := []) (lenOf pd__BI_C rfl) rfl (by show 2 * 0 + _ ≤ _; exact Nat.le_of_eq rfl) (hb hby dsc00_12) (fun _ _ => ⟨rfl, e2, (by decide : 0 + 0 + 0 ≤ _), (by decide : 0 + 0 + 0 ≤ _)⟩)
  dsimp only [Pt.U, Pt.locs, Pt.cells, Pt.slots] at X3 lq3 yq3 zq3 st3 hQ3
  subst lq3 yq3 zq3
  obtain ⟨h3, e3⟩ : ∃ z, T3.heap = z := ⟨_, rfl⟩
  rw [e3] at hQ3
  unfold Qla0 at hQ3
  obtain ⟨rfl, Nq3, qh3⟩ := hQ3
  have N3 := Fr.app N1 Nq3
  rw [qh3] at e3
  refine own_f T3 (mkF m 15 #[.val (.ref a1), .val (.int (0 : Int32))] [(.int c0)]) st3 ?_
  obtain ⟨fs, hr, hrun, hended, hW, hsame⟩ := X3.leave (v := some (.int c0)) (fun h => by rw [Bd.returns] at h; cases h)
  refine ⟨_, _, own_retB X3 hx (t := .char) Bd.returns (by simp) hwc.nar (hb hby dsc00_15) hr, hrun, hended, _, _, rfl, ?_, ⟨_, rfl⟩, hW, hsame.mono (by decide) (by decide)⟩
  show Qsc00 Z a1 d1 k1 c0 c2 wc vf h0 n0 _ T3.heap _
  rw [e3]
  exact ⟨rfl, N3, rfl⟩
theorem dsc02_0 : decode jdk_42_method_56_code 0 = .ok (.aload_n 0, 1) := by decide +kernel
theorem dsc02_1 : decode jdk_42_method_56_code 1 = .ok (.invokevirtual 492, 3) := by decide +kernel
theorem dsc02_4 : decode jdk_42_method_56_code 4 = .ok (.ifCond .eq 12, 3) := by decide +kernel
theorem dsc02_7 : decode jdk_42_method_56_code 7 = .ok (.aload_n 0, 1) := by decide +kernel
theorem dsc02_8 : decode jdk_42_method_56_code 8 = .ok (.getfield 9, 3) := by decide +kernel
theorem dsc02_11 : decode jdk_42_method_56_code 11 = .ok (.iload_n 1, 1) := by decide +kernel
theorem dsc02_12 : decode jdk_42_method_56_code 12 = .ok (.invokestatic 495, 3) := by decide +kernel
theorem dsc02_15 : decode jdk_42_method_56_code 15 = .ok (.ireturn, 1) := by decide +kernel
theorem pn_sc02 : plainName "java/lang/String" = true := by first | (simp [plainName, overriddenIn]; done) | decide +kernel
theorem ef_sc02 (m : MethodId) (x0 : Addr) (x1 : Int32) : entryFrame m #[(.ref x0), (.int x1)] 2 = mkF m 0 #[.val (.ref x0), .val (.int x1)] [] := by first | (simp [entryFrame, mkF, argsToLocals, Value.category]; done) | rfl
def Qsc02 (Z : State) (a1 : Addr) (d1 : Addr) (k1 : ClassId) (c0 : Int32) (c2 : Int32) (wc : Int32) (vf : Value) (h0 : Heap) (n0 : Nat) (v : Option Value) (h : Heap) (L : List Loc) : Prop := v = some (.int c2) ∧ Fr n0 L ∧ h = h0
set_option maxRecDepth 65536 in
set_option maxHeartbeats 40000000 in
theorem rmsc02 (l : Launch) (Z : State) (a0 : Array Value) (hw : ∀ d ∈ tables_1, d.before a0 Z = true) (ws : List Jvm.Cond) (a1 : Addr) (d1 : Addr) (k1 : ClassId) (c0 : Int32) (c2 : Int32) (wc : Int32) (vf : Value) (h0 : Heap) (n0 : Nat) (Z0 : n0 ≤ h0.size) (F0 : Old Z n0 h0) (F1 : Exa Z h0 a1 "java/lang/String") (F2 : Fld Z h0 a1 "java/lang/String" "coder" "B" (.int (0 : Int32))) (F3 : Fld Z h0 a1 "java/lang/String" "value" "[B" (.ref d1)) (F4 : Arv Z h0 d1 k1 .byte (4 : Int32) [.int (c0.toInt8.toInt32), .int ((10 : Int32).toInt8.toInt32), .int (c2.toInt8.toInt32), .int ((10 : Int32).toInt8.toInt32)] (.int 0)) (SC : Sta Z Z.heap "java/lang/String" "COMPACT_STRINGS" "Z" (.int wc)) (HWC : ¬ (wc = 0)) (SF : Sta Z Z.heap "jdk/internal/util/Preconditions" "SIOOBE_FORMATTER" "Ljava/util/function/BiFunction;" vf) (hvf : vf.isRef = true) (hwc : own_W c2) (hlc : ¬ ((255 : Int32) < c2)) :
    MetFree l (⟨"java/lang/String", "charAt", "(I)C"⟩ : MethodName) (head1 (Jvm.Cond.code (⟨"java/lang/String", "charAt", "(I)C"⟩ : MethodName) jdk_42_method_56_code 2 (some .char) :: ws) ({ frames := 4, cells := 0, slots := 0, locals := 53 } : Room)) (fun a U => a = #[(.ref a1), (.int (2 : Int32))] ∧ Z.Warmed39 U.vm ∧ U.heap = h0) (fun _ _ _ _ _ => True) (fun _ U o U' => ∃ v L, o = .returned v ∧ Qsc02 Z a1 d1 k1 c0 c2 wc vf h0 n0 v U'.heap L ∧ FrameEnd U o U' L ({ frames := 4, cells := 0, slots := 0, locals := 53 } : Room).cells ({ frames := 4, cells := 0, slots := 0, locals := 53 } : Room).slots) := by
  refine MetFree.of_bodySF (plainFor_of_name pn_sc02) hisR ?_
  intro p e s m args below meth c s₁ Bd hml0 hP hK
  obtain ⟨rfl, hZ, hh⟩ := hP
  have hx := Bd.exec
  have hby := Bd.bytes
  have hml : c.maxLocals = 2 := hml0
  have hown : s.vm.findClass "java/lang/String" = some m.cls := findClass_of_methodNamed Bd.named
  have hnm := (name_of_methodNamed Bd.named Bd.method).1
  have X0 : Stand p l e ({ frames := 4, cells := 0, slots := 0, locals := 53 } : Room) s m #[(.ref a1), (.int (2 : Int32))] below meth c s₁ [] 0 0 := Stand.of_body Bd
  have e0 : s₁.heap = h0 := by rw [← hh, Bd.state]; rfl
  have N0 := Fr.nil n0
  show own_R p.tables e below (own_P s (Qsc02 Z a1 d1 k1 c0 c2 wc vf h0 n0) ({ frames := 4, cells := 0, slots := 0, locals := 53 } : Room).cells ({ frames := 4, cells := 0, slots := 0, locals := 53 } : Room).slots) (s₁.setTop (entryFrame m #[(.ref a1), (.int (2 : Int32))] 2))
  refine own_f s₁ (mkF m 0 #[.val (.ref a1), .val (.int (2 : Int32))] []) (fun t k => castTop (ef_sc02 m a1 (2 : Int32)) k) ?_
  refine own_f s₁ (mkF m 1 #[.val (.ref a1), .val (.int (2 : Int32))] [(.ref a1)]) (fun t k => XS.aloadN X0.here hx rfl (hb hby dsc02_0) rfl rfl k) ?_
  obtain ⟨cq1, kq1, qa1, qb1, qc1⟩ := isOf hZ e0 F1
  obtain ⟨_, _, ⟨T1, Lq1, kq_1, nq_1⟩, -, X1, ⟨Lc1, hQ1, lq1, yq1, zq1⟩, st1⟩ := X0.virtualBack hx (y := (⟨"java/lang/String", "isLatin1", "()Z"⟩ : MethodName)) (z := (⟨"java/lang/String", "isLatin1", "()Z"⟩ : MethodName)) hown (mvT hZ (own_w hw 91 rfl)) (mvT hZ (own_w hw 92 rfl)) (notFace_of_selects (args := #[]) (mvT hZ (own_w hw 94 rfl))) (mvT hZ (own_w hw 94 rfl)) (mvT hZ (own_w hw 93 rfl)) (by decide) (backOf (W := 0) (rmis0 l Z a0 hw [] a1 _ h0 n0 Z0 F0 F2 SC HWC) hZ (own_w hw 95 rfl) (own_w hw 8 rfl) (by decide) (by decide)) qa1 qc1 (g := (mkF m 1 #[.val (.ref a1), .val (.int (2 : Int32))] [(.ref a1)])) rfl (by rw [hml]; rfl) (Steps.refl _) (argsL := []) (rest := []) (lenOf pd__Z rfl) rfl (by show 2 * 0 + _ ≤ _; exact Nat.le_of_eq rfl) (hb hby dsc02_1) (fun _ _ => ⟨rfl, e0, (by decide : 0 + 0 ≤ _), (by decide : 0 + 0 ≤ _)⟩)
  dsimp only [Pt.U, Pt.locs, Pt.cells, Pt.slots] at X1 lq1 yq1 zq1 st1 hQ1
  subst lq1 yq1 zq1
  obtain ⟨h1, e1⟩ : ∃ z, T1.heap = z := ⟨_, rfl⟩
  rw [e1] at hQ1
  unfold Qis0 at hQ1
  obtain ⟨rfl, Nq1, qh1⟩ := hQ1
  have N1 := Fr.app N0 Nq1
  rw [qh1] at e1
  refine own_g T1 (mkF m 4 #[.val (.ref a1), .val (.int (2 : Int32))] [(.int (1 : Int32))]) st1 ?_
  refine own_f T1 (mkF m 7 #[.val (.ref a1), .val (.int (2 : Int32))] []) (fun t k => XS.ifNo X1.here hx rfl (hb hby dsc02_4) rfl (XT.i0_eq_f (by decide)) k) ?_
  refine own_f T1 (mkF m 8 #[.val (.ref a1), .val (.int (2 : Int32))] [(.ref a1)]) (fun t k => XS.aloadN X1.here hx rfl (hb hby dsc02_7) rfl rfl k) ?_
  obtain ⟨T2, X2, e2, st2⟩ := getF X1 hx hZ hown (host := "") (Or.inl (own_w hw 38 rfl)) Via.refl e1 F3 (g := (mkF m 8 #[.val (.ref a1), .val (.int (2 : Int32))] [(.ref a1)])) rfl rfl (hb hby dsc02_8)
  refine own_f T2 (mkF m 11 #[.val (.ref a1), .val (.int (2 : Int32))] [(.ref d1)]) st2 ?_
  refine own_f T2 (mkF m 12 #[.val (.ref a1), .val (.int (2 : Int32))] [(.int (2 : Int32)), (.ref d1)]) (fun t k => XS.iloadN X2.here hx rfl (hb hby dsc02_11) rfl k) ?_
  obtain ⟨_, _, ⟨T3, Lq3, kq_3, nq_3⟩, -, X3, ⟨Lc3, hQ3, lq3, yq3, zq3⟩, st3⟩ := Jvm.LawKit.callS X2 hx (y := (⟨"java/lang/StringLatin1", "charAt", "([BI)C"⟩ : MethodName)) hown (mvT hZ (own_w hw 96 rfl)) (mvT hZ (own_w hw 97 rfl)) (mvT hZ (own_w hw 98 rfl)) (mvT hZ (own_w hw 99 rfl)) (by decide) (backOf (W := 0) (rmla2 l Z a0 hw [] d1 _ _ _ _ _ _ h0 n0 Z0 F0 F4 SF hvf hwc hlc) hZ (own_w hw 99 rfl) (own_w hw 98 rfl) (by decide) (by decide)) (g := (mkF m 12 #[.val (.ref a1), .val (.int (2 : Int32))] [(.int (2 : Int32)), (.ref d1)])) rfl (by rw [hml]; rfl) (argsL := [(.ref d1), (.int (2 : Int32))]) (rest := []) (lenOf pd__BI_C rfl) rfl (by show 2 * 0 + _ ≤ _; exact Nat.le_of_eq rfl) (hb hby dsc02_12) (fun _ _ => ⟨rfl, e2, (by decide : 0 + 0 + 0 ≤ _), (by decide : 0 + 0 + 0 ≤ _)⟩)
  dsimp only [Pt.U, Pt.locs, Pt.cells, Pt.slots] at X3 lq3 yq3 zq3 st3 hQ3
  subst lq3 yq3 zq3
  obtain ⟨h3, e3⟩ : ∃ z, T3.heap = z := ⟨_, rfl⟩
  rw [e3] at hQ3
  unfold Qla2 at hQ3
  obtain ⟨rfl, Nq3, qh3⟩ := hQ3
  have N3 := Fr.app N1 Nq3
  rw [qh3] at e3
  refine own_f T3 (mkF m 15 #[.val (.ref a1), .val (.int (2 : Int32))] [(.int c2)]) st3 ?_
  obtain ⟨fs, hr, hrun, hended, hW, hsame⟩ := X3.leave (v := some (.int c2)) (fun h => by rw [Bd.returns] at h; cases h)
  refine ⟨_, _, own_retB X3 hx (t := .char) Bd.returns (by simp) hwc.nar (hb hby dsc02_15) hr, hrun, hended, _, _, rfl, ?_, ⟨_, rfl⟩, hW, hsame.mono (by decide) (by decide)⟩
  show Qsc02 Z a1 d1 k1 c0 c2 wc vf h0 n0 _ T3.heap _
  rw [e3]
  exact ⟨rfl, N3, rfl⟩
theorem dsc10_0 : decode jdk_42_method_56_code 0 = .ok (.aload_n 0, 1) := by decide +kernel
theorem dsc10_1 : decode jdk_42_method_56_code 1 = .ok (.invokevirtual 492, 3) := by decide +kernel
theorem dsc10_4 : decode jdk_42_method_56_code 4 = .ok (.ifCond .eq 12, 3) := by decide +kernel
theorem dsc10_16 : decode jdk_42_method_56_code 16 = .ok (.aload_n 0, 1) := by decide +kernel
theorem dsc10_17 : decode jdk_42_method_56_code 17 = .ok (.getfield 9, 3) := by decide +kernel
theorem dsc10_20 : decode jdk_42_method_56_code 20 = .ok (.iload_n 1, 1) := by decide +kernel
theorem dsc10_21 : decode jdk_42_method_56_code 21 = .ok (.invokestatic 498, 3) := by decide +kernel
theorem dsc10_24 : decode jdk_42_method_56_code 24 = .ok (.ireturn, 1) := by decide +kernel
theorem pn_sc10 : plainName "java/lang/String" = true := by first | (simp [plainName, overriddenIn]; done) | decide +kernel
theorem ef_sc10 (m : MethodId) (x0 : Addr) (x1 : Int32) : entryFrame m #[(.ref x0), (.int x1)] 2 = mkF m 0 #[.val (.ref x0), .val (.int x1)] [] := by first | (simp [entryFrame, mkF, argsToLocals, Value.category]; done) | rfl
def Qsc10 (Z : State) (a1 : Addr) (d1 : Addr) (k1 : ClassId) (c0 : Int32) (c2 : Int32) (wc : Int32) (vf : Value) (h0 : Heap) (n0 : Nat) (v : Option Value) (h : Heap) (L : List Loc) : Prop := v = some (.int c0) ∧ Fr n0 L ∧ h = h0
set_option maxRecDepth 65536 in
set_option maxHeartbeats 40000000 in
theorem rmsc10 (l : Launch) (Z : State) (a0 : Array Value) (hw : ∀ d ∈ tables_1, d.before a0 Z = true) (ws : List Jvm.Cond) (a1 : Addr) (d1 : Addr) (k1 : ClassId) (c0 : Int32) (c2 : Int32) (wc : Int32) (vf : Value) (h0 : Heap) (n0 : Nat) (Z0 : n0 ≤ h0.size) (F0 : Old Z n0 h0) (F1 : Exa Z h0 a1 "java/lang/String") (F2 : Fld Z h0 a1 "java/lang/String" "coder" "B" (.int (1 : Int32))) (F3 : Fld Z h0 a1 "java/lang/String" "value" "[B" (.ref d1)) (F4 : Arv Z h0 d1 k1 .byte (8 : Int32) [.int ((c0 >>> ((0 : Int32) &&& 31)).toInt8.toInt32), .int ((c0 >>> ((8 : Int32) &&& 31)).toInt8.toInt32), .int (((10 : Int32) >>> ((0 : Int32) &&& 31)).toInt8.toInt32), .int (((10 : Int32) >>> ((8 : Int32) &&& 31)).toInt8.toInt32), .int ((c2 >>> ((0 : Int32) &&& 31)).toInt8.toInt32), .int ((c2 >>> ((8 : Int32) &&& 31)).toInt8.toInt32), .int (((10 : Int32) >>> ((0 : Int32) &&& 31)).toInt8.toInt32), .int (((10 : Int32) >>> ((8 : Int32) &&& 31)).toInt8.toInt32)] (.int 0)) (SC : Sta Z Z.heap "java/lang/String" "COMPACT_STRINGS" "Z" (.int wc)) (HWC : ¬ (wc = 0)) (SF : Sta Z Z.heap "jdk/internal/util/Preconditions" "SIOOBE_FORMATTER" "Ljava/util/function/BiFunction;" vf) (hvf : vf.isRef = true) (hwc : own_W c0) (SH : Sta Z Z.heap "java/lang/StringUTF16" "HI_BYTE_SHIFT" "I" (.int (0 : Int32))) (SL : Sta Z Z.heap "java/lang/StringUTF16" "LO_BYTE_SHIFT" "I" (.int (8 : Int32))) (SA : Sta Z Z.heap "java/lang/StringUTF16" "$assertionsDisabled" "Z" (.int (1 : Int32))) :
    MetFree l (⟨"java/lang/String", "charAt", "(I)C"⟩ : MethodName) (head1 (Jvm.Cond.code (⟨"java/lang/String", "charAt", "(I)C"⟩ : MethodName) jdk_42_method_56_code 2 (some .char) :: ws) ({ frames := 4, cells := 0, slots := 0, locals := 53 } : Room)) (fun a U => a = #[(.ref a1), (.int (0 : Int32))] ∧ Z.Warmed39 U.vm ∧ U.heap = h0) (fun _ _ _ _ _ => True) (fun _ U o U' => ∃ v L, o = .returned v ∧ Qsc10 Z a1 d1 k1 c0 c2 wc vf h0 n0 v U'.heap L ∧ FrameEnd U o U' L ({ frames := 4, cells := 0, slots := 0, locals := 53 } : Room).cells ({ frames := 4, cells := 0, slots := 0, locals := 53 } : Room).slots) := by
  refine MetFree.of_bodySF (plainFor_of_name pn_sc10) hisR ?_
  intro p e s m args below meth c s₁ Bd hml0 hP hK
  obtain ⟨rfl, hZ, hh⟩ := hP
  have hx := Bd.exec
  have hby := Bd.bytes
  have hml : c.maxLocals = 2 := hml0
  have hown : s.vm.findClass "java/lang/String" = some m.cls := findClass_of_methodNamed Bd.named
  have hnm := (name_of_methodNamed Bd.named Bd.method).1
  have X0 : Stand p l e ({ frames := 4, cells := 0, slots := 0, locals := 53 } : Room) s m #[(.ref a1), (.int (0 : Int32))] below meth c s₁ [] 0 0 := Stand.of_body Bd
  have e0 : s₁.heap = h0 := by rw [← hh, Bd.state]; rfl
  have N0 := Fr.nil n0
  show own_R p.tables e below (own_P s (Qsc10 Z a1 d1 k1 c0 c2 wc vf h0 n0) ({ frames := 4, cells := 0, slots := 0, locals := 53 } : Room).cells ({ frames := 4, cells := 0, slots := 0, locals := 53 } : Room).slots) (s₁.setTop (entryFrame m #[(.ref a1), (.int (0 : Int32))] 2))
  refine own_f s₁ (mkF m 0 #[.val (.ref a1), .val (.int (0 : Int32))] []) (fun t k => castTop (ef_sc10 m a1 (0 : Int32)) k) ?_
  refine own_f s₁ (mkF m 1 #[.val (.ref a1), .val (.int (0 : Int32))] [(.ref a1)]) (fun t k => XS.aloadN X0.here hx rfl (hb hby dsc10_0) rfl rfl k) ?_
  obtain ⟨cq1, kq1, qa1, qb1, qc1⟩ := isOf hZ e0 F1
  obtain ⟨_, _, ⟨T1, Lq1, kq_1, nq_1⟩, -, X1, ⟨Lc1, hQ1, lq1, yq1, zq1⟩, st1⟩ := X0.virtualBack hx (y := (⟨"java/lang/String", "isLatin1", "()Z"⟩ : MethodName)) (z := (⟨"java/lang/String", "isLatin1", "()Z"⟩ : MethodName)) hown (mvT hZ (own_w hw 91 rfl)) (mvT hZ (own_w hw 92 rfl)) (notFace_of_selects (args := #[]) (mvT hZ (own_w hw 94 rfl))) (mvT hZ (own_w hw 94 rfl)) (mvT hZ (own_w hw 93 rfl)) (by decide) (backOf (W := 0) (rmis1 l Z a0 hw [] a1 _ h0 n0 Z0 F0 F2 SC HWC) hZ (own_w hw 95 rfl) (own_w hw 8 rfl) (by decide) (by decide)) qa1 qc1 (g := (mkF m 1 #[.val (.ref a1), .val (.int (0 : Int32))] [(.ref a1)])) rfl (by rw [hml]; rfl) (Steps.refl _) (argsL := []) (rest := []) (lenOf pd__Z rfl) rfl (by show 2 * 0 + _ ≤ _; exact Nat.le_of_eq rfl) (hb hby dsc10_1) (fun _ _ => ⟨rfl, e0, (by decide : 0 + 0 ≤ _), (by decide : 0 + 0 ≤ _)⟩)
  dsimp only [Pt.U, Pt.locs, Pt.cells, Pt.slots] at X1 lq1 yq1 zq1 st1 hQ1
  subst lq1 yq1 zq1
  obtain ⟨h1, e1⟩ : ∃ z, T1.heap = z := ⟨_, rfl⟩
  rw [e1] at hQ1
  unfold Qis1 at hQ1
  obtain ⟨rfl, Nq1, qh1⟩ := hQ1
  have N1 := Fr.app N0 Nq1
  rw [qh1] at e1
  refine own_g T1 (mkF m 4 #[.val (.ref a1), .val (.int (0 : Int32))] [(.int (0 : Int32))]) st1 ?_
  refine own_f T1 (mkF m 16 #[.val (.ref a1), .val (.int (0 : Int32))] []) (fun t k => XS.ifYes X1.here hx rfl (pc0 := 4) (pc' := 16) rfl (hb hby dsc10_4) rfl (XT.i0_eq_t (by decide)) (by decide) (by decide) k) ?_
  refine own_f T1 (mkF m 17 #[.val (.ref a1), .val (.int (0 : Int32))] [(.ref a1)]) (fun t k => XS.aloadN X1.here hx rfl (hb hby dsc10_16) rfl rfl k) ?_
  obtain ⟨T2, X2, e2, st2⟩ := getF X1 hx hZ hown (host := "") (Or.inl (own_w hw 38 rfl)) Via.refl e1 F3 (g := (mkF m 17 #[.val (.ref a1), .val (.int (0 : Int32))] [(.ref a1)])) rfl rfl (hb hby dsc10_17)
  refine own_f T2 (mkF m 20 #[.val (.ref a1), .val (.int (0 : Int32))] [(.ref d1)]) st2 ?_
  refine own_f T2 (mkF m 21 #[.val (.ref a1), .val (.int (0 : Int32))] [(.int (0 : Int32)), (.ref d1)]) (fun t k => XS.iloadN X2.here hx rfl (hb hby dsc10_20) rfl k) ?_
  obtain ⟨_, _, ⟨T3, Lq3, kq_3, nq_3⟩, -, X3, ⟨Lc3, hQ3, lq3, yq3, zq3⟩, st3⟩ := Jvm.LawKit.callS X2 hx (y := (⟨"java/lang/StringUTF16", "charAt", "([BI)C"⟩ : MethodName)) hown (mvT hZ (own_w hw 160 rfl)) (mvT hZ (own_w hw 161 rfl)) (mvT hZ (own_w hw 29 rfl)) (mvT hZ (own_w hw 162 rfl)) (by decide) (backOf (W := 0) (rmua0 l Z a0 hw [] d1 _ _ _ _ _ _ h0 n0 Z0 F0 F4 SF hvf hwc SH SL SA) hZ (own_w hw 162 rfl) (own_w hw 29 rfl) (by decide) (by decide)) (g := (mkF m 21 #[.val (.ref a1), .val (.int (0 : Int32))] [(.int (0 : Int32)), (.ref d1)])) rfl (by rw [hml]; rfl) (argsL := [(.ref d1), (.int (0 : Int32))]) (rest := []) (lenOf pd__BI_C rfl) rfl (by show 2 * 0 + _ ≤ _; exact Nat.le_of_eq rfl) (hb hby dsc10_21) (fun _ _ => ⟨rfl, e2, (by decide : 0 + 0 + 0 ≤ _), (by decide : 0 + 0 + 0 ≤ _)⟩)
  dsimp only [Pt.U, Pt.locs, Pt.cells, Pt.slots] at X3 lq3 yq3 zq3 st3 hQ3
  subst lq3 yq3 zq3
  obtain ⟨h3, e3⟩ : ∃ z, T3.heap = z := ⟨_, rfl⟩
  rw [e3] at hQ3
  unfold Qua0 at hQ3
  obtain ⟨rfl, Nq3, qh3⟩ := hQ3
  have N3 := Fr.app N1 Nq3
  rw [qh3] at e3
  refine own_f T3 (mkF m 24 #[.val (.ref a1), .val (.int (0 : Int32))] [(.int c0)]) st3 ?_
  obtain ⟨fs, hr, hrun, hended, hW, hsame⟩ := X3.leave (v := some (.int c0)) (fun h => by rw [Bd.returns] at h; cases h)
  refine ⟨_, _, own_retB X3 hx (t := .char) Bd.returns (by simp) hwc.nar (hb hby dsc10_24) hr, hrun, hended, _, _, rfl, ?_, ⟨_, rfl⟩, hW, hsame.mono (by decide) (by decide)⟩
  show Qsc10 Z a1 d1 k1 c0 c2 wc vf h0 n0 _ T3.heap _
  rw [e3]
  exact ⟨rfl, N3, rfl⟩
theorem dsc12_0 : decode jdk_42_method_56_code 0 = .ok (.aload_n 0, 1) := by decide +kernel
theorem dsc12_1 : decode jdk_42_method_56_code 1 = .ok (.invokevirtual 492, 3) := by decide +kernel
theorem dsc12_4 : decode jdk_42_method_56_code 4 = .ok (.ifCond .eq 12, 3) := by decide +kernel
theorem dsc12_16 : decode jdk_42_method_56_code 16 = .ok (.aload_n 0, 1) := by decide +kernel
theorem dsc12_17 : decode jdk_42_method_56_code 17 = .ok (.getfield 9, 3) := by decide +kernel
theorem dsc12_20 : decode jdk_42_method_56_code 20 = .ok (.iload_n 1, 1) := by decide +kernel
theorem dsc12_21 : decode jdk_42_method_56_code 21 = .ok (.invokestatic 498, 3) := by decide +kernel
theorem dsc12_24 : decode jdk_42_method_56_code 24 = .ok (.ireturn, 1) := by decide +kernel
theorem pn_sc12 : plainName "java/lang/String" = true := by first | (simp [plainName, overriddenIn]; done) | decide +kernel
theorem ef_sc12 (m : MethodId) (x0 : Addr) (x1 : Int32) : entryFrame m #[(.ref x0), (.int x1)] 2 = mkF m 0 #[.val (.ref x0), .val (.int x1)] [] := by first | (simp [entryFrame, mkF, argsToLocals, Value.category]; done) | rfl
def Qsc12 (Z : State) (a1 : Addr) (d1 : Addr) (k1 : ClassId) (c0 : Int32) (c2 : Int32) (wc : Int32) (vf : Value) (h0 : Heap) (n0 : Nat) (v : Option Value) (h : Heap) (L : List Loc) : Prop := v = some (.int c2) ∧ Fr n0 L ∧ h = h0
set_option maxRecDepth 65536 in
set_option maxHeartbeats 40000000 in
theorem rmsc12 (l : Launch) (Z : State) (a0 : Array Value) (hw : ∀ d ∈ tables_1, d.before a0 Z = true) (ws : List Jvm.Cond) (a1 : Addr) (d1 : Addr) (k1 : ClassId) (c0 : Int32) (c2 : Int32) (wc : Int32) (vf : Value) (h0 : Heap) (n0 : Nat) (Z0 : n0 ≤ h0.size) (F0 : Old Z n0 h0) (F1 : Exa Z h0 a1 "java/lang/String") (F2 : Fld Z h0 a1 "java/lang/String" "coder" "B" (.int (1 : Int32))) (F3 : Fld Z h0 a1 "java/lang/String" "value" "[B" (.ref d1)) (F4 : Arv Z h0 d1 k1 .byte (8 : Int32) [.int ((c0 >>> ((0 : Int32) &&& 31)).toInt8.toInt32), .int ((c0 >>> ((8 : Int32) &&& 31)).toInt8.toInt32), .int (((10 : Int32) >>> ((0 : Int32) &&& 31)).toInt8.toInt32), .int (((10 : Int32) >>> ((8 : Int32) &&& 31)).toInt8.toInt32), .int ((c2 >>> ((0 : Int32) &&& 31)).toInt8.toInt32), .int ((c2 >>> ((8 : Int32) &&& 31)).toInt8.toInt32), .int (((10 : Int32) >>> ((0 : Int32) &&& 31)).toInt8.toInt32), .int (((10 : Int32) >>> ((8 : Int32) &&& 31)).toInt8.toInt32)] (.int 0)) (SC : Sta Z Z.heap "java/lang/String" "COMPACT_STRINGS" "Z" (.int wc)) (HWC : ¬ (wc = 0)) (SF : Sta Z Z.heap "jdk/internal/util/Preconditions" "SIOOBE_FORMATTER" "Ljava/util/function/BiFunction;" vf) (hvf : vf.isRef = true) (hwc : own_W c2) (SH : Sta Z Z.heap "java/lang/StringUTF16" "HI_BYTE_SHIFT" "I" (.int (0 : Int32))) (SL : Sta Z Z.heap "java/lang/StringUTF16" "LO_BYTE_SHIFT" "I" (.int (8 : Int32))) (SA : Sta Z Z.heap "java/lang/StringUTF16" "$assertionsDisabled" "Z" (.int (1 : Int32))) :
    MetFree l (⟨"java/lang/String", "charAt", "(I)C"⟩ : MethodName) (head1 (Jvm.Cond.code (⟨"java/lang/String", "charAt", "(I)C"⟩ : MethodName) jdk_42_method_56_code 2 (some .char) :: ws) ({ frames := 4, cells := 0, slots := 0, locals := 53 } : Room)) (fun a U => a = #[(.ref a1), (.int (2 : Int32))] ∧ Z.Warmed39 U.vm ∧ U.heap = h0) (fun _ _ _ _ _ => True) (fun _ U o U' => ∃ v L, o = .returned v ∧ Qsc12 Z a1 d1 k1 c0 c2 wc vf h0 n0 v U'.heap L ∧ FrameEnd U o U' L ({ frames := 4, cells := 0, slots := 0, locals := 53 } : Room).cells ({ frames := 4, cells := 0, slots := 0, locals := 53 } : Room).slots) := by
  refine MetFree.of_bodySF (plainFor_of_name pn_sc12) hisR ?_
  intro p e s m args below meth c s₁ Bd hml0 hP hK
  obtain ⟨rfl, hZ, hh⟩ := hP
  have hx := Bd.exec
  have hby := Bd.bytes
  have hml : c.maxLocals = 2 := hml0
  have hown : s.vm.findClass "java/lang/String" = some m.cls := findClass_of_methodNamed Bd.named
  have hnm := (name_of_methodNamed Bd.named Bd.method).1
  have X0 : Stand p l e ({ frames := 4, cells := 0, slots := 0, locals := 53 } : Room) s m #[(.ref a1), (.int (2 : Int32))] below meth c s₁ [] 0 0 := Stand.of_body Bd
  have e0 : s₁.heap = h0 := by rw [← hh, Bd.state]; rfl
  have N0 := Fr.nil n0
  show own_R p.tables e below (own_P s (Qsc12 Z a1 d1 k1 c0 c2 wc vf h0 n0) ({ frames := 4, cells := 0, slots := 0, locals := 53 } : Room).cells ({ frames := 4, cells := 0, slots := 0, locals := 53 } : Room).slots) (s₁.setTop (entryFrame m #[(.ref a1), (.int (2 : Int32))] 2))
  refine own_f s₁ (mkF m 0 #[.val (.ref a1), .val (.int (2 : Int32))] []) (fun t k => castTop (ef_sc12 m a1 (2 : Int32)) k) ?_
  refine own_f s₁ (mkF m 1 #[.val (.ref a1), .val (.int (2 : Int32))] [(.ref a1)]) (fun t k => XS.aloadN X0.here hx rfl (hb hby dsc12_0) rfl rfl k) ?_
  obtain ⟨cq1, kq1, qa1, qb1, qc1⟩ := isOf hZ e0 F1
  obtain ⟨_, _, ⟨T1, Lq1, kq_1, nq_1⟩, -, X1, ⟨Lc1, hQ1, lq1, yq1, zq1⟩, st1⟩ := X0.virtualBack hx (y := (⟨"java/lang/String", "isLatin1", "()Z"⟩ : MethodName)) (z := (⟨"java/lang/String", "isLatin1", "()Z"⟩ : MethodName)) hown (mvT hZ (own_w hw 91 rfl)) (mvT hZ (own_w hw 92 rfl)) (notFace_of_selects (args := #[]) (mvT hZ (own_w hw 94 rfl))) (mvT hZ (own_w hw 94 rfl)) (mvT hZ (own_w hw 93 rfl)) (by decide) (backOf (W := 0) (rmis1 l Z a0 hw [] a1 _ h0 n0 Z0 F0 F2 SC HWC) hZ (own_w hw 95 rfl) (own_w hw 8 rfl) (by decide) (by decide)) qa1 qc1 (g := (mkF m 1 #[.val (.ref a1), .val (.int (2 : Int32))] [(.ref a1)])) rfl (by rw [hml]; rfl) (Steps.refl _) (argsL := []) (rest := []) (lenOf pd__Z rfl) rfl (by show 2 * 0 + _ ≤ _; exact Nat.le_of_eq rfl) (hb hby dsc12_1) (fun _ _ => ⟨rfl, e0, (by decide : 0 + 0 ≤ _), (by decide : 0 + 0 ≤ _)⟩)
  dsimp only [Pt.U, Pt.locs, Pt.cells, Pt.slots] at X1 lq1 yq1 zq1 st1 hQ1
  subst lq1 yq1 zq1
  obtain ⟨h1, e1⟩ : ∃ z, T1.heap = z := ⟨_, rfl⟩
  rw [e1] at hQ1
  unfold Qis1 at hQ1
  obtain ⟨rfl, Nq1, qh1⟩ := hQ1
  have N1 := Fr.app N0 Nq1
  rw [qh1] at e1
  refine own_g T1 (mkF m 4 #[.val (.ref a1), .val (.int (2 : Int32))] [(.int (0 : Int32))]) st1 ?_
  refine own_f T1 (mkF m 16 #[.val (.ref a1), .val (.int (2 : Int32))] []) (fun t k => XS.ifYes X1.here hx rfl (pc0 := 4) (pc' := 16) rfl (hb hby dsc12_4) rfl (XT.i0_eq_t (by decide)) (by decide) (by decide) k) ?_
  refine own_f T1 (mkF m 17 #[.val (.ref a1), .val (.int (2 : Int32))] [(.ref a1)]) (fun t k => XS.aloadN X1.here hx rfl (hb hby dsc12_16) rfl rfl k) ?_
  obtain ⟨T2, X2, e2, st2⟩ := getF X1 hx hZ hown (host := "") (Or.inl (own_w hw 38 rfl)) Via.refl e1 F3 (g := (mkF m 17 #[.val (.ref a1), .val (.int (2 : Int32))] [(.ref a1)])) rfl rfl (hb hby dsc12_17)
  refine own_f T2 (mkF m 20 #[.val (.ref a1), .val (.int (2 : Int32))] [(.ref d1)]) st2 ?_
  refine own_f T2 (mkF m 21 #[.val (.ref a1), .val (.int (2 : Int32))] [(.int (2 : Int32)), (.ref d1)]) (fun t k => XS.iloadN X2.here hx rfl (hb hby dsc12_20) rfl k) ?_
  obtain ⟨_, _, ⟨T3, Lq3, kq_3, nq_3⟩, -, X3, ⟨Lc3, hQ3, lq3, yq3, zq3⟩, st3⟩ := Jvm.LawKit.callS X2 hx (y := (⟨"java/lang/StringUTF16", "charAt", "([BI)C"⟩ : MethodName)) hown (mvT hZ (own_w hw 160 rfl)) (mvT hZ (own_w hw 161 rfl)) (mvT hZ (own_w hw 29 rfl)) (mvT hZ (own_w hw 162 rfl)) (by decide) (backOf (W := 0) (rmua2 l Z a0 hw [] d1 _ _ _ _ _ _ h0 n0 Z0 F0 F4 SF hvf hwc SH SL SA) hZ (own_w hw 162 rfl) (own_w hw 29 rfl) (by decide) (by decide)) (g := (mkF m 21 #[.val (.ref a1), .val (.int (2 : Int32))] [(.int (2 : Int32)), (.ref d1)])) rfl (by rw [hml]; rfl) (argsL := [(.ref d1), (.int (2 : Int32))]) (rest := []) (lenOf pd__BI_C rfl) rfl (by show 2 * 0 + _ ≤ _; exact Nat.le_of_eq rfl) (hb hby dsc12_21) (fun _ _ => ⟨rfl, e2, (by decide : 0 + 0 + 0 ≤ _), (by decide : 0 + 0 + 0 ≤ _)⟩)
  dsimp only [Pt.U, Pt.locs, Pt.cells, Pt.slots] at X3 lq3 yq3 zq3 st3 hQ3
  subst lq3 yq3 zq3
  obtain ⟨h3, e3⟩ : ∃ z, T3.heap = z := ⟨_, rfl⟩
  rw [e3] at hQ3
  unfold Qua2 at hQ3
  obtain ⟨rfl, Nq3, qh3⟩ := hQ3
  have N3 := Fr.app N1 Nq3
  rw [qh3] at e3
  refine own_f T3 (mkF m 24 #[.val (.ref a1), .val (.int (2 : Int32))] [(.int c2)]) st3 ?_
  obtain ⟨fs, hr, hrun, hended, hW, hsame⟩ := X3.leave (v := some (.int c2)) (fun h => by rw [Bd.returns] at h; cases h)
  refine ⟨_, _, own_retB X3 hx (t := .char) Bd.returns (by simp) hwc.nar (hb hby dsc12_24) hr, hrun, hended, _, _, rfl, ?_, ⟨_, rfl⟩, hW, hsame.mono (by decide) (by decide)⟩
  show Qsc12 Z a1 d1 k1 c0 c2 wc vf h0 n0 _ T3.heap _
  rw [e3]
  exact ⟨rfl, N3, rfl⟩
def Qca (Z : State) (c : Int32) (h0 : Heap) (n0 : Nat) (v : Option Value) (h : Heap) (L : List Loc) : Prop := v = some (.int c) ∧ Fr n0 L ∧ h = h0
theorem rmca0 (l : Launch) (Z : State) (a0 : Array Value) (hw : ∀ d ∈ tables_1, d.before a0 Z = true) (ws : List Jvm.Cond) (a1 : Addr) (c0 c2 wc : Int32) (vf : Value) (mt : Nat) (h0 : Heap) (n0 : Nat) (Z0 : n0 ≤ h0.size) (F0 : Old Z n0 h0) (G : own_T Z h0 a1 c0 c2 mt) (SC : Sta Z Z.heap "java/lang/String" "COMPACT_STRINGS" "Z" (.int wc)) (HWC : ¬ (wc = 0)) (SF : Sta Z Z.heap "jdk/internal/util/Preconditions" "SIOOBE_FORMATTER" "Ljava/util/function/BiFunction;" vf) (hvf : vf.isRef = true) (SH : Sta Z Z.heap "java/lang/StringUTF16" "HI_BYTE_SHIFT" "I" (.int (0 : Int32))) (SL : Sta Z Z.heap "java/lang/StringUTF16" "LO_BYTE_SHIFT" "I" (.int (8 : Int32))) (SA : Sta Z Z.heap "java/lang/StringUTF16" "$assertionsDisabled" "Z" (.int (1 : Int32))) (hwc : own_W c0) :
    MetFree l (⟨"java/lang/String", "charAt", "(I)C"⟩ : MethodName) (head1 (Jvm.Cond.code (⟨"java/lang/String", "charAt", "(I)C"⟩ : MethodName) jdk_42_method_56_code 2 (some .char) :: ws) ({ frames := 4, cells := 0, slots := 0, locals := 53 } : Room)) (fun a U => a = #[(.ref a1), (.int (0 : Int32))] ∧ Z.Warmed39 U.vm ∧ U.heap = h0) (fun _ _ _ _ _ => True) (fun _ U o U' => ∃ v L, o = .returned v ∧ Qca Z c0 h0 n0 v U'.heap L ∧ FrameEnd U o U' L ({ frames := 4, cells := 0, slots := 0, locals := 53 } : Room).cells ({ frames := 4, cells := 0, slots := 0, locals := 53 } : Room).slots) := by
  obtain ⟨d, k, cd, z, vs, E1, F1, F2, A, ⟨rfl, rfl, rfl, g0, g2⟩ | ⟨rfl, rfl, rfl⟩, -, -⟩ := G
  · exact rmsc00 l Z a0 hw ws a1 d k c0 c2 wc vf h0 n0 Z0 F0 E1 F1 F2 A SC HWC SF hvf hwc g0
  · exact rmsc10 l Z a0 hw ws a1 d k c0 c2 wc vf h0 n0 Z0 F0 E1 F1 F2 A SC HWC SF hvf hwc SH SL SA
theorem rmca2 (l : Launch) (Z : State) (a0 : Array Value) (hw : ∀ d ∈ tables_1, d.before a0 Z = true) (ws : List Jvm.Cond) (a1 : Addr) (c0 c2 wc : Int32) (vf : Value) (mt : Nat) (h0 : Heap) (n0 : Nat) (Z0 : n0 ≤ h0.size) (F0 : Old Z n0 h0) (G : own_T Z h0 a1 c0 c2 mt) (SC : Sta Z Z.heap "java/lang/String" "COMPACT_STRINGS" "Z" (.int wc)) (HWC : ¬ (wc = 0)) (SF : Sta Z Z.heap "jdk/internal/util/Preconditions" "SIOOBE_FORMATTER" "Ljava/util/function/BiFunction;" vf) (hvf : vf.isRef = true) (SH : Sta Z Z.heap "java/lang/StringUTF16" "HI_BYTE_SHIFT" "I" (.int (0 : Int32))) (SL : Sta Z Z.heap "java/lang/StringUTF16" "LO_BYTE_SHIFT" "I" (.int (8 : Int32))) (SA : Sta Z Z.heap "java/lang/StringUTF16" "$assertionsDisabled" "Z" (.int (1 : Int32))) (hwc : own_W c2) :
    MetFree l (⟨"java/lang/String", "charAt", "(I)C"⟩ : MethodName) (head1 (Jvm.Cond.code (⟨"java/lang/String", "charAt", "(I)C"⟩ : MethodName) jdk_42_method_56_code 2 (some .char) :: ws) ({ frames := 4, cells := 0, slots := 0, locals := 53 } : Room)) (fun a U => a = #[(.ref a1), (.int (2 : Int32))] ∧ Z.Warmed39 U.vm ∧ U.heap = h0) (fun _ _ _ _ _ => True) (fun _ U o U' => ∃ v L, o = .returned v ∧ Qca Z c2 h0 n0 v U'.heap L ∧ FrameEnd U o U' L ({ frames := 4, cells := 0, slots := 0, locals := 53 } : Room).cells ({ frames := 4, cells := 0, slots := 0, locals := 53 } : Room).slots) := by
  obtain ⟨d, k, cd, z, vs, E1, F1, F2, A, ⟨rfl, rfl, rfl, g0, g2⟩ | ⟨rfl, rfl, rfl⟩, -, -⟩ := G
  · exact rmsc02 l Z a0 hw ws a1 d k c0 c2 wc vf h0 n0 Z0 F0 E1 F1 F2 A SC HWC SF hvf hwc g2
  · exact rmsc12 l Z a0 hw ws a1 d k c0 c2 wc vf h0 n0 Z0 F0 E1 F1 F2 A SC HWC SF hvf hwc SH SL SA
theorem dab_0 : decode jdk_68_method_2_code 0 = .ok (.aload_n 0, 1) := by decide +kernel
theorem dab_1 : decode jdk_68_method_2_code 1 = .ok (.invokespecial 3, 3) := by decide +kernel
theorem dab_4 : decode jdk_68_method_2_code 4 = .ok (.getstatic 18, 3) := by decide +kernel
theorem dab_7 : decode jdk_68_method_2_code 7 = .ok (.ifCond .eq 18, 3) := by decide +kernel
theorem dab_10 : decode jdk_68_method_2_code 10 = .ok (.aload_n 0, 1) := by decide +kernel
theorem dab_11 : decode jdk_68_method_2_code 11 = .ok (.iload_n 1, 1) := by decide +kernel
theorem dab_12 : decode jdk_68_method_2_code 12 = .ok (.newarray .byte, 2) := by decide +kernel
theorem dab_14 : decode jdk_68_method_2_code 14 = .ok (.putfield 15, 3) := by decide +kernel
theorem dab_17 : decode jdk_68_method_2_code 17 = .ok (.aload_n 0, 1) := by decide +kernel
theorem dab_18 : decode jdk_68_method_2_code 18 = .ok (.iconst 0, 1) := by decide +kernel
theorem dab_19 : decode jdk_68_method_2_code 19 = .ok (.putfield 22, 3) := by decide +kernel
theorem dab_22 : decode jdk_68_method_2_code 22 = .ok (.goto 16, 3) := by decide +kernel
theorem dab_38 : decode jdk_68_method_2_code 38 = .ok (.return_, 1) := by decide +kernel
theorem pn_ab : plainName "java/lang/AbstractStringBuilder" = true := by first | (simp [plainName, overriddenIn]; done) | decide +kernel
theorem ef_ab (m : MethodId) (x0 : Addr) (x1 : Int32) : entryFrame m #[(.ref x0), (.int x1)] 2 = mkF m 0 #[.val (.ref x0), .val (.int x1)] [] := by first | (simp [entryFrame, mkF, argsToLocals, Value.category]; done) | rfl
def Qab (Z : State) (a1 : Addr) (u0 : Value) (u1 : Value) (wc : Int32) (h0 : Heap) (n0 : Nat) (v : Option Value) (h : Heap) (L : List Loc) : Prop := v = none ∧ Fr n0 L ∧ Keep h0 h [a1]
set_option maxRecDepth 65536 in
set_option maxHeartbeats 40000000 in
theorem rmab (l : Launch) (Z : State) (a0 : Array Value) (hw : ∀ d ∈ tables_1, d.before a0 Z = true) (ws : List Jvm.Cond) (a1 : Addr) (u0 : Value) (u1 : Value) (wc : Int32) (h0 : Heap) (n0 : Nat) (Z0 : n0 ≤ h0.size) (F0 : Old Z n0 h0) (F1 : Exa Z h0 a1 "java/lang/StringBuilder") (F2 : Fld Z h0 a1 "java/lang/AbstractStringBuilder" "value" "[B" u0) (F3 : Fld Z h0 a1 "java/lang/AbstractStringBuilder" "coder" "B" u1) (ge_a1 : n0 ≤ a1) (SC : Sta Z Z.heap "java/lang/String" "COMPACT_STRINGS" "Z" (.int wc)) (HWC : ¬ (wc = 0)) :
    MetFree l (⟨"java/lang/AbstractStringBuilder", "<init>", "(I)V"⟩ : MethodName) (head1 (Jvm.Cond.code (⟨"java/lang/AbstractStringBuilder", "<init>", "(I)V"⟩ : MethodName) jdk_68_method_2_code 2 none :: ws) ({ frames := 1, cells := 1, slots := 16, locals := 12 } : Room)) (fun a U => a = #[(.ref a1), (.int (16 : Int32))] ∧ Z.Warmed39 U.vm ∧ U.heap = h0) (fun _ _ _ _ _ => True) (fun _ U o U' => ∃ v L, o = .returned v ∧ Qab Z a1 u0 u1 wc h0 n0 v U'.heap L ∧ FrameEnd U o U' L ({ frames := 1, cells := 1, slots := 16, locals := 12 } : Room).cells ({ frames := 1, cells := 1, slots := 16, locals := 12 } : Room).slots) := by
  refine MetFree.of_bodySF (plainFor_of_name pn_ab) hisR ?_
  intro p e s m args below meth c s₁ Bd hml0 hP hK
  obtain ⟨rfl, hZ, hh⟩ := hP
  have hx := Bd.exec
  have hby := Bd.bytes
  have hml : c.maxLocals = 2 := hml0
  have hown : s.vm.findClass "java/lang/AbstractStringBuilder" = some m.cls := findClass_of_methodNamed Bd.named
  have hnm := (name_of_methodNamed Bd.named Bd.method).1
  have X0 : Stand p l e ({ frames := 1, cells := 1, slots := 16, locals := 12 } : Room) s m #[(.ref a1), (.int (16 : Int32))] below meth c s₁ [] 0 0 := Stand.of_body Bd
  have e0 : s₁.heap = h0 := by rw [← hh, Bd.state]; rfl
  have N0 := Fr.nil n0
  show own_R p.tables e below (own_P s (Qab Z a1 u0 u1 wc h0 n0) ({ frames := 1, cells := 1, slots := 16, locals := 12 } : Room).cells ({ frames := 1, cells := 1, slots := 16, locals := 12 } : Room).slots) (s₁.setTop (entryFrame m #[(.ref a1), (.int (16 : Int32))] 2))
  refine own_f s₁ (mkF m 0 #[.val (.ref a1), .val (.int (16 : Int32))] []) (fun t k => castTop (ef_ab m a1 (16 : Int32)) k) ?_
  refine own_f s₁ (mkF m 1 #[.val (.ref a1), .val (.int (16 : Int32))] [(.ref a1)]) (fun t k => XS.aloadN X0.here hx rfl (hb hby dab_0) rfl rfl k) ?_
  obtain ⟨T1, X1, e1, st1⟩ := initO X0 hx hZ hown (own_w hw 62 rfl) (own_w hw 24 rfl) (own_w hw 25 rfl) e0 (g := (mkF m 1 #[.val (.ref a1), .val (.int (16 : Int32))] [(.ref a1)])) rfl (by rw [hml]; rfl) rfl (hb hby dab_1) (by decide) (W := 0) (by show 2 * 0 + _ ≤ _; exact Nat.le_of_eq rfl) (by decide)
  refine own_f T1 (mkF m 4 #[.val (.ref a1), .val (.int (16 : Int32))] []) st1 ?_
  have S2 : Sta Z h0 "java/lang/String" "COMPACT_STRINGS" "Z" (.int wc) := SC.ext F0.2
  obtain ⟨T2, X2, e2, st2⟩ := getS X1 hx hZ (host := "") hown (own_w hw 63 rfl) Via.refl e1 S2 (g := (mkF m 4 #[.val (.ref a1), .val (.int (16 : Int32))] [])) rfl (hb hby dab_4)
  refine own_f T2 (mkF m 7 #[.val (.ref a1), .val (.int (16 : Int32))] [(.int wc)]) st2 ?_
  refine own_f T2 (mkF m 10 #[.val (.ref a1), .val (.int (16 : Int32))] []) (fun t k => XS.ifNo X2.here hx rfl (hb hby dab_7) rfl (XT.i0_eq_f HWC) k) ?_
  refine own_f T2 (mkF m 11 #[.val (.ref a1), .val (.int (16 : Int32))] [(.ref a1)]) (fun t k => XS.aloadN X2.here hx rfl (hb hby dab_10) rfl rfl k) ?_
  refine own_f T2 (mkF m 12 #[.val (.ref a1), .val (.int (16 : Int32))] [(.int (16 : Int32)), (.ref a1)]) (fun t k => XS.iloadN X2.here hx rfl (hb hby dab_11) rfl k) ?_
  obtain ⟨T3, h3, kA3, X3, e3, E3, A3, st3⟩ := newP X2 hx hZ (own_w hw 10 rfl) e2 (g := (mkF m 12 #[.val (.ref a1), .val (.int (16 : Int32))] [(.int (16 : Int32)), (.ref a1)])) rfl (hb hby dab_12) rfl (by decide) (cap := 16) (by decide) (by decide) (by decide) (by decide)
  obtain ⟨b3, g3⟩ : ∃ z, z = h0.size := ⟨_, rfl⟩
  rw [← g3] at A3 st3
  have ne3_a1 : a1 ≠ b3 := by rw [g3]; exact Nat.ne_of_lt F1.lt
  have ge3 : n0 ≤ b3 := by rw [g3]; exact Z0
  have gf3 : h0.size ≤ b3 := by rw [g3]; exact (Keep.refl h0 [a1]).1
  have Zs3 : n0 ≤ h3.size := Nat.le_trans Z0 E3.1
  have F_4 := F0.ext E3
  have F_5 := F1.ext E3
  have F_6 := F2.ext E3
  have F_7 := F3.ext E3
  have K3 : Keep h0 h3 [a1] := (Keep.refl h0 [a1]).ext E3
  have F_8 : Arv Z h3 b3 kA3 .byte (16 : Int32) [.int 0, .int 0, .int 0, .int 0, .int 0, .int 0, .int 0, .int 0, .int 0, .int 0, .int 0, .int 0, .int 0, .int 0, .int 0, .int 0] (.int 0) := own_arvnew 16 A3 (by decide)
  refine own_f T3 (mkF m 14 #[.val (.ref a1), .val (.int (16 : Int32))] [(.ref b3), (.ref a1)]) st3 ?_
  obtain ⟨T9, h9, X9, e9, W9, st9⟩ := putF X3 hx hZ hown (host := "") (Or.inl (own_w hw 64 rfl)) Via.refl e3 F_6 F_5 (Or.inl (own_w hw 65 rfl)) (own_w hw 51 rfl) (ty := (.array .byte)) (by decide) rfl rfl (g := (mkF m 14 #[.val (.ref a1), .val (.int (16 : Int32))] [(.ref b3), (.ref a1)])) rfl rfl (hb hby dab_14)
  have N9 := Fr.snoc X9 N0 ge_a1
  have Zs9 : n0 ≤ h9.size := by rw [W9.size]; exact Zs3
  have K9 : Keep h0 h9 [a1] := K3.wr W9 (Or.inl (by simp))
  have F_10 := F_4.wr W9 ge_a1
  have F_11 := F_5.wr W9
  have F_12 := F_6.same W9
  have F_13 := F_7.other W9 (Or.inr (slot_ne (Or.inl (own_w hw 67 rfl)) (Or.inl (own_w hw 65 rfl)) (by decide) (t := .byte) (t' := (.array .byte)) (by decide) (by decide)))
  have F_14 := F_8.other W9 (Ne.symm ne3_a1)
  refine own_f T9 (mkF m 17 #[.val (.ref a1), .val (.int (16 : Int32))] []) st9 ?_
  refine own_f T9 (mkF m 18 #[.val (.ref a1), .val (.int (16 : Int32))] [(.ref a1)]) (fun t k => XS.aloadN X9.here hx rfl (hb hby dab_17) rfl rfl k) ?_
  refine own_f T9 (mkF m 19 #[.val (.ref a1), .val (.int (16 : Int32))] [(.int (0 : Int32)), (.ref a1)]) (fun t k => XT.iconstV X9.here hx rfl (0 : Int32) (hb hby dab_18) (by decide) k) ?_
  obtain ⟨T15, h15, X15, e15, W15, st15⟩ := putF X9 hx hZ hown (host := "") (Or.inl (own_w hw 66 rfl)) Via.refl e9 F_13 F_11 (Or.inl (own_w hw 67 rfl)) (own_w hw 51 rfl) (ty := .byte) (by decide) rfl rfl (g := (mkF m 19 #[.val (.ref a1), .val (.int (16 : Int32))] [(.int (0 : Int32)), (.ref a1)])) rfl rfl (hb hby dab_19)
  have N15 := Fr.snoc X15 N9 ge_a1
  have Zs15 : n0 ≤ h15.size := by rw [W15.size]; exact Zs9
  have K15 : Keep h0 h15 [a1] := K9.wr W15 (Or.inl (by simp))
  have F_16 := F_10.wr W15 ge_a1
  have F_17 := F_11.wr W15
  have F_18 := F_12.other W15 (Or.inr (slot_ne (Or.inl (own_w hw 65 rfl)) (Or.inl (own_w hw 67 rfl)) (by decide) (t := (.array .byte)) (t' := .byte) (by decide) (by decide)))
  have F_19 := F_13.same W15
  have F_20 := F_14.other W15 (Ne.symm ne3_a1)
  refine own_f T15 (mkF m 22 #[.val (.ref a1), .val (.int (16 : Int32))] []) st15 ?_
  refine own_f T15 (mkF m 38 #[.val (.ref a1), .val (.int (16 : Int32))] []) (fun t k => XS.goto X15.here hx rfl (pc0 := 22) (pc' := 38) rfl (hb hby dab_22) (by decide) (by decide) k) ?_
  obtain ⟨fs, hr, hrun, hended, hW, hsame⟩ := X15.leave (v := none) (fun _ => rfl)
  refine ⟨_, _, X15.returnOut hx Bd.returns (hb hby dab_38) hr, hrun, hended, _, _, rfl, ?_, ⟨_, rfl⟩, hW, hsame.mono (by decide) (by decide)⟩
  show Qab Z a1 u0 u1 wc h0 n0 _ T15.heap _
  rw [e15]
  exact ⟨rfl, N15, K15⟩
theorem dsb_0 : decode jdk_67_method_1_code 0 = .ok (.aload_n 0, 1) := by decide +kernel
theorem dsb_1 : decode jdk_67_method_1_code 1 = .ok (.bipush 16, 2) := by decide +kernel
theorem dsb_3 : decode jdk_67_method_1_code 3 = .ok (.invokespecial 1, 3) := by decide +kernel
theorem dsb_6 : decode jdk_67_method_1_code 6 = .ok (.return_, 1) := by decide +kernel
theorem pn_sb : plainName "java/lang/StringBuilder" = true := by first | (simp [plainName, overriddenIn]; done) | decide +kernel
theorem ef_sb (m : MethodId) (x0 : Addr) : entryFrame m #[(.ref x0)] 1 = mkF m 0 #[.val (.ref x0)] [] := by first | (simp [entryFrame, mkF, argsToLocals, Value.category]; done) | rfl
def Qsb (Z : State) (a1 : Addr) (u0 : Value) (u1 : Value) (wc : Int32) (h0 : Heap) (n0 : Nat) (v : Option Value) (h : Heap) (L : List Loc) : Prop := v = none ∧ Fr n0 L ∧ Keep h0 h [a1]
set_option maxRecDepth 65536 in
set_option maxHeartbeats 40000000 in
theorem rmsb (l : Launch) (Z : State) (a0 : Array Value) (hw : ∀ d ∈ tables_1, d.before a0 Z = true) (ws : List Jvm.Cond) (a1 : Addr) (u0 : Value) (u1 : Value) (wc : Int32) (h0 : Heap) (n0 : Nat) (Z0 : n0 ≤ h0.size) (F0 : Old Z n0 h0) (F1 : Exa Z h0 a1 "java/lang/StringBuilder") (F2 : Fld Z h0 a1 "java/lang/AbstractStringBuilder" "value" "[B" u0) (F3 : Fld Z h0 a1 "java/lang/AbstractStringBuilder" "coder" "B" u1) (ge_a1 : n0 ≤ a1) (SC : Sta Z Z.heap "java/lang/String" "COMPACT_STRINGS" "Z" (.int wc)) (HWC : ¬ (wc = 0)) :
    MetFree l (⟨"java/lang/StringBuilder", "<init>", "()V"⟩ : MethodName) (head1 (Jvm.Cond.code (⟨"java/lang/StringBuilder", "<init>", "()V"⟩ : MethodName) jdk_67_method_1_code 1 none :: ws) ({ frames := 2, cells := 1, slots := 16, locals := 25 } : Room)) (fun a U => a = #[(.ref a1)] ∧ Z.Warmed39 U.vm ∧ U.heap = h0) (fun _ _ _ _ _ => True) (fun _ U o U' => ∃ v L, o = .returned v ∧ Qsb Z a1 u0 u1 wc h0 n0 v U'.heap L ∧ FrameEnd U o U' L ({ frames := 2, cells := 1, slots := 16, locals := 25 } : Room).cells ({ frames := 2, cells := 1, slots := 16, locals := 25 } : Room).slots) := by
  refine MetFree.of_bodySF (plainFor_of_name pn_sb) hisR ?_
  intro p e s m args below meth c s₁ Bd hml0 hP hK
  obtain ⟨rfl, hZ, hh⟩ := hP
  have hx := Bd.exec
  have hby := Bd.bytes
  have hml : c.maxLocals = 1 := hml0
  have hown : s.vm.findClass "java/lang/StringBuilder" = some m.cls := findClass_of_methodNamed Bd.named
  have hnm := (name_of_methodNamed Bd.named Bd.method).1
  have X0 : Stand p l e ({ frames := 2, cells := 1, slots := 16, locals := 25 } : Room) s m #[(.ref a1)] below meth c s₁ [] 0 0 := Stand.of_body Bd
  have e0 : s₁.heap = h0 := by rw [← hh, Bd.state]; rfl
  have N0 := Fr.nil n0
  show own_R p.tables e below (own_P s (Qsb Z a1 u0 u1 wc h0 n0) ({ frames := 2, cells := 1, slots := 16, locals := 25 } : Room).cells ({ frames := 2, cells := 1, slots := 16, locals := 25 } : Room).slots) (s₁.setTop (entryFrame m #[(.ref a1)] 1))
  refine own_f s₁ (mkF m 0 #[.val (.ref a1)] []) (fun t k => castTop (ef_sb m a1) k) ?_
  refine own_f s₁ (mkF m 1 #[.val (.ref a1)] [(.ref a1)]) (fun t k => XS.aloadN X0.here hx rfl (hb hby dsb_0) rfl rfl k) ?_
  refine own_f s₁ (mkF m 3 #[.val (.ref a1)] [(.int (16 : Int32)), (.ref a1)]) (fun t k => XT.bipushV X0.here hx rfl (16 : Int32) (hb hby dsb_1) (by decide) k) ?_
  obtain ⟨_, _, ⟨T1, Lq1, kq_1, nq_1⟩, -, X1, ⟨Lc1, hQ1, lq1, yq1, zq1⟩, st1⟩ := X0.specialBack hx (y := (⟨"java/lang/AbstractStringBuilder", "<init>", "(I)V"⟩ : MethodName)) rfl hown (mvT hZ (own_w hw 56 rfl)) (mvT hZ (own_w hw 57 rfl)) (mvT hZ (own_w hw 61 rfl)) (by decide) (backOf (W := 0) (rmab l Z a0 hw [] a1 _ _ _ h0 n0 Z0 F0 F1 F2 F3 ge_a1 SC HWC) hZ (own_w hw 61 rfl) (own_w hw 60 rfl) (by decide) (by decide)) (g := (mkF m 3 #[.val (.ref a1)] [(.int (16 : Int32)), (.ref a1)])) rfl (by rw [hml]; rfl) (Steps.refl _) (a := a1) (argsL := [(.int (16 : Int32))]) (rest := []) (lenOf pd__I_V rfl) rfl (by show 2 * 0 + _ ≤ _; exact Nat.le_of_eq rfl) (hb hby dsb_3) (fun _ _ => ⟨rfl, e0, (by decide : 0 + 1 ≤ _), (by decide : 0 + 16 ≤ _)⟩)
  dsimp only [Pt.U, Pt.locs, Pt.cells, Pt.slots] at X1 lq1 yq1 zq1 st1 hQ1
  subst lq1 yq1 zq1
  obtain ⟨h1, e1⟩ : ∃ z, T1.heap = z := ⟨_, rfl⟩
  rw [e1] at hQ1
  unfold Qab at hQ1
  obtain ⟨rfl, Nq1, qh1⟩ := hQ1
  have N1 := Fr.app N0 Nq1
  have Zs1 : n0 ≤ h1.size := Nat.le_trans Z0 qh1.1
  have F_2 := F0.keep qh1 (allS ge_a1 all0)
  have F_3 := F1.keep qh1
  have K1 : Keep h0 h1 [a1] := (Keep.refl h0 [a1]).trans qh1 (allS (Or.inl (by simp)) all0)
  refine own_g T1 (mkF m 6 #[.val (.ref a1)] []) st1 ?_
  obtain ⟨fs, hr, hrun, hended, hW, hsame⟩ := X1.leave (v := none) (fun _ => rfl)
  refine ⟨_, _, X1.returnOut hx Bd.returns (hb hby dsb_6) hr, hrun, hended, _, _, rfl, ?_, ⟨_, rfl⟩, hW, hsame.mono (by decide) (by decide)⟩
  show Qsb Z a1 u0 u1 wc h0 n0 _ T1.heap _
  rw [e1]
  exact ⟨rfl, N1, K1⟩
theorem dpi_0 : decode prog_77_method_1_code 0 = .ok (.aload_n 0, 1) := by decide +kernel
theorem dpi_1 : decode prog_77_method_1_code 1 = .ok (.invokespecial 1, 3) := by decide +kernel
theorem dpi_4 : decode prog_77_method_1_code 4 = .ok (.aload_n 0, 1) := by decide +kernel
theorem dpi_5 : decode prog_77_method_1_code 5 = .ok (.iconst 1, 1) := by decide +kernel
theorem dpi_6 : decode prog_77_method_1_code 6 = .ok (.putfield 7, 3) := by decide +kernel
theorem dpi_9 : decode prog_77_method_1_code 9 = .ok (.aload_n 0, 1) := by decide +kernel
theorem dpi_10 : decode prog_77_method_1_code 10 = .ok (.new 13, 3) := by decide +kernel
theorem dpi_13 : decode prog_77_method_1_code 13 = .ok (.dup, 1) := by decide +kernel
theorem dpi_14 : decode prog_77_method_1_code 14 = .ok (.invokespecial 15, 3) := by decide +kernel
theorem dpi_17 : decode prog_77_method_1_code 17 = .ok (.putfield 16, 3) := by decide +kernel
theorem dpi_20 : decode prog_77_method_1_code 20 = .ok (.aload_n 0, 1) := by decide +kernel
theorem dpi_21 : decode prog_77_method_1_code 21 = .ok (.sipush 256, 3) := by decide +kernel
theorem dpi_24 : decode prog_77_method_1_code 24 = .ok (.anewarray 20, 3) := by decide +kernel
theorem dpi_27 : decode prog_77_method_1_code 27 = .ok (.putfield 22, 3) := by decide +kernel
theorem dpi_30 : decode prog_77_method_1_code 30 = .ok (.aload_n 0, 1) := by decide +kernel
theorem dpi_31 : decode prog_77_method_1_code 31 = .ok (.aload_n 1, 1) := by decide +kernel
theorem dpi_32 : decode prog_77_method_1_code 32 = .ok (.putfield 26, 3) := by decide +kernel
theorem dpi_35 : decode prog_77_method_1_code 35 = .ok (.aload_n 0, 1) := by decide +kernel
theorem dpi_36 : decode prog_77_method_1_code 36 = .ok (.aload_n 2, 1) := by decide +kernel
theorem dpi_37 : decode prog_77_method_1_code 37 = .ok (.putfield 30, 3) := by decide +kernel
theorem dpi_40 : decode prog_77_method_1_code 40 = .ok (.return_, 1) := by decide +kernel
theorem pn_pi : plainName "com/example/modelwright/modelwright/model/SourceParser" = true := by first | (simp [plainName, overriddenIn]; done) | decide +kernel
theorem ef_pi (m : MethodId) (x0 : Addr) (x1 : Addr) (x2 : Addr) : entryFrame m #[(.ref x0), (.ref x1), (.ref x2)] 3 = mkF m 0 #[.val (.ref x0), .val (.ref x1), .val (.ref x2)] [] := by first | (simp [entryFrame, mkF, argsToLocals, Value.category]; done) | rfl
def Qpi (Z : State) (a1 : Addr) (a2 : Addr) (a3 : Addr) (u_line : Value) (u_escaped : Value) (u_shared : Value) (u_path : Value) (u_text : Value) (wc : Int32) (h0 : Heap) (n0 : Nat) (v : Option Value) (h : Heap) (L : List Loc) : Prop := v = none ∧ Fr n0 L ∧ Keep h0 h [a1] ∧ Exa Z h a1 "com/example/modelwright/modelwright/model/SourceParserNextLinePinLaw" ∧ Fld Z h a1 "com/example/modelwright/modelwright/model/SourceParser" "line" "I" (.int (1 : Int32)) ∧ Fld Z h a1 "com/example/modelwright/modelwright/model/SourceParser" "text" "Ljava/lang/String;" (.ref a3) ∧ Fld Z h a1 "com/example/modelwright/modelwright/model/SourceParser" "pos" "I" (.int 0) ∧ Fld Z h a1 "com/example/modelwright/modelwright/model/SourceParser" "lineStart" "I" (.int 0) ∧ Fld Z h a1 "com/example/modelwright/modelwright/model/SourceParser" "lowSurrogatesOnLine" "I" (.int 0)
set_option maxRecDepth 65536 in
set_option maxHeartbeats 40000000 in
theorem rmpi (l : Launch) (Z : State) (a0 : Array Value) (hw : ∀ d ∈ tables_1, d.before a0 Z = true) (ws : List Jvm.Cond) (a1 : Addr) (a2 : Addr) (a3 : Addr) (u_line : Value) (u_escaped : Value) (u_shared : Value) (u_path : Value) (u_text : Value) (wc : Int32) (h0 : Heap) (n0 : Nat) (Z0 : n0 ≤ h0.size) (F0 : Old Z n0 h0) (F1 : Exa Z h0 a1 "com/example/modelwright/modelwright/model/SourceParserNextLinePinLaw") (F2 : Fld Z h0 a1 "com/example/modelwright/modelwright/model/SourceParser" "line" "I" u_line) (F3 : Fld Z h0 a1 "com/example/modelwright/modelwright/model/SourceParser" "escaped" "Ljava/lang/StringBuilder;" u_escaped) (F4 : Fld Z h0 a1 "com/example/modelwright/modelwright/model/SourceParser" "shared" "[Ljava/lang/String;" u_shared) (F5 : Fld Z h0 a1 "com/example/modelwright/modelwright/model/SourceParser" "path" "Ljava/lang/String;" u_path) (F6 : Fld Z h0 a1 "com/example/modelwright/modelwright/model/SourceParser" "text" "Ljava/lang/String;" u_text) (F7 : Fld Z h0 a1 "com/example/modelwright/modelwright/model/SourceParser" "pos" "I" (.int 0)) (F8 : Fld Z h0 a1 "com/example/modelwright/modelwright/model/SourceParser" "lineStart" "I" (.int 0)) (F9 : Fld Z h0 a1 "com/example/modelwright/modelwright/model/SourceParser" "lowSurrogatesOnLine" "I" (.int 0)) (ge_a1 : n0 ≤ a1) (SC : Sta Z Z.heap "java/lang/String" "COMPACT_STRINGS" "Z" (.int wc)) (HWC : ¬ (wc = 0)) :
    MetFree l (⟨"com/example/modelwright/modelwright/model/SourceParser", "<init>", "(Ljava/lang/String;Ljava/lang/String;)V"⟩ : MethodName) (head1 (Jvm.Cond.code (⟨"com/example/modelwright/modelwright/model/SourceParser", "<init>", "(Ljava/lang/String;Ljava/lang/String;)V"⟩ : MethodName) prog_77_method_1_code 3 none :: ws) ({ frames := 3, cells := 3, slots := 280, locals := 40 } : Room)) (fun a U => a = #[(.ref a1), (.ref a2), (.ref a3)] ∧ Z.Warmed39 U.vm ∧ U.heap = h0) (fun _ _ _ _ _ => True) (fun _ U o U' => ∃ v L, o = .returned v ∧ Qpi Z a1 a2 a3 u_line u_escaped u_shared u_path u_text wc h0 n0 v U'.heap L ∧ FrameEnd U o U' L ({ frames := 3, cells := 3, slots := 280, locals := 40 } : Room).cells ({ frames := 3, cells := 3, slots := 280, locals := 40 } : Room).slots) := by
  refine MetFree.of_bodySF (plainFor_of_name pn_pi) hisR ?_
  intro p e s m args below meth c s₁ Bd hml0 hP hK
  obtain ⟨rfl, hZ, hh⟩ := hP
  have hx := Bd.exec
  have hby := Bd.bytes
  have hml : c.maxLocals = 3 := hml0
  have hown : s.vm.findClass "com/example/modelwright/modelwright/model/SourceParser" = some m.cls := findClass_of_methodNamed Bd.named
  have hnm := (name_of_methodNamed Bd.named Bd.method).1
  have X0 : Stand p l e ({ frames := 3, cells := 3, slots := 280, locals := 40 } : Room) s m #[(.ref a1), (.ref a2), (.ref a3)] below meth c s₁ [] 0 0 := Stand.of_body Bd
  have e0 : s₁.heap = h0 := by rw [← hh, Bd.state]; rfl
  have N0 := Fr.nil n0
  show own_R p.tables e below (own_P s (Qpi Z a1 a2 a3 u_line u_escaped u_shared u_path u_text wc h0 n0) ({ frames := 3, cells := 3, slots := 280, locals := 40 } : Room).cells ({ frames := 3, cells := 3, slots := 280, locals := 40 } : Room).slots) (s₁.setTop (entryFrame m #[(.ref a1), (.ref a2), (.ref a3)] 3))
  refine own_f s₁ (mkF m 0 #[.val (.ref a1), .val (.ref a2), .val (.ref a3)] []) (fun t k => castTop (ef_pi m a1 a2 a3) k) ?_
  refine own_f s₁ (mkF m 1 #[.val (.ref a1), .val (.ref a2), .val (.ref a3)] [(.ref a1)]) (fun t k => XS.aloadN X0.here hx rfl (hb hby dpi_0) rfl rfl k) ?_
  obtain ⟨T1, X1, e1, st1⟩ := initO X0 hx hZ hown (own_w hw 47 rfl) (own_w hw 24 rfl) (own_w hw 25 rfl) e0 (g := (mkF m 1 #[.val (.ref a1), .val (.ref a2), .val (.ref a3)] [(.ref a1)])) rfl (by rw [hml]; rfl) rfl (hb hby dpi_1) (by decide) (W := 0) (by show 2 * 0 + _ ≤ _; exact Nat.le_of_eq rfl) (by decide)
  refine own_f T1 (mkF m 4 #[.val (.ref a1), .val (.ref a2), .val (.ref a3)] []) st1 ?_
  refine own_f T1 (mkF m 5 #[.val (.ref a1), .val (.ref a2), .val (.ref a3)] [(.ref a1)]) (fun t k => XS.aloadN X1.here hx rfl (hb hby dpi_4) rfl rfl k) ?_
  refine own_f T1 (mkF m 6 #[.val (.ref a1), .val (.ref a2), .val (.ref a3)] [(.int (1 : Int32)), (.ref a1)]) (fun t k => XT.iconstV X1.here hx rfl (1 : Int32) (hb hby dpi_5) (by decide) k) ?_
  obtain ⟨T2, h2, X2, e2, W2, st2⟩ := putF X1 hx hZ hown (host := "") (Or.inl (own_w hw 48 rfl)) Via.refl e1 F2 F1 (Or.inl (own_w hw 49 rfl)) (own_w hw 6 rfl) (ty := .int) (by decide) rfl rfl (g := (mkF m 6 #[.val (.ref a1), .val (.ref a2), .val (.ref a3)] [(.int (1 : Int32)), (.ref a1)])) rfl rfl (hb hby dpi_6)
  have N2 := Fr.snoc X2 N0 ge_a1
  have Zs2 : n0 ≤ h2.size := by rw [W2.size]; exact Z0
  have K2 : Keep h0 h2 [a1] := (Keep.refl h0 [a1]).wr W2 (Or.inl (by simp))
  have F_3 := F0.wr W2 ge_a1
  have F_4 := F1.wr W2
  have F_5 := F2.same W2
  have F_6 := F3.other W2 (Or.inr (slot_ne (Or.inr (own_w hw 69 rfl)) (Or.inl (own_w hw 49 rfl)) (by decide) (t := (.object "java/lang/StringBuilder")) (t' := .int) (by decide) (by decide)))
  have F_7 := F4.other W2 (Or.inr (slot_ne (Or.inl (own_w hw 73 rfl)) (Or.inl (own_w hw 49 rfl)) (by decide) (t := (.array (.object "java/lang/String"))) (t' := .int) (by decide) (by decide)))
  have F_8 := F5.other W2 (Or.inr (slot_ne (Or.inr (own_w hw 75 rfl)) (Or.inl (own_w hw 49 rfl)) (by decide) (t := (.object "java/lang/String")) (t' := .int) (by decide) (by decide)))
  have F_9 := F6.other W2 (Or.inr (slot_ne (Or.inr (own_w hw 77 rfl)) (Or.inl (own_w hw 49 rfl)) (by decide) (t := (.object "java/lang/String")) (t' := .int) (by decide) (by decide)))
  have F_10 := F7.other W2 (Or.inr (slot_ne (Or.inl (own_w hw 85 rfl)) (Or.inl (own_w hw 49 rfl)) (by decide) (t := .int) (t' := .int) (by decide) (by decide)))
  have F_11 := F8.other W2 (Or.inr (slot_ne (Or.inl (own_w hw 120 rfl)) (Or.inl (own_w hw 49 rfl)) (by decide) (t := .int) (t' := .int) (by decide) (by decide)))
  have F_12 := F9.other W2 (Or.inr (slot_ne (Or.inl (own_w hw 122 rfl)) (Or.inl (own_w hw 49 rfl)) (by decide) (t := .int) (t' := .int) (by decide) (by decide)))
  refine own_f T2 (mkF m 9 #[.val (.ref a1), .val (.ref a2), .val (.ref a3)] []) st2 ?_
  refine own_f T2 (mkF m 10 #[.val (.ref a1), .val (.ref a2), .val (.ref a3)] [(.ref a1)]) (fun t k => XS.aloadN X2.here hx rfl (hb hby dpi_9) rfl rfl k) ?_
  obtain ⟨T13, h13, X13, e13, E13, A13, D13, U13, st13⟩ := newO X2 hx hZ hown (own_w hw 50 rfl) (own_w hw 51 rfl) (own_w hw 52 rfl) e2 (g := (mkF m 10 #[.val (.ref a1), .val (.ref a2), .val (.ref a3)] [(.ref a1)])) rfl (hb hby dpi_10) (by decide) (by decide)
  obtain ⟨b13, g13⟩ : ∃ z, z = h2.size := ⟨_, rfl⟩
  rw [← g13] at A13 D13 st13
  have ne13_a1 : a1 ≠ b13 := by rw [g13]; exact Nat.ne_of_lt F_4.lt
  have ge13 : n0 ≤ b13 := by rw [g13]; exact Zs2
  have gf13 : h0.size ≤ b13 := by rw [g13]; exact K2.1
  have Zs13 : n0 ≤ h13.size := Nat.le_trans Zs2 E13.1
  have F_14 := F_3.ext E13
  have F_15 := F_4.ext E13
  have F_16 := F_5.ext E13
  have F_17 := F_6.ext E13
  have F_18 := F_7.ext E13
  have F_19 := F_8.ext E13
  have F_20 := F_9.ext E13
  have F_21 := F_10.ext E13
  have F_22 := F_11.ext E13
  have F_23 := F_12.ext E13
  have K13 : Keep h0 h13 [a1] := K2.ext E13
  have F_24 : Fld Z h13 b13 "java/lang/AbstractStringBuilder" "value" "[B" .null := D13 (Or.inl (own_w hw 65 rfl)) (ty := (.array .byte)) (by decide)
  have F_25 : Fld Z h13 b13 "java/lang/AbstractStringBuilder" "coder" "B" (.int 0) := D13 (Or.inl (own_w hw 67 rfl)) (ty := .byte) (by decide)
  refine own_f T13 (mkF m 13 #[.val (.ref a1), .val (.ref a2), .val (.ref a3)] [(.ref b13), (.ref a1)]) st13 ?_
  refine own_f T13 (mkF m 14 #[.val (.ref a1), .val (.ref a2), .val (.ref a3)] [(.ref b13), (.ref b13), (.ref a1)]) (fun t k => XS.dup X13.here hx rfl (hb hby dpi_13) rfl rfl k) ?_
  obtain ⟨_, _, ⟨T26, Lq26, kq_26, nq_26⟩, -, X26, ⟨Lc26, hQ26, lq26, yq26, zq26⟩, st26⟩ := X13.specialBack hx (y := (⟨"java/lang/StringBuilder", "<init>", "()V"⟩ : MethodName)) rfl hown (mvT hZ (own_w hw 53 rfl)) (mvT hZ (own_w hw 54 rfl)) (mvT hZ (own_w hw 55 rfl)) (by decide) (backOf (W := 2) (rmsb l Z a0 hw [] b13 _ _ _ h13 n0 Zs13 F_14 A13 F_24 F_25 ge13 SC HWC) hZ (own_w hw 55 rfl) (own_w hw 52 rfl) (by decide) (by decide)) (g := (mkF m 14 #[.val (.ref a1), .val (.ref a2), .val (.ref a3)] [(.ref b13), (.ref b13), (.ref a1)])) rfl (by rw [hml]; rfl) (Steps.refl _) (a := b13) (argsL := []) (rest := [(.ref b13), (.ref a1)]) (lenOf pd__V rfl) rfl (by show 2 * 0 + _ ≤ _; exact Nat.le_of_eq rfl) (hb hby dpi_14) (fun _ _ => ⟨rfl, e13, (by decide : 0 + 1 + 1 ≤ _), (by decide : 0 + 4 + 16 ≤ _)⟩)
  dsimp only [Pt.U, Pt.locs, Pt.cells, Pt.slots] at X26 lq26 yq26 zq26 st26 hQ26
  subst lq26 yq26 zq26
  obtain ⟨h26, e26⟩ : ∃ z, T26.heap = z := ⟨_, rfl⟩
  rw [e26] at hQ26
  unfold Qsb at hQ26
  obtain ⟨rfl, Nq26, qh26⟩ := hQ26
  have N26 := Fr.app N2 Nq26
  have Zs26 : n0 ≤ h26.size := Nat.le_trans Zs13 qh26.1
  have F_27 := F_14.keep qh26 (allS ge13 all0)
  have F_28 := F_15.keep qh26
  have F_29 := F_16.keep qh26 (ninS ne13_a1 nin0)
  have F_30 := F_17.keep qh26 (ninS ne13_a1 nin0)
  have F_31 := F_18.keep qh26 (ninS ne13_a1 nin0)
  have F_32 := F_19.keep qh26 (ninS ne13_a1 nin0)
  have F_33 := F_20.keep qh26 (ninS ne13_a1 nin0)
  have F_34 := F_21.keep qh26 (ninS ne13_a1 nin0)
  have F_35 := F_22.keep qh26 (ninS ne13_a1 nin0)
  have F_36 := F_23.keep qh26 (ninS ne13_a1 nin0)
  have F_37 := A13.keep qh26
  have K26 : Keep h0 h26 [a1] := K13.trans qh26 (allS (Or.inr gf13) all0)
  refine own_g T26 (mkF m 17 #[.val (.ref a1), .val (.ref a2), .val (.ref a3)] [(.ref b13), (.ref a1)]) st26 ?_
  obtain ⟨T38, h38, X38, e38, W38, st38⟩ := putF X26 hx hZ hown (host := "") (Or.inl (own_w hw 68 rfl)) Via.refl e26 F_30 F_28 (Or.inr ⟨(own_w hw 69 rfl), rfl, hnm⟩) (own_w hw 6 rfl) (ty := (.object "java/lang/StringBuilder")) (by decide) rfl rfl (g := (mkF m 17 #[.val (.ref a1), .val (.ref a2), .val (.ref a3)] [(.ref b13), (.ref a1)])) rfl rfl (hb hby dpi_17)
  have N38 := Fr.snoc X38 N26 ge_a1
  have Zs38 : n0 ≤ h38.size := by rw [W38.size]; exact Zs26
  have K38 : Keep h0 h38 [a1] := K26.wr W38 (Or.inl (by simp))
  have F_39 := F_27.wr W38 ge_a1
  have F_40 := F_28.wr W38
  have F_41 := F_29.other W38 (Or.inr (slot_ne (Or.inl (own_w hw 49 rfl)) (Or.inr (own_w hw 69 rfl)) (by decide) (t := .int) (t' := (.object "java/lang/StringBuilder")) (by decide) (by decide)))
  have F_42 := F_30.same W38
  have F_43 := F_31.other W38 (Or.inr (slot_ne (Or.inl (own_w hw 73 rfl)) (Or.inr (own_w hw 69 rfl)) (by decide) (t := (.array (.object "java/lang/String"))) (t' := (.object "java/lang/StringBuilder")) (by decide) (by decide)))
  have F_44 := F_32.other W38 (Or.inr (slot_ne (Or.inr (own_w hw 75 rfl)) (Or.inr (own_w hw 69 rfl)) (by decide) (t := (.object "java/lang/String")) (t' := (.object "java/lang/StringBuilder")) (by decide) (by decide)))
  have F_45 := F_33.other W38 (Or.inr (slot_ne (Or.inr (own_w hw 77 rfl)) (Or.inr (own_w hw 69 rfl)) (by decide) (t := (.object "java/lang/String")) (t' := (.object "java/lang/StringBuilder")) (by decide) (by decide)))
  have F_46 := F_34.other W38 (Or.inr (slot_ne (Or.inl (own_w hw 85 rfl)) (Or.inr (own_w hw 69 rfl)) (by decide) (t := .int) (t' := (.object "java/lang/StringBuilder")) (by decide) (by decide)))
  have F_47 := F_35.other W38 (Or.inr (slot_ne (Or.inl (own_w hw 120 rfl)) (Or.inr (own_w hw 69 rfl)) (by decide) (t := .int) (t' := (.object "java/lang/StringBuilder")) (by decide) (by decide)))
  have F_48 := F_36.other W38 (Or.inr (slot_ne (Or.inl (own_w hw 122 rfl)) (Or.inr (own_w hw 69 rfl)) (by decide) (t := .int) (t' := (.object "java/lang/StringBuilder")) (by decide) (by decide)))
  have F_49 := F_37.wr W38
  refine own_f T38 (mkF m 20 #[.val (.ref a1), .val (.ref a2), .val (.ref a3)] []) st38 ?_
  refine own_f T38 (mkF m 21 #[.val (.ref a1), .val (.ref a2), .val (.ref a3)] [(.ref a1)]) (fun t k => XS.aloadN X38.here hx rfl (hb hby dpi_20) rfl rfl k) ?_
  refine own_f T38 (mkF m 24 #[.val (.ref a1), .val (.ref a2), .val (.ref a3)] [(.int (256 : Int32)), (.ref a1)]) (fun t k => XT.sipushV X38.here hx rfl (256 : Int32) (hb hby dpi_21) (by decide) k) ?_
  obtain ⟨T50, h50, kA50, X50, e50, E50, A50, -, st50⟩ := newR X38 hx hZ hown (own_w hw 70 rfl) (own_w hw 71 rfl) e38 (g := (mkF m 24 #[.val (.ref a1), .val (.ref a2), .val (.ref a3)] [(.int (256 : Int32)), (.ref a1)])) rfl (hb hby dpi_24) rfl (by decide) (cap := 256) (by decide) (by decide) (by decide) (by decide)
  obtain ⟨b50, g50⟩ : ∃ z, z = h38.size := ⟨_, rfl⟩
  rw [← g50] at A50 st50
  have ne50_a1 : a1 ≠ b50 := by rw [g50]; exact Nat.ne_of_lt F_40.lt
  have ne50_b13 : b13 ≠ b50 := by rw [g50]; exact Nat.ne_of_lt F_49.lt
  have ge50 : n0 ≤ b50 := by rw [g50]; exact Zs38
  have gf50 : h0.size ≤ b50 := by rw [g50]; exact K38.1
  have Zs50 : n0 ≤ h50.size := Nat.le_trans Zs38 E50.1
  have F_51 := F_39.ext E50
  have F_52 := F_40.ext E50
  have F_53 := F_41.ext E50
  have F_54 := F_42.ext E50
  have F_55 := F_43.ext E50
  have F_56 := F_44.ext E50
  have F_57 := F_45.ext E50
  have F_58 := F_46.ext E50
  have F_59 := F_47.ext E50
  have F_60 := F_48.ext E50
  have F_61 := F_49.ext E50
  have K50 : Keep h0 h50 [a1] := K38.ext E50
  refine own_f T50 (mkF m 27 #[.val (.ref a1), .val (.ref a2), .val (.ref a3)] [(.ref b50), (.ref a1)]) st50 ?_
  obtain ⟨T62, h62, X62, e62, W62, st62⟩ := putF X50 hx hZ hown (host := "") (Or.inl (own_w hw 72 rfl)) Via.refl e50 F_55 F_52 (Or.inl (own_w hw 73 rfl)) (own_w hw 6 rfl) (ty := (.array (.object "java/lang/String"))) (by decide) rfl rfl (g := (mkF m 27 #[.val (.ref a1), .val (.ref a2), .val (.ref a3)] [(.ref b50), (.ref a1)])) rfl rfl (hb hby dpi_27)
  have N62 := Fr.snoc X62 N38 ge_a1
  have Zs62 : n0 ≤ h62.size := by rw [W62.size]; exact Zs50
  have K62 : Keep h0 h62 [a1] := K50.wr W62 (Or.inl (by simp))
  have F_63 := F_51.wr W62 ge_a1
  have F_64 := F_52.wr W62
  have F_65 := F_53.other W62 (Or.inr (slot_ne (Or.inl (own_w hw 49 rfl)) (Or.inl (own_w hw 73 rfl)) (by decide) (t := .int) (t' := (.array (.object "java/lang/String"))) (by decide) (by decide)))
  have F_66 := F_54.other W62 (Or.inr (slot_ne (Or.inr (own_w hw 69 rfl)) (Or.inl (own_w hw 73 rfl)) (by decide) (t := (.object "java/lang/StringBuilder")) (t' := (.array (.object "java/lang/String"))) (by decide) (by decide)))
  have F_67 := F_55.same W62
  have F_68 := F_56.other W62 (Or.inr (slot_ne (Or.inr (own_w hw 75 rfl)) (Or.inl (own_w hw 73 rfl)) (by decide) (t := (.object "java/lang/String")) (t' := (.array (.object "java/lang/String"))) (by decide) (by decide)))
  have F_69 := F_57.other W62 (Or.inr (slot_ne (Or.inr (own_w hw 77 rfl)) (Or.inl (own_w hw 73 rfl)) (by decide) (t := (.object "java/lang/String")) (t' := (.array (.object "java/lang/String"))) (by decide) (by decide)))
  have F_70 := F_58.other W62 (Or.inr (slot_ne (Or.inl (own_w hw 85 rfl)) (Or.inl (own_w hw 73 rfl)) (by decide) (t := .int) (t' := (.array (.object "java/lang/String"))) (by decide) (by decide)))
  have F_71 := F_59.other W62 (Or.inr (slot_ne (Or.inl (own_w hw 120 rfl)) (Or.inl (own_w hw 73 rfl)) (by decide) (t := .int) (t' := (.array (.object "java/lang/String"))) (by decide) (by decide)))
  have F_72 := F_60.other W62 (Or.inr (slot_ne (Or.inl (own_w hw 122 rfl)) (Or.inl (own_w hw 73 rfl)) (by decide) (t := .int) (t' := (.array (.object "java/lang/String"))) (by decide) (by decide)))
  have F_73 := F_61.wr W62
  refine own_f T62 (mkF m 30 #[.val (.ref a1), .val (.ref a2), .val (.ref a3)] []) st62 ?_
  refine own_f T62 (mkF m 31 #[.val (.ref a1), .val (.ref a2), .val (.ref a3)] [(.ref a1)]) (fun t k => XS.aloadN X62.here hx rfl (hb hby dpi_30) rfl rfl k) ?_
  refine own_f T62 (mkF m 32 #[.val (.ref a1), .val (.ref a2), .val (.ref a3)] [(.ref a2), (.ref a1)]) (fun t k => XS.aloadN X62.here hx rfl (hb hby dpi_31) rfl rfl k) ?_
  obtain ⟨T74, h74, X74, e74, W74, st74⟩ := putF X62 hx hZ hown (host := "") (Or.inl (own_w hw 74 rfl)) Via.refl e62 F_68 F_64 (Or.inr ⟨(own_w hw 75 rfl), rfl, hnm⟩) (own_w hw 6 rfl) (ty := (.object "java/lang/String")) (by decide) rfl rfl (g := (mkF m 32 #[.val (.ref a1), .val (.ref a2), .val (.ref a3)] [(.ref a2), (.ref a1)])) rfl rfl (hb hby dpi_32)
  have N74 := Fr.snoc X74 N62 ge_a1
  have Zs74 : n0 ≤ h74.size := by rw [W74.size]; exact Zs62
  have K74 : Keep h0 h74 [a1] := K62.wr W74 (Or.inl (by simp))
  have F_75 := F_63.wr W74 ge_a1
  have F_76 := F_64.wr W74
  have F_77 := F_65.other W74 (Or.inr (slot_ne (Or.inl (own_w hw 49 rfl)) (Or.inr (own_w hw 75 rfl)) (by decide) (t := .int) (t' := (.object "java/lang/String")) (by decide) (by decide)))
  have F_78 := F_66.other W74 (Or.inr (slot_ne (Or.inr (own_w hw 69 rfl)) (Or.inr (own_w hw 75 rfl)) (by decide) (t := (.object "java/lang/StringBuilder")) (t' := (.object "java/lang/String")) (by decide) (by decide)))
  have F_79 := F_67.other W74 (Or.inr (slot_ne (Or.inl (own_w hw 73 rfl)) (Or.inr (own_w hw 75 rfl)) (by decide) (t := (.array (.object "java/lang/String"))) (t' := (.object "java/lang/String")) (by decide) (by decide)))
  have F_80 := F_68.same W74
  have F_81 := F_69.other W74 (Or.inr (slot_ne (Or.inr (own_w hw 77 rfl)) (Or.inr (own_w hw 75 rfl)) (by decide) (t := (.object "java/lang/String")) (t' := (.object "java/lang/String")) (by decide) (by decide)))
  have F_82 := F_70.other W74 (Or.inr (slot_ne (Or.inl (own_w hw 85 rfl)) (Or.inr (own_w hw 75 rfl)) (by decide) (t := .int) (t' := (.object "java/lang/String")) (by decide) (by decide)))
  have F_83 := F_71.other W74 (Or.inr (slot_ne (Or.inl (own_w hw 120 rfl)) (Or.inr (own_w hw 75 rfl)) (by decide) (t := .int) (t' := (.object "java/lang/String")) (by decide) (by decide)))
  have F_84 := F_72.other W74 (Or.inr (slot_ne (Or.inl (own_w hw 122 rfl)) (Or.inr (own_w hw 75 rfl)) (by decide) (t := .int) (t' := (.object "java/lang/String")) (by decide) (by decide)))
  have F_85 := F_73.wr W74
  refine own_f T74 (mkF m 35 #[.val (.ref a1), .val (.ref a2), .val (.ref a3)] []) st74 ?_
  refine own_f T74 (mkF m 36 #[.val (.ref a1), .val (.ref a2), .val (.ref a3)] [(.ref a1)]) (fun t k => XS.aloadN X74.here hx rfl (hb hby dpi_35) rfl rfl k) ?_
  refine own_f T74 (mkF m 37 #[.val (.ref a1), .val (.ref a2), .val (.ref a3)] [(.ref a3), (.ref a1)]) (fun t k => XS.aloadN X74.here hx rfl (hb hby dpi_36) rfl rfl k) ?_
  obtain ⟨T86, h86, X86, e86, W86, st86⟩ := putF X74 hx hZ hown (host := "") (Or.inl (own_w hw 76 rfl)) Via.refl e74 F_81 F_76 (Or.inr ⟨(own_w hw 77 rfl), rfl, hnm⟩) (own_w hw 6 rfl) (ty := (.object "java/lang/String")) (by decide) rfl rfl (g := (mkF m 37 #[.val (.ref a1), .val (.ref a2), .val (.ref a3)] [(.ref a3), (.ref a1)])) rfl rfl (hb hby dpi_37)
  have N86 := Fr.snoc X86 N74 ge_a1
  have Zs86 : n0 ≤ h86.size := by rw [W86.size]; exact Zs74
  have K86 : Keep h0 h86 [a1] := K74.wr W86 (Or.inl (by simp))
  have F_87 := F_75.wr W86 ge_a1
  have F_88 := F_76.wr W86
  have F_89 := F_77.other W86 (Or.inr (slot_ne (Or.inl (own_w hw 49 rfl)) (Or.inr (own_w hw 77 rfl)) (by decide) (t := .int) (t' := (.object "java/lang/String")) (by decide) (by decide)))
  have F_90 := F_78.other W86 (Or.inr (slot_ne (Or.inr (own_w hw 69 rfl)) (Or.inr (own_w hw 77 rfl)) (by decide) (t := (.object "java/lang/StringBuilder")) (t' := (.object "java/lang/String")) (by decide) (by decide)))
  have F_91 := F_79.other W86 (Or.inr (slot_ne (Or.inl (own_w hw 73 rfl)) (Or.inr (own_w hw 77 rfl)) (by decide) (t := (.array (.object "java/lang/String"))) (t' := (.object "java/lang/String")) (by decide) (by decide)))
  have F_92 := F_80.other W86 (Or.inr (slot_ne (Or.inr (own_w hw 75 rfl)) (Or.inr (own_w hw 77 rfl)) (by decide) (t := (.object "java/lang/String")) (t' := (.object "java/lang/String")) (by decide) (by decide)))
  have F_93 := F_81.same W86
  have F_94 := F_82.other W86 (Or.inr (slot_ne (Or.inl (own_w hw 85 rfl)) (Or.inr (own_w hw 77 rfl)) (by decide) (t := .int) (t' := (.object "java/lang/String")) (by decide) (by decide)))
  have F_95 := F_83.other W86 (Or.inr (slot_ne (Or.inl (own_w hw 120 rfl)) (Or.inr (own_w hw 77 rfl)) (by decide) (t := .int) (t' := (.object "java/lang/String")) (by decide) (by decide)))
  have F_96 := F_84.other W86 (Or.inr (slot_ne (Or.inl (own_w hw 122 rfl)) (Or.inr (own_w hw 77 rfl)) (by decide) (t := .int) (t' := (.object "java/lang/String")) (by decide) (by decide)))
  have F_97 := F_85.wr W86
  refine own_f T86 (mkF m 40 #[.val (.ref a1), .val (.ref a2), .val (.ref a3)] []) st86 ?_
  obtain ⟨fs, hr, hrun, hended, hW, hsame⟩ := X86.leave (v := none) (fun _ => rfl)
  refine ⟨_, _, X86.returnOut hx Bd.returns (hb hby dpi_40) hr, hrun, hended, _, _, rfl, ?_, ⟨_, rfl⟩, hW, hsame.mono (by decide) (by decide)⟩
  show Qpi Z a1 a2 a3 u_line u_escaped u_shared u_path u_text wc h0 n0 _ T86.heap _
  rw [e86]
  exact ⟨rfl, N86, K86, F_88, F_89, F_93, F_94, F_95, F_96⟩
theorem dli_0 : decode method_1_code 0 = .ok (.aload_n 0, 1) := by decide +kernel
theorem dli_1 : decode method_1_code 1 = .ok (.aload_n 1, 1) := by decide +kernel
theorem dli_2 : decode method_1_code 2 = .ok (.aload_n 2, 1) := by decide +kernel
theorem dli_3 : decode method_1_code 3 = .ok (.invokespecial 1, 3) := by decide +kernel
theorem dli_6 : decode method_1_code 6 = .ok (.return_, 1) := by decide +kernel
theorem pn_li : plainName "com/example/modelwright/modelwright/model/SourceParserNextLinePinLaw" = true := by first | (simp [plainName, overriddenIn]; done) | decide +kernel
theorem ef_li (m : MethodId) (x0 : Addr) (x1 : Addr) (x2 : Addr) : entryFrame m #[(.ref x0), (.ref x1), (.ref x2)] 3 = mkF m 0 #[.val (.ref x0), .val (.ref x1), .val (.ref x2)] [] := by first | (simp [entryFrame, mkF, argsToLocals, Value.category]; done) | rfl
def Qli (Z : State) (a1 : Addr) (a2 : Addr) (a3 : Addr) (u_line : Value) (u_escaped : Value) (u_shared : Value) (u_path : Value) (u_text : Value) (wc : Int32) (h0 : Heap) (n0 : Nat) (v : Option Value) (h : Heap) (L : List Loc) : Prop := v = none ∧ Fr n0 L ∧ Keep h0 h [a1] ∧ Exa Z h a1 "com/example/modelwright/modelwright/model/SourceParserNextLinePinLaw" ∧ Fld Z h a1 "com/example/modelwright/modelwright/model/SourceParser" "line" "I" (.int (1 : Int32)) ∧ Fld Z h a1 "com/example/modelwright/modelwright/model/SourceParser" "text" "Ljava/lang/String;" (.ref a3) ∧ Fld Z h a1 "com/example/modelwright/modelwright/model/SourceParser" "pos" "I" (.int 0) ∧ Fld Z h a1 "com/example/modelwright/modelwright/model/SourceParser" "lineStart" "I" (.int 0) ∧ Fld Z h a1 "com/example/modelwright/modelwright/model/SourceParser" "lowSurrogatesOnLine" "I" (.int 0)
set_option maxRecDepth 65536 in
set_option maxHeartbeats 40000000 in
theorem rmli (l : Launch) (Z : State) (a0 : Array Value) (hw : ∀ d ∈ tables_1, d.before a0 Z = true) (ws : List Jvm.Cond) (a1 : Addr) (a2 : Addr) (a3 : Addr) (u_line : Value) (u_escaped : Value) (u_shared : Value) (u_path : Value) (u_text : Value) (wc : Int32) (h0 : Heap) (n0 : Nat) (Z0 : n0 ≤ h0.size) (F0 : Old Z n0 h0) (F1 : Exa Z h0 a1 "com/example/modelwright/modelwright/model/SourceParserNextLinePinLaw") (F2 : Fld Z h0 a1 "com/example/modelwright/modelwright/model/SourceParser" "line" "I" u_line) (F3 : Fld Z h0 a1 "com/example/modelwright/modelwright/model/SourceParser" "escaped" "Ljava/lang/StringBuilder;" u_escaped) (F4 : Fld Z h0 a1 "com/example/modelwright/modelwright/model/SourceParser" "shared" "[Ljava/lang/String;" u_shared) (F5 : Fld Z h0 a1 "com/example/modelwright/modelwright/model/SourceParser" "path" "Ljava/lang/String;" u_path) (F6 : Fld Z h0 a1 "com/example/modelwright/modelwright/model/SourceParser" "text" "Ljava/lang/String;" u_text) (F7 : Fld Z h0 a1 "com/example/modelwright/modelwright/model/SourceParser" "pos" "I" (.int 0)) (F8 : Fld Z h0 a1 "com/example/modelwright/modelwright/model/SourceParser" "lineStart" "I" (.int 0)) (F9 : Fld Z h0 a1 "com/example/modelwright/modelwright/model/SourceParser" "lowSurrogatesOnLine" "I" (.int 0)) (ge_a1 : n0 ≤ a1) (SC : Sta Z Z.heap "java/lang/String" "COMPACT_STRINGS" "Z" (.int wc)) (HWC : ¬ (wc = 0)) :
    MetFree l (⟨"com/example/modelwright/modelwright/model/SourceParserNextLinePinLaw", "<init>", "(Ljava/lang/String;Ljava/lang/String;)V"⟩ : MethodName) (head1 (Jvm.Cond.code (⟨"com/example/modelwright/modelwright/model/SourceParserNextLinePinLaw", "<init>", "(Ljava/lang/String;Ljava/lang/String;)V"⟩ : MethodName) method_1_code 3 none :: ws) ({ frames := 4, cells := 3, slots := 280, locals := 54 } : Room)) (fun a U => a = #[(.ref a1), (.ref a2), (.ref a3)] ∧ Z.Warmed39 U.vm ∧ U.heap = h0) (fun _ _ _ _ _ => True) (fun _ U o U' => ∃ v L, o = .returned v ∧ Qli Z a1 a2 a3 u_line u_escaped u_shared u_path u_text wc h0 n0 v U'.heap L ∧ FrameEnd U o U' L ({ frames := 4, cells := 3, slots := 280, locals := 54 } : Room).cells ({ frames := 4, cells := 3, slots := 280, locals := 54 } : Room).slots) := by
  refine MetFree.of_bodySF (plainFor_of_name pn_li) hisR ?_
  intro p e s m args below meth c s₁ Bd hml0 hP hK
  obtain ⟨rfl, hZ, hh⟩ := hP
  have hx := Bd.exec
  have hby := Bd.bytes
  have hml : c.maxLocals = 3 := hml0
  have hown : s.vm.findClass "com/example/modelwright/modelwright/model/SourceParserNextLinePinLaw" = some m.cls := findClass_of_methodNamed Bd.named
  have hnm := (name_of_methodNamed Bd.named Bd.method).1
  have X0 : Stand p l e ({ frames := 4, cells := 3, slots := 280, locals := 54 } : Room) s m #[(.ref a1), (.ref a2), (.ref a3)] below meth c s₁ [] 0 0 := Stand.of_body Bd
  have e0 : s₁.heap = h0 := by rw [← hh, Bd.state]; rfl
  have N0 := Fr.nil n0
  show own_R p.tables e below (own_P s (Qli Z a1 a2 a3 u_line u_escaped u_shared u_path u_text wc h0 n0) ({ frames := 4, cells := 3, slots := 280, locals := 54 } : Room).cells ({ frames := 4, cells := 3, slots := 280, locals := 54 } : Room).slots) (s₁.setTop (entryFrame m #[(.ref a1), (.ref a2), (.ref a3)] 3))
  refine own_f s₁ (mkF m 0 #[.val (.ref a1), .val (.ref a2), .val (.ref a3)] []) (fun t k => castTop (ef_li m a1 a2 a3) k) ?_
  refine own_f s₁ (mkF m 1 #[.val (.ref a1), .val (.ref a2), .val (.ref a3)] [(.ref a1)]) (fun t k => XS.aloadN X0.here hx rfl (hb hby dli_0) rfl rfl k) ?_
  refine own_f s₁ (mkF m 2 #[.val (.ref a1), .val (.ref a2), .val (.ref a3)] [(.ref a2), (.ref a1)]) (fun t k => XS.aloadN X0.here hx rfl (hb hby dli_1) rfl rfl k) ?_
  refine own_f s₁ (mkF m 3 #[.val (.ref a1), .val (.ref a2), .val (.ref a3)] [(.ref a3), (.ref a2), (.ref a1)]) (fun t k => XS.aloadN X0.here hx rfl (hb hby dli_2) rfl rfl k) ?_
  obtain ⟨_, _, ⟨T1, Lq1, kq_1, nq_1⟩, -, X1, ⟨Lc1, hQ1, lq1, yq1, zq1⟩, st1⟩ := X0.specialBack hx (y := (⟨"com/example/modelwright/modelwright/model/SourceParser", "<init>", "(Ljava/lang/String;Ljava/lang/String;)V"⟩ : MethodName)) rfl hown (mvT hZ (own_w hw 42 rfl)) (mvT hZ (own_w hw 43 rfl)) (mvT hZ (own_w hw 46 rfl)) (by decide) (backOf (W := 0) (rmpi l Z a0 hw [] a1 a2 a3 _ _ _ _ _ _ h0 n0 Z0 F0 F1 F2 F3 F4 F5 F6 F7 F8 F9 ge_a1 SC HWC) hZ (own_w hw 46 rfl) (own_w hw 45 rfl) (by decide) (by decide)) (g := (mkF m 3 #[.val (.ref a1), .val (.ref a2), .val (.ref a3)] [(.ref a3), (.ref a2), (.ref a1)])) rfl (by rw [hml]; rfl) (Steps.refl _) (a := a1) (argsL := [(.ref a2), (.ref a3)]) (rest := []) (lenOf pd__Ljava_lang_String_Ljava_lang_String_V rfl) rfl (by show 2 * 0 + _ ≤ _; exact Nat.le_of_eq rfl) (hb hby dli_3) (fun _ _ => ⟨rfl, e0, (by decide : 0 + 3 ≤ _), (by decide : 0 + 280 ≤ _)⟩)
  dsimp only [Pt.U, Pt.locs, Pt.cells, Pt.slots] at X1 lq1 yq1 zq1 st1 hQ1
  subst lq1 yq1 zq1
  obtain ⟨h1, e1⟩ : ∃ z, T1.heap = z := ⟨_, rfl⟩
  rw [e1] at hQ1
  unfold Qpi at hQ1
  obtain ⟨rfl, Nq1, qh1, G1_0, G1_1, G1_2, G1_3, G1_4, G1_5⟩ := hQ1
  have N1 := Fr.app N0 Nq1
  have Zs1 : n0 ≤ h1.size := Nat.le_trans Z0 qh1.1
  have F_2 := F0.keep qh1 (allS ge_a1 all0)
  have K1 : Keep h0 h1 [a1] := (Keep.refl h0 [a1]).trans qh1 (allS (Or.inl (by simp)) all0)
  refine own_g T1 (mkF m 6 #[.val (.ref a1), .val (.ref a2), .val (.ref a3)] []) st1 ?_
  obtain ⟨fs, hr, hrun, hended, hW, hsame⟩ := X1.leave (v := none) (fun _ => rfl)
  refine ⟨_, _, X1.returnOut hx Bd.returns (hb hby dli_6) hr, hrun, hended, _, _, rfl, ?_, ⟨_, rfl⟩, hW, hsame.mono (by decide) (by decide)⟩
  show Qli Z a1 a2 a3 u_line u_escaped u_shared u_path u_text wc h0 n0 _ T1.heap _
  rw [e1]
  exact ⟨rfl, N1, K1, G1_0, G1_1, G1_2, G1_3, G1_4, G1_5⟩
theorem dad0_0 : decode prog_77_method_5_code 0 = .ok (.aload_n 0, 1) := by decide +kernel
theorem dad0_1 : decode prog_77_method_5_code 1 = .ok (.getfield 30, 3) := by decide +kernel
theorem dad0_4 : decode prog_77_method_5_code 4 = .ok (.aload_n 0, 1) := by decide +kernel
theorem dad0_5 : decode prog_77_method_5_code 5 = .ok (.getfield 33, 3) := by decide +kernel
theorem dad0_8 : decode prog_77_method_5_code 8 = .ok (.invokevirtual 40, 3) := by decide +kernel
theorem dad0_11 : decode prog_77_method_5_code 11 = .ok (.invokestatic 50, 3) := by decide +kernel
theorem dad0_14 : decode prog_77_method_5_code 14 = .ok (.ifCond .eq 13, 3) := by decide +kernel
theorem dad0_17 : decode prog_77_method_5_code 17 = .ok (.aload_n 0, 1) := by decide +kernel
theorem dad0_18 : decode prog_77_method_5_code 18 = .ok (.dup, 1) := by decide +kernel
theorem dad0_19 : decode prog_77_method_5_code 19 = .ok (.getfield 47, 3) := by decide +kernel
theorem dad0_22 : decode prog_77_method_5_code 22 = .ok (.iconst 1, 1) := by decide +kernel
theorem dad0_23 : decode prog_77_method_5_code 23 = .ok (.iadd, 1) := by decide +kernel
theorem dad0_24 : decode prog_77_method_5_code 24 = .ok (.putfield 47, 3) := by decide +kernel
theorem dad0_27 : decode prog_77_method_5_code 27 = .ok (.aload_n 0, 1) := by decide +kernel
theorem dad0_28 : decode prog_77_method_5_code 28 = .ok (.dup, 1) := by decide +kernel
theorem dad0_29 : decode prog_77_method_5_code 29 = .ok (.getfield 33, 3) := by decide +kernel
theorem dad0_32 : decode prog_77_method_5_code 32 = .ok (.iconst 1, 1) := by decide +kernel
theorem dad0_33 : decode prog_77_method_5_code 33 = .ok (.iadd, 1) := by decide +kernel
theorem dad0_34 : decode prog_77_method_5_code 34 = .ok (.putfield 33, 3) := by decide +kernel
theorem dad0_37 : decode prog_77_method_5_code 37 = .ok (.return_, 1) := by decide +kernel
theorem pn_ad0 : plainName "com/example/modelwright/modelwright/model/SourceParser" = true := by first | (simp [plainName, overriddenIn]; done) | decide +kernel
theorem ef_ad0 (m : MethodId) (x0 : Addr) : entryFrame m #[(.ref x0)] 1 = mkF m 0 #[.val (.ref x0)] [] := by first | (simp [entryFrame, mkF, argsToLocals, Value.category]; done) | rfl
def Qad0 (Z : State) (a1 : Addr) (a3 : Addr) (lw : Int32) (ll : Int32) (ls : Int32) (c0 : Int32) (c2 : Int32) (wc : Int32) (vf : Value) (mt : Nat) (h0 : Heap) (n0 : Nat) (v : Option Value) (h : Heap) (L : List Loc) : Prop := v = none ∧ Fr n0 L ∧ Keep h0 h [a1] ∧ Exa Z h a1 "com/example/modelwright/modelwright/model/SourceParserNextLinePinLaw" ∧ Fld Z h a1 "com/example/modelwright/modelwright/model/SourceParser" "text" "Ljava/lang/String;" (.ref a3) ∧ Fld Z h a1 "com/example/modelwright/modelwright/model/SourceParser" "line" "I" (.int ll) ∧ Fld Z h a1 "com/example/modelwright/modelwright/model/SourceParser" "lineStart" "I" (.int ls) ∧ Fld Z h a1 "com/example/modelwright/modelwright/model/SourceParser" "pos" "I" (.int (1 : Int32)) ∧ Fld Z h a1 "com/example/modelwright/modelwright/model/SourceParser" "lowSurrogatesOnLine" "I" (.int (lw + own_low c0))
set_option maxRecDepth 65536 in
set_option maxHeartbeats 40000000 in
theorem rmad0 (l : Launch) (Z : State) (a0 : Array Value) (hw : ∀ d ∈ tables_1, d.before a0 Z = true) (ws : List Jvm.Cond) (a1 : Addr) (a3 : Addr) (lw : Int32) (ll : Int32) (ls : Int32) (c0 : Int32) (c2 : Int32) (wc : Int32) (vf : Value) (mt : Nat) (h0 : Heap) (n0 : Nat) (Z0 : n0 ≤ h0.size) (F0 : Old Z n0 h0) (F1 : Exa Z h0 a1 "com/example/modelwright/modelwright/model/SourceParserNextLinePinLaw") (F2 : Fld Z h0 a1 "com/example/modelwright/modelwright/model/SourceParser" "text" "Ljava/lang/String;" (.ref a3)) (F3 : Fld Z h0 a1 "com/example/modelwright/modelwright/model/SourceParser" "line" "I" (.int ll)) (F4 : Fld Z h0 a1 "com/example/modelwright/modelwright/model/SourceParser" "lineStart" "I" (.int ls)) (F5 : Fld Z h0 a1 "com/example/modelwright/modelwright/model/SourceParser" "pos" "I" (.int (0 : Int32))) (F6 : Fld Z h0 a1 "com/example/modelwright/modelwright/model/SourceParser" "lowSurrogatesOnLine" "I" (.int lw)) (ge_a1 : n0 ≤ a1) (G : own_T Z h0 a3 c0 c2 mt) (SC : Sta Z Z.heap "java/lang/String" "COMPACT_STRINGS" "Z" (.int wc)) (HWC : ¬ (wc = 0)) (SF : Sta Z Z.heap "jdk/internal/util/Preconditions" "SIOOBE_FORMATTER" "Ljava/util/function/BiFunction;" vf) (hvf : vf.isRef = true) (SH : Sta Z Z.heap "java/lang/StringUTF16" "HI_BYTE_SHIFT" "I" (.int (0 : Int32))) (SL : Sta Z Z.heap "java/lang/StringUTF16" "LO_BYTE_SHIFT" "I" (.int (8 : Int32))) (SA : Sta Z Z.heap "java/lang/StringUTF16" "$assertionsDisabled" "Z" (.int (1 : Int32))) (hwc : own_W c0) :
    MetFree l (⟨"com/example/modelwright/modelwright/model/SourceParser", "advance", "()V"⟩ : MethodName) (head1 (Jvm.Cond.code (⟨"com/example/modelwright/modelwright/model/SourceParser", "advance", "()V"⟩ : MethodName) prog_77_method_5_code 1 none :: ws) ({ frames := 5, cells := 0, slots := 0, locals := 66 } : Room)) (fun a U => a = #[(.ref a1)] ∧ Z.Warmed39 U.vm ∧ U.heap = h0) (fun _ _ _ _ _ => True) (fun _ U o U' => ∃ v L, o = .returned v ∧ Qad0 Z a1 a3 lw ll ls c0 c2 wc vf mt h0 n0 v U'.heap L ∧ FrameEnd U o U' L ({ frames := 5, cells := 0, slots := 0, locals := 66 } : Room).cells ({ frames := 5, cells := 0, slots := 0, locals := 66 } : Room).slots) := by
  refine MetFree.of_bodySF (plainFor_of_name pn_ad0) hisR ?_
  intro p e s m args below meth c s₁ Bd hml0 hP hK
  obtain ⟨rfl, hZ, hh⟩ := hP
  have hx := Bd.exec
  have hby := Bd.bytes
  have hml : c.maxLocals = 1 := hml0
  have hown : s.vm.findClass "com/example/modelwright/modelwright/model/SourceParser" = some m.cls := findClass_of_methodNamed Bd.named
  have hnm := (name_of_methodNamed Bd.named Bd.method).1
  have X0 : Stand p l e ({ frames := 5, cells := 0, slots := 0, locals := 66 } : Room) s m #[(.ref a1)] below meth c s₁ [] 0 0 := Stand.of_body Bd
  have e0 : s₁.heap = h0 := by rw [← hh, Bd.state]; rfl
  have N0 := Fr.nil n0
  show own_R p.tables e below (own_P s (Qad0 Z a1 a3 lw ll ls c0 c2 wc vf mt h0 n0) ({ frames := 5, cells := 0, slots := 0, locals := 66 } : Room).cells ({ frames := 5, cells := 0, slots := 0, locals := 66 } : Room).slots) (s₁.setTop (entryFrame m #[(.ref a1)] 1))
  refine own_f s₁ (mkF m 0 #[.val (.ref a1)] []) (fun t k => castTop (ef_ad0 m a1) k) ?_
  obtain ⟨_, _, _, _, _, TE, -⟩ := id G
  refine own_f s₁ (mkF m 1 #[.val (.ref a1)] [(.ref a1)]) (fun t k => XS.aloadN X0.here hx rfl (hb hby dad0_0) rfl rfl k) ?_
  obtain ⟨T1, X1, e1, st1⟩ := getF X0 hx hZ hown (host := "") (Or.inl (own_w hw 76 rfl)) Via.refl e0 F2 (g := (mkF m 1 #[.val (.ref a1)] [(.ref a1)])) rfl rfl (hb hby dad0_1)
  refine own_f T1 (mkF m 4 #[.val (.ref a1)] [(.ref a3)]) st1 ?_
  refine own_f T1 (mkF m 5 #[.val (.ref a1)] [(.ref a1), (.ref a3)]) (fun t k => XS.aloadN X1.here hx rfl (hb hby dad0_4) rfl rfl k) ?_
  obtain ⟨T2, X2, e2, st2⟩ := getF X1 hx hZ hown (host := "") (Or.inl (own_w hw 84 rfl)) Via.refl e1 F5 (g := (mkF m 5 #[.val (.ref a1)] [(.ref a1), (.ref a3)])) rfl rfl (hb hby dad0_5)
  refine own_f T2 (mkF m 8 #[.val (.ref a1)] [(.int (0 : Int32)), (.ref a3)]) st2 ?_
  obtain ⟨cq3, kq3, qa3, qb3, qc3⟩ := isOf hZ e2 TE
  obtain ⟨_, _, ⟨T3, Lq3, kq_3, nq_3⟩, -, X3, ⟨Lc3, hQ3, lq3, yq3, zq3⟩, st3⟩ := X2.virtualBack hx (y := (⟨"java/lang/String", "charAt", "(I)C"⟩ : MethodName)) (z := (⟨"java/lang/String", "charAt", "(I)C"⟩ : MethodName)) hown (mvT hZ (own_w hw 86 rfl)) (mvT hZ (own_w hw 87 rfl)) (notFace_of_selects (args := #[]) (mvT hZ (own_w hw 89 rfl))) (mvT hZ (own_w hw 89 rfl)) (mvT hZ (own_w hw 88 rfl)) (by decide) (backOf (W := 0) (rmca0 l Z a0 hw [] a3 c0 c2 wc vf mt h0 n0 Z0 F0 G SC HWC SF hvf SH SL SA hwc) hZ (own_w hw 90 rfl) (own_w hw 8 rfl) (by decide) (by decide)) qa3 qc3 (g := (mkF m 8 #[.val (.ref a1)] [(.int (0 : Int32)), (.ref a3)])) rfl (by rw [hml]; rfl) (Steps.refl _) (argsL := [(.int (0 : Int32))]) (rest := []) (lenOf pd__I_C rfl) rfl (by show 2 * 0 + _ ≤ _; exact Nat.le_of_eq rfl) (hb hby dad0_8) (fun _ _ => ⟨rfl, e2, (by decide : 0 + 0 ≤ _), (by decide : 0 + 0 ≤ _)⟩)
  dsimp only [Pt.U, Pt.locs, Pt.cells, Pt.slots] at X3 lq3 yq3 zq3 st3 hQ3
  subst lq3 yq3 zq3
  obtain ⟨h3, e3⟩ : ∃ z, T3.heap = z := ⟨_, rfl⟩
  rw [e3] at hQ3
  unfold Qca at hQ3
  obtain ⟨rfl, Nq3, q3⟩ := hQ3
  have N3 := Fr.app N0 Nq3
  rw [q3] at e3
  refine own_g T3 (mkF m 11 #[.val (.ref a1)] [(.int c0)]) st3 ?_
  obtain ⟨_, _, ⟨T4, Lq4, kq_4, nq_4⟩, -, X4, ⟨Lc4, hQ4, lq4, yq4, zq4⟩, st4⟩ := Jvm.LawKit.callS X3 hx (y := (⟨"java/lang/Character", "isLowSurrogate", "(C)Z"⟩ : MethodName)) hown (mvT hZ (own_w hw 108 rfl)) (mvT hZ (own_w hw 109 rfl)) (mvT hZ (own_w hw 110 rfl)) (mvT hZ (own_w hw 111 rfl)) (by decide) (backOf (W := 0) (rmil l Z a0 hw [] c0 h0 n0 Z0 ) hZ (own_w hw 111 rfl) (own_w hw 110 rfl) (by decide) (by decide)) (g := (mkF m 11 #[.val (.ref a1)] [(.int c0)])) rfl (by rw [hml]; rfl) (argsL := [(.int c0)]) (rest := []) (lenOf pd__C_Z rfl) rfl (by show 2 * 0 + _ ≤ _; exact Nat.le_of_eq rfl) (hb hby dad0_11) (fun _ _ => ⟨rfl, e3, (by decide : 0 + 0 + 0 ≤ _), (by decide : 0 + 0 + 0 ≤ _)⟩)
  dsimp only [Pt.U, Pt.locs, Pt.cells, Pt.slots] at X4 lq4 yq4 zq4 st4 hQ4
  subst lq4 yq4 zq4
  obtain ⟨h4, e4⟩ : ∃ z, T4.heap = z := ⟨_, rfl⟩
  rw [e4] at hQ4
  unfold Qil at hQ4
  obtain ⟨rfl, Nq4, qh4⟩ := hQ4
  have N4 := Fr.app N3 Nq4
  rw [qh4] at e4
  refine own_f T4 (mkF m 14 #[.val (.ref a1)] [(.int (own_low c0))]) st4 ?_
  by_cases hc5 : (own_low c0) = 0
  · skip
    refine own_f T4 (mkF m 27 #[.val (.ref a1)] []) (fun t k => XS.ifYes X4.here hx rfl (pc0 := 14) (pc' := 27) rfl (hb hby dad0_14) rfl (XT.i0_eq_t hc5) (by decide) (by decide) k) ?_
    refine own_f T4 (mkF m 28 #[.val (.ref a1)] [(.ref a1)]) (fun t k => XS.aloadN X4.here hx rfl (hb hby dad0_27) rfl rfl k) ?_
    refine own_f T4 (mkF m 29 #[.val (.ref a1)] [(.ref a1), (.ref a1)]) (fun t k => XS.dup X4.here hx rfl (hb hby dad0_28) rfl rfl k) ?_
    obtain ⟨T6, X6, e6, st6⟩ := getF X4 hx hZ hown (host := "") (Or.inl (own_w hw 84 rfl)) Via.refl e4 F5 (g := (mkF m 29 #[.val (.ref a1)] [(.ref a1), (.ref a1)])) rfl rfl (hb hby dad0_29)
    refine own_f T6 (mkF m 32 #[.val (.ref a1)] [(.int (0 : Int32)), (.ref a1)]) st6 ?_
    refine own_f T6 (mkF m 33 #[.val (.ref a1)] [(.int (1 : Int32)), (.int (0 : Int32)), (.ref a1)]) (fun t k => XT.iconstV X6.here hx rfl (1 : Int32) (hb hby dad0_32) (by decide) k) ?_
    refine own_f T6 (mkF m 34 #[.val (.ref a1)] [(.int ((0 : Int32) + (1 : Int32))), (.ref a1)]) (fun t k => XS.iadd X6.here hx rfl (hb hby dad0_33) rfl k) ?_
    rw [show ((0 : Int32) + (1 : Int32)) = (1 : Int32) from by decide]
    obtain ⟨T7, h7, X7, e7, W7, st7⟩ := putF X6 hx hZ hown (host := "") (Or.inl (own_w hw 84 rfl)) Via.refl e6 F5 F1 (Or.inl (own_w hw 85 rfl)) (own_w hw 6 rfl) (ty := .int) (by decide) rfl rfl (g := (mkF m 34 #[.val (.ref a1)] [(.int (1 : Int32)), (.ref a1)])) rfl rfl (hb hby dad0_34)
    have N7 := Fr.snoc X7 N4 ge_a1
    have Zs7 : n0 ≤ h7.size := by rw [W7.size]; exact Z0
    have K7 : Keep h0 h7 [a1] := (Keep.refl h0 [a1]).wr W7 (Or.inl (by simp))
    have F_8 := F0.wr W7 ge_a1
    have F_9 := F1.wr W7
    have F_10 := F2.other W7 (Or.inr (slot_ne (Or.inr (own_w hw 77 rfl)) (Or.inl (own_w hw 85 rfl)) (by decide) (t := (.object "java/lang/String")) (t' := .int) (by decide) (by decide)))
    have F_11 := F3.other W7 (Or.inr (slot_ne (Or.inl (own_w hw 49 rfl)) (Or.inl (own_w hw 85 rfl)) (by decide) (t := .int) (t' := .int) (by decide) (by decide)))
    have F_12 := F4.other W7 (Or.inr (slot_ne (Or.inl (own_w hw 120 rfl)) (Or.inl (own_w hw 85 rfl)) (by decide) (t := .int) (t' := .int) (by decide) (by decide)))
    have F_13 := F5.same W7
    have F_14 := F6.other W7 (Or.inr (slot_ne (Or.inl (own_w hw 122 rfl)) (Or.inl (own_w hw 85 rfl)) (by decide) (t := .int) (t' := .int) (by decide) (by decide)))
    refine own_f T7 (mkF m 37 #[.val (.ref a1)] []) st7 ?_
    obtain ⟨fs, hr, hrun, hended, hW, hsame⟩ := X7.leave (v := none) (fun _ => rfl)
    refine ⟨_, _, X7.returnOut hx Bd.returns (hb hby dad0_37) hr, hrun, hended, _, _, rfl, ?_, ⟨_, rfl⟩, hW, hsame.mono (by decide) (by decide)⟩
    show Qad0 Z a1 a3 lw ll ls c0 c2 wc vf mt h0 n0 _ T7.heap _
    rw [e7]
    exact ⟨rfl, N7, K7, F_9, F_10, F_11, F_12, F_13, (by rw [hc5, own_add0]; exact F_14)⟩
  · skip
    refine own_f T4 (mkF m 17 #[.val (.ref a1)] []) (fun t k => XS.ifNo X4.here hx rfl (hb hby dad0_14) rfl (XT.i0_eq_f hc5) k) ?_
    refine own_f T4 (mkF m 18 #[.val (.ref a1)] [(.ref a1)]) (fun t k => XS.aloadN X4.here hx rfl (hb hby dad0_17) rfl rfl k) ?_
    refine own_f T4 (mkF m 19 #[.val (.ref a1)] [(.ref a1), (.ref a1)]) (fun t k => XS.dup X4.here hx rfl (hb hby dad0_18) rfl rfl k) ?_
    obtain ⟨T15, X15, e15, st15⟩ := getF X4 hx hZ hown (host := "") (Or.inl (own_w hw 121 rfl)) Via.refl e4 F6 (g := (mkF m 19 #[.val (.ref a1)] [(.ref a1), (.ref a1)])) rfl rfl (hb hby dad0_19)
    refine own_f T15 (mkF m 22 #[.val (.ref a1)] [(.int lw), (.ref a1)]) st15 ?_
    refine own_f T15 (mkF m 23 #[.val (.ref a1)] [(.int (1 : Int32)), (.int lw), (.ref a1)]) (fun t k => XT.iconstV X15.here hx rfl (1 : Int32) (hb hby dad0_22) (by decide) k) ?_
    refine own_f T15 (mkF m 24 #[.val (.ref a1)] [(.int (lw + (1 : Int32))), (.ref a1)]) (fun t k => XS.iadd X15.here hx rfl (hb hby dad0_23) rfl k) ?_
    obtain ⟨T16, h16, X16, e16, W16, st16⟩ := putF X15 hx hZ hown (host := "") (Or.inl (own_w hw 121 rfl)) Via.refl e15 F6 F1 (Or.inl (own_w hw 122 rfl)) (own_w hw 6 rfl) (ty := .int) (by decide) rfl rfl (g := (mkF m 24 #[.val (.ref a1)] [(.int (lw + (1 : Int32))), (.ref a1)])) rfl rfl (hb hby dad0_24)
    have N16 := Fr.snoc X16 N4 ge_a1
    have Zs16 : n0 ≤ h16.size := by rw [W16.size]; exact Z0
    have K16 : Keep h0 h16 [a1] := (Keep.refl h0 [a1]).wr W16 (Or.inl (by simp))
    have F_17 := F0.wr W16 ge_a1
    have F_18 := F1.wr W16
    have F_19 := F2.other W16 (Or.inr (slot_ne (Or.inr (own_w hw 77 rfl)) (Or.inl (own_w hw 122 rfl)) (by decide) (t := (.object "java/lang/String")) (t' := .int) (by decide) (by decide)))
    have F_20 := F3.other W16 (Or.inr (slot_ne (Or.inl (own_w hw 49 rfl)) (Or.inl (own_w hw 122 rfl)) (by decide) (t := .int) (t' := .int) (by decide) (by decide)))
    have F_21 := F4.other W16 (Or.inr (slot_ne (Or.inl (own_w hw 120 rfl)) (Or.inl (own_w hw 122 rfl)) (by decide) (t := .int) (t' := .int) (by decide) (by decide)))
    have F_22 := F5.other W16 (Or.inr (slot_ne (Or.inl (own_w hw 85 rfl)) (Or.inl (own_w hw 122 rfl)) (by decide) (t := .int) (t' := .int) (by decide) (by decide)))
    have F_23 := F6.same W16
    refine own_f T16 (mkF m 27 #[.val (.ref a1)] []) st16 ?_
    refine own_f T16 (mkF m 28 #[.val (.ref a1)] [(.ref a1)]) (fun t k => XS.aloadN X16.here hx rfl (hb hby dad0_27) rfl rfl k) ?_
    refine own_f T16 (mkF m 29 #[.val (.ref a1)] [(.ref a1), (.ref a1)]) (fun t k => XS.dup X16.here hx rfl (hb hby dad0_28) rfl rfl k) ?_
    obtain ⟨T24, X24, e24, st24⟩ := getF X16 hx hZ hown (host := "") (Or.inl (own_w hw 84 rfl)) Via.refl e16 F_22 (g := (mkF m 29 #[.val (.ref a1)] [(.ref a1), (.ref a1)])) rfl rfl (hb hby dad0_29)
    refine own_f T24 (mkF m 32 #[.val (.ref a1)] [(.int (0 : Int32)), (.ref a1)]) st24 ?_
    refine own_f T24 (mkF m 33 #[.val (.ref a1)] [(.int (1 : Int32)), (.int (0 : Int32)), (.ref a1)]) (fun t k => XT.iconstV X24.here hx rfl (1 : Int32) (hb hby dad0_32) (by decide) k) ?_
    refine own_f T24 (mkF m 34 #[.val (.ref a1)] [(.int ((0 : Int32) + (1 : Int32))), (.ref a1)]) (fun t k => XS.iadd X24.here hx rfl (hb hby dad0_33) rfl k) ?_
    rw [show ((0 : Int32) + (1 : Int32)) = (1 : Int32) from by decide]
    obtain ⟨T25, h25, X25, e25, W25, st25⟩ := putF X24 hx hZ hown (host := "") (Or.inl (own_w hw 84 rfl)) Via.refl e24 F_22 F_18 (Or.inl (own_w hw 85 rfl)) (own_w hw 6 rfl) (ty := .int) (by decide) rfl rfl (g := (mkF m 34 #[.val (.ref a1)] [(.int (1 : Int32)), (.ref a1)])) rfl rfl (hb hby dad0_34)
    have N25 := Fr.snoc X25 N16 ge_a1
    have Zs25 : n0 ≤ h25.size := by rw [W25.size]; exact Zs16
    have K25 : Keep h0 h25 [a1] := K16.wr W25 (Or.inl (by simp))
    have F_26 := F_17.wr W25 ge_a1
    have F_27 := F_18.wr W25
    have F_28 := F_19.other W25 (Or.inr (slot_ne (Or.inr (own_w hw 77 rfl)) (Or.inl (own_w hw 85 rfl)) (by decide) (t := (.object "java/lang/String")) (t' := .int) (by decide) (by decide)))
    have F_29 := F_20.other W25 (Or.inr (slot_ne (Or.inl (own_w hw 49 rfl)) (Or.inl (own_w hw 85 rfl)) (by decide) (t := .int) (t' := .int) (by decide) (by decide)))
    have F_30 := F_21.other W25 (Or.inr (slot_ne (Or.inl (own_w hw 120 rfl)) (Or.inl (own_w hw 85 rfl)) (by decide) (t := .int) (t' := .int) (by decide) (by decide)))
    have F_31 := F_22.same W25
    have F_32 := F_23.other W25 (Or.inr (slot_ne (Or.inl (own_w hw 122 rfl)) (Or.inl (own_w hw 85 rfl)) (by decide) (t := .int) (t' := .int) (by decide) (by decide)))
    refine own_f T25 (mkF m 37 #[.val (.ref a1)] []) st25 ?_
    obtain ⟨fs, hr, hrun, hended, hW, hsame⟩ := X25.leave (v := none) (fun _ => rfl)
    refine ⟨_, _, X25.returnOut hx Bd.returns (hb hby dad0_37) hr, hrun, hended, _, _, rfl, ?_, ⟨_, rfl⟩, hW, hsame.mono (by decide) (by decide)⟩
    show Qad0 Z a1 a3 lw ll ls c0 c2 wc vf mt h0 n0 _ T25.heap _
    rw [e25]
    exact ⟨rfl, N25, K25, F_27, F_28, F_29, F_30, F_31, (by rw [own_low1 hc5]; exact F_32)⟩
theorem dad2_0 : decode prog_77_method_5_code 0 = .ok (.aload_n 0, 1) := by decide +kernel
theorem dad2_1 : decode prog_77_method_5_code 1 = .ok (.getfield 30, 3) := by decide +kernel
theorem dad2_4 : decode prog_77_method_5_code 4 = .ok (.aload_n 0, 1) := by decide +kernel
theorem dad2_5 : decode prog_77_method_5_code 5 = .ok (.getfield 33, 3) := by decide +kernel
theorem dad2_8 : decode prog_77_method_5_code 8 = .ok (.invokevirtual 40, 3) := by decide +kernel
theorem dad2_11 : decode prog_77_method_5_code 11 = .ok (.invokestatic 50, 3) := by decide +kernel
theorem dad2_14 : decode prog_77_method_5_code 14 = .ok (.ifCond .eq 13, 3) := by decide +kernel
theorem dad2_17 : decode prog_77_method_5_code 17 = .ok (.aload_n 0, 1) := by decide +kernel
theorem dad2_18 : decode prog_77_method_5_code 18 = .ok (.dup, 1) := by decide +kernel
theorem dad2_19 : decode prog_77_method_5_code 19 = .ok (.getfield 47, 3) := by decide +kernel
theorem dad2_22 : decode prog_77_method_5_code 22 = .ok (.iconst 1, 1) := by decide +kernel
theorem dad2_23 : decode prog_77_method_5_code 23 = .ok (.iadd, 1) := by decide +kernel
theorem dad2_24 : decode prog_77_method_5_code 24 = .ok (.putfield 47, 3) := by decide +kernel
theorem dad2_27 : decode prog_77_method_5_code 27 = .ok (.aload_n 0, 1) := by decide +kernel
theorem dad2_28 : decode prog_77_method_5_code 28 = .ok (.dup, 1) := by decide +kernel
theorem dad2_29 : decode prog_77_method_5_code 29 = .ok (.getfield 33, 3) := by decide +kernel
theorem dad2_32 : decode prog_77_method_5_code 32 = .ok (.iconst 1, 1) := by decide +kernel
theorem dad2_33 : decode prog_77_method_5_code 33 = .ok (.iadd, 1) := by decide +kernel
theorem dad2_34 : decode prog_77_method_5_code 34 = .ok (.putfield 33, 3) := by decide +kernel
theorem dad2_37 : decode prog_77_method_5_code 37 = .ok (.return_, 1) := by decide +kernel
theorem pn_ad2 : plainName "com/example/modelwright/modelwright/model/SourceParser" = true := by first | (simp [plainName, overriddenIn]; done) | decide +kernel
theorem ef_ad2 (m : MethodId) (x0 : Addr) : entryFrame m #[(.ref x0)] 1 = mkF m 0 #[.val (.ref x0)] [] := by first | (simp [entryFrame, mkF, argsToLocals, Value.category]; done) | rfl
def Qad2 (Z : State) (a1 : Addr) (a3 : Addr) (lw : Int32) (ll : Int32) (ls : Int32) (c0 : Int32) (c2 : Int32) (wc : Int32) (vf : Value) (mt : Nat) (h0 : Heap) (n0 : Nat) (v : Option Value) (h : Heap) (L : List Loc) : Prop := v = none ∧ Fr n0 L ∧ Keep h0 h [a1] ∧ Exa Z h a1 "com/example/modelwright/modelwright/model/SourceParserNextLinePinLaw" ∧ Fld Z h a1 "com/example/modelwright/modelwright/model/SourceParser" "text" "Ljava/lang/String;" (.ref a3) ∧ Fld Z h a1 "com/example/modelwright/modelwright/model/SourceParser" "line" "I" (.int ll) ∧ Fld Z h a1 "com/example/modelwright/modelwright/model/SourceParser" "lineStart" "I" (.int ls) ∧ Fld Z h a1 "com/example/modelwright/modelwright/model/SourceParser" "pos" "I" (.int (3 : Int32)) ∧ Fld Z h a1 "com/example/modelwright/modelwright/model/SourceParser" "lowSurrogatesOnLine" "I" (.int (lw + own_low c2))
set_option maxRecDepth 65536 in
set_option maxHeartbeats 40000000 in
theorem rmad2 (l : Launch) (Z : State) (a0 : Array Value) (hw : ∀ d ∈ tables_1, d.before a0 Z = true) (ws : List Jvm.Cond) (a1 : Addr) (a3 : Addr) (lw : Int32) (ll : Int32) (ls : Int32) (c0 : Int32) (c2 : Int32) (wc : Int32) (vf : Value) (mt : Nat) (h0 : Heap) (n0 : Nat) (Z0 : n0 ≤ h0.size) (F0 : Old Z n0 h0) (F1 : Exa Z h0 a1 "com/example/modelwright/modelwright/model/SourceParserNextLinePinLaw") (F2 : Fld Z h0 a1 "com/example/modelwright/modelwright/model/SourceParser" "text" "Ljava/lang/String;" (.ref a3)) (F3 : Fld Z h0 a1 "com/example/modelwright/modelwright/model/SourceParser" "line" "I" (.int ll)) (F4 : Fld Z h0 a1 "com/example/modelwright/modelwright/model/SourceParser" "lineStart" "I" (.int ls)) (F5 : Fld Z h0 a1 "com/example/modelwright/modelwright/model/SourceParser" "pos" "I" (.int (2 : Int32))) (F6 : Fld Z h0 a1 "com/example/modelwright/modelwright/model/SourceParser" "lowSurrogatesOnLine" "I" (.int lw)) (ge_a1 : n0 ≤ a1) (G : own_T Z h0 a3 c0 c2 mt) (SC : Sta Z Z.heap "java/lang/String" "COMPACT_STRINGS" "Z" (.int wc)) (HWC : ¬ (wc = 0)) (SF : Sta Z Z.heap "jdk/internal/util/Preconditions" "SIOOBE_FORMATTER" "Ljava/util/function/BiFunction;" vf) (hvf : vf.isRef = true) (SH : Sta Z Z.heap "java/lang/StringUTF16" "HI_BYTE_SHIFT" "I" (.int (0 : Int32))) (SL : Sta Z Z.heap "java/lang/StringUTF16" "LO_BYTE_SHIFT" "I" (.int (8 : Int32))) (SA : Sta Z Z.heap "java/lang/StringUTF16" "$assertionsDisabled" "Z" (.int (1 : Int32))) (hwc : own_W c2) :
    MetFree l (⟨"com/example/modelwright/modelwright/model/SourceParser", "advance", "()V"⟩ : MethodName) (head1 (Jvm.Cond.code (⟨"com/example/modelwright/modelwright/model/SourceParser", "advance", "()V"⟩ : MethodName) prog_77_method_5_code 1 none :: ws) ({ frames := 5, cells := 0, slots := 0, locals := 66 } : Room)) (fun a U => a = #[(.ref a1)] ∧ Z.Warmed39 U.vm ∧ U.heap = h0) (fun _ _ _ _ _ => True) (fun _ U o U' => ∃ v L, o = .returned v ∧ Qad2 Z a1 a3 lw ll ls c0 c2 wc vf mt h0 n0 v U'.heap L ∧ FrameEnd U o U' L ({ frames := 5, cells := 0, slots := 0, locals := 66 } : Room).cells ({ frames := 5, cells := 0, slots := 0, locals := 66 } : Room).slots) := by
  refine MetFree.of_bodySF (plainFor_of_name pn_ad2) hisR ?_
  intro p e s m args below meth c s₁ Bd hml0 hP hK
  obtain ⟨rfl, hZ, hh⟩ := hP
  have hx := Bd.exec
  have hby := Bd.bytes
  have hml : c.maxLocals = 1 := hml0
  have hown : s.vm.findClass "com/example/modelwright/modelwright/model/SourceParser" = some m.cls := findClass_of_methodNamed Bd.named
  have hnm := (name_of_methodNamed Bd.named Bd.method).1
  have X0 : Stand p l e ({ frames := 5, cells := 0, slots := 0, locals := 66 } : Room) s m #[(.ref a1)] below meth c s₁ [] 0 0 := Stand.of_body Bd
  have e0 : s₁.heap = h0 := by rw [← hh, Bd.state]; rfl
  have N0 := Fr.nil n0
  show own_R p.tables e below (own_P s (Qad2 Z a1 a3 lw ll ls c0 c2 wc vf mt h0 n0) ({ frames := 5, cells := 0, slots := 0, locals := 66 } : Room).cells ({ frames := 5, cells := 0, slots := 0, locals := 66 } : Room).slots) (s₁.setTop (entryFrame m #[(.ref a1)] 1))
  refine own_f s₁ (mkF m 0 #[.val (.ref a1)] []) (fun t k => castTop (ef_ad2 m a1) k) ?_
  obtain ⟨_, _, _, _, _, TE, -⟩ := id G
  refine own_f s₁ (mkF m 1 #[.val (.ref a1)] [(.ref a1)]) (fun t k => XS.aloadN X0.here hx rfl (hb hby dad2_0) rfl rfl k) ?_
  obtain ⟨T1, X1, e1, st1⟩ := getF X0 hx hZ hown (host := "") (Or.inl (own_w hw 76 rfl)) Via.refl e0 F2 (g := (mkF m 1 #[.val (.ref a1)] [(.ref a1)])) rfl rfl (hb hby dad2_1)
  refine own_f T1 (mkF m 4 #[.val (.ref a1)] [(.ref a3)]) st1 ?_
  refine own_f T1 (mkF m 5 #[.val (.ref a1)] [(.ref a1), (.ref a3)]) (fun t k => XS.aloadN X1.here hx rfl (hb hby dad2_4) rfl rfl k) ?_
  obtain ⟨T2, X2, e2, st2⟩ := getF X1 hx hZ hown (host := "") (Or.inl (own_w hw 84 rfl)) Via.refl e1 F5 (g := (mkF m 5 #[.val (.ref a1)] [(.ref a1), (.ref a3)])) rfl rfl (hb hby dad2_5)
  refine own_f T2 (mkF m 8 #[.val (.ref a1)] [(.int (2 : Int32)), (.ref a3)]) st2 ?_
  obtain ⟨cq3, kq3, qa3, qb3, qc3⟩ := isOf hZ e2 TE
  obtain ⟨_, _, ⟨T3, Lq3, kq_3, nq_3⟩, -, X3, ⟨Lc3, hQ3, lq3, yq3, zq3⟩, st3⟩ := X2.virtualBack hx (y := (⟨"java/lang/String", "charAt", "(I)C"⟩ : MethodName)) (z := (⟨"java/lang/String", "charAt", "(I)C"⟩ : MethodName)) hown (mvT hZ (own_w hw 86 rfl)) (mvT hZ (own_w hw 87 rfl)) (notFace_of_selects (args := #[]) (mvT hZ (own_w hw 89 rfl))) (mvT hZ (own_w hw 89 rfl)) (mvT hZ (own_w hw 88 rfl)) (by decide) (backOf (W := 0) (rmca2 l Z a0 hw [] a3 c0 c2 wc vf mt h0 n0 Z0 F0 G SC HWC SF hvf SH SL SA hwc) hZ (own_w hw 90 rfl) (own_w hw 8 rfl) (by decide) (by decide)) qa3 qc3 (g := (mkF m 8 #[.val (.ref a1)] [(.int (2 : Int32)), (.ref a3)])) rfl (by rw [hml]; rfl) (Steps.refl _) (argsL := [(.int (2 : Int32))]) (rest := []) (lenOf pd__I_C rfl) rfl (by show 2 * 0 + _ ≤ _; exact Nat.le_of_eq rfl) (hb hby dad2_8) (fun _ _ => ⟨rfl, e2, (by decide : 0 + 0 ≤ _), (by decide : 0 + 0 ≤ _)⟩)
  dsimp only [Pt.U, Pt.locs, Pt.cells, Pt.slots] at X3 lq3 yq3 zq3 st3 hQ3
  subst lq3 yq3 zq3
  obtain ⟨h3, e3⟩ : ∃ z, T3.heap = z := ⟨_, rfl⟩
  rw [e3] at hQ3
  unfold Qca at hQ3
  obtain ⟨rfl, Nq3, q3⟩ := hQ3
  have N3 := Fr.app N0 Nq3
  rw [q3] at e3
  refine own_g T3 (mkF m 11 #[.val (.ref a1)] [(.int c2)]) st3 ?_
  obtain ⟨_, _, ⟨T4, Lq4, kq_4, nq_4⟩, -, X4, ⟨Lc4, hQ4, lq4, yq4, zq4⟩, st4⟩ := Jvm.LawKit.callS X3 hx (y := (⟨"java/lang/Character", "isLowSurrogate", "(C)Z"⟩ : MethodName)) hown (mvT hZ (own_w hw 108 rfl)) (mvT hZ (own_w hw 109 rfl)) (mvT hZ (own_w hw 110 rfl)) (mvT hZ (own_w hw 111 rfl)) (by decide) (backOf (W := 0) (rmil l Z a0 hw [] c2 h0 n0 Z0 ) hZ (own_w hw 111 rfl) (own_w hw 110 rfl) (by decide) (by decide)) (g := (mkF m 11 #[.val (.ref a1)] [(.int c2)])) rfl (by rw [hml]; rfl) (argsL := [(.int c2)]) (rest := []) (lenOf pd__C_Z rfl) rfl (by show 2 * 0 + _ ≤ _; exact Nat.le_of_eq rfl) (hb hby dad2_11) (fun _ _ => ⟨rfl, e3, (by decide : 0 + 0 + 0 ≤ _), (by decide : 0 + 0 + 0 ≤ _)⟩)
  dsimp only [Pt.U, Pt.locs, Pt.cells, Pt.slots] at X4 lq4 yq4 zq4 st4 hQ4
  subst lq4 yq4 zq4
  obtain ⟨h4, e4⟩ : ∃ z, T4.heap = z := ⟨_, rfl⟩
  rw [e4] at hQ4
  unfold Qil at hQ4
  obtain ⟨rfl, Nq4, qh4⟩ := hQ4
  have N4 := Fr.app N3 Nq4
  rw [qh4] at e4
  refine own_f T4 (mkF m 14 #[.val (.ref a1)] [(.int (own_low c2))]) st4 ?_
  by_cases hc5 : (own_low c2) = 0
  · skip
    refine own_f T4 (mkF m 27 #[.val (.ref a1)] []) (fun t k => XS.ifYes X4.here hx rfl (pc0 := 14) (pc' := 27) rfl (hb hby dad2_14) rfl (XT.i0_eq_t hc5) (by decide) (by decide) k) ?_
    refine own_f T4 (mkF m 28 #[.val (.ref a1)] [(.ref a1)]) (fun t k => XS.aloadN X4.here hx rfl (hb hby dad2_27) rfl rfl k) ?_
    refine own_f T4 (mkF m 29 #[.val (.ref a1)] [(.ref a1), (.ref a1)]) (fun t k => XS.dup X4.here hx rfl (hb hby dad2_28) rfl rfl k) ?_
    obtain ⟨T6, X6, e6, st6⟩ := getF X4 hx hZ hown (host := "") (Or.inl (own_w hw 84 rfl)) Via.refl e4 F5 (g := (mkF m 29 #[.val (.ref a1)] [(.ref a1), (.ref a1)])) rfl rfl (hb hby dad2_29)
    refine own_f T6 (mkF m 32 #[.val (.ref a1)] [(.int (2 : Int32)), (.ref a1)]) st6 ?_
    refine own_f T6 (mkF m 33 #[.val (.ref a1)] [(.int (1 : Int32)), (.int (2 : Int32)), (.ref a1)]) (fun t k => XT.iconstV X6.here hx rfl (1 : Int32) (hb hby dad2_32) (by decide) k) ?_
    refine own_f T6 (mkF m 34 #[.val (.ref a1)] [(.int ((2 : Int32) + (1 : Int32))), (.ref a1)]) (fun t k => XS.iadd X6.here hx rfl (hb hby dad2_33) rfl k) ?_
    rw [show ((2 : Int32) + (1 : Int32)) = (3 : Int32) from by decide]
    obtain ⟨T7, h7, X7, e7, W7, st7⟩ := putF X6 hx hZ hown (host := "") (Or.inl (own_w hw 84 rfl)) Via.refl e6 F5 F1 (Or.inl (own_w hw 85 rfl)) (own_w hw 6 rfl) (ty := .int) (by decide) rfl rfl (g := (mkF m 34 #[.val (.ref a1)] [(.int (3 : Int32)), (.ref a1)])) rfl rfl (hb hby dad2_34)
    have N7 := Fr.snoc X7 N4 ge_a1
    have Zs7 : n0 ≤ h7.size := by rw [W7.size]; exact Z0
    have K7 : Keep h0 h7 [a1] := (Keep.refl h0 [a1]).wr W7 (Or.inl (by simp))
    have F_8 := F0.wr W7 ge_a1
    have F_9 := F1.wr W7
    have F_10 := F2.other W7 (Or.inr (slot_ne (Or.inr (own_w hw 77 rfl)) (Or.inl (own_w hw 85 rfl)) (by decide) (t := (.object "java/lang/String")) (t' := .int) (by decide) (by decide)))
    have F_11 := F3.other W7 (Or.inr (slot_ne (Or.inl (own_w hw 49 rfl)) (Or.inl (own_w hw 85 rfl)) (by decide) (t := .int) (t' := .int) (by decide) (by decide)))
    have F_12 := F4.other W7 (Or.inr (slot_ne (Or.inl (own_w hw 120 rfl)) (Or.inl (own_w hw 85 rfl)) (by decide) (t := .int) (t' := .int) (by decide) (by decide)))
    have F_13 := F5.same W7
    have F_14 := F6.other W7 (Or.inr (slot_ne (Or.inl (own_w hw 122 rfl)) (Or.inl (own_w hw 85 rfl)) (by decide) (t := .int) (t' := .int) (by decide) (by decide)))
    refine own_f T7 (mkF m 37 #[.val (.ref a1)] []) st7 ?_
    obtain ⟨fs, hr, hrun, hended, hW, hsame⟩ := X7.leave (v := none) (fun _ => rfl)
    refine ⟨_, _, X7.returnOut hx Bd.returns (hb hby dad2_37) hr, hrun, hended, _, _, rfl, ?_, ⟨_, rfl⟩, hW, hsame.mono (by decide) (by decide)⟩
    show Qad2 Z a1 a3 lw ll ls c0 c2 wc vf mt h0 n0 _ T7.heap _
    rw [e7]
    exact ⟨rfl, N7, K7, F_9, F_10, F_11, F_12, F_13, (by rw [hc5, own_add0]; exact F_14)⟩
  · skip
    refine own_f T4 (mkF m 17 #[.val (.ref a1)] []) (fun t k => XS.ifNo X4.here hx rfl (hb hby dad2_14) rfl (XT.i0_eq_f hc5) k) ?_
    refine own_f T4 (mkF m 18 #[.val (.ref a1)] [(.ref a1)]) (fun t k => XS.aloadN X4.here hx rfl (hb hby dad2_17) rfl rfl k) ?_
    refine own_f T4 (mkF m 19 #[.val (.ref a1)] [(.ref a1), (.ref a1)]) (fun t k => XS.dup X4.here hx rfl (hb hby dad2_18) rfl rfl k) ?_
    obtain ⟨T15, X15, e15, st15⟩ := getF X4 hx hZ hown (host := "") (Or.inl (own_w hw 121 rfl)) Via.refl e4 F6 (g := (mkF m 19 #[.val (.ref a1)] [(.ref a1), (.ref a1)])) rfl rfl (hb hby dad2_19)
    refine own_f T15 (mkF m 22 #[.val (.ref a1)] [(.int lw), (.ref a1)]) st15 ?_
    refine own_f T15 (mkF m 23 #[.val (.ref a1)] [(.int (1 : Int32)), (.int lw), (.ref a1)]) (fun t k => XT.iconstV X15.here hx rfl (1 : Int32) (hb hby dad2_22) (by decide) k) ?_
    refine own_f T15 (mkF m 24 #[.val (.ref a1)] [(.int (lw + (1 : Int32))), (.ref a1)]) (fun t k => XS.iadd X15.here hx rfl (hb hby dad2_23) rfl k) ?_
    obtain ⟨T16, h16, X16, e16, W16, st16⟩ := putF X15 hx hZ hown (host := "") (Or.inl (own_w hw 121 rfl)) Via.refl e15 F6 F1 (Or.inl (own_w hw 122 rfl)) (own_w hw 6 rfl) (ty := .int) (by decide) rfl rfl (g := (mkF m 24 #[.val (.ref a1)] [(.int (lw + (1 : Int32))), (.ref a1)])) rfl rfl (hb hby dad2_24)
    have N16 := Fr.snoc X16 N4 ge_a1
    have Zs16 : n0 ≤ h16.size := by rw [W16.size]; exact Z0
    have K16 : Keep h0 h16 [a1] := (Keep.refl h0 [a1]).wr W16 (Or.inl (by simp))
    have F_17 := F0.wr W16 ge_a1
    have F_18 := F1.wr W16
    have F_19 := F2.other W16 (Or.inr (slot_ne (Or.inr (own_w hw 77 rfl)) (Or.inl (own_w hw 122 rfl)) (by decide) (t := (.object "java/lang/String")) (t' := .int) (by decide) (by decide)))
    have F_20 := F3.other W16 (Or.inr (slot_ne (Or.inl (own_w hw 49 rfl)) (Or.inl (own_w hw 122 rfl)) (by decide) (t := .int) (t' := .int) (by decide) (by decide)))
    have F_21 := F4.other W16 (Or.inr (slot_ne (Or.inl (own_w hw 120 rfl)) (Or.inl (own_w hw 122 rfl)) (by decide) (t := .int) (t' := .int) (by decide) (by decide)))
    have F_22 := F5.other W16 (Or.inr (slot_ne (Or.inl (own_w hw 85 rfl)) (Or.inl (own_w hw 122 rfl)) (by decide) (t := .int) (t' := .int) (by decide) (by decide)))
    have F_23 := F6.same W16
    refine own_f T16 (mkF m 27 #[.val (.ref a1)] []) st16 ?_
    refine own_f T16 (mkF m 28 #[.val (.ref a1)] [(.ref a1)]) (fun t k => XS.aloadN X16.here hx rfl (hb hby dad2_27) rfl rfl k) ?_
    refine own_f T16 (mkF m 29 #[.val (.ref a1)] [(.ref a1), (.ref a1)]) (fun t k => XS.dup X16.here hx rfl (hb hby dad2_28) rfl rfl k) ?_
    obtain ⟨T24, X24, e24, st24⟩ := getF X16 hx hZ hown (host := "") (Or.inl (own_w hw 84 rfl)) Via.refl e16 F_22 (g := (mkF m 29 #[.val (.ref a1)] [(.ref a1), (.ref a1)])) rfl rfl (hb hby dad2_29)
    refine own_f T24 (mkF m 32 #[.val (.ref a1)] [(.int (2 : Int32)), (.ref a1)]) st24 ?_
    refine own_f T24 (mkF m 33 #[.val (.ref a1)] [(.int (1 : Int32)), (.int (2 : Int32)), (.ref a1)]) (fun t k => XT.iconstV X24.here hx rfl (1 : Int32) (hb hby dad2_32) (by decide) k) ?_
    refine own_f T24 (mkF m 34 #[.val (.ref a1)] [(.int ((2 : Int32) + (1 : Int32))), (.ref a1)]) (fun t k => XS.iadd X24.here hx rfl (hb hby dad2_33) rfl k) ?_
    rw [show ((2 : Int32) + (1 : Int32)) = (3 : Int32) from by decide]
    obtain ⟨T25, h25, X25, e25, W25, st25⟩ := putF X24 hx hZ hown (host := "") (Or.inl (own_w hw 84 rfl)) Via.refl e24 F_22 F_18 (Or.inl (own_w hw 85 rfl)) (own_w hw 6 rfl) (ty := .int) (by decide) rfl rfl (g := (mkF m 34 #[.val (.ref a1)] [(.int (3 : Int32)), (.ref a1)])) rfl rfl (hb hby dad2_34)
    have N25 := Fr.snoc X25 N16 ge_a1
    have Zs25 : n0 ≤ h25.size := by rw [W25.size]; exact Zs16
    have K25 : Keep h0 h25 [a1] := K16.wr W25 (Or.inl (by simp))
    have F_26 := F_17.wr W25 ge_a1
    have F_27 := F_18.wr W25
    have F_28 := F_19.other W25 (Or.inr (slot_ne (Or.inr (own_w hw 77 rfl)) (Or.inl (own_w hw 85 rfl)) (by decide) (t := (.object "java/lang/String")) (t' := .int) (by decide) (by decide)))
    have F_29 := F_20.other W25 (Or.inr (slot_ne (Or.inl (own_w hw 49 rfl)) (Or.inl (own_w hw 85 rfl)) (by decide) (t := .int) (t' := .int) (by decide) (by decide)))
    have F_30 := F_21.other W25 (Or.inr (slot_ne (Or.inl (own_w hw 120 rfl)) (Or.inl (own_w hw 85 rfl)) (by decide) (t := .int) (t' := .int) (by decide) (by decide)))
    have F_31 := F_22.same W25
    have F_32 := F_23.other W25 (Or.inr (slot_ne (Or.inl (own_w hw 122 rfl)) (Or.inl (own_w hw 85 rfl)) (by decide) (t := .int) (t' := .int) (by decide) (by decide)))
    refine own_f T25 (mkF m 37 #[.val (.ref a1)] []) st25 ?_
    obtain ⟨fs, hr, hrun, hended, hW, hsame⟩ := X25.leave (v := none) (fun _ => rfl)
    refine ⟨_, _, X25.returnOut hx Bd.returns (hb hby dad2_37) hr, hrun, hended, _, _, rfl, ?_, ⟨_, rfl⟩, hW, hsame.mono (by decide) (by decide)⟩
    show Qad2 Z a1 a3 lw ll ls c0 c2 wc vf mt h0 n0 _ T25.heap _
    rw [e25]
    exact ⟨rfl, N25, K25, F_27, F_28, F_29, F_30, F_31, (by rw [own_low1 hc5]; exact F_32)⟩
theorem dnx1_0 : decode prog_77_method_4_code 0 = .ok (.aload_n 0, 1) := by decide +kernel
theorem dnx1_1 : decode prog_77_method_4_code 1 = .ok (.dup, 1) := by decide +kernel
theorem dnx1_2 : decode prog_77_method_4_code 2 = .ok (.getfield 33, 3) := by decide +kernel
theorem dnx1_5 : decode prog_77_method_4_code 5 = .ok (.iconst 1, 1) := by decide +kernel
theorem dnx1_6 : decode prog_77_method_4_code 6 = .ok (.iadd, 1) := by decide +kernel
theorem dnx1_7 : decode prog_77_method_4_code 7 = .ok (.putfield 33, 3) := by decide +kernel
theorem dnx1_10 : decode prog_77_method_4_code 10 = .ok (.aload_n 0, 1) := by decide +kernel
theorem dnx1_11 : decode prog_77_method_4_code 11 = .ok (.dup, 1) := by decide +kernel
theorem dnx1_12 : decode prog_77_method_4_code 12 = .ok (.getfield 7, 3) := by decide +kernel
theorem dnx1_15 : decode prog_77_method_4_code 15 = .ok (.iconst 1, 1) := by decide +kernel
theorem dnx1_16 : decode prog_77_method_4_code 16 = .ok (.iadd, 1) := by decide +kernel
theorem dnx1_17 : decode prog_77_method_4_code 17 = .ok (.putfield 7, 3) := by decide +kernel
theorem dnx1_20 : decode prog_77_method_4_code 20 = .ok (.aload_n 0, 1) := by decide +kernel
theorem dnx1_21 : decode prog_77_method_4_code 21 = .ok (.aload_n 0, 1) := by decide +kernel
theorem dnx1_22 : decode prog_77_method_4_code 22 = .ok (.getfield 33, 3) := by decide +kernel
theorem dnx1_25 : decode prog_77_method_4_code 25 = .ok (.putfield 44, 3) := by decide +kernel
theorem dnx1_28 : decode prog_77_method_4_code 28 = .ok (.aload_n 0, 1) := by decide +kernel
theorem dnx1_29 : decode prog_77_method_4_code 29 = .ok (.iconst 0, 1) := by decide +kernel
theorem dnx1_30 : decode prog_77_method_4_code 30 = .ok (.putfield 47, 3) := by decide +kernel
theorem dnx1_33 : decode prog_77_method_4_code 33 = .ok (.return_, 1) := by decide +kernel
theorem pn_nx1 : plainName "com/example/modelwright/modelwright/model/SourceParser" = true := by first | (simp [plainName, overriddenIn]; done) | decide +kernel
theorem ef_nx1 (m : MethodId) (x0 : Addr) : entryFrame m #[(.ref x0)] 1 = mkF m 0 #[.val (.ref x0)] [] := by first | (simp [entryFrame, mkF, argsToLocals, Value.category]; done) | rfl
def Qnx1 (Z : State) (a1 : Addr) (a3 : Addr) (u0 : Value) (u1 : Value) (h0 : Heap) (n0 : Nat) (v : Option Value) (h : Heap) (L : List Loc) : Prop := v = none ∧ Fr n0 L ∧ Keep h0 h [a1] ∧ Exa Z h a1 "com/example/modelwright/modelwright/model/SourceParserNextLinePinLaw" ∧ Fld Z h a1 "com/example/modelwright/modelwright/model/SourceParser" "text" "Ljava/lang/String;" (.ref a3) ∧ Fld Z h a1 "com/example/modelwright/modelwright/model/SourceParser" "pos" "I" (.int (2 : Int32)) ∧ Fld Z h a1 "com/example/modelwright/modelwright/model/SourceParser" "line" "I" (.int (2 : Int32)) ∧ Fld Z h a1 "com/example/modelwright/modelwright/model/SourceParser" "lineStart" "I" (.int (2 : Int32)) ∧ Fld Z h a1 "com/example/modelwright/modelwright/model/SourceParser" "lowSurrogatesOnLine" "I" (.int (0 : Int32))
set_option maxRecDepth 65536 in
set_option maxHeartbeats 40000000 in
theorem rmnx1 (l : Launch) (Z : State) (a0 : Array Value) (hw : ∀ d ∈ tables_1, d.before a0 Z = true) (ws : List Jvm.Cond) (a1 : Addr) (a3 : Addr) (u0 : Value) (u1 : Value) (h0 : Heap) (n0 : Nat) (Z0 : n0 ≤ h0.size) (F0 : Exa Z h0 a1 "com/example/modelwright/modelwright/model/SourceParserNextLinePinLaw") (F1 : Fld Z h0 a1 "com/example/modelwright/modelwright/model/SourceParser" "text" "Ljava/lang/String;" (.ref a3)) (F2 : Fld Z h0 a1 "com/example/modelwright/modelwright/model/SourceParser" "pos" "I" (.int (1 : Int32))) (F3 : Fld Z h0 a1 "com/example/modelwright/modelwright/model/SourceParser" "line" "I" (.int (1 : Int32))) (F4 : Fld Z h0 a1 "com/example/modelwright/modelwright/model/SourceParser" "lineStart" "I" u0) (F5 : Fld Z h0 a1 "com/example/modelwright/modelwright/model/SourceParser" "lowSurrogatesOnLine" "I" u1) (ge_a1 : n0 ≤ a1) :
    MetFree l (⟨"com/example/modelwright/modelwright/model/SourceParser", "nextLine", "()V"⟩ : MethodName) (head1 (Jvm.Cond.code (⟨"com/example/modelwright/modelwright/model/SourceParser", "nextLine", "()V"⟩ : MethodName) prog_77_method_4_code 1 none :: ws) ({ frames := 0, cells := 0, slots := 0, locals := 0 } : Room)) (fun a U => a = #[(.ref a1)] ∧ Z.Warmed39 U.vm ∧ U.heap = h0) (fun _ _ _ _ _ => True) (fun _ U o U' => ∃ v L, o = .returned v ∧ Qnx1 Z a1 a3 u0 u1 h0 n0 v U'.heap L ∧ FrameEnd U o U' L ({ frames := 0, cells := 0, slots := 0, locals := 0 } : Room).cells ({ frames := 0, cells := 0, slots := 0, locals := 0 } : Room).slots) := by
  refine MetFree.of_bodySF (plainFor_of_name pn_nx1) hisR ?_
  intro p e s m args below meth c s₁ Bd hml0 hP hK
  obtain ⟨rfl, hZ, hh⟩ := hP
  have hx := Bd.exec
  have hby := Bd.bytes
  have hml : c.maxLocals = 1 := hml0
  have hown : s.vm.findClass "com/example/modelwright/modelwright/model/SourceParser" = some m.cls := findClass_of_methodNamed Bd.named
  have hnm := (name_of_methodNamed Bd.named Bd.method).1
  have X0 : Stand p l e ({ frames := 0, cells := 0, slots := 0, locals := 0 } : Room) s m #[(.ref a1)] below meth c s₁ [] 0 0 := Stand.of_body Bd
  have e0 : s₁.heap = h0 := by rw [← hh, Bd.state]; rfl
  have N0 := Fr.nil n0
  show own_R p.tables e below (own_P s (Qnx1 Z a1 a3 u0 u1 h0 n0) ({ frames := 0, cells := 0, slots := 0, locals := 0 } : Room).cells ({ frames := 0, cells := 0, slots := 0, locals := 0 } : Room).slots) (s₁.setTop (entryFrame m #[(.ref a1)] 1))
  refine own_f s₁ (mkF m 0 #[.val (.ref a1)] []) (fun t k => castTop (ef_nx1 m a1) k) ?_
  refine own_f s₁ (mkF m 1 #[.val (.ref a1)] [(.ref a1)]) (fun t k => XS.aloadN X0.here hx rfl (hb hby dnx1_0) rfl rfl k) ?_
  refine own_f s₁ (mkF m 2 #[.val (.ref a1)] [(.ref a1), (.ref a1)]) (fun t k => XS.dup X0.here hx rfl (hb hby dnx1_1) rfl rfl k) ?_
  obtain ⟨T1, X1, e1, st1⟩ := getF X0 hx hZ hown (host := "") (Or.inl (own_w hw 84 rfl)) Via.refl e0 F2 (g := (mkF m 2 #[.val (.ref a1)] [(.ref a1), (.ref a1)])) rfl rfl (hb hby dnx1_2)
  refine own_f T1 (mkF m 5 #[.val (.ref a1)] [(.int (1 : Int32)), (.ref a1)]) st1 ?_
  refine own_f T1 (mkF m 6 #[.val (.ref a1)] [(.int (1 : Int32)), (.int (1 : Int32)), (.ref a1)]) (fun t k => XT.iconstV X1.here hx rfl (1 : Int32) (hb hby dnx1_5) (by decide) k) ?_
  refine own_f T1 (mkF m 7 #[.val (.ref a1)] [(.int ((1 : Int32) + (1 : Int32))), (.ref a1)]) (fun t k => XS.iadd X1.here hx rfl (hb hby dnx1_6) rfl k) ?_
  rw [show ((1 : Int32) + (1 : Int32)) = (2 : Int32) from by decide]
  obtain ⟨T2, h2, X2, e2, W2, st2⟩ := putF X1 hx hZ hown (host := "") (Or.inl (own_w hw 84 rfl)) Via.refl e1 F2 F0 (Or.inl (own_w hw 85 rfl)) (own_w hw 6 rfl) (ty := .int) (by decide) rfl rfl (g := (mkF m 7 #[.val (.ref a1)] [(.int (2 : Int32)), (.ref a1)])) rfl rfl (hb hby dnx1_7)
  have N2 := Fr.snoc X2 N0 ge_a1
  have Zs2 : n0 ≤ h2.size := by rw [W2.size]; exact Z0
  have K2 : Keep h0 h2 [a1] := (Keep.refl h0 [a1]).wr W2 (Or.inl (by simp))
  have F_3 := F0.wr W2
  have F_4 := F1.other W2 (Or.inr (slot_ne (Or.inr (own_w hw 77 rfl)) (Or.inl (own_w hw 85 rfl)) (by decide) (t := (.object "java/lang/String")) (t' := .int) (by decide) (by decide)))
  have F_5 := F2.same W2
  have F_6 := F3.other W2 (Or.inr (slot_ne (Or.inl (own_w hw 49 rfl)) (Or.inl (own_w hw 85 rfl)) (by decide) (t := .int) (t' := .int) (by decide) (by decide)))
  have F_7 := F4.other W2 (Or.inr (slot_ne (Or.inl (own_w hw 120 rfl)) (Or.inl (own_w hw 85 rfl)) (by decide) (t := .int) (t' := .int) (by decide) (by decide)))
  have F_8 := F5.other W2 (Or.inr (slot_ne (Or.inl (own_w hw 122 rfl)) (Or.inl (own_w hw 85 rfl)) (by decide) (t := .int) (t' := .int) (by decide) (by decide)))
  refine own_f T2 (mkF m 10 #[.val (.ref a1)] []) st2 ?_
  refine own_f T2 (mkF m 11 #[.val (.ref a1)] [(.ref a1)]) (fun t k => XS.aloadN X2.here hx rfl (hb hby dnx1_10) rfl rfl k) ?_
  refine own_f T2 (mkF m 12 #[.val (.ref a1)] [(.ref a1), (.ref a1)]) (fun t k => XS.dup X2.here hx rfl (hb hby dnx1_11) rfl rfl k) ?_
  obtain ⟨T9, X9, e9, st9⟩ := getF X2 hx hZ hown (host := "") (Or.inl (own_w hw 48 rfl)) Via.refl e2 F_6 (g := (mkF m 12 #[.val (.ref a1)] [(.ref a1), (.ref a1)])) rfl rfl (hb hby dnx1_12)
  refine own_f T9 (mkF m 15 #[.val (.ref a1)] [(.int (1 : Int32)), (.ref a1)]) st9 ?_
  refine own_f T9 (mkF m 16 #[.val (.ref a1)] [(.int (1 : Int32)), (.int (1 : Int32)), (.ref a1)]) (fun t k => XT.iconstV X9.here hx rfl (1 : Int32) (hb hby dnx1_15) (by decide) k) ?_
  refine own_f T9 (mkF m 17 #[.val (.ref a1)] [(.int ((1 : Int32) + (1 : Int32))), (.ref a1)]) (fun t k => XS.iadd X9.here hx rfl (hb hby dnx1_16) rfl k) ?_
  rw [show ((1 : Int32) + (1 : Int32)) = (2 : Int32) from by decide]
  obtain ⟨T10, h10, X10, e10, W10, st10⟩ := putF X9 hx hZ hown (host := "") (Or.inl (own_w hw 48 rfl)) Via.refl e9 F_6 F_3 (Or.inl (own_w hw 49 rfl)) (own_w hw 6 rfl) (ty := .int) (by decide) rfl rfl (g := (mkF m 17 #[.val (.ref a1)] [(.int (2 : Int32)), (.ref a1)])) rfl rfl (hb hby dnx1_17)
  have N10 := Fr.snoc X10 N2 ge_a1
  have Zs10 : n0 ≤ h10.size := by rw [W10.size]; exact Zs2
  have K10 : Keep h0 h10 [a1] := K2.wr W10 (Or.inl (by simp))
  have F_11 := F_3.wr W10
  have F_12 := F_4.other W10 (Or.inr (slot_ne (Or.inr (own_w hw 77 rfl)) (Or.inl (own_w hw 49 rfl)) (by decide) (t := (.object "java/lang/String")) (t' := .int) (by decide) (by decide)))
  have F_13 := F_5.other W10 (Or.inr (slot_ne (Or.inl (own_w hw 85 rfl)) (Or.inl (own_w hw 49 rfl)) (by decide) (t := .int) (t' := .int) (by decide) (by decide)))
  have F_14 := F_6.same W10
  have F_15 := F_7.other W10 (Or.inr (slot_ne (Or.inl (own_w hw 120 rfl)) (Or.inl (own_w hw 49 rfl)) (by decide) (t := .int) (t' := .int) (by decide) (by decide)))
  have F_16 := F_8.other W10 (Or.inr (slot_ne (Or.inl (own_w hw 122 rfl)) (Or.inl (own_w hw 49 rfl)) (by decide) (t := .int) (t' := .int) (by decide) (by decide)))
  refine own_f T10 (mkF m 20 #[.val (.ref a1)] []) st10 ?_
  refine own_f T10 (mkF m 21 #[.val (.ref a1)] [(.ref a1)]) (fun t k => XS.aloadN X10.here hx rfl (hb hby dnx1_20) rfl rfl k) ?_
  refine own_f T10 (mkF m 22 #[.val (.ref a1)] [(.ref a1), (.ref a1)]) (fun t k => XS.aloadN X10.here hx rfl (hb hby dnx1_21) rfl rfl k) ?_
  obtain ⟨T17, X17, e17, st17⟩ := getF X10 hx hZ hown (host := "") (Or.inl (own_w hw 84 rfl)) Via.refl e10 F_13 (g := (mkF m 22 #[.val (.ref a1)] [(.ref a1), (.ref a1)])) rfl rfl (hb hby dnx1_22)
  refine own_f T17 (mkF m 25 #[.val (.ref a1)] [(.int (2 : Int32)), (.ref a1)]) st17 ?_
  obtain ⟨T18, h18, X18, e18, W18, st18⟩ := putF X17 hx hZ hown (host := "") (Or.inl (own_w hw 119 rfl)) Via.refl e17 F_15 F_11 (Or.inl (own_w hw 120 rfl)) (own_w hw 6 rfl) (ty := .int) (by decide) rfl rfl (g := (mkF m 25 #[.val (.ref a1)] [(.int (2 : Int32)), (.ref a1)])) rfl rfl (hb hby dnx1_25)
  have N18 := Fr.snoc X18 N10 ge_a1
  have Zs18 : n0 ≤ h18.size := by rw [W18.size]; exact Zs10
  have K18 : Keep h0 h18 [a1] := K10.wr W18 (Or.inl (by simp))
  have F_19 := F_11.wr W18
  have F_20 := F_12.other W18 (Or.inr (slot_ne (Or.inr (own_w hw 77 rfl)) (Or.inl (own_w hw 120 rfl)) (by decide) (t := (.object "java/lang/String")) (t' := .int) (by decide) (by decide)))
  have F_21 := F_13.other W18 (Or.inr (slot_ne (Or.inl (own_w hw 85 rfl)) (Or.inl (own_w hw 120 rfl)) (by decide) (t := .int) (t' := .int) (by decide) (by decide)))
  have F_22 := F_14.other W18 (Or.inr (slot_ne (Or.inl (own_w hw 49 rfl)) (Or.inl (own_w hw 120 rfl)) (by decide) (t := .int) (t' := .int) (by decide) (by decide)))
  have F_23 := F_15.same W18
  have F_24 := F_16.other W18 (Or.inr (slot_ne (Or.inl (own_w hw 122 rfl)) (Or.inl (own_w hw 120 rfl)) (by decide) (t := .int) (t' := .int) (by decide) (by decide)))
  refine own_f T18 (mkF m 28 #[.val (.ref a1)] []) st18 ?_
  refine own_f T18 (mkF m 29 #[.val (.ref a1)] [(.ref a1)]) (fun t k => XS.aloadN X18.here hx rfl (hb hby dnx1_28) rfl rfl k) ?_
  refine own_f T18 (mkF m 30 #[.val (.ref a1)] [(.int (0 : Int32)), (.ref a1)]) (fun t k => XT.iconstV X18.here hx rfl (0 : Int32) (hb hby dnx1_29) (by decide) k) ?_
  obtain ⟨T25, h25, X25, e25, W25, st25⟩ := putF X18 hx hZ hown (host := "") (Or.inl (own_w hw 121 rfl)) Via.refl e18 F_24 F_19 (Or.inl (own_w hw 122 rfl)) (own_w hw 6 rfl) (ty := .int) (by decide) rfl rfl (g := (mkF m 30 #[.val (.ref a1)] [(.int (0 : Int32)), (.ref a1)])) rfl rfl (hb hby dnx1_30)
  have N25 := Fr.snoc X25 N18 ge_a1
  have Zs25 : n0 ≤ h25.size := by rw [W25.size]; exact Zs18
  have K25 : Keep h0 h25 [a1] := K18.wr W25 (Or.inl (by simp))
  have F_26 := F_19.wr W25
  have F_27 := F_20.other W25 (Or.inr (slot_ne (Or.inr (own_w hw 77 rfl)) (Or.inl (own_w hw 122 rfl)) (by decide) (t := (.object "java/lang/String")) (t' := .int) (by decide) (by decide)))
  have F_28 := F_21.other W25 (Or.inr (slot_ne (Or.inl (own_w hw 85 rfl)) (Or.inl (own_w hw 122 rfl)) (by decide) (t := .int) (t' := .int) (by decide) (by decide)))
  have F_29 := F_22.other W25 (Or.inr (slot_ne (Or.inl (own_w hw 49 rfl)) (Or.inl (own_w hw 122 rfl)) (by decide) (t := .int) (t' := .int) (by decide) (by decide)))
  have F_30 := F_23.other W25 (Or.inr (slot_ne (Or.inl (own_w hw 120 rfl)) (Or.inl (own_w hw 122 rfl)) (by decide) (t := .int) (t' := .int) (by decide) (by decide)))
  have F_31 := F_24.same W25
  refine own_f T25 (mkF m 33 #[.val (.ref a1)] []) st25 ?_
  obtain ⟨fs, hr, hrun, hended, hW, hsame⟩ := X25.leave (v := none) (fun _ => rfl)
  refine ⟨_, _, X25.returnOut hx Bd.returns (hb hby dnx1_33) hr, hrun, hended, _, _, rfl, ?_, ⟨_, rfl⟩, hW, hsame.mono (by decide) (by decide)⟩
  show Qnx1 Z a1 a3 u0 u1 h0 n0 _ T25.heap _
  rw [e25]
  exact ⟨rfl, N25, K25, F_26, F_27, F_28, F_29, F_30, F_31⟩
theorem dnx3_0 : decode prog_77_method_4_code 0 = .ok (.aload_n 0, 1) := by decide +kernel
theorem dnx3_1 : decode prog_77_method_4_code 1 = .ok (.dup, 1) := by decide +kernel
theorem dnx3_2 : decode prog_77_method_4_code 2 = .ok (.getfield 33, 3) := by decide +kernel
theorem dnx3_5 : decode prog_77_method_4_code 5 = .ok (.iconst 1, 1) := by decide +kernel
theorem dnx3_6 : decode prog_77_method_4_code 6 = .ok (.iadd, 1) := by decide +kernel
theorem dnx3_7 : decode prog_77_method_4_code 7 = .ok (.putfield 33, 3) := by decide +kernel
theorem dnx3_10 : decode prog_77_method_4_code 10 = .ok (.aload_n 0, 1) := by decide +kernel
theorem dnx3_11 : decode prog_77_method_4_code 11 = .ok (.dup, 1) := by decide +kernel
theorem dnx3_12 : decode prog_77_method_4_code 12 = .ok (.getfield 7, 3) := by decide +kernel
theorem dnx3_15 : decode prog_77_method_4_code 15 = .ok (.iconst 1, 1) := by decide +kernel
theorem dnx3_16 : decode prog_77_method_4_code 16 = .ok (.iadd, 1) := by decide +kernel
theorem dnx3_17 : decode prog_77_method_4_code 17 = .ok (.putfield 7, 3) := by decide +kernel
theorem dnx3_20 : decode prog_77_method_4_code 20 = .ok (.aload_n 0, 1) := by decide +kernel
theorem dnx3_21 : decode prog_77_method_4_code 21 = .ok (.aload_n 0, 1) := by decide +kernel
theorem dnx3_22 : decode prog_77_method_4_code 22 = .ok (.getfield 33, 3) := by decide +kernel
theorem dnx3_25 : decode prog_77_method_4_code 25 = .ok (.putfield 44, 3) := by decide +kernel
theorem dnx3_28 : decode prog_77_method_4_code 28 = .ok (.aload_n 0, 1) := by decide +kernel
theorem dnx3_29 : decode prog_77_method_4_code 29 = .ok (.iconst 0, 1) := by decide +kernel
theorem dnx3_30 : decode prog_77_method_4_code 30 = .ok (.putfield 47, 3) := by decide +kernel
theorem dnx3_33 : decode prog_77_method_4_code 33 = .ok (.return_, 1) := by decide +kernel
theorem pn_nx3 : plainName "com/example/modelwright/modelwright/model/SourceParser" = true := by first | (simp [plainName, overriddenIn]; done) | decide +kernel
theorem ef_nx3 (m : MethodId) (x0 : Addr) : entryFrame m #[(.ref x0)] 1 = mkF m 0 #[.val (.ref x0)] [] := by first | (simp [entryFrame, mkF, argsToLocals, Value.category]; done) | rfl
def Qnx3 (Z : State) (a1 : Addr) (a3 : Addr) (u0 : Value) (u1 : Value) (h0 : Heap) (n0 : Nat) (v : Option Value) (h : Heap) (L : List Loc) : Prop := v = none ∧ Fr n0 L ∧ Keep h0 h [a1] ∧ Exa Z h a1 "com/example/modelwright/modelwright/model/SourceParserNextLinePinLaw" ∧ Fld Z h a1 "com/example/modelwright/modelwright/model/SourceParser" "text" "Ljava/lang/String;" (.ref a3) ∧ Fld Z h a1 "com/example/modelwright/modelwright/model/SourceParser" "pos" "I" (.int (4 : Int32)) ∧ Fld Z h a1 "com/example/modelwright/modelwright/model/SourceParser" "line" "I" (.int (3 : Int32)) ∧ Fld Z h a1 "com/example/modelwright/modelwright/model/SourceParser" "lineStart" "I" (.int (4 : Int32)) ∧ Fld Z h a1 "com/example/modelwright/modelwright/model/SourceParser" "lowSurrogatesOnLine" "I" (.int (0 : Int32))
set_option maxRecDepth 65536 in
set_option maxHeartbeats 40000000 in
theorem rmnx3 (l : Launch) (Z : State) (a0 : Array Value) (hw : ∀ d ∈ tables_1, d.before a0 Z = true) (ws : List Jvm.Cond) (a1 : Addr) (a3 : Addr) (u0 : Value) (u1 : Value) (h0 : Heap) (n0 : Nat) (Z0 : n0 ≤ h0.size) (F0 : Exa Z h0 a1 "com/example/modelwright/modelwright/model/SourceParserNextLinePinLaw") (F1 : Fld Z h0 a1 "com/example/modelwright/modelwright/model/SourceParser" "text" "Ljava/lang/String;" (.ref a3)) (F2 : Fld Z h0 a1 "com/example/modelwright/modelwright/model/SourceParser" "pos" "I" (.int (3 : Int32))) (F3 : Fld Z h0 a1 "com/example/modelwright/modelwright/model/SourceParser" "line" "I" (.int (2 : Int32))) (F4 : Fld Z h0 a1 "com/example/modelwright/modelwright/model/SourceParser" "lineStart" "I" u0) (F5 : Fld Z h0 a1 "com/example/modelwright/modelwright/model/SourceParser" "lowSurrogatesOnLine" "I" u1) (ge_a1 : n0 ≤ a1) :
    MetFree l (⟨"com/example/modelwright/modelwright/model/SourceParser", "nextLine", "()V"⟩ : MethodName) (head1 (Jvm.Cond.code (⟨"com/example/modelwright/modelwright/model/SourceParser", "nextLine", "()V"⟩ : MethodName) prog_77_method_4_code 1 none :: ws) ({ frames := 0, cells := 0, slots := 0, locals := 0 } : Room)) (fun a U => a = #[(.ref a1)] ∧ Z.Warmed39 U.vm ∧ U.heap = h0) (fun _ _ _ _ _ => True) (fun _ U o U' => ∃ v L, o = .returned v ∧ Qnx3 Z a1 a3 u0 u1 h0 n0 v U'.heap L ∧ FrameEnd U o U' L ({ frames := 0, cells := 0, slots := 0, locals := 0 } : Room).cells ({ frames := 0, cells := 0, slots := 0, locals := 0 } : Room).slots) := by
  refine MetFree.of_bodySF (plainFor_of_name pn_nx3) hisR ?_
  intro p e s m args below meth c s₁ Bd hml0 hP hK
  obtain ⟨rfl, hZ, hh⟩ := hP
  have hx := Bd.exec
  have hby := Bd.bytes
  have hml : c.maxLocals = 1 := hml0
  have hown : s.vm.findClass "com/example/modelwright/modelwright/model/SourceParser" = some m.cls := findClass_of_methodNamed Bd.named
  have hnm := (name_of_methodNamed Bd.named Bd.method).1
  have X0 : Stand p l e ({ frames := 0, cells := 0, slots := 0, locals := 0 } : Room) s m #[(.ref a1)] below meth c s₁ [] 0 0 := Stand.of_body Bd
  have e0 : s₁.heap = h0 := by rw [← hh, Bd.state]; rfl
  have N0 := Fr.nil n0
  show own_R p.tables e below (own_P s (Qnx3 Z a1 a3 u0 u1 h0 n0) ({ frames := 0, cells := 0, slots := 0, locals := 0 } : Room).cells ({ frames := 0, cells := 0, slots := 0, locals := 0 } : Room).slots) (s₁.setTop (entryFrame m #[(.ref a1)] 1))
  refine own_f s₁ (mkF m 0 #[.val (.ref a1)] []) (fun t k => castTop (ef_nx3 m a1) k) ?_
  refine own_f s₁ (mkF m 1 #[.val (.ref a1)] [(.ref a1)]) (fun t k => XS.aloadN X0.here hx rfl (hb hby dnx3_0) rfl rfl k) ?_
  refine own_f s₁ (mkF m 2 #[.val (.ref a1)] [(.ref a1), (.ref a1)]) (fun t k => XS.dup X0.here hx rfl (hb hby dnx3_1) rfl rfl k) ?_
  obtain ⟨T1, X1, e1, st1⟩ := getF X0 hx hZ hown (host := "") (Or.inl (own_w hw 84 rfl)) Via.refl e0 F2 (g := (mkF m 2 #[.val (.ref a1)] [(.ref a1), (.ref a1)])) rfl rfl (hb hby dnx3_2)
  refine own_f T1 (mkF m 5 #[.val (.ref a1)] [(.int (3 : Int32)), (.ref a1)]) st1 ?_
  refine own_f T1 (mkF m 6 #[.val (.ref a1)] [(.int (1 : Int32)), (.int (3 : Int32)), (.ref a1)]) (fun t k => XT.iconstV X1.here hx rfl (1 : Int32) (hb hby dnx3_5) (by decide) k) ?_
  refine own_f T1 (mkF m 7 #[.val (.ref a1)] [(.int ((3 : Int32) + (1 : Int32))), (.ref a1)]) (fun t k => XS.iadd X1.here hx rfl (hb hby dnx3_6) rfl k) ?_
  rw [show ((3 : Int32) + (1 : Int32)) = (4 : Int32) from by decide]
  obtain ⟨T2, h2, X2, e2, W2, st2⟩ := putF X1 hx hZ hown (host := "") (Or.inl (own_w hw 84 rfl)) Via.refl e1 F2 F0 (Or.inl (own_w hw 85 rfl)) (own_w hw 6 rfl) (ty := .int) (by decide) rfl rfl (g := (mkF m 7 #[.val (.ref a1)] [(.int (4 : Int32)), (.ref a1)])) rfl rfl (hb hby dnx3_7)
  have N2 := Fr.snoc X2 N0 ge_a1
  have Zs2 : n0 ≤ h2.size := by rw [W2.size]; exact Z0
  have K2 : Keep h0 h2 [a1] := (Keep.refl h0 [a1]).wr W2 (Or.inl (by simp))
  have F_3 := F0.wr W2
  have F_4 := F1.other W2 (Or.inr (slot_ne (Or.inr (own_w hw 77 rfl)) (Or.inl (own_w hw 85 rfl)) (by decide) (t := (.object "java/lang/String")) (t' := .int) (by decide) (by decide)))
  have F_5 := F2.same W2
  have F_6 := F3.other W2 (Or.inr (slot_ne (Or.inl (own_w hw 49 rfl)) (Or.inl (own_w hw 85 rfl)) (by decide) (t := .int) (t' := .int) (by decide) (by decide)))
  have F_7 := F4.other W2 (Or.inr (slot_ne (Or.inl (own_w hw 120 rfl)) (Or.inl (own_w hw 85 rfl)) (by decide) (t := .int) (t' := .int) (by decide) (by decide)))
  have F_8 := F5.other W2 (Or.inr (slot_ne (Or.inl (own_w hw 122 rfl)) (Or.inl (own_w hw 85 rfl)) (by decide) (t := .int) (t' := .int) (by decide) (by decide)))
  refine own_f T2 (mkF m 10 #[.val (.ref a1)] []) st2 ?_
  refine own_f T2 (mkF m 11 #[.val (.ref a1)] [(.ref a1)]) (fun t k => XS.aloadN X2.here hx rfl (hb hby dnx3_10) rfl rfl k) ?_
  refine own_f T2 (mkF m 12 #[.val (.ref a1)] [(.ref a1), (.ref a1)]) (fun t k => XS.dup X2.here hx rfl (hb hby dnx3_11) rfl rfl k) ?_
  obtain ⟨T9, X9, e9, st9⟩ := getF X2 hx hZ hown (host := "") (Or.inl (own_w hw 48 rfl)) Via.refl e2 F_6 (g := (mkF m 12 #[.val (.ref a1)] [(.ref a1), (.ref a1)])) rfl rfl (hb hby dnx3_12)
  refine own_f T9 (mkF m 15 #[.val (.ref a1)] [(.int (2 : Int32)), (.ref a1)]) st9 ?_
  refine own_f T9 (mkF m 16 #[.val (.ref a1)] [(.int (1 : Int32)), (.int (2 : Int32)), (.ref a1)]) (fun t k => XT.iconstV X9.here hx rfl (1 : Int32) (hb hby dnx3_15) (by decide) k) ?_
  refine own_f T9 (mkF m 17 #[.val (.ref a1)] [(.int ((2 : Int32) + (1 : Int32))), (.ref a1)]) (fun t k => XS.iadd X9.here hx rfl (hb hby dnx3_16) rfl k) ?_
  rw [show ((2 : Int32) + (1 : Int32)) = (3 : Int32) from by decide]
  obtain ⟨T10, h10, X10, e10, W10, st10⟩ := putF X9 hx hZ hown (host := "") (Or.inl (own_w hw 48 rfl)) Via.refl e9 F_6 F_3 (Or.inl (own_w hw 49 rfl)) (own_w hw 6 rfl) (ty := .int) (by decide) rfl rfl (g := (mkF m 17 #[.val (.ref a1)] [(.int (3 : Int32)), (.ref a1)])) rfl rfl (hb hby dnx3_17)
  have N10 := Fr.snoc X10 N2 ge_a1
  have Zs10 : n0 ≤ h10.size := by rw [W10.size]; exact Zs2
  have K10 : Keep h0 h10 [a1] := K2.wr W10 (Or.inl (by simp))
  have F_11 := F_3.wr W10
  have F_12 := F_4.other W10 (Or.inr (slot_ne (Or.inr (own_w hw 77 rfl)) (Or.inl (own_w hw 49 rfl)) (by decide) (t := (.object "java/lang/String")) (t' := .int) (by decide) (by decide)))
  have F_13 := F_5.other W10 (Or.inr (slot_ne (Or.inl (own_w hw 85 rfl)) (Or.inl (own_w hw 49 rfl)) (by decide) (t := .int) (t' := .int) (by decide) (by decide)))
  have F_14 := F_6.same W10
  have F_15 := F_7.other W10 (Or.inr (slot_ne (Or.inl (own_w hw 120 rfl)) (Or.inl (own_w hw 49 rfl)) (by decide) (t := .int) (t' := .int) (by decide) (by decide)))
  have F_16 := F_8.other W10 (Or.inr (slot_ne (Or.inl (own_w hw 122 rfl)) (Or.inl (own_w hw 49 rfl)) (by decide) (t := .int) (t' := .int) (by decide) (by decide)))
  refine own_f T10 (mkF m 20 #[.val (.ref a1)] []) st10 ?_
  refine own_f T10 (mkF m 21 #[.val (.ref a1)] [(.ref a1)]) (fun t k => XS.aloadN X10.here hx rfl (hb hby dnx3_20) rfl rfl k) ?_
  refine own_f T10 (mkF m 22 #[.val (.ref a1)] [(.ref a1), (.ref a1)]) (fun t k => XS.aloadN X10.here hx rfl (hb hby dnx3_21) rfl rfl k) ?_
  obtain ⟨T17, X17, e17, st17⟩ := getF X10 hx hZ hown (host := "") (Or.inl (own_w hw 84 rfl)) Via.refl e10 F_13 (g := (mkF m 22 #[.val (.ref a1)] [(.ref a1), (.ref a1)])) rfl rfl (hb hby dnx3_22)
  refine own_f T17 (mkF m 25 #[.val (.ref a1)] [(.int (4 : Int32)), (.ref a1)]) st17 ?_
  obtain ⟨T18, h18, X18, e18, W18, st18⟩ := putF X17 hx hZ hown (host := "") (Or.inl (own_w hw 119 rfl)) Via.refl e17 F_15 F_11 (Or.inl (own_w hw 120 rfl)) (own_w hw 6 rfl) (ty := .int) (by decide) rfl rfl (g := (mkF m 25 #[.val (.ref a1)] [(.int (4 : Int32)), (.ref a1)])) rfl rfl (hb hby dnx3_25)
  have N18 := Fr.snoc X18 N10 ge_a1
  have Zs18 : n0 ≤ h18.size := by rw [W18.size]; exact Zs10
  have K18 : Keep h0 h18 [a1] := K10.wr W18 (Or.inl (by simp))
  have F_19 := F_11.wr W18
  have F_20 := F_12.other W18 (Or.inr (slot_ne (Or.inr (own_w hw 77 rfl)) (Or.inl (own_w hw 120 rfl)) (by decide) (t := (.object "java/lang/String")) (t' := .int) (by decide) (by decide)))
  have F_21 := F_13.other W18 (Or.inr (slot_ne (Or.inl (own_w hw 85 rfl)) (Or.inl (own_w hw 120 rfl)) (by decide) (t := .int) (t' := .int) (by decide) (by decide)))
  have F_22 := F_14.other W18 (Or.inr (slot_ne (Or.inl (own_w hw 49 rfl)) (Or.inl (own_w hw 120 rfl)) (by decide) (t := .int) (t' := .int) (by decide) (by decide)))
  have F_23 := F_15.same W18
  have F_24 := F_16.other W18 (Or.inr (slot_ne (Or.inl (own_w hw 122 rfl)) (Or.inl (own_w hw 120 rfl)) (by decide) (t := .int) (t' := .int) (by decide) (by decide)))
  refine own_f T18 (mkF m 28 #[.val (.ref a1)] []) st18 ?_
  refine own_f T18 (mkF m 29 #[.val (.ref a1)] [(.ref a1)]) (fun t k => XS.aloadN X18.here hx rfl (hb hby dnx3_28) rfl rfl k) ?_
  refine own_f T18 (mkF m 30 #[.val (.ref a1)] [(.int (0 : Int32)), (.ref a1)]) (fun t k => XT.iconstV X18.here hx rfl (0 : Int32) (hb hby dnx3_29) (by decide) k) ?_
  obtain ⟨T25, h25, X25, e25, W25, st25⟩ := putF X18 hx hZ hown (host := "") (Or.inl (own_w hw 121 rfl)) Via.refl e18 F_24 F_19 (Or.inl (own_w hw 122 rfl)) (own_w hw 6 rfl) (ty := .int) (by decide) rfl rfl (g := (mkF m 30 #[.val (.ref a1)] [(.int (0 : Int32)), (.ref a1)])) rfl rfl (hb hby dnx3_30)
  have N25 := Fr.snoc X25 N18 ge_a1
  have Zs25 : n0 ≤ h25.size := by rw [W25.size]; exact Zs18
  have K25 : Keep h0 h25 [a1] := K18.wr W25 (Or.inl (by simp))
  have F_26 := F_19.wr W25
  have F_27 := F_20.other W25 (Or.inr (slot_ne (Or.inr (own_w hw 77 rfl)) (Or.inl (own_w hw 122 rfl)) (by decide) (t := (.object "java/lang/String")) (t' := .int) (by decide) (by decide)))
  have F_28 := F_21.other W25 (Or.inr (slot_ne (Or.inl (own_w hw 85 rfl)) (Or.inl (own_w hw 122 rfl)) (by decide) (t := .int) (t' := .int) (by decide) (by decide)))
  have F_29 := F_22.other W25 (Or.inr (slot_ne (Or.inl (own_w hw 49 rfl)) (Or.inl (own_w hw 122 rfl)) (by decide) (t := .int) (t' := .int) (by decide) (by decide)))
  have F_30 := F_23.other W25 (Or.inr (slot_ne (Or.inl (own_w hw 120 rfl)) (Or.inl (own_w hw 122 rfl)) (by decide) (t := .int) (t' := .int) (by decide) (by decide)))
  have F_31 := F_24.same W25
  refine own_f T25 (mkF m 33 #[.val (.ref a1)] []) st25 ?_
  obtain ⟨fs, hr, hrun, hended, hW, hsame⟩ := X25.leave (v := none) (fun _ => rfl)
  refine ⟨_, _, X25.returnOut hx Bd.returns (hb hby dnx3_33) hr, hrun, hended, _, _, rfl, ?_, ⟨_, rfl⟩, hW, hsame.mono (by decide) (by decide)⟩
  show Qnx3 Z a1 a3 u0 u1 h0 n0 _ T25.heap _
  rw [e25]
  exact ⟨rfl, N25, K25, F_26, F_27, F_28, F_29, F_30, F_31⟩
theorem dgl_0 : decode prog_77_method_7_code 0 = .ok (.aload_n 0, 1) := by decide +kernel
theorem dgl_1 : decode prog_77_method_7_code 1 = .ok (.getfield 7, 3) := by decide +kernel
theorem dgl_4 : decode prog_77_method_7_code 4 = .ok (.ireturn, 1) := by decide +kernel
theorem pn_gl : plainName "com/example/modelwright/modelwright/model/SourceParser" = true := by first | (simp [plainName, overriddenIn]; done) | decide +kernel
theorem ef_gl (m : MethodId) (x0 : Addr) : entryFrame m #[(.ref x0)] 1 = mkF m 0 #[.val (.ref x0)] [] := by first | (simp [entryFrame, mkF, argsToLocals, Value.category]; done) | rfl
def Qgl (Z : State) (a1 : Addr) (w1 : Int32) (h0 : Heap) (n0 : Nat) (v : Option Value) (h : Heap) (L : List Loc) : Prop := v = some (.int w1) ∧ Fr n0 L ∧ h = h0
set_option maxRecDepth 65536 in
set_option maxHeartbeats 40000000 in
theorem rmgl (l : Launch) (Z : State) (a0 : Array Value) (hw : ∀ d ∈ tables_1, d.before a0 Z = true) (ws : List Jvm.Cond) (a1 : Addr) (w1 : Int32) (h0 : Heap) (n0 : Nat) (Z0 : n0 ≤ h0.size) (F0 : Fld Z h0 a1 "com/example/modelwright/modelwright/model/SourceParser" "line" "I" (.int w1)) :
    MetFree l (⟨"com/example/modelwright/modelwright/model/SourceParser", "line", "()I"⟩ : MethodName) (head1 (Jvm.Cond.code (⟨"com/example/modelwright/modelwright/model/SourceParser", "line", "()I"⟩ : MethodName) prog_77_method_7_code 1 (some .int) :: ws) ({ frames := 0, cells := 0, slots := 0, locals := 0 } : Room)) (fun a U => a = #[(.ref a1)] ∧ Z.Warmed39 U.vm ∧ U.heap = h0) (fun _ _ _ _ _ => True) (fun _ U o U' => ∃ v L, o = .returned v ∧ Qgl Z a1 w1 h0 n0 v U'.heap L ∧ FrameEnd U o U' L ({ frames := 0, cells := 0, slots := 0, locals := 0 } : Room).cells ({ frames := 0, cells := 0, slots := 0, locals := 0 } : Room).slots) := by
  refine MetFree.of_bodySF (plainFor_of_name pn_gl) hisR ?_
  intro p e s m args below meth c s₁ Bd hml0 hP hK
  obtain ⟨rfl, hZ, hh⟩ := hP
  have hx := Bd.exec
  have hby := Bd.bytes
  have hml : c.maxLocals = 1 := hml0
  have hown : s.vm.findClass "com/example/modelwright/modelwright/model/SourceParser" = some m.cls := findClass_of_methodNamed Bd.named
  have hnm := (name_of_methodNamed Bd.named Bd.method).1
  have X0 : Stand p l e ({ frames := 0, cells := 0, slots := 0, locals := 0 } : Room) s m #[(.ref a1)] below meth c s₁ [] 0 0 := Stand.of_body Bd
  have e0 : s₁.heap = h0 := by rw [← hh, Bd.state]; rfl
  have N0 := Fr.nil n0
  show own_R p.tables e below (own_P s (Qgl Z a1 w1 h0 n0) ({ frames := 0, cells := 0, slots := 0, locals := 0 } : Room).cells ({ frames := 0, cells := 0, slots := 0, locals := 0 } : Room).slots) (s₁.setTop (entryFrame m #[(.ref a1)] 1))
  refine own_f s₁ (mkF m 0 #[.val (.ref a1)] []) (fun t k => castTop (ef_gl m a1) k) ?_
  refine own_f s₁ (mkF m 1 #[.val (.ref a1)] [(.ref a1)]) (fun t k => XS.aloadN X0.here hx rfl (hb hby dgl_0) rfl rfl k) ?_
  obtain ⟨T1, X1, e1, st1⟩ := getF X0 hx hZ hown (host := "") (Or.inl (own_w hw 48 rfl)) Via.refl e0 F0 (g := (mkF m 1 #[.val (.ref a1)] [(.ref a1)])) rfl rfl (hb hby dgl_1)
  refine own_f T1 (mkF m 4 #[.val (.ref a1)] [(.int w1)]) st1 ?_
  obtain ⟨fs, hr, hrun, hended, hW, hsame⟩ := X1.leave (v := some (.int w1)) (fun h => by rw [Bd.returns] at h; cases h)
  refine ⟨_, _, retI X1 hx Bd.returns (hb hby dgl_4) hr, hrun, hended, _, _, rfl, ?_, ⟨_, rfl⟩, hW, hsame.mono (by decide) (by decide)⟩
  show Qgl Z a1 w1 h0 n0 _ T1.heap _
  rw [e1]
  exact ⟨rfl, N0, rfl⟩
theorem dgk_0 : decode prog_77_method_8_code 0 = .ok (.aload_n 0, 1) := by decide +kernel
theorem dgk_1 : decode prog_77_method_8_code 1 = .ok (.getfield 33, 3) := by decide +kernel
theorem dgk_4 : decode prog_77_method_8_code 4 = .ok (.aload_n 0, 1) := by decide +kernel
theorem dgk_5 : decode prog_77_method_8_code 5 = .ok (.getfield 44, 3) := by decide +kernel
theorem dgk_8 : decode prog_77_method_8_code 8 = .ok (.isub, 1) := by decide +kernel
theorem dgk_9 : decode prog_77_method_8_code 9 = .ok (.aload_n 0, 1) := by decide +kernel
theorem dgk_10 : decode prog_77_method_8_code 10 = .ok (.getfield 47, 3) := by decide +kernel
theorem dgk_13 : decode prog_77_method_8_code 13 = .ok (.isub, 1) := by decide +kernel
theorem dgk_14 : decode prog_77_method_8_code 14 = .ok (.iconst 1, 1) := by decide +kernel
theorem dgk_15 : decode prog_77_method_8_code 15 = .ok (.iadd, 1) := by decide +kernel
theorem dgk_16 : decode prog_77_method_8_code 16 = .ok (.ireturn, 1) := by decide +kernel
theorem pn_gk : plainName "com/example/modelwright/modelwright/model/SourceParser" = true := by first | (simp [plainName, overriddenIn]; done) | decide +kernel
theorem ef_gk (m : MethodId) (x0 : Addr) : entryFrame m #[(.ref x0)] 1 = mkF m 0 #[.val (.ref x0)] [] := by first | (simp [entryFrame, mkF, argsToLocals, Value.category]; done) | rfl
def Qgk (Z : State) (a1 : Addr) (w1 : Int32) (w2 : Int32) (w3 : Int32) (h0 : Heap) (n0 : Nat) (v : Option Value) (h : Heap) (L : List Loc) : Prop := v = some (.int (((w1 - w2) - w3) + (1 : Int32))) ∧ Fr n0 L ∧ h = h0
set_option maxRecDepth 65536 in
set_option maxHeartbeats 40000000 in
theorem rmgk (l : Launch) (Z : State) (a0 : Array Value) (hw : ∀ d ∈ tables_1, d.before a0 Z = true) (ws : List Jvm.Cond) (a1 : Addr) (w1 : Int32) (w2 : Int32) (w3 : Int32) (h0 : Heap) (n0 : Nat) (Z0 : n0 ≤ h0.size) (F0 : Fld Z h0 a1 "com/example/modelwright/modelwright/model/SourceParser" "pos" "I" (.int w1)) (F1 : Fld Z h0 a1 "com/example/modelwright/modelwright/model/SourceParser" "lineStart" "I" (.int w2)) (F2 : Fld Z h0 a1 "com/example/modelwright/modelwright/model/SourceParser" "lowSurrogatesOnLine" "I" (.int w3)) :
    MetFree l (⟨"com/example/modelwright/modelwright/model/SourceParser", "column", "()I"⟩ : MethodName) (head1 (Jvm.Cond.code (⟨"com/example/modelwright/modelwright/model/SourceParser", "column", "()I"⟩ : MethodName) prog_77_method_8_code 1 (some .int) :: ws) ({ frames := 0, cells := 0, slots := 0, locals := 0 } : Room)) (fun a U => a = #[(.ref a1)] ∧ Z.Warmed39 U.vm ∧ U.heap = h0) (fun _ _ _ _ _ => True) (fun _ U o U' => ∃ v L, o = .returned v ∧ Qgk Z a1 w1 w2 w3 h0 n0 v U'.heap L ∧ FrameEnd U o U' L ({ frames := 0, cells := 0, slots := 0, locals := 0 } : Room).cells ({ frames := 0, cells := 0, slots := 0, locals := 0 } : Room).slots) := by
  refine MetFree.of_bodySF (plainFor_of_name pn_gk) hisR ?_
  intro p e s m args below meth c s₁ Bd hml0 hP hK
  obtain ⟨rfl, hZ, hh⟩ := hP
  have hx := Bd.exec
  have hby := Bd.bytes
  have hml : c.maxLocals = 1 := hml0
  have hown : s.vm.findClass "com/example/modelwright/modelwright/model/SourceParser" = some m.cls := findClass_of_methodNamed Bd.named
  have hnm := (name_of_methodNamed Bd.named Bd.method).1
  have X0 : Stand p l e ({ frames := 0, cells := 0, slots := 0, locals := 0 } : Room) s m #[(.ref a1)] below meth c s₁ [] 0 0 := Stand.of_body Bd
  have e0 : s₁.heap = h0 := by rw [← hh, Bd.state]; rfl
  have N0 := Fr.nil n0
  show own_R p.tables e below (own_P s (Qgk Z a1 w1 w2 w3 h0 n0) ({ frames := 0, cells := 0, slots := 0, locals := 0 } : Room).cells ({ frames := 0, cells := 0, slots := 0, locals := 0 } : Room).slots) (s₁.setTop (entryFrame m #[(.ref a1)] 1))
  refine own_f s₁ (mkF m 0 #[.val (.ref a1)] []) (fun t k => castTop (ef_gk m a1) k) ?_
  refine own_f s₁ (mkF m 1 #[.val (.ref a1)] [(.ref a1)]) (fun t k => XS.aloadN X0.here hx rfl (hb hby dgk_0) rfl rfl k) ?_
  obtain ⟨T1, X1, e1, st1⟩ := getF X0 hx hZ hown (host := "") (Or.inl (own_w hw 84 rfl)) Via.refl e0 F0 (g := (mkF m 1 #[.val (.ref a1)] [(.ref a1)])) rfl rfl (hb hby dgk_1)
  refine own_f T1 (mkF m 4 #[.val (.ref a1)] [(.int w1)]) st1 ?_
  refine own_f T1 (mkF m 5 #[.val (.ref a1)] [(.ref a1), (.int w1)]) (fun t k => XS.aloadN X1.here hx rfl (hb hby dgk_4) rfl rfl k) ?_
  obtain ⟨T2, X2, e2, st2⟩ := getF X1 hx hZ hown (host := "") (Or.inl (own_w hw 119 rfl)) Via.refl e1 F1 (g := (mkF m 5 #[.val (.ref a1)] [(.ref a1), (.int w1)])) rfl rfl (hb hby dgk_5)
  refine own_f T2 (mkF m 8 #[.val (.ref a1)] [(.int w2), (.int w1)]) st2 ?_
  refine own_f T2 (mkF m 9 #[.val (.ref a1)] [(.int (w1 - w2))]) (fun t k => XS.isub X2.here hx rfl (hb hby dgk_8) rfl k) ?_
  refine own_f T2 (mkF m 10 #[.val (.ref a1)] [(.ref a1), (.int (w1 - w2))]) (fun t k => XS.aloadN X2.here hx rfl (hb hby dgk_9) rfl rfl k) ?_
  obtain ⟨T3, X3, e3, st3⟩ := getF X2 hx hZ hown (host := "") (Or.inl (own_w hw 121 rfl)) Via.refl e2 F2 (g := (mkF m 10 #[.val (.ref a1)] [(.ref a1), (.int (w1 - w2))])) rfl rfl (hb hby dgk_10)
  refine own_f T3 (mkF m 13 #[.val (.ref a1)] [(.int w3), (.int (w1 - w2))]) st3 ?_
  refine own_f T3 (mkF m 14 #[.val (.ref a1)] [(.int ((w1 - w2) - w3))]) (fun t k => XS.isub X3.here hx rfl (hb hby dgk_13) rfl k) ?_
  refine own_f T3 (mkF m 15 #[.val (.ref a1)] [(.int (1 : Int32)), (.int ((w1 - w2) - w3))]) (fun t k => XT.iconstV X3.here hx rfl (1 : Int32) (hb hby dgk_14) (by decide) k) ?_
  refine own_f T3 (mkF m 16 #[.val (.ref a1)] [(.int (((w1 - w2) - w3) + (1 : Int32)))]) (fun t k => XS.iadd X3.here hx rfl (hb hby dgk_15) rfl k) ?_
  obtain ⟨fs, hr, hrun, hended, hW, hsame⟩ := X3.leave (v := some (.int (((w1 - w2) - w3) + (1 : Int32)))) (fun h => by rw [Bd.returns] at h; cases h)
  refine ⟨_, _, retI X3 hx Bd.returns (hb hby dgk_16) hr, hrun, hended, _, _, rfl, ?_, ⟨_, rfl⟩, hW, hsame.mono (by decide) (by decide)⟩
  show Qgk Z a1 w1 w2 w3 h0 n0 _ T3.heap _
  rw [e3]
  exact ⟨rfl, N0, rfl⟩
theorem pn_0 : plainName "com/example/modelwright/modelwright/model/SourceParserNextLinePinLaw" = true := by first | (simp [plainName, overriddenIn]; done) | decide +kernel
theorem ef_0 (m : MethodId) (x0 : Int32) (x1 : Int32) : entryFrame m #[(.int x0), (.int x1)] maxLocals = mkF m 0 #[.val (.int x0), .val (.int x1), .unset, .unset, .unset, .unset, .unset, .unset, .unset, .unset, .unset, .unset, .unset] [] := by first | (simp [entryFrame, mkF, argsToLocals, Value.category, maxLocals]; done) | rfl
def Q0 (Z : State) (p1 : Int32) (p2 : Int32) (wc : Int32) (vf : Value) (h0 : Heap) (n0 : Nat) (v : Option Value) (h : Heap) (L : List Loc) : Prop := v = some (.int 1) ∧ Fr n0 L
set_option maxRecDepth 65536 in
set_option maxHeartbeats 40000000 in
theorem rm0 (l : Launch) (Z : State) (a0 : Array Value) (hw : ∀ d ∈ tables_1, d.before a0 Z = true) (ws : List Jvm.Cond) (p1 : Int32) (p2 : Int32) (wc : Int32) (vf : Value) (h0 : Heap) (n0 : Nat) (Z0 : n0 ≤ h0.size) (F0 : Old Z n0 h0) (SC : Sta Z Z.heap "java/lang/String" "COMPACT_STRINGS" "Z" (.int wc)) (HWC : ¬ (wc = 0)) (SF : Sta Z Z.heap "jdk/internal/util/Preconditions" "SIOOBE_FORMATTER" "Ljava/util/function/BiFunction;" vf) (hvf : vf.isRef = true) (SH : Sta Z Z.heap "java/lang/StringUTF16" "HI_BYTE_SHIFT" "I" (.int (0 : Int32))) (SL : Sta Z Z.heap "java/lang/StringUTF16" "LO_BYTE_SHIFT" "I" (.int (8 : Int32))) (SA : Sta Z Z.heap "java/lang/StringUTF16" "$assertionsDisabled" "Z" (.int (1 : Int32))) :
    MetFree l x (head1 (Jvm.Cond.code x code maxLocals ret :: ws) room_1) (fun a U => a = #[(.int p1), (.int p2)] ∧ Z.Warmed39 U.vm ∧ U.heap = h0) (fun _ _ _ _ _ => True) (fun _ U o U' => ∃ v L, o = .returned v ∧ Q0 Z p1 p2 wc vf h0 n0 v U'.heap L ∧ ReturnedEndW U o U' L room_1.cells room_1.slots) := by
  refine MetFree.of_bodySF (plainFor_of_name pn_0) hisR ?_
  intro p e s m args below meth c s₁ Bd hml0 hP hK
  obtain ⟨rfl, hZ, hh⟩ := hP
  have hx := Bd.exec
  have hby := Bd.bytes
  have hml : c.maxLocals = 13 := hml0
  have hown : s.vm.findClass "com/example/modelwright/modelwright/model/SourceParserNextLinePinLaw" = some m.cls := findClass_of_methodNamed Bd.named
  have hnm := (name_of_methodNamed Bd.named Bd.method).1
  have X0 : Stand p l e room_1 s m #[(.int p1), (.int p2)] below meth c s₁ [] 0 0 := Stand.of_body Bd
  have e0 : s₁.heap = h0 := by rw [← hh, Bd.state]; rfl
  have N0 := Fr.nil n0
  have hZ0 := hZ
  have hown0 := hown
  have hS : s.Since s.vm 0 := (State.WarmedH.refl s).since 0
  have hk : 0 ≤ h0.size := Nat.zero_le _
  show own_R p.tables e below (own_PW s (Q0 Z p1 p2 wc vf h0 n0) room_1.cells room_1.slots) (s₁.setTop (entryFrame m #[(.int p1), (.int p2)] maxLocals))
  refine own_f s₁ (mkF m 0 #[.val (.int p1), .val (.int p2), .unset, .unset, .unset, .unset, .unset, .unset, .unset, .unset, .unset, .unset, .unset] []) (fun t k => castTop (ef_0 m p1 p2) k) ?_
  refine own_f s₁ (mkF m 1 #[.val (.int p1), .val (.int p2), .unset, .unset, .unset, .unset, .unset, .unset, .unset, .unset, .unset, .unset, .unset] [(.int p1)]) (fun t k => XS.iloadN X0.here hx rfl (hb hby at_0) rfl k) ?_
  obtain ⟨_, _, ⟨T1, Lq1, kq_1, nq_1⟩, -, X1, ⟨Lc1, hQ1, lq1, yq1, zq1⟩, st1⟩ := Jvm.LawKit.callS X0 hx (y := (⟨"com/example/modelwright/modelwright/model/SourceParserNextLinePinLaw", "draw", "(I)C"⟩ : MethodName)) hown (mvT hZ (own_w hw 0 rfl)) (mvT hZ (own_w hw 1 rfl)) (mvT hZ (own_w hw 2 rfl)) (mvT hZ (own_w hw 3 rfl)) (by decide) (backOf (W := 0) (rmdr l Z a0 hw [] p1 h0 n0 Z0 ) hZ (own_w hw 3 rfl) (own_w hw 2 rfl) (by decide) (by decide)) (g := (mkF m 1 #[.val (.int p1), .val (.int p2), .unset, .unset, .unset, .unset, .unset, .unset, .unset, .unset, .unset, .unset, .unset] [(.int p1)])) rfl (by rw [hml]; rfl) (argsL := [(.int p1)]) (rest := []) (lenOf pd__I_C rfl) rfl (by show 2 * 0 + _ ≤ _; exact Nat.le_of_eq rfl) (hb hby at_1) (fun _ _ => ⟨rfl, e0, (by decide : 0 + 0 ≤ _), (by decide : 0 + 0 ≤ _)⟩)
  dsimp only [Pt.U, Pt.locs, Pt.cells, Pt.slots] at X1 lq1 yq1 zq1 st1 hQ1
  subst lq1 yq1 zq1
  obtain ⟨h1, e1⟩ : ∃ z, T1.heap = z := ⟨_, rfl⟩
  rw [e1] at hQ1
  unfold Qdr at hQ1
  obtain ⟨c1, rfl, Nq1, qh1, H1_0⟩ := hQ1
  have N1 := Fr.app N0 Nq1
  rw [qh1] at e1
  refine own_f T1 (mkF m 4 #[.val (.int p1), .val (.int p2), .unset, .unset, .unset, .unset, .unset, .unset, .unset, .unset, .unset, .unset, .unset] [(.int c1)]) st1 ?_
  refine own_f T1 (mkF m 5 #[.val (.int p1), .val (.int p2), .val (.int c1), .unset, .unset, .unset, .unset, .unset, .unset, .unset, .unset, .unset, .unset] []) (fun t k => XS.istoreN X1.here hx rfl (hb hby at_4) rfl (l' := #[.val (.int p1), .val (.int p2), .val (.int c1), .unset, .unset, .unset, .unset, .unset, .unset, .unset, .unset, .unset, .unset]) rfl k) ?_
  refine own_f T1 (mkF m 6 #[.val (.int p1), .val (.int p2), .val (.int c1), .unset, .unset, .unset, .unset, .unset, .unset, .unset, .unset, .unset, .unset] [(.int p2)]) (fun t k => XS.iloadN X1.here hx rfl (hb hby at_5) rfl k) ?_
  obtain ⟨_, _, ⟨T2, Lq2, kq_2, nq_2⟩, -, X2, ⟨Lc2, hQ2, lq2, yq2, zq2⟩, st2⟩ := Jvm.LawKit.callS X1 hx (y := (⟨"com/example/modelwright/modelwright/model/SourceParserNextLinePinLaw", "draw", "(I)C"⟩ : MethodName)) hown (mvT hZ (own_w hw 0 rfl)) (mvT hZ (own_w hw 1 rfl)) (mvT hZ (own_w hw 2 rfl)) (mvT hZ (own_w hw 3 rfl)) (by decide) (backOf (W := 0) (rmdr l Z a0 hw [] p2 h0 n0 Z0 ) hZ (own_w hw 3 rfl) (own_w hw 2 rfl) (by decide) (by decide)) (g := (mkF m 6 #[.val (.int p1), .val (.int p2), .val (.int c1), .unset, .unset, .unset, .unset, .unset, .unset, .unset, .unset, .unset, .unset] [(.int p2)])) rfl (by rw [hml]; rfl) (argsL := [(.int p2)]) (rest := []) (lenOf pd__I_C rfl) rfl (by show 2 * 0 + _ ≤ _; exact Nat.le_of_eq rfl) (hb hby at_6) (fun _ _ => ⟨rfl, e1, (by decide : 0 + 0 + 0 ≤ _), (by decide : 0 + 0 + 0 ≤ _)⟩)
  dsimp only [Pt.U, Pt.locs, Pt.cells, Pt.slots] at X2 lq2 yq2 zq2 st2 hQ2
  subst lq2 yq2 zq2
  obtain ⟨h2, e2⟩ : ∃ z, T2.heap = z := ⟨_, rfl⟩
  rw [e2] at hQ2
  unfold Qdr at hQ2
  obtain ⟨c2, rfl, Nq2, qh2, H2_0⟩ := hQ2
  have N2 := Fr.app N1 Nq2
  rw [qh2] at e2
  refine own_f T2 (mkF m 9 #[.val (.int p1), .val (.int p2), .val (.int c1), .unset, .unset, .unset, .unset, .unset, .unset, .unset, .unset, .unset, .unset] [(.int c2)]) st2 ?_
  refine own_f T2 (mkF m 10 #[.val (.int p1), .val (.int p2), .val (.int c1), .val (.int c2), .unset, .unset, .unset, .unset, .unset, .unset, .unset, .unset, .unset] []) (fun t k => XS.istoreN X2.here hx rfl (hb hby at_9) rfl (l' := #[.val (.int p1), .val (.int p2), .val (.int c1), .val (.int c2), .unset, .unset, .unset, .unset, .unset, .unset, .unset, .unset, .unset]) rfl k) ?_
  refine own_f T2 (mkF m 11 #[.val (.int p1), .val (.int p2), .val (.int c1), .val (.int c2), .unset, .unset, .unset, .unset, .unset, .unset, .unset, .unset, .unset] [(.int (4 : Int32))]) (fun t k => XT.iconstV X2.here hx rfl (4 : Int32) (hb hby at_10) (by decide) k) ?_
  obtain ⟨T3, h3, kA3, X3, e3, E3, A3, st3⟩ := newP X2 hx hZ (own_w hw 4 rfl) e2 (g := (mkF m 11 #[.val (.int p1), .val (.int p2), .val (.int c1), .val (.int c2), .unset, .unset, .unset, .unset, .unset, .unset, .unset, .unset, .unset] [(.int (4 : Int32))])) rfl (hb hby at_11) rfl (by decide) (cap := 4) (by decide) (by decide) (by decide) (by decide)
  obtain ⟨b3, g3⟩ : ∃ z, z = h0.size := ⟨_, rfl⟩
  rw [← g3] at A3 st3
  have ge3 : n0 ≤ b3 := by rw [g3]; exact Z0
  have Zs3 : n0 ≤ h3.size := Nat.le_trans Z0 E3.1
  have hk := Nat.le_trans hk E3.1
  have F_4 := F0.ext E3
  have F_5 : Arv Z h3 b3 kA3 .char (4 : Int32) [.int 0, .int 0, .int 0, .int 0] (.int 0) := own_arvnew 4 A3 (by decide)
  refine own_f T3 (mkF m 13 #[.val (.int p1), .val (.int p2), .val (.int c1), .val (.int c2), .unset, .unset, .unset, .unset, .unset, .unset, .unset, .unset, .unset] [(.ref b3)]) st3 ?_
  refine own_f T3 (mkF m 15 #[.val (.int p1), .val (.int p2), .val (.int c1), .val (.int c2), .val (.ref b3), .unset, .unset, .unset, .unset, .unset, .unset, .unset, .unset] []) (fun t k => XS.astore X3.here hx rfl (hb hby at_13) rfl rfl (l' := #[.val (.int p1), .val (.int p2), .val (.int c1), .val (.int c2), .val (.ref b3), .unset, .unset, .unset, .unset, .unset, .unset, .unset, .unset]) rfl k) ?_
  refine own_f T3 (mkF m 17 #[.val (.int p1), .val (.int p2), .val (.int c1), .val (.int c2), .val (.ref b3), .unset, .unset, .unset, .unset, .unset, .unset, .unset, .unset] [(.ref b3)]) (fun t k => XS.aload X3.here hx rfl (hb hby at_15) rfl rfl k) ?_
  refine own_f T3 (mkF m 18 #[.val (.int p1), .val (.int p2), .val (.int c1), .val (.int c2), .val (.ref b3), .unset, .unset, .unset, .unset, .unset, .unset, .unset, .unset] [(.int (0 : Int32)), (.ref b3)]) (fun t k => XT.iconstV X3.here hx rfl (0 : Int32) (hb hby at_17) (by decide) k) ?_
  refine own_f T3 (mkF m 19 #[.val (.int p1), .val (.int p2), .val (.int c1), .val (.int c2), .val (.ref b3), .unset, .unset, .unset, .unset, .unset, .unset, .unset, .unset] [(.int c1), (.int (0 : Int32)), (.ref b3)]) (fun t k => XS.iloadN X3.here hx rfl (hb hby at_18) rfl k) ?_
  obtain ⟨cl6, Ar6, q16, Sz6, q36, Hs6, Gs6⟩ := id F_5
  obtain ⟨T6, h6, X6, e6, W6, st6⟩ := stC X3 hx hZ e3 Ar6 (j := (0 : Int32)) (inb_of Sz6 ⟨by decide, by decide⟩) (g := (mkF m 19 #[.val (.int p1), .val (.int p2), .val (.int c1), .val (.int c2), .val (.ref b3), .unset, .unset, .unset, .unset, .unset, .unset, .unset, .unset] [(.int c1), (.int (0 : Int32)), (.ref b3)])) rfl rfl (hb hby at_19)
  have N6 := Fr.snoc X6 N2 ge3
  have Zs6 : n0 ≤ h6.size := by rw [W6.size]; exact Zs3
  have hk := Nat.le_trans hk (Nat.le_of_eq W6.size.symm)
  have F_7 := F_4.wr W6 ge3
  have F_8 : Arv Z h6 b3 kA3 .char (4 : Int32) [.int c1, .int 0, .int 0, .int 0] (.int 0) := Arv.set Ar6 q16 Sz6 q36 Hs6 Gs6 (by rw [← (H1_0.nar : nar .char c1 = c1)]; exact fits_nar_char _) (by rw [(H1_0.nar : nar .char c1 = c1)] at W6; exact W6) 0 (by decide) (by simp)
  refine own_f T6 (mkF m 20 #[.val (.int p1), .val (.int p2), .val (.int c1), .val (.int c2), .val (.ref b3), .unset, .unset, .unset, .unset, .unset, .unset, .unset, .unset] []) st6 ?_
  refine own_f T6 (mkF m 22 #[.val (.int p1), .val (.int p2), .val (.int c1), .val (.int c2), .val (.ref b3), .unset, .unset, .unset, .unset, .unset, .unset, .unset, .unset] [(.ref b3)]) (fun t k => XS.aload X6.here hx rfl (hb hby at_20) rfl rfl k) ?_
  refine own_f T6 (mkF m 23 #[.val (.int p1), .val (.int p2), .val (.int c1), .val (.int c2), .val (.ref b3), .unset, .unset, .unset, .unset, .unset, .unset, .unset, .unset] [(.int (1 : Int32)), (.ref b3)]) (fun t k => XT.iconstV X6.here hx rfl (1 : Int32) (hb hby at_22) (by decide) k) ?_
  refine own_f T6 (mkF m 25 #[.val (.int p1), .val (.int p2), .val (.int c1), .val (.int c2), .val (.ref b3), .unset, .unset, .unset, .unset, .unset, .unset, .unset, .unset] [(.int (10 : Int32)), (.int (1 : Int32)), (.ref b3)]) (fun t k => XT.bipushV X6.here hx rfl (10 : Int32) (hb hby at_23) (by decide) k) ?_
  obtain ⟨cl9, Ar9, q19, Sz9, q39, Hs9, Gs9⟩ := id F_8
  obtain ⟨T9, h9, X9, e9, W9, st9⟩ := stC X6 hx hZ e6 Ar9 (j := (1 : Int32)) (inb_of Sz9 ⟨by decide, by decide⟩) (g := (mkF m 25 #[.val (.int p1), .val (.int p2), .val (.int c1), .val (.int c2), .val (.ref b3), .unset, .unset, .unset, .unset, .unset, .unset, .unset, .unset] [(.int (10 : Int32)), (.int (1 : Int32)), (.ref b3)])) rfl rfl (hb hby at_25)
  have N9 := Fr.snoc X9 N6 ge3
  have Zs9 : n0 ≤ h9.size := by rw [W9.size]; exact Zs6
  have hk := Nat.le_trans hk (Nat.le_of_eq W9.size.symm)
  have F_10 := F_7.wr W9 ge3
  have F_11 : Arv Z h9 b3 kA3 .char (4 : Int32) [.int c1, .int (10 : Int32), .int 0, .int 0] (.int 0) := Arv.set Ar9 q19 Sz9 q39 Hs9 Gs9 (by rw [← ((by decide) : nar .char (10 : Int32) = (10 : Int32))]; exact fits_nar_char _) (by rw [((by decide) : nar .char (10 : Int32) = (10 : Int32))] at W9; exact W9) 1 (by decide) (by simp)
  refine own_f T9 (mkF m 26 #[.val (.int p1), .val (.int p2), .val (.int c1), .val (.int c2), .val (.ref b3), .unset, .unset, .unset, .unset, .unset, .unset, .unset, .unset] []) st9 ?_
  refine own_f T9 (mkF m 28 #[.val (.int p1), .val (.int p2), .val (.int c1), .val (.int c2), .val (.ref b3), .unset, .unset, .unset, .unset, .unset, .unset, .unset, .unset] [(.ref b3)]) (fun t k => XS.aload X9.here hx rfl (hb hby at_26) rfl rfl k) ?_
  refine own_f T9 (mkF m 29 #[.val (.int p1), .val (.int p2), .val (.int c1), .val (.int c2), .val (.ref b3), .unset, .unset, .unset, .unset, .unset, .unset, .unset, .unset] [(.int (2 : Int32)), (.ref b3)]) (fun t k => XT.iconstV X9.here hx rfl (2 : Int32) (hb hby at_28) (by decide) k) ?_
  refine own_f T9 (mkF m 30 #[.val (.int p1), .val (.int p2), .val (.int c1), .val (.int c2), .val (.ref b3), .unset, .unset, .unset, .unset, .unset, .unset, .unset, .unset] [(.int c2), (.int (2 : Int32)), (.ref b3)]) (fun t k => XS.iloadN X9.here hx rfl (hb hby at_29) rfl k) ?_
  obtain ⟨cl12, Ar12, q112, Sz12, q312, Hs12, Gs12⟩ := id F_11
  obtain ⟨T12, h12, X12, e12, W12, st12⟩ := stC X9 hx hZ e9 Ar12 (j := (2 : Int32)) (inb_of Sz12 ⟨by decide, by decide⟩) (g := (mkF m 30 #[.val (.int p1), .val (.int p2), .val (.int c1), .val (.int c2), .val (.ref b3), .unset, .unset, .unset, .unset, .unset, .unset, .unset, .unset] [(.int c2), (.int (2 : Int32)), (.ref b3)])) rfl rfl (hb hby at_30)
  have N12 := Fr.snoc X12 N9 ge3
  have Zs12 : n0 ≤ h12.size := by rw [W12.size]; exact Zs9
  have hk := Nat.le_trans hk (Nat.le_of_eq W12.size.symm)
  have F_13 := F_10.wr W12 ge3
  have F_14 : Arv Z h12 b3 kA3 .char (4 : Int32) [.int c1, .int (10 : Int32), .int c2, .int 0] (.int 0) := Arv.set Ar12 q112 Sz12 q312 Hs12 Gs12 (by rw [← (H2_0.nar : nar .char c2 = c2)]; exact fits_nar_char _) (by rw [(H2_0.nar : nar .char c2 = c2)] at W12; exact W12) 2 (by decide) (by simp)
  refine own_f T12 (mkF m 31 #[.val (.int p1), .val (.int p2), .val (.int c1), .val (.int c2), .val (.ref b3), .unset, .unset, .unset, .unset, .unset, .unset, .unset, .unset] []) st12 ?_
  refine own_f T12 (mkF m 33 #[.val (.int p1), .val (.int p2), .val (.int c1), .val (.int c2), .val (.ref b3), .unset, .unset, .unset, .unset, .unset, .unset, .unset, .unset] [(.ref b3)]) (fun t k => XS.aload X12.here hx rfl (hb hby at_31) rfl rfl k) ?_
  refine own_f T12 (mkF m 34 #[.val (.int p1), .val (.int p2), .val (.int c1), .val (.int c2), .val (.ref b3), .unset, .unset, .unset, .unset, .unset, .unset, .unset, .unset] [(.int (3 : Int32)), (.ref b3)]) (fun t k => XT.iconstV X12.here hx rfl (3 : Int32) (hb hby at_33) (by decide) k) ?_
  refine own_f T12 (mkF m 36 #[.val (.int p1), .val (.int p2), .val (.int c1), .val (.int c2), .val (.ref b3), .unset, .unset, .unset, .unset, .unset, .unset, .unset, .unset] [(.int (10 : Int32)), (.int (3 : Int32)), (.ref b3)]) (fun t k => XT.bipushV X12.here hx rfl (10 : Int32) (hb hby at_34) (by decide) k) ?_
  obtain ⟨cl15, Ar15, q115, Sz15, q315, Hs15, Gs15⟩ := id F_14
  obtain ⟨T15, h15, X15, e15, W15, st15⟩ := stC X12 hx hZ e12 Ar15 (j := (3 : Int32)) (inb_of Sz15 ⟨by decide, by decide⟩) (g := (mkF m 36 #[.val (.int p1), .val (.int p2), .val (.int c1), .val (.int c2), .val (.ref b3), .unset, .unset, .unset, .unset, .unset, .unset, .unset, .unset] [(.int (10 : Int32)), (.int (3 : Int32)), (.ref b3)])) rfl rfl (hb hby at_36)
  have N15 := Fr.snoc X15 N12 ge3
  have Zs15 : n0 ≤ h15.size := by rw [W15.size]; exact Zs12
  have hk := Nat.le_trans hk (Nat.le_of_eq W15.size.symm)
  have F_16 := F_13.wr W15 ge3
  have F_17 : Arv Z h15 b3 kA3 .char (4 : Int32) [.int c1, .int (10 : Int32), .int c2, .int (10 : Int32)] (.int 0) := Arv.set Ar15 q115 Sz15 q315 Hs15 Gs15 (by rw [← ((by decide) : nar .char (10 : Int32) = (10 : Int32))]; exact fits_nar_char _) (by rw [((by decide) : nar .char (10 : Int32) = (10 : Int32))] at W15; exact W15) 3 (by decide) (by simp)
  refine own_f T15 (mkF m 37 #[.val (.int p1), .val (.int p2), .val (.int c1), .val (.int c2), .val (.ref b3), .unset, .unset, .unset, .unset, .unset, .unset, .unset, .unset] []) st15 ?_
  obtain ⟨T18, h18, X18, e18, E18, A18, D18, U18, st18⟩ := newO X15 hx hZ hown (own_w hw 5 rfl) (own_w hw 6 rfl) (own_w hw 2 rfl) e15 (g := (mkF m 37 #[.val (.int p1), .val (.int p2), .val (.int c1), .val (.int c2), .val (.ref b3), .unset, .unset, .unset, .unset, .unset, .unset, .unset, .unset] [])) rfl (hb hby at_37) (by decide) (by decide)
  obtain ⟨b18, g18⟩ : ∃ z, z = h15.size := ⟨_, rfl⟩
  rw [← g18] at A18 D18 st18
  have ne18_b3 : b3 ≠ b18 := by rw [g18]; exact Nat.ne_of_lt F_17.lt
  have ge18 : n0 ≤ b18 := by rw [g18]; exact Zs15
  have Zs18 : n0 ≤ h18.size := Nat.le_trans Zs15 E18.1
  have hk := Nat.le_trans hk E18.1
  have F_19 := F_16.ext E18
  have F_20 := F_17.ext E18
  have F_21 : Fld Z h18 b18 "com/example/modelwright/modelwright/model/SourceParser" "line" "I" (.int 0) := D18 (Or.inl (own_w hw 49 rfl)) (ty := .int) (by decide)
  have F_22 : Fld Z h18 b18 "com/example/modelwright/modelwright/model/SourceParser" "escaped" "Ljava/lang/StringBuilder;" .null := D18 (Or.inr (own_w hw 69 rfl)) (ty := (.object "java/lang/StringBuilder")) (by decide)
  have F_23 : Fld Z h18 b18 "com/example/modelwright/modelwright/model/SourceParser" "shared" "[Ljava/lang/String;" .null := D18 (Or.inl (own_w hw 73 rfl)) (ty := (.array (.object "java/lang/String"))) (by decide)
  have F_24 : Fld Z h18 b18 "com/example/modelwright/modelwright/model/SourceParser" "path" "Ljava/lang/String;" .null := D18 (Or.inr (own_w hw 75 rfl)) (ty := (.object "java/lang/String")) (by decide)
  have F_25 : Fld Z h18 b18 "com/example/modelwright/modelwright/model/SourceParser" "text" "Ljava/lang/String;" .null := D18 (Or.inr (own_w hw 77 rfl)) (ty := (.object "java/lang/String")) (by decide)
  have F_26 : Fld Z h18 b18 "com/example/modelwright/modelwright/model/SourceParser" "pos" "I" (.int 0) := D18 (Or.inl (own_w hw 85 rfl)) (ty := .int) (by decide)
  have F_27 : Fld Z h18 b18 "com/example/modelwright/modelwright/model/SourceParser" "lineStart" "I" (.int 0) := D18 (Or.inl (own_w hw 120 rfl)) (ty := .int) (by decide)
  have F_28 : Fld Z h18 b18 "com/example/modelwright/modelwright/model/SourceParser" "lowSurrogatesOnLine" "I" (.int 0) := D18 (Or.inl (own_w hw 122 rfl)) (ty := .int) (by decide)
  refine own_f T18 (mkF m 40 #[.val (.int p1), .val (.int p2), .val (.int c1), .val (.int c2), .val (.ref b3), .unset, .unset, .unset, .unset, .unset, .unset, .unset, .unset] [(.ref b18)]) st18 ?_
  refine own_f T18 (mkF m 41 #[.val (.int p1), .val (.int p2), .val (.int c1), .val (.int c2), .val (.ref b3), .unset, .unset, .unset, .unset, .unset, .unset, .unset, .unset] [(.ref b18), (.ref b18)]) (fun t k => XS.dup X18.here hx rfl (hb hby at_40) rfl rfl k) ?_
  obtain ⟨b29, T29, h29, ks29, X29, e29, E29, hS, hk, hZ, hown, st29⟩ := ldcS (s := s) (vm0 := s.vm) X18 hx hZ hown (own_w hw 7 rfl) (own_str hw) e18 hS hk (g := (mkF m 41 #[.val (.int p1), .val (.int p2), .val (.int c1), .val (.int c2), .val (.ref b3), .unset, .unset, .unset, .unset, .unset, .unset, .unset, .unset] [(.ref b18), (.ref b18)])) rfl (hb hby at_41) (n := 4) (by decide) (by decide) (by decide) (by decide)
  have Zs29 : n0 ≤ h29.size := Nat.le_trans Zs18 E29.1
  have F_30 := F_19.ext E29
  have F_31 := F_20.ext E29
  have F_32 := A18.ext E29
  have F_33 := F_21.ext E29
  have F_34 := F_22.ext E29
  have F_35 := F_23.ext E29
  have F_36 := F_24.ext E29
  have F_37 := F_25.ext E29
  have F_38 := F_26.ext E29
  have F_39 := F_27.ext E29
  have F_40 := F_28.ext E29
  refine own_f T29 (mkF m 43 #[.val (.int p1), .val (.int p2), .val (.int c1), .val (.int c2), .val (.ref b3), .unset, .unset, .unset, .unset, .unset, .unset, .unset, .unset] [(.ref b29), (.ref b18), (.ref b18)]) st29 ?_
  obtain ⟨T41, h41, X41, e41, E41, A41, D41, U41, st41⟩ := newO X29 hx hZ hown (own_w hw 15 rfl) (own_w hw 9 rfl) (own_w hw 8 rfl) e29 (g := (mkF m 43 #[.val (.int p1), .val (.int p2), .val (.int c1), .val (.int c2), .val (.ref b3), .unset, .unset, .unset, .unset, .unset, .unset, .unset, .unset] [(.ref b29), (.ref b18), (.ref b18)])) rfl (hb hby at_43) (by decide) (by decide)
  obtain ⟨b41, g41⟩ : ∃ z, z = h29.size := ⟨_, rfl⟩
  rw [← g41] at A41 D41 st41
  have ne41_b18 : b18 ≠ b41 := by rw [g41]; exact Nat.ne_of_lt F_32.lt
  have ne41_b3 : b3 ≠ b41 := by rw [g41]; exact Nat.ne_of_lt F_31.lt
  have ge41 : n0 ≤ b41 := by rw [g41]; exact Zs29
  have Zs41 : n0 ≤ h41.size := Nat.le_trans Zs29 E41.1
  have hk := Nat.le_trans hk E41.1
  have F_42 := F_30.ext E41
  have F_43 := F_31.ext E41
  have F_44 := F_32.ext E41
  have F_45 := F_33.ext E41
  have F_46 := F_34.ext E41
  have F_47 := F_35.ext E41
  have F_48 := F_36.ext E41
  have F_49 := F_37.ext E41
  have F_50 := F_38.ext E41
  have F_51 := F_39.ext E41
  have F_52 := F_40.ext E41
  have F_53 : Fld Z h41 b41 "java/lang/String" "value" "[B" .null := D41 (Or.inr (own_w hw 11 rfl)) (ty := (.array .byte)) (by decide)
  have F_54 : Fld Z h41 b41 "java/lang/String" "coder" "B" (.int 0) := D41 (Or.inr (own_w hw 12 rfl)) (ty := .byte) (by decide)
  refine own_f T41 (mkF m 46 #[.val (.int p1), .val (.int p2), .val (.int c1), .val (.int c2), .val (.ref b3), .unset, .unset, .unset, .unset, .unset, .unset, .unset, .unset] [(.ref b41), (.ref b29), (.ref b18), (.ref b18)]) st41 ?_
  refine own_f T41 (mkF m 47 #[.val (.int p1), .val (.int p2), .val (.int c1), .val (.int c2), .val (.ref b3), .unset, .unset, .unset, .unset, .unset, .unset, .unset, .unset] [(.ref b41), (.ref b41), (.ref b29), (.ref b18), (.ref b18)]) (fun t k => XS.dup X41.here hx rfl (hb hby at_46) rfl rfl k) ?_
  refine own_f T41 (mkF m 49 #[.val (.int p1), .val (.int p2), .val (.int c1), .val (.int c2), .val (.ref b3), .unset, .unset, .unset, .unset, .unset, .unset, .unset, .unset] [(.ref b3), (.ref b41), (.ref b41), (.ref b29), (.ref b18), (.ref b18)]) (fun t k => XS.aload X41.here hx rfl (hb hby at_47) rfl rfl k) ?_
  obtain ⟨_, _, ⟨T55, Lq55, kq_55, nq_55⟩, -, X55, ⟨Lc55, hQ55, lq55, yq55, zq55⟩, st55⟩ := X41.specialBack hx (y := (⟨"java/lang/String", "<init>", "([C)V"⟩ : MethodName)) rfl hown (mvT hZ (own_w hw 16 rfl)) (mvT hZ (own_w hw 17 rfl)) (mvT hZ (own_w hw 18 rfl)) (by decide) (backOf (W := 4) (rmsu l Z a0 hw [] b41 b3 kA3 c1 c2 _ _ wc h41 n0 Zs41 F_42 A41 F_53 F_54 F_43 ge41 SC HWC SH SL SA ne41_b3 H1_0 H2_0) hZ (own_w hw 18 rfl) (own_w hw 8 rfl) (by decide) (by decide)) (g := (mkF m 49 #[.val (.int p1), .val (.int p2), .val (.int c1), .val (.int c2), .val (.ref b3), .unset, .unset, .unset, .unset, .unset, .unset, .unset, .unset] [(.ref b3), (.ref b41), (.ref b41), (.ref b29), (.ref b18), (.ref b18)])) rfl (by rw [hml]; rfl) (Steps.refl _) (a := b41) (argsL := [(.ref b3)]) (rest := [(.ref b41), (.ref b29), (.ref b18), (.ref b18)]) (lenOf pd__C_V rfl) rfl (by show 2 * 0 + _ ≤ _; exact Nat.le_of_eq rfl) (hb hby at_49) (fun _ _ => ⟨rfl, e41, (by decide : 0 + 0 + 0 + 1 + 1 + 2 + 1 + 2 ≤ _), (by decide : 0 + 0 + 0 + 4 + 11 + (4 + 4) + 4 + 12 ≤ _)⟩)
  dsimp only [Pt.U, Pt.locs, Pt.cells, Pt.slots] at X55 lq55 yq55 zq55 st55 hQ55
  subst lq55 yq55 zq55
  obtain ⟨h55, e55⟩ : ∃ z, T55.heap = z := ⟨_, rfl⟩
  rw [e55] at hQ55
  unfold Qsu at hQ55
  obtain ⟨rfl, Nq55, q55, mt, hmt, G55⟩ := hQ55
  have N55 := Fr.app N15 Nq55
  have Zs55 : n0 ≤ h55.size := Nat.le_trans Zs41 q55.1
  have hk := Nat.le_trans hk q55.1
  have F_56 := F_42.keep q55 (allS ge41 all0)
  have F_57 := F_44.keep q55
  have F_58 := F_45.keep q55 (ninS ne41_b18 nin0)
  have F_59 := F_46.keep q55 (ninS ne41_b18 nin0)
  have F_60 := F_47.keep q55 (ninS ne41_b18 nin0)
  have F_61 := F_48.keep q55 (ninS ne41_b18 nin0)
  have F_62 := F_49.keep q55 (ninS ne41_b18 nin0)
  have F_63 := F_50.keep q55 (ninS ne41_b18 nin0)
  have F_64 := F_51.keep q55 (ninS ne41_b18 nin0)
  have F_65 := F_52.keep q55 (ninS ne41_b18 nin0)
  refine own_g T55 (mkF m 52 #[.val (.int p1), .val (.int p2), .val (.int c1), .val (.int c2), .val (.ref b3), .unset, .unset, .unset, .unset, .unset, .unset, .unset, .unset] [(.ref b41), (.ref b29), (.ref b18), (.ref b18)]) st55 ?_
  obtain ⟨_, _, ⟨T66, Lq66, kq_66, nq_66⟩, -, X66, ⟨Lc66, hQ66, lq66, yq66, zq66⟩, st66⟩ := X55.specialBack hx (y := (⟨"com/example/modelwright/modelwright/model/SourceParserNextLinePinLaw", "<init>", "(Ljava/lang/String;Ljava/lang/String;)V"⟩ : MethodName)) rfl hown (mvT hZ (own_w hw 39 rfl)) (mvT hZ (own_w hw 40 rfl)) (mvT hZ (own_w hw 41 rfl)) (by decide) (backOf (W := 1) (rmli l Z a0 hw [] b18 b29 b41 _ _ _ _ _ _ h55 n0 Zs55 F_56 F_57 F_58 F_59 F_60 F_61 F_62 F_63 F_64 F_65 ge18 SC HWC) hZ (own_w hw 41 rfl) (own_w hw 2 rfl) (by decide) (by decide)) (g := (mkF m 52 #[.val (.int p1), .val (.int p2), .val (.int c1), .val (.int c2), .val (.ref b3), .unset, .unset, .unset, .unset, .unset, .unset, .unset, .unset] [(.ref b41), (.ref b29), (.ref b18), (.ref b18)])) rfl (by rw [hml]; rfl) (Steps.refl _) (a := b18) (argsL := [(.ref b29), (.ref b41)]) (rest := [(.ref b18)]) (lenOf pd__Ljava_lang_String_Ljava_lang_String_V rfl) rfl (by show 2 * 0 + _ ≤ _; exact Nat.le_of_eq rfl) (hb hby at_52) (fun _ _ => ⟨rfl, e55, (by decide : 0 + 0 + 0 + 1 + 1 + 2 + 1 + 2 + 3 ≤ _), (by decide : 0 + 0 + 0 + 4 + 11 + (4 + 4) + 4 + 12 + 280 ≤ _)⟩)
  dsimp only [Pt.U, Pt.locs, Pt.cells, Pt.slots] at X66 lq66 yq66 zq66 st66 hQ66
  subst lq66 yq66 zq66
  obtain ⟨h66, e66⟩ : ∃ z, T66.heap = z := ⟨_, rfl⟩
  rw [e66] at hQ66
  unfold Qli at hQ66
  obtain ⟨rfl, Nq66, qh66, G66_0, G66_1, G66_2, G66_3, G66_4, G66_5⟩ := hQ66
  have N66 := Fr.app N55 Nq66
  have Zs66 : n0 ≤ h66.size := Nat.le_trans Zs55 qh66.1
  have hk := Nat.le_trans hk qh66.1
  have F_67 := F_56.keep qh66 (allS ge18 all0)
  have F_68 := own_T.over G55 qh66 F_57 (own_w hw 6 rfl)
  refine own_g T66 (mkF m 55 #[.val (.int p1), .val (.int p2), .val (.int c1), .val (.int c2), .val (.ref b3), .unset, .unset, .unset, .unset, .unset, .unset, .unset, .unset] [(.ref b18)]) st66 ?_
  refine own_f T66 (mkF m 57 #[.val (.int p1), .val (.int p2), .val (.int c1), .val (.int c2), .val (.ref b3), .val (.ref b18), .unset, .unset, .unset, .unset, .unset, .unset, .unset] []) (fun t k => XS.astore X66.here hx rfl (hb hby at_55) rfl rfl (l' := #[.val (.int p1), .val (.int p2), .val (.int c1), .val (.int c2), .val (.ref b3), .val (.ref b18), .unset, .unset, .unset, .unset, .unset, .unset, .unset]) rfl k) ?_
  refine own_f T66 (mkF m 59 #[.val (.int p1), .val (.int p2), .val (.int c1), .val (.int c2), .val (.ref b3), .val (.ref b18), .unset, .unset, .unset, .unset, .unset, .unset, .unset] [(.ref b18)]) (fun t k => XS.aload X66.here hx rfl (hb hby at_57) rfl rfl k) ?_
  obtain ⟨cq69, kq69, qa69, qb69, qc69⟩ := isOf hZ e66 G66_0
  obtain ⟨_, _, ⟨T69, Lq69, kq_69, nq_69⟩, -, X69, ⟨Lc69, hQ69, lq69, yq69, zq69⟩, st69⟩ := X66.virtualBackUp hx (owner := "com/example/modelwright/modelwright/model/SourceParser") (x := (⟨"com/example/modelwright/modelwright/model/SourceParserNextLinePinLaw", "advance", "()V"⟩ : MethodName)) (y := (⟨"com/example/modelwright/modelwright/model/SourceParser", "advance", "()V"⟩ : MethodName)) hown (mvT hZ (own_w hw 78 rfl)) (mvT hZ (own_w hw 79 rfl)) (mvT hZ (own_w hw 80 rfl)) (by decide) (mvT hZ (own_w hw 82 rfl)) (mvT hZ (own_w hw 81 rfl)) (backOf (W := 0) (rmad0 l Z a0 hw [] b18 _ _ _ _ _ _ _ _ _ h66 n0 Zs66 F_67 G66_0 G66_2 G66_1 G66_4 G66_3 G66_5 ge18 F_68 SC HWC SF hvf SH SL SA H1_0) hZ (own_w hw 83 rfl) (own_w hw 45 rfl) (by decide) (by decide)) qa69 qc69 (g := (mkF m 59 #[.val (.int p1), .val (.int p2), .val (.int c1), .val (.int c2), .val (.ref b3), .val (.ref b18), .unset, .unset, .unset, .unset, .unset, .unset, .unset] [(.ref b18)])) rfl (by rw [hml]; rfl) (Steps.refl _) (argsL := []) (rest := []) (lenOf pd__V rfl) rfl (by show 2 * 0 + _ ≤ _; exact Nat.le_of_eq rfl) (hb hby at_59) (fun _ _ => ⟨rfl, e66, (by decide : 0 + 0 + 0 + 1 + 1 + 2 + 1 + 2 + 3 + 0 ≤ _), (by decide : 0 + 0 + 0 + 4 + 11 + (4 + 4) + 4 + 12 + 280 + 0 ≤ _)⟩)
  dsimp only [Pt.U, Pt.locs, Pt.cells, Pt.slots] at X69 lq69 yq69 zq69 st69 hQ69
  subst lq69 yq69 zq69
  obtain ⟨h69, e69⟩ : ∃ z, T69.heap = z := ⟨_, rfl⟩
  rw [e69] at hQ69
  unfold Qad0 at hQ69
  obtain ⟨rfl, Nq69, qh69, G69_0, G69_1, G69_2, G69_3, G69_4, G69_5⟩ := hQ69
  have N69 := Fr.app N66 Nq69
  have Zs69 : n0 ≤ h69.size := Nat.le_trans Zs66 qh69.1
  have hk := Nat.le_trans hk qh69.1
  have F_70 := F_67.keep qh69 (allS ge18 all0)
  have F_71 := own_T.over F_68 qh69 G66_0 (own_w hw 6 rfl)
  refine own_g T69 (mkF m 62 #[.val (.int p1), .val (.int p2), .val (.int c1), .val (.int c2), .val (.ref b3), .val (.ref b18), .unset, .unset, .unset, .unset, .unset, .unset, .unset] []) st69 ?_
  refine own_f T69 (mkF m 64 #[.val (.int p1), .val (.int p2), .val (.int c1), .val (.int c2), .val (.ref b3), .val (.ref b18), .unset, .unset, .unset, .unset, .unset, .unset, .unset] [(.ref b18)]) (fun t k => XS.aload X69.here hx rfl (hb hby at_62) rfl rfl k) ?_
  obtain ⟨cq72, kq72, qa72, qb72, qc72⟩ := isOf hZ e69 G69_0
  obtain ⟨_, _, ⟨T72, Lq72, kq_72, nq_72⟩, -, X72, ⟨Lc72, hQ72, lq72, yq72, zq72⟩, st72⟩ := X69.virtualBackUp hx (owner := "com/example/modelwright/modelwright/model/SourceParser") (x := (⟨"com/example/modelwright/modelwright/model/SourceParserNextLinePinLaw", "nextLine", "()V"⟩ : MethodName)) (y := (⟨"com/example/modelwright/modelwright/model/SourceParser", "nextLine", "()V"⟩ : MethodName)) hown (mvT hZ (own_w hw 113 rfl)) (mvT hZ (own_w hw 114 rfl)) (mvT hZ (own_w hw 115 rfl)) (by decide) (mvT hZ (own_w hw 117 rfl)) (mvT hZ (own_w hw 116 rfl)) (backOf (W := 0) (rmnx1 l Z a0 hw [] b18 _ _ _ h69 n0 Zs69 G69_0 G69_1 G69_4 G69_2 G69_3 G69_5 ge18) hZ (own_w hw 118 rfl) (own_w hw 45 rfl) (by decide) (by decide)) qa72 qc72 (g := (mkF m 64 #[.val (.int p1), .val (.int p2), .val (.int c1), .val (.int c2), .val (.ref b3), .val (.ref b18), .unset, .unset, .unset, .unset, .unset, .unset, .unset] [(.ref b18)])) rfl (by rw [hml]; rfl) (Steps.refl _) (argsL := []) (rest := []) (lenOf pd__V rfl) rfl (by show 2 * 0 + _ ≤ _; exact Nat.le_of_eq rfl) (hb hby at_64) (fun _ _ => ⟨rfl, e69, (by decide : 0 + 0 + 0 + 1 + 1 + 2 + 1 + 2 + 3 + 0 + 0 ≤ _), (by decide : 0 + 0 + 0 + 4 + 11 + (4 + 4) + 4 + 12 + 280 + 0 + 0 ≤ _)⟩)
  dsimp only [Pt.U, Pt.locs, Pt.cells, Pt.slots] at X72 lq72 yq72 zq72 st72 hQ72
  subst lq72 yq72 zq72
  obtain ⟨h72, e72⟩ : ∃ z, T72.heap = z := ⟨_, rfl⟩
  rw [e72] at hQ72
  unfold Qnx1 at hQ72
  obtain ⟨rfl, Nq72, qh72, G72_0, G72_1, G72_2, G72_3, G72_4, G72_5⟩ := hQ72
  have N72 := Fr.app N69 Nq72
  have Zs72 : n0 ≤ h72.size := Nat.le_trans Zs69 qh72.1
  have hk := Nat.le_trans hk qh72.1
  have F_73 := F_70.keep qh72 (allS ge18 all0)
  have F_74 := own_T.over F_71 qh72 G69_0 (own_w hw 6 rfl)
  refine own_g T72 (mkF m 67 #[.val (.int p1), .val (.int p2), .val (.int c1), .val (.int c2), .val (.ref b3), .val (.ref b18), .unset, .unset, .unset, .unset, .unset, .unset, .unset] []) st72 ?_
  refine own_f T72 (mkF m 69 #[.val (.int p1), .val (.int p2), .val (.int c1), .val (.int c2), .val (.ref b3), .val (.ref b18), .unset, .unset, .unset, .unset, .unset, .unset, .unset] [(.ref b18)]) (fun t k => XS.aload X72.here hx rfl (hb hby at_67) rfl rfl k) ?_
  obtain ⟨T75, X75, e75, st75⟩ := getF X72 hx hZ hown (host := "") (Or.inl (own_w hw 123 rfl)) (Via.of (own_w hw 124 rfl)) e72 G72_2 (g := (mkF m 69 #[.val (.int p1), .val (.int p2), .val (.int c1), .val (.int c2), .val (.ref b3), .val (.ref b18), .unset, .unset, .unset, .unset, .unset, .unset, .unset] [(.ref b18)])) rfl rfl (hb hby at_69)
  refine own_f T75 (mkF m 72 #[.val (.int p1), .val (.int p2), .val (.int c1), .val (.int c2), .val (.ref b3), .val (.ref b18), .unset, .unset, .unset, .unset, .unset, .unset, .unset] [(.int (2 : Int32))]) st75 ?_
  refine own_f T75 (mkF m 74 #[.val (.int p1), .val (.int p2), .val (.int c1), .val (.int c2), .val (.ref b3), .val (.ref b18), .val (.int (2 : Int32)), .unset, .unset, .unset, .unset, .unset, .unset] []) (fun t k => XS.istore X75.here hx rfl (hb hby at_72) rfl (l' := #[.val (.int p1), .val (.int p2), .val (.int c1), .val (.int c2), .val (.ref b3), .val (.ref b18), .val (.int (2 : Int32)), .unset, .unset, .unset, .unset, .unset, .unset]) rfl k) ?_
  refine own_f T75 (mkF m 76 #[.val (.int p1), .val (.int p2), .val (.int c1), .val (.int c2), .val (.ref b3), .val (.ref b18), .val (.int (2 : Int32)), .unset, .unset, .unset, .unset, .unset, .unset] [(.ref b18)]) (fun t k => XS.aload X75.here hx rfl (hb hby at_74) rfl rfl k) ?_
  obtain ⟨cq76, kq76, qa76, qb76, qc76⟩ := isOf hZ e75 G72_0
  obtain ⟨_, _, ⟨T76, Lq76, kq_76, nq_76⟩, -, X76, ⟨Lc76, hQ76, lq76, yq76, zq76⟩, st76⟩ := X75.virtualBackUp hx (owner := "com/example/modelwright/modelwright/model/SourceParser") (x := (⟨"com/example/modelwright/modelwright/model/SourceParserNextLinePinLaw", "line", "()I"⟩ : MethodName)) (y := (⟨"com/example/modelwright/modelwright/model/SourceParser", "line", "()I"⟩ : MethodName)) hown (mvT hZ (own_w hw 125 rfl)) (mvT hZ (own_w hw 126 rfl)) (mvT hZ (own_w hw 127 rfl)) (by decide) (mvT hZ (own_w hw 129 rfl)) (mvT hZ (own_w hw 128 rfl)) (backOf (W := 0) (rmgl l Z a0 hw [] b18 _ h72 n0 Zs72 G72_3) hZ (own_w hw 130 rfl) (own_w hw 45 rfl) (by decide) (by decide)) qa76 qc76 (g := (mkF m 76 #[.val (.int p1), .val (.int p2), .val (.int c1), .val (.int c2), .val (.ref b3), .val (.ref b18), .val (.int (2 : Int32)), .unset, .unset, .unset, .unset, .unset, .unset] [(.ref b18)])) rfl (by rw [hml]; rfl) (Steps.refl _) (argsL := []) (rest := []) (lenOf pd__I rfl) rfl (by show 2 * 0 + _ ≤ _; exact Nat.le_of_eq rfl) (hb hby at_76) (fun _ _ => ⟨rfl, e75, (by decide : 0 + 0 + 0 + 1 + 1 + 2 + 1 + 2 + 3 + 0 + 0 + 0 ≤ _), (by decide : 0 + 0 + 0 + 4 + 11 + (4 + 4) + 4 + 12 + 280 + 0 + 0 + 0 ≤ _)⟩)
  dsimp only [Pt.U, Pt.locs, Pt.cells, Pt.slots] at X76 lq76 yq76 zq76 st76 hQ76
  subst lq76 yq76 zq76
  obtain ⟨h76, e76⟩ : ∃ z, T76.heap = z := ⟨_, rfl⟩
  rw [e76] at hQ76
  unfold Qgl at hQ76
  obtain ⟨rfl, Nq76, qh76⟩ := hQ76
  have N76 := Fr.app N72 Nq76
  rw [qh76] at e76
  refine own_g T76 (mkF m 79 #[.val (.int p1), .val (.int p2), .val (.int c1), .val (.int c2), .val (.ref b3), .val (.ref b18), .val (.int (2 : Int32)), .unset, .unset, .unset, .unset, .unset, .unset] [(.int (2 : Int32))]) st76 ?_
  refine own_f T76 (mkF m 81 #[.val (.int p1), .val (.int p2), .val (.int c1), .val (.int c2), .val (.ref b3), .val (.ref b18), .val (.int (2 : Int32)), .val (.int (2 : Int32)), .unset, .unset, .unset, .unset, .unset] []) (fun t k => XS.istore X76.here hx rfl (hb hby at_79) rfl (l' := #[.val (.int p1), .val (.int p2), .val (.int c1), .val (.int c2), .val (.ref b3), .val (.ref b18), .val (.int (2 : Int32)), .val (.int (2 : Int32)), .unset, .unset, .unset, .unset, .unset]) rfl k) ?_
  refine own_f T76 (mkF m 83 #[.val (.int p1), .val (.int p2), .val (.int c1), .val (.int c2), .val (.ref b3), .val (.ref b18), .val (.int (2 : Int32)), .val (.int (2 : Int32)), .unset, .unset, .unset, .unset, .unset] [(.ref b18)]) (fun t k => XS.aload X76.here hx rfl (hb hby at_81) rfl rfl k) ?_
  obtain ⟨cq77, kq77, qa77, qb77, qc77⟩ := isOf hZ e76 G72_0
  obtain ⟨_, _, ⟨T77, Lq77, kq_77, nq_77⟩, -, X77, ⟨Lc77, hQ77, lq77, yq77, zq77⟩, st77⟩ := X76.virtualBackUp hx (owner := "com/example/modelwright/modelwright/model/SourceParser") (x := (⟨"com/example/modelwright/modelwright/model/SourceParserNextLinePinLaw", "column", "()I"⟩ : MethodName)) (y := (⟨"com/example/modelwright/modelwright/model/SourceParser", "column", "()I"⟩ : MethodName)) hown (mvT hZ (own_w hw 131 rfl)) (mvT hZ (own_w hw 132 rfl)) (mvT hZ (own_w hw 133 rfl)) (by decide) (mvT hZ (own_w hw 135 rfl)) (mvT hZ (own_w hw 134 rfl)) (backOf (W := 0) (rmgk l Z a0 hw [] b18 _ _ _ h72 n0 Zs72 G72_2 G72_4 G72_5) hZ (own_w hw 136 rfl) (own_w hw 45 rfl) (by decide) (by decide)) qa77 qc77 (g := (mkF m 83 #[.val (.int p1), .val (.int p2), .val (.int c1), .val (.int c2), .val (.ref b3), .val (.ref b18), .val (.int (2 : Int32)), .val (.int (2 : Int32)), .unset, .unset, .unset, .unset, .unset] [(.ref b18)])) rfl (by rw [hml]; rfl) (Steps.refl _) (argsL := []) (rest := []) (lenOf pd__I rfl) rfl (by show 2 * 0 + _ ≤ _; exact Nat.le_of_eq rfl) (hb hby at_83) (fun _ _ => ⟨rfl, e76, (by decide : 0 + 0 + 0 + 1 + 1 + 2 + 1 + 2 + 3 + 0 + 0 + 0 + 0 ≤ _), (by decide : 0 + 0 + 0 + 4 + 11 + (4 + 4) + 4 + 12 + 280 + 0 + 0 + 0 + 0 ≤ _)⟩)
  dsimp only [Pt.U, Pt.locs, Pt.cells, Pt.slots] at X77 lq77 yq77 zq77 st77 hQ77
  subst lq77 yq77 zq77
  obtain ⟨h77, e77⟩ : ∃ z, T77.heap = z := ⟨_, rfl⟩
  rw [e77] at hQ77
  unfold Qgk at hQ77
  obtain ⟨rfl, Nq77, qh77⟩ := hQ77
  have N77 := Fr.app N76 Nq77
  rw [qh77] at e77
  refine own_g T77 (mkF m 86 #[.val (.int p1), .val (.int p2), .val (.int c1), .val (.int c2), .val (.ref b3), .val (.ref b18), .val (.int (2 : Int32)), .val (.int (2 : Int32)), .unset, .unset, .unset, .unset, .unset] [(.int ((((2 : Int32) - (2 : Int32)) - (0 : Int32)) + (1 : Int32)))]) st77 ?_
  refine own_f T77 (mkF m 88 #[.val (.int p1), .val (.int p2), .val (.int c1), .val (.int c2), .val (.ref b3), .val (.ref b18), .val (.int (2 : Int32)), .val (.int (2 : Int32)), .val (.int ((((2 : Int32) - (2 : Int32)) - (0 : Int32)) + (1 : Int32))), .unset, .unset, .unset, .unset] []) (fun t k => XS.istore X77.here hx rfl (hb hby at_86) rfl (l' := #[.val (.int p1), .val (.int p2), .val (.int c1), .val (.int c2), .val (.ref b3), .val (.ref b18), .val (.int (2 : Int32)), .val (.int (2 : Int32)), .val (.int ((((2 : Int32) - (2 : Int32)) - (0 : Int32)) + (1 : Int32))), .unset, .unset, .unset, .unset]) rfl k) ?_
  refine own_f T77 (mkF m 90 #[.val (.int p1), .val (.int p2), .val (.int c1), .val (.int c2), .val (.ref b3), .val (.ref b18), .val (.int (2 : Int32)), .val (.int (2 : Int32)), .val (.int ((((2 : Int32) - (2 : Int32)) - (0 : Int32)) + (1 : Int32))), .unset, .unset, .unset, .unset] [(.ref b18)]) (fun t k => XS.aload X77.here hx rfl (hb hby at_88) rfl rfl k) ?_
  obtain ⟨cq78, kq78, qa78, qb78, qc78⟩ := isOf hZ e77 G72_0
  obtain ⟨_, _, ⟨T78, Lq78, kq_78, nq_78⟩, -, X78, ⟨Lc78, hQ78, lq78, yq78, zq78⟩, st78⟩ := X77.virtualBackUp hx (owner := "com/example/modelwright/modelwright/model/SourceParser") (x := (⟨"com/example/modelwright/modelwright/model/SourceParserNextLinePinLaw", "advance", "()V"⟩ : MethodName)) (y := (⟨"com/example/modelwright/modelwright/model/SourceParser", "advance", "()V"⟩ : MethodName)) hown (mvT hZ (own_w hw 78 rfl)) (mvT hZ (own_w hw 79 rfl)) (mvT hZ (own_w hw 80 rfl)) (by decide) (mvT hZ (own_w hw 82 rfl)) (mvT hZ (own_w hw 81 rfl)) (backOf (W := 0) (rmad2 l Z a0 hw [] b18 _ _ _ _ _ _ _ _ _ h72 n0 Zs72 F_73 G72_0 G72_1 G72_3 G72_4 G72_2 G72_5 ge18 F_74 SC HWC SF hvf SH SL SA H2_0) hZ (own_w hw 83 rfl) (own_w hw 45 rfl) (by decide) (by decide)) qa78 qc78 (g := (mkF m 90 #[.val (.int p1), .val (.int p2), .val (.int c1), .val (.int c2), .val (.ref b3), .val (.ref b18), .val (.int (2 : Int32)), .val (.int (2 : Int32)), .val (.int ((((2 : Int32) - (2 : Int32)) - (0 : Int32)) + (1 : Int32))), .unset, .unset, .unset, .unset] [(.ref b18)])) rfl (by rw [hml]; rfl) (Steps.refl _) (argsL := []) (rest := []) (lenOf pd__V rfl) rfl (by show 2 * 0 + _ ≤ _; exact Nat.le_of_eq rfl) (hb hby at_90) (fun _ _ => ⟨rfl, e77, (by decide : 0 + 0 + 0 + 1 + 1 + 2 + 1 + 2 + 3 + 0 + 0 + 0 + 0 + 0 ≤ _), (by decide : 0 + 0 + 0 + 4 + 11 + (4 + 4) + 4 + 12 + 280 + 0 + 0 + 0 + 0 + 0 ≤ _)⟩)
  dsimp only [Pt.U, Pt.locs, Pt.cells, Pt.slots] at X78 lq78 yq78 zq78 st78 hQ78
  subst lq78 yq78 zq78
  obtain ⟨h78, e78⟩ : ∃ z, T78.heap = z := ⟨_, rfl⟩
  rw [e78] at hQ78
  unfold Qad2 at hQ78
  obtain ⟨rfl, Nq78, qh78, G78_0, G78_1, G78_2, G78_3, G78_4, G78_5⟩ := hQ78
  have N78 := Fr.app N77 Nq78
  have Zs78 : n0 ≤ h78.size := Nat.le_trans Zs72 qh78.1
  have hk := Nat.le_trans hk qh78.1
  have F_79 := F_73.keep qh78 (allS ge18 all0)
  have F_80 := own_T.over F_74 qh78 G72_0 (own_w hw 6 rfl)
  refine own_g T78 (mkF m 93 #[.val (.int p1), .val (.int p2), .val (.int c1), .val (.int c2), .val (.ref b3), .val (.ref b18), .val (.int (2 : Int32)), .val (.int (2 : Int32)), .val (.int ((((2 : Int32) - (2 : Int32)) - (0 : Int32)) + (1 : Int32))), .unset, .unset, .unset, .unset] []) st78 ?_
  refine own_f T78 (mkF m 95 #[.val (.int p1), .val (.int p2), .val (.int c1), .val (.int c2), .val (.ref b3), .val (.ref b18), .val (.int (2 : Int32)), .val (.int (2 : Int32)), .val (.int ((((2 : Int32) - (2 : Int32)) - (0 : Int32)) + (1 : Int32))), .unset, .unset, .unset, .unset] [(.ref b18)]) (fun t k => XS.aload X78.here hx rfl (hb hby at_93) rfl rfl k) ?_
  obtain ⟨cq81, kq81, qa81, qb81, qc81⟩ := isOf hZ e78 G78_0
  obtain ⟨_, _, ⟨T81, Lq81, kq_81, nq_81⟩, -, X81, ⟨Lc81, hQ81, lq81, yq81, zq81⟩, st81⟩ := X78.virtualBackUp hx (owner := "com/example/modelwright/modelwright/model/SourceParser") (x := (⟨"com/example/modelwright/modelwright/model/SourceParserNextLinePinLaw", "column", "()I"⟩ : MethodName)) (y := (⟨"com/example/modelwright/modelwright/model/SourceParser", "column", "()I"⟩ : MethodName)) hown (mvT hZ (own_w hw 131 rfl)) (mvT hZ (own_w hw 132 rfl)) (mvT hZ (own_w hw 133 rfl)) (by decide) (mvT hZ (own_w hw 135 rfl)) (mvT hZ (own_w hw 134 rfl)) (backOf (W := 0) (rmgk l Z a0 hw [] b18 _ _ _ h78 n0 Zs78 G78_4 G78_3 G78_5) hZ (own_w hw 136 rfl) (own_w hw 45 rfl) (by decide) (by decide)) qa81 qc81 (g := (mkF m 95 #[.val (.int p1), .val (.int p2), .val (.int c1), .val (.int c2), .val (.ref b3), .val (.ref b18), .val (.int (2 : Int32)), .val (.int (2 : Int32)), .val (.int ((((2 : Int32) - (2 : Int32)) - (0 : Int32)) + (1 : Int32))), .unset, .unset, .unset, .unset] [(.ref b18)])) rfl (by rw [hml]; rfl) (Steps.refl _) (argsL := []) (rest := []) (lenOf pd__I rfl) rfl (by show 2 * 0 + _ ≤ _; exact Nat.le_of_eq rfl) (hb hby at_95) (fun _ _ => ⟨rfl, e78, (by decide : 0 + 0 + 0 + 1 + 1 + 2 + 1 + 2 + 3 + 0 + 0 + 0 + 0 + 0 + 0 ≤ _), (by decide : 0 + 0 + 0 + 4 + 11 + (4 + 4) + 4 + 12 + 280 + 0 + 0 + 0 + 0 + 0 + 0 ≤ _)⟩)
  dsimp only [Pt.U, Pt.locs, Pt.cells, Pt.slots] at X81 lq81 yq81 zq81 st81 hQ81
  subst lq81 yq81 zq81
  obtain ⟨h81, e81⟩ : ∃ z, T81.heap = z := ⟨_, rfl⟩
  rw [e81] at hQ81
  unfold Qgk at hQ81
  obtain ⟨rfl, Nq81, qh81⟩ := hQ81
  have N81 := Fr.app N78 Nq81
  rw [qh81] at e81
  refine own_g T81 (mkF m 98 #[.val (.int p1), .val (.int p2), .val (.int c1), .val (.int c2), .val (.ref b3), .val (.ref b18), .val (.int (2 : Int32)), .val (.int (2 : Int32)), .val (.int ((((2 : Int32) - (2 : Int32)) - (0 : Int32)) + (1 : Int32))), .unset, .unset, .unset, .unset] [(.int ((((3 : Int32) - (2 : Int32)) - ((0 : Int32) + own_low c2)) + (1 : Int32)))]) st81 ?_
  refine own_f T81 (mkF m 100 #[.val (.int p1), .val (.int p2), .val (.int c1), .val (.int c2), .val (.ref b3), .val (.ref b18), .val (.int (2 : Int32)), .val (.int (2 : Int32)), .val (.int ((((2 : Int32) - (2 : Int32)) - (0 : Int32)) + (1 : Int32))), .val (.int ((((3 : Int32) - (2 : Int32)) - ((0 : Int32) + own_low c2)) + (1 : Int32))), .unset, .unset, .unset] []) (fun t k => XS.istore X81.here hx rfl (hb hby at_98) rfl (l' := #[.val (.int p1), .val (.int p2), .val (.int c1), .val (.int c2), .val (.ref b3), .val (.ref b18), .val (.int (2 : Int32)), .val (.int (2 : Int32)), .val (.int ((((2 : Int32) - (2 : Int32)) - (0 : Int32)) + (1 : Int32))), .val (.int ((((3 : Int32) - (2 : Int32)) - ((0 : Int32) + own_low c2)) + (1 : Int32))), .unset, .unset, .unset]) rfl k) ?_
  refine own_f T81 (mkF m 102 #[.val (.int p1), .val (.int p2), .val (.int c1), .val (.int c2), .val (.ref b3), .val (.ref b18), .val (.int (2 : Int32)), .val (.int (2 : Int32)), .val (.int ((((2 : Int32) - (2 : Int32)) - (0 : Int32)) + (1 : Int32))), .val (.int ((((3 : Int32) - (2 : Int32)) - ((0 : Int32) + own_low c2)) + (1 : Int32))), .unset, .unset, .unset] [(.ref b18)]) (fun t k => XS.aload X81.here hx rfl (hb hby at_100) rfl rfl k) ?_
  obtain ⟨cq82, kq82, qa82, qb82, qc82⟩ := isOf hZ e81 G78_0
  obtain ⟨_, _, ⟨T82, Lq82, kq_82, nq_82⟩, -, X82, ⟨Lc82, hQ82, lq82, yq82, zq82⟩, st82⟩ := X81.virtualBackUp hx (owner := "com/example/modelwright/modelwright/model/SourceParser") (x := (⟨"com/example/modelwright/modelwright/model/SourceParserNextLinePinLaw", "nextLine", "()V"⟩ : MethodName)) (y := (⟨"com/example/modelwright/modelwright/model/SourceParser", "nextLine", "()V"⟩ : MethodName)) hown (mvT hZ (own_w hw 113 rfl)) (mvT hZ (own_w hw 114 rfl)) (mvT hZ (own_w hw 115 rfl)) (by decide) (mvT hZ (own_w hw 117 rfl)) (mvT hZ (own_w hw 116 rfl)) (backOf (W := 0) (rmnx3 l Z a0 hw [] b18 _ _ _ h78 n0 Zs78 G78_0 G78_1 G78_4 G78_2 G78_3 G78_5 ge18) hZ (own_w hw 118 rfl) (own_w hw 45 rfl) (by decide) (by decide)) qa82 qc82 (g := (mkF m 102 #[.val (.int p1), .val (.int p2), .val (.int c1), .val (.int c2), .val (.ref b3), .val (.ref b18), .val (.int (2 : Int32)), .val (.int (2 : Int32)), .val (.int ((((2 : Int32) - (2 : Int32)) - (0 : Int32)) + (1 : Int32))), .val (.int ((((3 : Int32) - (2 : Int32)) - ((0 : Int32) + own_low c2)) + (1 : Int32))), .unset, .unset, .unset] [(.ref b18)])) rfl (by rw [hml]; rfl) (Steps.refl _) (argsL := []) (rest := []) (lenOf pd__V rfl) rfl (by show 2 * 0 + _ ≤ _; exact Nat.le_of_eq rfl) (hb hby at_102) (fun _ _ => ⟨rfl, e81, (by decide : 0 + 0 + 0 + 1 + 1 + 2 + 1 + 2 + 3 + 0 + 0 + 0 + 0 + 0 + 0 + 0 ≤ _), (by decide : 0 + 0 + 0 + 4 + 11 + (4 + 4) + 4 + 12 + 280 + 0 + 0 + 0 + 0 + 0 + 0 + 0 ≤ _)⟩)
  dsimp only [Pt.U, Pt.locs, Pt.cells, Pt.slots] at X82 lq82 yq82 zq82 st82 hQ82
  subst lq82 yq82 zq82
  obtain ⟨h82, e82⟩ : ∃ z, T82.heap = z := ⟨_, rfl⟩
  rw [e82] at hQ82
  unfold Qnx3 at hQ82
  obtain ⟨rfl, Nq82, qh82, G82_0, G82_1, G82_2, G82_3, G82_4, G82_5⟩ := hQ82
  have N82 := Fr.app N81 Nq82
  have Zs82 : n0 ≤ h82.size := Nat.le_trans Zs78 qh82.1
  have hk := Nat.le_trans hk qh82.1
  have F_83 := F_79.keep qh82 (allS ge18 all0)
  have F_84 := own_T.over F_80 qh82 G78_0 (own_w hw 6 rfl)
  refine own_g T82 (mkF m 105 #[.val (.int p1), .val (.int p2), .val (.int c1), .val (.int c2), .val (.ref b3), .val (.ref b18), .val (.int (2 : Int32)), .val (.int (2 : Int32)), .val (.int ((((2 : Int32) - (2 : Int32)) - (0 : Int32)) + (1 : Int32))), .val (.int ((((3 : Int32) - (2 : Int32)) - ((0 : Int32) + own_low c2)) + (1 : Int32))), .unset, .unset, .unset] []) st82 ?_
  refine own_f T82 (mkF m 107 #[.val (.int p1), .val (.int p2), .val (.int c1), .val (.int c2), .val (.ref b3), .val (.ref b18), .val (.int (2 : Int32)), .val (.int (2 : Int32)), .val (.int ((((2 : Int32) - (2 : Int32)) - (0 : Int32)) + (1 : Int32))), .val (.int ((((3 : Int32) - (2 : Int32)) - ((0 : Int32) + own_low c2)) + (1 : Int32))), .unset, .unset, .unset] [(.ref b18)]) (fun t k => XS.aload X82.here hx rfl (hb hby at_105) rfl rfl k) ?_
  obtain ⟨T85, X85, e85, st85⟩ := getF X82 hx hZ hown (host := "") (Or.inl (own_w hw 123 rfl)) (Via.of (own_w hw 124 rfl)) e82 G82_2 (g := (mkF m 107 #[.val (.int p1), .val (.int p2), .val (.int c1), .val (.int c2), .val (.ref b3), .val (.ref b18), .val (.int (2 : Int32)), .val (.int (2 : Int32)), .val (.int ((((2 : Int32) - (2 : Int32)) - (0 : Int32)) + (1 : Int32))), .val (.int ((((3 : Int32) - (2 : Int32)) - ((0 : Int32) + own_low c2)) + (1 : Int32))), .unset, .unset, .unset] [(.ref b18)])) rfl rfl (hb hby at_107)
  refine own_f T85 (mkF m 110 #[.val (.int p1), .val (.int p2), .val (.int c1), .val (.int c2), .val (.ref b3), .val (.ref b18), .val (.int (2 : Int32)), .val (.int (2 : Int32)), .val (.int ((((2 : Int32) - (2 : Int32)) - (0 : Int32)) + (1 : Int32))), .val (.int ((((3 : Int32) - (2 : Int32)) - ((0 : Int32) + own_low c2)) + (1 : Int32))), .unset, .unset, .unset] [(.int (4 : Int32))]) st85 ?_
  refine own_f T85 (mkF m 112 #[.val (.int p1), .val (.int p2), .val (.int c1), .val (.int c2), .val (.ref b3), .val (.ref b18), .val (.int (2 : Int32)), .val (.int (2 : Int32)), .val (.int ((((2 : Int32) - (2 : Int32)) - (0 : Int32)) + (1 : Int32))), .val (.int ((((3 : Int32) - (2 : Int32)) - ((0 : Int32) + own_low c2)) + (1 : Int32))), .val (.int (4 : Int32)), .unset, .unset] []) (fun t k => XS.istore X85.here hx rfl (hb hby at_110) rfl (l' := #[.val (.int p1), .val (.int p2), .val (.int c1), .val (.int c2), .val (.ref b3), .val (.ref b18), .val (.int (2 : Int32)), .val (.int (2 : Int32)), .val (.int ((((2 : Int32) - (2 : Int32)) - (0 : Int32)) + (1 : Int32))), .val (.int ((((3 : Int32) - (2 : Int32)) - ((0 : Int32) + own_low c2)) + (1 : Int32))), .val (.int (4 : Int32)), .unset, .unset]) rfl k) ?_
  refine own_f T85 (mkF m 114 #[.val (.int p1), .val (.int p2), .val (.int c1), .val (.int c2), .val (.ref b3), .val (.ref b18), .val (.int (2 : Int32)), .val (.int (2 : Int32)), .val (.int ((((2 : Int32) - (2 : Int32)) - (0 : Int32)) + (1 : Int32))), .val (.int ((((3 : Int32) - (2 : Int32)) - ((0 : Int32) + own_low c2)) + (1 : Int32))), .val (.int (4 : Int32)), .unset, .unset] [(.ref b18)]) (fun t k => XS.aload X85.here hx rfl (hb hby at_112) rfl rfl k) ?_
  obtain ⟨cq86, kq86, qa86, qb86, qc86⟩ := isOf hZ e85 G82_0
  obtain ⟨_, _, ⟨T86, Lq86, kq_86, nq_86⟩, -, X86, ⟨Lc86, hQ86, lq86, yq86, zq86⟩, st86⟩ := X85.virtualBackUp hx (owner := "com/example/modelwright/modelwright/model/SourceParser") (x := (⟨"com/example/modelwright/modelwright/model/SourceParserNextLinePinLaw", "line", "()I"⟩ : MethodName)) (y := (⟨"com/example/modelwright/modelwright/model/SourceParser", "line", "()I"⟩ : MethodName)) hown (mvT hZ (own_w hw 125 rfl)) (mvT hZ (own_w hw 126 rfl)) (mvT hZ (own_w hw 127 rfl)) (by decide) (mvT hZ (own_w hw 129 rfl)) (mvT hZ (own_w hw 128 rfl)) (backOf (W := 0) (rmgl l Z a0 hw [] b18 _ h82 n0 Zs82 G82_3) hZ (own_w hw 130 rfl) (own_w hw 45 rfl) (by decide) (by decide)) qa86 qc86 (g := (mkF m 114 #[.val (.int p1), .val (.int p2), .val (.int c1), .val (.int c2), .val (.ref b3), .val (.ref b18), .val (.int (2 : Int32)), .val (.int (2 : Int32)), .val (.int ((((2 : Int32) - (2 : Int32)) - (0 : Int32)) + (1 : Int32))), .val (.int ((((3 : Int32) - (2 : Int32)) - ((0 : Int32) + own_low c2)) + (1 : Int32))), .val (.int (4 : Int32)), .unset, .unset] [(.ref b18)])) rfl (by rw [hml]; rfl) (Steps.refl _) (argsL := []) (rest := []) (lenOf pd__I rfl) rfl (by show 2 * 0 + _ ≤ _; exact Nat.le_of_eq rfl) (hb hby at_114) (fun _ _ => ⟨rfl, e85, (by decide : 0 + 0 + 0 + 1 + 1 + 2 + 1 + 2 + 3 + 0 + 0 + 0 + 0 + 0 + 0 + 0 + 0 ≤ _), (by decide : 0 + 0 + 0 + 4 + 11 + (4 + 4) + 4 + 12 + 280 + 0 + 0 + 0 + 0 + 0 + 0 + 0 + 0 ≤ _)⟩)
  dsimp only [Pt.U, Pt.locs, Pt.cells, Pt.slots] at X86 lq86 yq86 zq86 st86 hQ86
  subst lq86 yq86 zq86
  obtain ⟨h86, e86⟩ : ∃ z, T86.heap = z := ⟨_, rfl⟩
  rw [e86] at hQ86
  unfold Qgl at hQ86
  obtain ⟨rfl, Nq86, qh86⟩ := hQ86
  have N86 := Fr.app N82 Nq86
  rw [qh86] at e86
  refine own_g T86 (mkF m 117 #[.val (.int p1), .val (.int p2), .val (.int c1), .val (.int c2), .val (.ref b3), .val (.ref b18), .val (.int (2 : Int32)), .val (.int (2 : Int32)), .val (.int ((((2 : Int32) - (2 : Int32)) - (0 : Int32)) + (1 : Int32))), .val (.int ((((3 : Int32) - (2 : Int32)) - ((0 : Int32) + own_low c2)) + (1 : Int32))), .val (.int (4 : Int32)), .unset, .unset] [(.int (3 : Int32))]) st86 ?_
  refine own_f T86 (mkF m 119 #[.val (.int p1), .val (.int p2), .val (.int c1), .val (.int c2), .val (.ref b3), .val (.ref b18), .val (.int (2 : Int32)), .val (.int (2 : Int32)), .val (.int ((((2 : Int32) - (2 : Int32)) - (0 : Int32)) + (1 : Int32))), .val (.int ((((3 : Int32) - (2 : Int32)) - ((0 : Int32) + own_low c2)) + (1 : Int32))), .val (.int (4 : Int32)), .val (.int (3 : Int32)), .unset] []) (fun t k => XS.istore X86.here hx rfl (hb hby at_117) rfl (l' := #[.val (.int p1), .val (.int p2), .val (.int c1), .val (.int c2), .val (.ref b3), .val (.ref b18), .val (.int (2 : Int32)), .val (.int (2 : Int32)), .val (.int ((((2 : Int32) - (2 : Int32)) - (0 : Int32)) + (1 : Int32))), .val (.int ((((3 : Int32) - (2 : Int32)) - ((0 : Int32) + own_low c2)) + (1 : Int32))), .val (.int (4 : Int32)), .val (.int (3 : Int32)), .unset]) rfl k) ?_
  refine own_f T86 (mkF m 121 #[.val (.int p1), .val (.int p2), .val (.int c1), .val (.int c2), .val (.ref b3), .val (.ref b18), .val (.int (2 : Int32)), .val (.int (2 : Int32)), .val (.int ((((2 : Int32) - (2 : Int32)) - (0 : Int32)) + (1 : Int32))), .val (.int ((((3 : Int32) - (2 : Int32)) - ((0 : Int32) + own_low c2)) + (1 : Int32))), .val (.int (4 : Int32)), .val (.int (3 : Int32)), .unset] [(.ref b18)]) (fun t k => XS.aload X86.here hx rfl (hb hby at_119) rfl rfl k) ?_
  obtain ⟨cq87, kq87, qa87, qb87, qc87⟩ := isOf hZ e86 G82_0
  obtain ⟨_, _, ⟨T87, Lq87, kq_87, nq_87⟩, -, X87, ⟨Lc87, hQ87, lq87, yq87, zq87⟩, st87⟩ := X86.virtualBackUp hx (owner := "com/example/modelwright/modelwright/model/SourceParser") (x := (⟨"com/example/modelwright/modelwright/model/SourceParserNextLinePinLaw", "column", "()I"⟩ : MethodName)) (y := (⟨"com/example/modelwright/modelwright/model/SourceParser", "column", "()I"⟩ : MethodName)) hown (mvT hZ (own_w hw 131 rfl)) (mvT hZ (own_w hw 132 rfl)) (mvT hZ (own_w hw 133 rfl)) (by decide) (mvT hZ (own_w hw 135 rfl)) (mvT hZ (own_w hw 134 rfl)) (backOf (W := 0) (rmgk l Z a0 hw [] b18 _ _ _ h82 n0 Zs82 G82_2 G82_4 G82_5) hZ (own_w hw 136 rfl) (own_w hw 45 rfl) (by decide) (by decide)) qa87 qc87 (g := (mkF m 121 #[.val (.int p1), .val (.int p2), .val (.int c1), .val (.int c2), .val (.ref b3), .val (.ref b18), .val (.int (2 : Int32)), .val (.int (2 : Int32)), .val (.int ((((2 : Int32) - (2 : Int32)) - (0 : Int32)) + (1 : Int32))), .val (.int ((((3 : Int32) - (2 : Int32)) - ((0 : Int32) + own_low c2)) + (1 : Int32))), .val (.int (4 : Int32)), .val (.int (3 : Int32)), .unset] [(.ref b18)])) rfl (by rw [hml]; rfl) (Steps.refl _) (argsL := []) (rest := []) (lenOf pd__I rfl) rfl (by show 2 * 0 + _ ≤ _; exact Nat.le_of_eq rfl) (hb hby at_121) (fun _ _ => ⟨rfl, e86, (by decide : 0 + 0 + 0 + 1 + 1 + 2 + 1 + 2 + 3 + 0 + 0 + 0 + 0 + 0 + 0 + 0 + 0 + 0 ≤ _), (by decide : 0 + 0 + 0 + 4 + 11 + (4 + 4) + 4 + 12 + 280 + 0 + 0 + 0 + 0 + 0 + 0 + 0 + 0 + 0 ≤ _)⟩)
  dsimp only [Pt.U, Pt.locs, Pt.cells, Pt.slots] at X87 lq87 yq87 zq87 st87 hQ87
  subst lq87 yq87 zq87
  obtain ⟨h87, e87⟩ : ∃ z, T87.heap = z := ⟨_, rfl⟩
  rw [e87] at hQ87
  unfold Qgk at hQ87
  obtain ⟨rfl, Nq87, qh87⟩ := hQ87
  have N87 := Fr.app N86 Nq87
  rw [qh87] at e87
  refine own_g T87 (mkF m 124 #[.val (.int p1), .val (.int p2), .val (.int c1), .val (.int c2), .val (.ref b3), .val (.ref b18), .val (.int (2 : Int32)), .val (.int (2 : Int32)), .val (.int ((((2 : Int32) - (2 : Int32)) - (0 : Int32)) + (1 : Int32))), .val (.int ((((3 : Int32) - (2 : Int32)) - ((0 : Int32) + own_low c2)) + (1 : Int32))), .val (.int (4 : Int32)), .val (.int (3 : Int32)), .unset] [(.int ((((4 : Int32) - (4 : Int32)) - (0 : Int32)) + (1 : Int32)))]) st87 ?_
  refine own_f T87 (mkF m 126 #[.val (.int p1), .val (.int p2), .val (.int c1), .val (.int c2), .val (.ref b3), .val (.ref b18), .val (.int (2 : Int32)), .val (.int (2 : Int32)), .val (.int ((((2 : Int32) - (2 : Int32)) - (0 : Int32)) + (1 : Int32))), .val (.int ((((3 : Int32) - (2 : Int32)) - ((0 : Int32) + own_low c2)) + (1 : Int32))), .val (.int (4 : Int32)), .val (.int (3 : Int32)), .val (.int ((((4 : Int32) - (4 : Int32)) - (0 : Int32)) + (1 : Int32)))] []) (fun t k => XS.istore X87.here hx rfl (hb hby at_124) rfl (l' := #[.val (.int p1), .val (.int p2), .val (.int c1), .val (.int c2), .val (.ref b3), .val (.ref b18), .val (.int (2 : Int32)), .val (.int (2 : Int32)), .val (.int ((((2 : Int32) - (2 : Int32)) - (0 : Int32)) + (1 : Int32))), .val (.int ((((3 : Int32) - (2 : Int32)) - ((0 : Int32) + own_low c2)) + (1 : Int32))), .val (.int (4 : Int32)), .val (.int (3 : Int32)), .val (.int ((((4 : Int32) - (4 : Int32)) - (0 : Int32)) + (1 : Int32)))]) rfl k) ?_
  refine own_f T87 (mkF m 128 #[.val (.int p1), .val (.int p2), .val (.int c1), .val (.int c2), .val (.ref b3), .val (.ref b18), .val (.int (2 : Int32)), .val (.int (2 : Int32)), .val (.int ((((2 : Int32) - (2 : Int32)) - (0 : Int32)) + (1 : Int32))), .val (.int ((((3 : Int32) - (2 : Int32)) - ((0 : Int32) + own_low c2)) + (1 : Int32))), .val (.int (4 : Int32)), .val (.int (3 : Int32)), .val (.int ((((4 : Int32) - (4 : Int32)) - (0 : Int32)) + (1 : Int32)))] [(.int (2 : Int32))]) (fun t k => XS.iload X87.here hx rfl (hb hby at_126) rfl k) ?_
  refine own_f T87 (mkF m 129 #[.val (.int p1), .val (.int p2), .val (.int c1), .val (.int c2), .val (.ref b3), .val (.ref b18), .val (.int (2 : Int32)), .val (.int (2 : Int32)), .val (.int ((((2 : Int32) - (2 : Int32)) - (0 : Int32)) + (1 : Int32))), .val (.int ((((3 : Int32) - (2 : Int32)) - ((0 : Int32) + own_low c2)) + (1 : Int32))), .val (.int (4 : Int32)), .val (.int (3 : Int32)), .val (.int ((((4 : Int32) - (4 : Int32)) - (0 : Int32)) + (1 : Int32)))] [(.int (2 : Int32)), (.int (2 : Int32))]) (fun t k => XT.iconstV X87.here hx rfl (2 : Int32) (hb hby at_128) (by decide) k) ?_
  refine own_f T87 (mkF m 132 #[.val (.int p1), .val (.int p2), .val (.int c1), .val (.int c2), .val (.ref b3), .val (.ref b18), .val (.int (2 : Int32)), .val (.int (2 : Int32)), .val (.int ((((2 : Int32) - (2 : Int32)) - (0 : Int32)) + (1 : Int32))), .val (.int ((((3 : Int32) - (2 : Int32)) - ((0 : Int32) + own_low c2)) + (1 : Int32))), .val (.int (4 : Int32)), .val (.int (3 : Int32)), .val (.int ((((4 : Int32) - (4 : Int32)) - (0 : Int32)) + (1 : Int32)))] []) (fun t k => XS.icmpNo X87.here hx rfl (hb hby at_129) rfl (XT.ii_ne_f (by decide)) k) ?_
  refine own_f T87 (mkF m 134 #[.val (.int p1), .val (.int p2), .val (.int c1), .val (.int c2), .val (.ref b3), .val (.ref b18), .val (.int (2 : Int32)), .val (.int (2 : Int32)), .val (.int ((((2 : Int32) - (2 : Int32)) - (0 : Int32)) + (1 : Int32))), .val (.int ((((3 : Int32) - (2 : Int32)) - ((0 : Int32) + own_low c2)) + (1 : Int32))), .val (.int (4 : Int32)), .val (.int (3 : Int32)), .val (.int ((((4 : Int32) - (4 : Int32)) - (0 : Int32)) + (1 : Int32)))] [(.int (2 : Int32))]) (fun t k => XS.iload X87.here hx rfl (hb hby at_132) rfl k) ?_
  refine own_f T87 (mkF m 135 #[.val (.int p1), .val (.int p2), .val (.int c1), .val (.int c2), .val (.ref b3), .val (.ref b18), .val (.int (2 : Int32)), .val (.int (2 : Int32)), .val (.int ((((2 : Int32) - (2 : Int32)) - (0 : Int32)) + (1 : Int32))), .val (.int ((((3 : Int32) - (2 : Int32)) - ((0 : Int32) + own_low c2)) + (1 : Int32))), .val (.int (4 : Int32)), .val (.int (3 : Int32)), .val (.int ((((4 : Int32) - (4 : Int32)) - (0 : Int32)) + (1 : Int32)))] [(.int (2 : Int32)), (.int (2 : Int32))]) (fun t k => XT.iconstV X87.here hx rfl (2 : Int32) (hb hby at_134) (by decide) k) ?_
  refine own_f T87 (mkF m 138 #[.val (.int p1), .val (.int p2), .val (.int c1), .val (.int c2), .val (.ref b3), .val (.ref b18), .val (.int (2 : Int32)), .val (.int (2 : Int32)), .val (.int ((((2 : Int32) - (2 : Int32)) - (0 : Int32)) + (1 : Int32))), .val (.int ((((3 : Int32) - (2 : Int32)) - ((0 : Int32) + own_low c2)) + (1 : Int32))), .val (.int (4 : Int32)), .val (.int (3 : Int32)), .val (.int ((((4 : Int32) - (4 : Int32)) - (0 : Int32)) + (1 : Int32)))] []) (fun t k => XS.icmpNo X87.here hx rfl (hb hby at_135) rfl (XT.ii_ne_f (by decide)) k) ?_
  refine own_f T87 (mkF m 140 #[.val (.int p1), .val (.int p2), .val (.int c1), .val (.int c2), .val (.ref b3), .val (.ref b18), .val (.int (2 : Int32)), .val (.int (2 : Int32)), .val (.int ((((2 : Int32) - (2 : Int32)) - (0 : Int32)) + (1 : Int32))), .val (.int ((((3 : Int32) - (2 : Int32)) - ((0 : Int32) + own_low c2)) + (1 : Int32))), .val (.int (4 : Int32)), .val (.int (3 : Int32)), .val (.int ((((4 : Int32) - (4 : Int32)) - (0 : Int32)) + (1 : Int32)))] [(.int ((((2 : Int32) - (2 : Int32)) - (0 : Int32)) + (1 : Int32)))]) (fun t k => XS.iload X87.here hx rfl (hb hby at_138) rfl k) ?_
  refine own_f T87 (mkF m 141 #[.val (.int p1), .val (.int p2), .val (.int c1), .val (.int c2), .val (.ref b3), .val (.ref b18), .val (.int (2 : Int32)), .val (.int (2 : Int32)), .val (.int ((((2 : Int32) - (2 : Int32)) - (0 : Int32)) + (1 : Int32))), .val (.int ((((3 : Int32) - (2 : Int32)) - ((0 : Int32) + own_low c2)) + (1 : Int32))), .val (.int (4 : Int32)), .val (.int (3 : Int32)), .val (.int ((((4 : Int32) - (4 : Int32)) - (0 : Int32)) + (1 : Int32)))] [(.int (1 : Int32)), (.int ((((2 : Int32) - (2 : Int32)) - (0 : Int32)) + (1 : Int32)))]) (fun t k => XT.iconstV X87.here hx rfl (1 : Int32) (hb hby at_140) (by decide) k) ?_
  have hc88 : ((((2 : Int32) - (2 : Int32)) - (0 : Int32)) + (1 : Int32)) = (1 : Int32) := by decide
  refine own_f T87 (mkF m 144 #[.val (.int p1), .val (.int p2), .val (.int c1), .val (.int c2), .val (.ref b3), .val (.ref b18), .val (.int (2 : Int32)), .val (.int (2 : Int32)), .val (.int ((((2 : Int32) - (2 : Int32)) - (0 : Int32)) + (1 : Int32))), .val (.int ((((3 : Int32) - (2 : Int32)) - ((0 : Int32) + own_low c2)) + (1 : Int32))), .val (.int (4 : Int32)), .val (.int (3 : Int32)), .val (.int ((((4 : Int32) - (4 : Int32)) - (0 : Int32)) + (1 : Int32)))] []) (fun t k => XS.icmpNo X87.here hx rfl (hb hby at_141) rfl (XT.ii_ne_f hc88) k) ?_
  refine own_f T87 (mkF m 146 #[.val (.int p1), .val (.int p2), .val (.int c1), .val (.int c2), .val (.ref b3), .val (.ref b18), .val (.int (2 : Int32)), .val (.int (2 : Int32)), .val (.int ((((2 : Int32) - (2 : Int32)) - (0 : Int32)) + (1 : Int32))), .val (.int ((((3 : Int32) - (2 : Int32)) - ((0 : Int32) + own_low c2)) + (1 : Int32))), .val (.int (4 : Int32)), .val (.int (3 : Int32)), .val (.int ((((4 : Int32) - (4 : Int32)) - (0 : Int32)) + (1 : Int32)))] [(.int ((((3 : Int32) - (2 : Int32)) - ((0 : Int32) + own_low c2)) + (1 : Int32)))]) (fun t k => XS.iload X87.here hx rfl (hb hby at_144) rfl k) ?_
  refine own_f T87 (mkF m 147 #[.val (.int p1), .val (.int p2), .val (.int c1), .val (.int c2), .val (.ref b3), .val (.ref b18), .val (.int (2 : Int32)), .val (.int (2 : Int32)), .val (.int ((((2 : Int32) - (2 : Int32)) - (0 : Int32)) + (1 : Int32))), .val (.int ((((3 : Int32) - (2 : Int32)) - ((0 : Int32) + own_low c2)) + (1 : Int32))), .val (.int (4 : Int32)), .val (.int (3 : Int32)), .val (.int ((((4 : Int32) - (4 : Int32)) - (0 : Int32)) + (1 : Int32)))] [(.int (2 : Int32)), (.int ((((3 : Int32) - (2 : Int32)) - ((0 : Int32) + own_low c2)) + (1 : Int32)))]) (fun t k => XT.iconstV X87.here hx rfl (2 : Int32) (hb hby at_146) (by decide) k) ?_
  refine own_f T87 (mkF m 148 #[.val (.int p1), .val (.int p2), .val (.int c1), .val (.int c2), .val (.ref b3), .val (.ref b18), .val (.int (2 : Int32)), .val (.int (2 : Int32)), .val (.int ((((2 : Int32) - (2 : Int32)) - (0 : Int32)) + (1 : Int32))), .val (.int ((((3 : Int32) - (2 : Int32)) - ((0 : Int32) + own_low c2)) + (1 : Int32))), .val (.int (4 : Int32)), .val (.int (3 : Int32)), .val (.int ((((4 : Int32) - (4 : Int32)) - (0 : Int32)) + (1 : Int32)))] [(.int c2), (.int (2 : Int32)), (.int ((((3 : Int32) - (2 : Int32)) - ((0 : Int32) + own_low c2)) + (1 : Int32)))]) (fun t k => XS.iloadN X87.here hx rfl (hb hby at_147) rfl k) ?_
  obtain ⟨_, _, ⟨T89, Lq89, kq_89, nq_89⟩, -, X89, ⟨Lc89, hQ89, lq89, yq89, zq89⟩, st89⟩ := Jvm.LawKit.callS X87 hx (y := (⟨"com/example/modelwright/modelwright/model/SourceParserNextLinePinLaw", "low", "(C)I"⟩ : MethodName)) hown (mvT hZ (own_w hw 137 rfl)) (mvT hZ (own_w hw 138 rfl)) (mvT hZ (own_w hw 2 rfl)) (mvT hZ (own_w hw 139 rfl)) (by decide) (backOf (W := 2) (rmlo l Z a0 hw [] c2 h82 n0 Zs82 ) hZ (own_w hw 139 rfl) (own_w hw 2 rfl) (by decide) (by decide)) (g := (mkF m 148 #[.val (.int p1), .val (.int p2), .val (.int c1), .val (.int c2), .val (.ref b3), .val (.ref b18), .val (.int (2 : Int32)), .val (.int (2 : Int32)), .val (.int ((((2 : Int32) - (2 : Int32)) - (0 : Int32)) + (1 : Int32))), .val (.int ((((3 : Int32) - (2 : Int32)) - ((0 : Int32) + own_low c2)) + (1 : Int32))), .val (.int (4 : Int32)), .val (.int (3 : Int32)), .val (.int ((((4 : Int32) - (4 : Int32)) - (0 : Int32)) + (1 : Int32)))] [(.int c2), (.int (2 : Int32)), (.int ((((3 : Int32) - (2 : Int32)) - ((0 : Int32) + own_low c2)) + (1 : Int32)))])) rfl (by rw [hml]; rfl) (argsL := [(.int c2)]) (rest := [(.int (2 : Int32)), (.int ((((3 : Int32) - (2 : Int32)) - ((0 : Int32) + own_low c2)) + (1 : Int32)))]) (lenOf pd__C_I rfl) rfl (by show 2 * 0 + _ ≤ _; exact Nat.le_of_eq rfl) (hb hby at_148) (fun _ _ => ⟨rfl, e87, (by decide : 0 + 0 + 0 + 1 + 1 + 2 + 1 + 2 + 3 + 0 + 0 + 0 + 0 + 0 + 0 + 0 + 0 + 0 + 0 ≤ _), (by decide : 0 + 0 + 0 + 4 + 11 + (4 + 4) + 4 + 12 + 280 + 0 + 0 + 0 + 0 + 0 + 0 + 0 + 0 + 0 + 0 ≤ _)⟩)
  dsimp only [Pt.U, Pt.locs, Pt.cells, Pt.slots] at X89 lq89 yq89 zq89 st89 hQ89
  subst lq89 yq89 zq89
  obtain ⟨h89, e89⟩ : ∃ z, T89.heap = z := ⟨_, rfl⟩
  rw [e89] at hQ89
  unfold Qlo at hQ89
  obtain ⟨rfl, Nq89, qh89⟩ := hQ89
  have N89 := Fr.app N87 Nq89
  rw [qh89] at e89
  refine own_f T89 (mkF m 151 #[.val (.int p1), .val (.int p2), .val (.int c1), .val (.int c2), .val (.ref b3), .val (.ref b18), .val (.int (2 : Int32)), .val (.int (2 : Int32)), .val (.int ((((2 : Int32) - (2 : Int32)) - (0 : Int32)) + (1 : Int32))), .val (.int ((((3 : Int32) - (2 : Int32)) - ((0 : Int32) + own_low c2)) + (1 : Int32))), .val (.int (4 : Int32)), .val (.int (3 : Int32)), .val (.int ((((4 : Int32) - (4 : Int32)) - (0 : Int32)) + (1 : Int32)))] [(.int (own_low c2)), (.int (2 : Int32)), (.int ((((3 : Int32) - (2 : Int32)) - ((0 : Int32) + own_low c2)) + (1 : Int32)))]) st89 ?_
  refine own_f T89 (mkF m 152 #[.val (.int p1), .val (.int p2), .val (.int c1), .val (.int c2), .val (.ref b3), .val (.ref b18), .val (.int (2 : Int32)), .val (.int (2 : Int32)), .val (.int ((((2 : Int32) - (2 : Int32)) - (0 : Int32)) + (1 : Int32))), .val (.int ((((3 : Int32) - (2 : Int32)) - ((0 : Int32) + own_low c2)) + (1 : Int32))), .val (.int (4 : Int32)), .val (.int (3 : Int32)), .val (.int ((((4 : Int32) - (4 : Int32)) - (0 : Int32)) + (1 : Int32)))] [(.int ((2 : Int32) - (own_low c2))), (.int ((((3 : Int32) - (2 : Int32)) - ((0 : Int32) + own_low c2)) + (1 : Int32)))]) (fun t k => XS.isub X89.here hx rfl (hb hby at_151) rfl k) ?_
  have hc90 : ((((3 : Int32) - (2 : Int32)) - ((0 : Int32) + own_low c2)) + (1 : Int32)) = ((2 : Int32) - (own_low c2)) := own_col _
  refine own_f T89 (mkF m 155 #[.val (.int p1), .val (.int p2), .val (.int c1), .val (.int c2), .val (.ref b3), .val (.ref b18), .val (.int (2 : Int32)), .val (.int (2 : Int32)), .val (.int ((((2 : Int32) - (2 : Int32)) - (0 : Int32)) + (1 : Int32))), .val (.int ((((3 : Int32) - (2 : Int32)) - ((0 : Int32) + own_low c2)) + (1 : Int32))), .val (.int (4 : Int32)), .val (.int (3 : Int32)), .val (.int ((((4 : Int32) - (4 : Int32)) - (0 : Int32)) + (1 : Int32)))] []) (fun t k => XS.icmpNo X89.here hx rfl (hb hby at_152) rfl (XT.ii_ne_f hc90) k) ?_
  refine own_f T89 (mkF m 157 #[.val (.int p1), .val (.int p2), .val (.int c1), .val (.int c2), .val (.ref b3), .val (.ref b18), .val (.int (2 : Int32)), .val (.int (2 : Int32)), .val (.int ((((2 : Int32) - (2 : Int32)) - (0 : Int32)) + (1 : Int32))), .val (.int ((((3 : Int32) - (2 : Int32)) - ((0 : Int32) + own_low c2)) + (1 : Int32))), .val (.int (4 : Int32)), .val (.int (3 : Int32)), .val (.int ((((4 : Int32) - (4 : Int32)) - (0 : Int32)) + (1 : Int32)))] [(.int (4 : Int32))]) (fun t k => XS.iload X89.here hx rfl (hb hby at_155) rfl k) ?_
  refine own_f T89 (mkF m 158 #[.val (.int p1), .val (.int p2), .val (.int c1), .val (.int c2), .val (.ref b3), .val (.ref b18), .val (.int (2 : Int32)), .val (.int (2 : Int32)), .val (.int ((((2 : Int32) - (2 : Int32)) - (0 : Int32)) + (1 : Int32))), .val (.int ((((3 : Int32) - (2 : Int32)) - ((0 : Int32) + own_low c2)) + (1 : Int32))), .val (.int (4 : Int32)), .val (.int (3 : Int32)), .val (.int ((((4 : Int32) - (4 : Int32)) - (0 : Int32)) + (1 : Int32)))] [(.int (4 : Int32)), (.int (4 : Int32))]) (fun t k => XT.iconstV X89.here hx rfl (4 : Int32) (hb hby at_157) (by decide) k) ?_
  refine own_f T89 (mkF m 161 #[.val (.int p1), .val (.int p2), .val (.int c1), .val (.int c2), .val (.ref b3), .val (.ref b18), .val (.int (2 : Int32)), .val (.int (2 : Int32)), .val (.int ((((2 : Int32) - (2 : Int32)) - (0 : Int32)) + (1 : Int32))), .val (.int ((((3 : Int32) - (2 : Int32)) - ((0 : Int32) + own_low c2)) + (1 : Int32))), .val (.int (4 : Int32)), .val (.int (3 : Int32)), .val (.int ((((4 : Int32) - (4 : Int32)) - (0 : Int32)) + (1 : Int32)))] []) (fun t k => XS.icmpNo X89.here hx rfl (hb hby at_158) rfl (XT.ii_ne_f (by decide)) k) ?_
  refine own_f T89 (mkF m 163 #[.val (.int p1), .val (.int p2), .val (.int c1), .val (.int c2), .val (.ref b3), .val (.ref b18), .val (.int (2 : Int32)), .val (.int (2 : Int32)), .val (.int ((((2 : Int32) - (2 : Int32)) - (0 : Int32)) + (1 : Int32))), .val (.int ((((3 : Int32) - (2 : Int32)) - ((0 : Int32) + own_low c2)) + (1 : Int32))), .val (.int (4 : Int32)), .val (.int (3 : Int32)), .val (.int ((((4 : Int32) - (4 : Int32)) - (0 : Int32)) + (1 : Int32)))] [(.int (3 : Int32))]) (fun t k => XS.iload X89.here hx rfl (hb hby at_161) rfl k) ?_
  refine own_f T89 (mkF m 164 #[.val (.int p1), .val (.int p2), .val (.int c1), .val (.int c2), .val (.ref b3), .val (.ref b18), .val (.int (2 : Int32)), .val (.int (2 : Int32)), .val (.int ((((2 : Int32) - (2 : Int32)) - (0 : Int32)) + (1 : Int32))), .val (.int ((((3 : Int32) - (2 : Int32)) - ((0 : Int32) + own_low c2)) + (1 : Int32))), .val (.int (4 : Int32)), .val (.int (3 : Int32)), .val (.int ((((4 : Int32) - (4 : Int32)) - (0 : Int32)) + (1 : Int32)))] [(.int (3 : Int32)), (.int (3 : Int32))]) (fun t k => XT.iconstV X89.here hx rfl (3 : Int32) (hb hby at_163) (by decide) k) ?_
  refine own_f T89 (mkF m 167 #[.val (.int p1), .val (.int p2), .val (.int c1), .val (.int c2), .val (.ref b3), .val (.ref b18), .val (.int (2 : Int32)), .val (.int (2 : Int32)), .val (.int ((((2 : Int32) - (2 : Int32)) - (0 : Int32)) + (1 : Int32))), .val (.int ((((3 : Int32) - (2 : Int32)) - ((0 : Int32) + own_low c2)) + (1 : Int32))), .val (.int (4 : Int32)), .val (.int (3 : Int32)), .val (.int ((((4 : Int32) - (4 : Int32)) - (0 : Int32)) + (1 : Int32)))] []) (fun t k => XS.icmpNo X89.here hx rfl (hb hby at_164) rfl (XT.ii_ne_f (by decide)) k) ?_
  refine own_f T89 (mkF m 169 #[.val (.int p1), .val (.int p2), .val (.int c1), .val (.int c2), .val (.ref b3), .val (.ref b18), .val (.int (2 : Int32)), .val (.int (2 : Int32)), .val (.int ((((2 : Int32) - (2 : Int32)) - (0 : Int32)) + (1 : Int32))), .val (.int ((((3 : Int32) - (2 : Int32)) - ((0 : Int32) + own_low c2)) + (1 : Int32))), .val (.int (4 : Int32)), .val (.int (3 : Int32)), .val (.int ((((4 : Int32) - (4 : Int32)) - (0 : Int32)) + (1 : Int32)))] [(.int ((((4 : Int32) - (4 : Int32)) - (0 : Int32)) + (1 : Int32)))]) (fun t k => XS.iload X89.here hx rfl (hb hby at_167) rfl k) ?_
  refine own_f T89 (mkF m 170 #[.val (.int p1), .val (.int p2), .val (.int c1), .val (.int c2), .val (.ref b3), .val (.ref b18), .val (.int (2 : Int32)), .val (.int (2 : Int32)), .val (.int ((((2 : Int32) - (2 : Int32)) - (0 : Int32)) + (1 : Int32))), .val (.int ((((3 : Int32) - (2 : Int32)) - ((0 : Int32) + own_low c2)) + (1 : Int32))), .val (.int (4 : Int32)), .val (.int (3 : Int32)), .val (.int ((((4 : Int32) - (4 : Int32)) - (0 : Int32)) + (1 : Int32)))] [(.int (1 : Int32)), (.int ((((4 : Int32) - (4 : Int32)) - (0 : Int32)) + (1 : Int32)))]) (fun t k => XT.iconstV X89.here hx rfl (1 : Int32) (hb hby at_169) (by decide) k) ?_
  have hc91 : ((((4 : Int32) - (4 : Int32)) - (0 : Int32)) + (1 : Int32)) = (1 : Int32) := by decide
  refine own_f T89 (mkF m 173 #[.val (.int p1), .val (.int p2), .val (.int c1), .val (.int c2), .val (.ref b3), .val (.ref b18), .val (.int (2 : Int32)), .val (.int (2 : Int32)), .val (.int ((((2 : Int32) - (2 : Int32)) - (0 : Int32)) + (1 : Int32))), .val (.int ((((3 : Int32) - (2 : Int32)) - ((0 : Int32) + own_low c2)) + (1 : Int32))), .val (.int (4 : Int32)), .val (.int (3 : Int32)), .val (.int ((((4 : Int32) - (4 : Int32)) - (0 : Int32)) + (1 : Int32)))] []) (fun t k => XS.icmpNo X89.here hx rfl (hb hby at_170) rfl (XT.ii_ne_f hc91) k) ?_
  refine own_f T89 (mkF m 174 #[.val (.int p1), .val (.int p2), .val (.int c1), .val (.int c2), .val (.ref b3), .val (.ref b18), .val (.int (2 : Int32)), .val (.int (2 : Int32)), .val (.int ((((2 : Int32) - (2 : Int32)) - (0 : Int32)) + (1 : Int32))), .val (.int ((((3 : Int32) - (2 : Int32)) - ((0 : Int32) + own_low c2)) + (1 : Int32))), .val (.int (4 : Int32)), .val (.int (3 : Int32)), .val (.int ((((4 : Int32) - (4 : Int32)) - (0 : Int32)) + (1 : Int32)))] [(.int (1 : Int32))]) (fun t k => XT.iconstV X89.here hx rfl (1 : Int32) (hb hby at_173) (by decide) k) ?_
  refine own_f T89 (mkF m 178 #[.val (.int p1), .val (.int p2), .val (.int c1), .val (.int c2), .val (.ref b3), .val (.ref b18), .val (.int (2 : Int32)), .val (.int (2 : Int32)), .val (.int ((((2 : Int32) - (2 : Int32)) - (0 : Int32)) + (1 : Int32))), .val (.int ((((3 : Int32) - (2 : Int32)) - ((0 : Int32) + own_low c2)) + (1 : Int32))), .val (.int (4 : Int32)), .val (.int (3 : Int32)), .val (.int ((((4 : Int32) - (4 : Int32)) - (0 : Int32)) + (1 : Int32)))] [(.int (1 : Int32))]) (fun t k => XS.goto X89.here hx rfl (pc0 := 174) (pc' := 178) rfl (hb hby at_174) (by decide) (by decide) k) ?_
  obtain ⟨fs, hr, hrun, hended, hW⟩ := Stand.leaveW (s := s) (vm₁ := T29.vm) X89 hS (by rw [e89]; exact hk) (v := some (.int (1 : Int32))) (fun h => by rw [Bd.returns] at h; cases h)
  refine ⟨_, _, retN X89 hx (t := .boolean) Bd.returns (by simp) (hb hby at_178) hr, hrun, hended, _, _, rfl, ?_, hW.1, hW.2.1, hW.2.2.1, hW.2.2.2.mono (by decide) (by decide)⟩
  show Q0 Z p1 p2 wc vf h0 n0 _ T89.heap _
  rw [e89]
  exact ⟨rfl, N89⟩
set_option maxRecDepth 65536 in
set_option maxHeartbeats 40000000 in
theorem comes_1 {Post : Tables → Env → Array Value → State → Outcome → State → Prop} (hpost : ∀ tb e args s v u, (limb_1_1.after args s (.returned v) u = true ∧ limb_1_2.after args s (.returned v) u = true ∧ True) → ReturnedEndW s (.returned v) u (Jvm.fieldLocs frame_1_writes args s ++ Jvm.arrayLocs frame_1_arrays args s ++ Jvm.staticLocs frame_1_statics s) 32 1728 → Post tb e args s (.returned v) u) :
    ArmFor flags0 classFile x code maxLocals ret World_1 tables_1 room_1 Calls_1 rest_1 Pre_1 Post := by
  intro l hfl _ _ p e ha hc hk s m args below hf hA hF happ hP
  obtain ⟨hcalls, hrest, hpre⟩ := hP
  obtain ⟨-, -, -, hnamed, -, -, -, hat⟩ := (Spec.applies_iff hf).mp happ
  obtain ⟨hg, hn⟩ := and_e (Cond.before_iff.mp (show (Jvm.Cond.and given_1 narrow_1).before args s = true from hpre))
  obtain ⟨g0, r0⟩ := and_e hg
  obtain ⟨g1, r1⟩ := and_e r0
  obtain ⟨w0, w1, rfl⟩ : ∃ w0 w1 : Value, args = #[w0, w1] := by
    have hs : args.size = 2 := by simpa [Cond.value, given_1] using g0
    obtain ⟨L⟩ := args
    match L, hs with
    | [w0, w1], _ => exact ⟨w0, w1, rfl⟩
  have hw := fun d (hd : d ∈ tables_1) => atoms_spec (ws := Jvm.Cond.code x code maxLocals ret :: tables_1) hat d (List.mem_cons_of_mem _ hd)
  obtain ⟨hsets, hown0⟩ := atoms_of _ (rest_1_c_eq ▸ (show rest_1_c.before _ s = true from hrest))
  have hfit : Fit s := fun {y c} hc i hi => by
    obtain ⟨ha, rfl⟩ := Array.getElem?_eq_some_iff.mp hc
    have q := List.all_eq_true.mp ((Array.all_eq_true_iff_forall_mem.mp hF) _ (Array.getElem_mem ha)) i (List.mem_range.mpr hi)
    simpa [Array.getElem?_eq_getElem hi] using q
  obtain ⟨i0, ev0⟩ := is_v g1
  obtain rfl : w0 = (.int i0) := Option.some.inj ev0
  obtain ⟨i1, ev1⟩ := is_v r1
  obtain rfl : w1 = (.int i1) := Option.some.inj ev1
  have n5 := not_v (Cond.before_iff.mp (hsets _ (List.mem_of_getElem? (i := 2) rfl)))
  obtain ⟨wc, e10⟩ := is_v (Cond.before_iff.mp (hsets _ (List.mem_of_getElem? (i := 1) rfl)))
  have SC : Sta s s.heap "java/lang/String" "COMPACT_STRINGS" "Z" (.int wc) := Sta.start e10 (Or.inl (hsets _ (List.mem_of_getElem? (i := 0) rfl)))
  have HWC : ¬ (wc = (0 : Int32)) := gotF (Cond.eq_ints e10 (Term.int_eval (0))) n5
  obtain ⟨vf, e14, hvf⟩ := isR_v (Cond.before_iff.mp (hsets _ (List.mem_of_getElem? (i := 8) rfl)))
  have SF : Sta s s.heap "jdk/internal/util/Preconditions" "SIOOBE_FORMATTER" "Ljava/util/function/BiFunction;" vf := Sta.start e14 (Or.inl (hsets _ (List.mem_of_getElem? (i := 7) rfl)))
  have SA : Sta s s.heap "java/lang/StringUTF16" "$assertionsDisabled" "Z" (.int (1 : Int32)) := own_sta hfit (hsets _ (List.mem_of_getElem? (i := 10) rfl)) (hsets _ (List.mem_of_getElem? (i := 11) rfl)) (hsets _ (List.mem_of_getElem? (i := 12) rfl)) (ty := .boolean) (by decide) (by simp)
  have SH : Sta s s.heap "java/lang/StringUTF16" "HI_BYTE_SHIFT" "I" (.int (0 : Int32)) := own_sta hfit (hsets _ (List.mem_of_getElem? (i := 13) rfl)) (hsets _ (List.mem_of_getElem? (i := 14) rfl)) (hsets _ (List.mem_of_getElem? (i := 15) rfl)) (ty := .int) (by decide) (by simp)
  have SL : Sta s s.heap "java/lang/StringUTF16" "LO_BYTE_SHIFT" "I" (.int (8 : Int32)) := own_sta hfit (hsets _ (List.mem_of_getElem? (i := 16) rfl)) (hsets _ (List.mem_of_getElem? (i := 17) rfl)) (hsets _ (List.mem_of_getElem? (i := 18) rfl)) (ty := .int) (by decide) (by simp)
  obtain ⟨n, o, h1, h2, h3, _, L, rfl, ⟨rfl, N⟩, hq⟩ := rm0 l s _ hw tables_1 i0 i1 wc vf s.heap s.heap.size (Nat.le_refl _) (Old.start s) SC HWC SF hvf SH SL SA p e ha hc hk s m _ below hf ((Spec.applies_iff_loose hf).mp happ).1 ⟨rfl, State.Warmed39.refl s, rfl⟩ trivial
  refine ⟨n, _, h1, h2, h3, hpost _ _ _ _ _ _ ⟨Cond.after_iff.mpr rfl, Cond.after_iff.mpr (eq_i res_at (Term.int_eval (1)) rfl), trivial⟩ ⟨hq.1, hq.2.1, hq.2.2.1, (hq.2.2.2.sift fun y hy => Or.inr (N y hy)).mono (by decide) (by decide)⟩⟩
theorem main_1_1 : Claimed_1_1 := comes_1 fun _ _ _ _ _ _ h hF => ⟨h.1, hF⟩
theorem main_1_2 : Claimed_1_2 := comes_1 fun _ _ _ _ _ _ h hF => ⟨h.2.1, hF⟩
end Jvm.Pilot.@@N@@
namespace Jvm.Pilot.@@N@@
open Jvm Jvm.ClassFile Sem Op Lib Jvm.Free Jvm.Stand Jvm.Pilot.@@N@@.Jvm.D
/-! MADE BY PROGRAM (witnessworld.py) out of the Statement's table words and the real class files: 25 classes; the members and pool entries that the words name. The judged class is class 2, her method 3. -/
namespace start1
open Jvm.ClassFile
def u (s : String) : CpInfo := .utf8 (stringToUtf16 s)
/-- a pool by its gaps: so many unusable entries, then the entry; so many at the end -/
def gap : Nat → List CpInfo → List CpInfo
  | 0, r => r
  | n + 1, r => .unusable :: gap n r
def poolList (es : List (Nat × CpInfo)) (last : Nat) : List CpInfo := es.foldr (fun e r => gap e.1 (e.2 :: r)) (gap last [])
def pool (es : List (Nat × CpInfo)) (last : Nat) : Array CpInfo := ⟨poolList es last⟩
def fileOf (pool : Array CpInfo) (this : Nat) (attrs : Array Attribute := #[]) (ms : Array MethodInfo := #[]) (fl : Nat := 33) (sup : Nat := 0) (ifs : Array Nat := #[]) (fds : Array FieldInfo := #[]) : ClassFile where
  minorVersion := 0
  majorVersion := 65
  constantPool := pool
  accessFlags := fl
  thisClass := this
  superClass := sup
  interfaces := ifs
  fields := fds
  methods := ms
  attributes := attrs
def plain (name : String) (sup : Option ClassId) : Class where
  name := name
  kind := .ordinary
  loader := none
  accessFlags := 33
  super := sup
  interfaces := #[]
  cf := none
  fields := #[]
  methods := #[]
  instanceTypes := #[]
  staticTypes := #[]
  resolved := #[]
  callSites := []
  init := .initialized
  statics := none
  mirror := none

def pool0 : Array CpInfo := pool [(5, u "<init>"), (0, u "()V"), (1, .class_ 10), (1, u "java/lang/Object")] 113

def k0c0 : Code := { maxStack := 0, maxLocals := 1, code := object_method_1_code, exceptionTable := #[], attributes := #[] }
def k0m0 : Method := { name := "<init>", desc := "()V", sig := { parameters := [], returnType := none }, accessFlags := 1, code := some k0c0 }
/-- java/lang/Object -/
def k0 : Class := { plain "java/lang/Object" none with
  accessFlags := 33
  interfaces := #[]
  cf := some (fileOf pool0 8 #[] #[{ accessFlags := 1, nameIndex := 5, descriptorIndex := 6, attributes := #[] }] 33 0 #[] #[])
  fields := #[]
  methods := #[k0m0]
  instanceTypes := #[]
  staticTypes := #[]
  resolved := Array.replicate 124 none
  statics := none }

def pool1 : Array CpInfo := pool [(1, .methodref 2 3), (0, .class_ 4), (0, .nameAndType 5 6), (0, u "java/lang/Object"), (0, u "<init>"), (0, u "()V"), (0, .fieldref 8 9), (0, .class_ 10), (0, .nameAndType 11 12), (0, u "com/example/modelwright/modelwright/model/SourceParser"), (0, u "line"), (0, u "I"), (0, .class_ 14), (0, u "java/lang/StringBuilder"), (0, .methodref 13 3), (0, .fieldref 8 17), (0, .nameAndType 18 19), (0, u "escaped"), (0, u "Ljava/lang/StringBuilder;"), (0, .class_ 21), (0, u "java/lang/String"), (0, .fieldref 8 23), (0, .nameAndType 24 25), (0, u "shared"), (0, u "[Ljava/lang/String;"), (0, .fieldref 8 27), (0, .nameAndType 28 29), (0, u "path"), (0, u "Ljava/lang/String;"), (0, .fieldref 8 31), (0, .nameAndType 32 29), (0, u "text"), (0, .fieldref 8 34), (0, .nameAndType 35 12), (0, u "pos"), (3, u "()I"), (0, .methodref 20 41), (0, .nameAndType 42 43), (0, u "charAt"), (0, u "(I)C"), (0, .fieldref 8 45), (0, .nameAndType 46 12), (0, u "lineStart"), (0, .fieldref 8 48), (0, .nameAndType 49 12), (0, u "lowSurrogatesOnLine"), (0, .methodref 51 52), (0, .class_ 53), (0, .nameAndType 54 55), (0, u "java/lang/Character"), (0, u "isLowSurrogate"), (0, u "(C)Z"), (4, u "column"), (80, u "nextLine"), (42, u "depth"), (31, u "sharedByText"), (0, u "Ljava/util/Map;"), (8, u "sharedCount"), (67, .class_ 295), (0, u "com/example/modelwright/modelwright/model/SourceParser$1"), (3, u "(Ljava/lang/String;Ljava/lang/String;)V"), (11, u "MAX_DEPTH"), (2, u "MAX_NUMBER_LENGTH"), (1, u "UNICODE_ESCAPE_DIGITS"), (1, u "MAX_QUOTED_WORD"), (1, u "MAX_SHARED_LENGTH"), (6, u "advance")] 44

def k1c0 : Code := { maxStack := 3, maxLocals := 3, code := prog_77_method_1_code, exceptionTable := #[], attributes := #[] }
def k1m0 : Method := { name := "<init>", desc := "(Ljava/lang/String;Ljava/lang/String;)V", sig := { parameters := [(.object "java/lang/String"), (.object "java/lang/String")], returnType := none }, accessFlags := 4, code := some k1c0 }
def k1c1 : Code := { maxStack := 3, maxLocals := 1, code := prog_77_method_4_code, exceptionTable := #[], attributes := #[] }
def k1m1 : Method := { name := "nextLine", desc := "()V", sig := { parameters := [], returnType := none }, accessFlags := 20, code := some k1c1 }
def k1c2 : Code := { maxStack := 3, maxLocals := 1, code := prog_77_method_5_code, exceptionTable := #[], attributes := #[] }
def k1m2 : Method := { name := "advance", desc := "()V", sig := { parameters := [], returnType := none }, accessFlags := 20, code := some k1c2 }
def k1c3 : Code := { maxStack := 1, maxLocals := 1, code := prog_77_method_7_code, exceptionTable := #[], attributes := #[] }
def k1m3 : Method := { name := "line", desc := "()I", sig := { parameters := [], returnType := some .int }, accessFlags := 20, code := some k1c3 }
def k1c4 : Code := { maxStack := 2, maxLocals := 1, code := prog_77_method_8_code, exceptionTable := #[], attributes := #[] }
def k1m4 : Method := { name := "column", desc := "()I", sig := { parameters := [], returnType := some .int }, accessFlags := 20, code := some k1c4 }
/-- com/example/modelwright/modelwright/model/SourceParser -/
def k1 : Class := { plain "com/example/modelwright/modelwright/model/SourceParser" (some 0) with
  accessFlags := 1057
  interfaces := #[]
  cf := some (fileOf pool1 8 #[.nestMembers #[294]] #[{ accessFlags := 4, nameIndex := 5, descriptorIndex := 299, attributes := #[] }, { accessFlags := 20, nameIndex := 141, descriptorIndex := 6, attributes := #[] }, { accessFlags := 20, nameIndex := 327, descriptorIndex := 6, attributes := #[] }, { accessFlags := 20, nameIndex := 11, descriptorIndex := 39, attributes := #[] }, { accessFlags := 20, nameIndex := 60, descriptorIndex := 39, attributes := #[] }] 1057 2 #[] #[{ accessFlags := 25, nameIndex := 311, descriptorIndex := 12, attributes := #[] }, { accessFlags := 25, nameIndex := 314, descriptorIndex := 12, attributes := #[] }, { accessFlags := 28, nameIndex := 316, descriptorIndex := 12, attributes := #[] }, { accessFlags := 26, nameIndex := 318, descriptorIndex := 12, attributes := #[] }, { accessFlags := 26, nameIndex := 320, descriptorIndex := 12, attributes := #[] }, { accessFlags := 20, nameIndex := 28, descriptorIndex := 29, attributes := #[] }, { accessFlags := 20, nameIndex := 32, descriptorIndex := 29, attributes := #[] }, { accessFlags := 4, nameIndex := 35, descriptorIndex := 12, attributes := #[] }, { accessFlags := 2, nameIndex := 11, descriptorIndex := 12, attributes := #[] }, { accessFlags := 2, nameIndex := 46, descriptorIndex := 12, attributes := #[] }, { accessFlags := 2, nameIndex := 49, descriptorIndex := 12, attributes := #[] }, { accessFlags := 2, nameIndex := 184, descriptorIndex := 12, attributes := #[] }, { accessFlags := 18, nameIndex := 18, descriptorIndex := 19, attributes := #[] }, { accessFlags := 2, nameIndex := 24, descriptorIndex := 25, attributes := #[] }, { accessFlags := 2, nameIndex := 226, descriptorIndex := 12, attributes := #[] }, { accessFlags := 2, nameIndex := 216, descriptorIndex := 217, attributes := #[] }])
  fields := #[{ name := "MAX_DEPTH", type := .int, accessFlags := 25, slot := 0, constantValue := 0 }, { name := "MAX_NUMBER_LENGTH", type := .int, accessFlags := 25, slot := 1, constantValue := 0 }, { name := "UNICODE_ESCAPE_DIGITS", type := .int, accessFlags := 28, slot := 2, constantValue := 0 }, { name := "MAX_QUOTED_WORD", type := .int, accessFlags := 26, slot := 3, constantValue := 0 }, { name := "MAX_SHARED_LENGTH", type := .int, accessFlags := 26, slot := 4, constantValue := 0 }, { name := "path", type := (.object "java/lang/String"), accessFlags := 20, slot := 0, constantValue := 0 }, { name := "text", type := (.object "java/lang/String"), accessFlags := 20, slot := 1, constantValue := 0 }, { name := "pos", type := .int, accessFlags := 4, slot := 2, constantValue := 0 }, { name := "line", type := .int, accessFlags := 2, slot := 3, constantValue := 0 }, { name := "lineStart", type := .int, accessFlags := 2, slot := 4, constantValue := 0 }, { name := "lowSurrogatesOnLine", type := .int, accessFlags := 2, slot := 5, constantValue := 0 }, { name := "depth", type := .int, accessFlags := 2, slot := 6, constantValue := 0 }, { name := "escaped", type := (.object "java/lang/StringBuilder"), accessFlags := 18, slot := 7, constantValue := 0 }, { name := "shared", type := (.array (.object "java/lang/String")), accessFlags := 2, slot := 8, constantValue := 0 }, { name := "sharedCount", type := .int, accessFlags := 2, slot := 9, constantValue := 0 }, { name := "sharedByText", type := (.object "java/util/Map"), accessFlags := 2, slot := 10, constantValue := 0 }]
  methods := #[k1m0, k1m1, k1m2, k1m3, k1m4]
  instanceTypes := #[(.object "java/lang/String"), (.object "java/lang/String"), .int, .int, .int, .int, .int, (.object "java/lang/StringBuilder"), (.array (.object "java/lang/String")), .int, (.object "java/util/Map")]
  staticTypes := #[.int, .int, .int, .int, .int]
  resolved := Array.replicate 372 none
  statics := none }

def pool2 : Array CpInfo := pool [(1, .methodref 2 3), (0, .class_ 4), (0, .nameAndType 5 6), (0, u "com/example/modelwright/modelwright/model/SourceParser"), (0, u "<init>"), (0, u "(Ljava/lang/String;Ljava/lang/String;)V"), (0, .integer 56320), (0, .integer 57343), (0, .methodref 10 11), (0, .class_ 12), (0, .nameAndType 13 14), (0, u "com/example/modelwright/modelwright/model/SourceParserNextLinePinLaw"), (0, u "draw"), (0, u "(I)C"), (0, .string 16), (0, u "f"), (0, .class_ 18), (0, u "java/lang/String"), (0, .methodref 17 20), (0, .nameAndType 5 21), (0, u "([C)V"), (0, .methodref 10 3), (0, .methodref 10 24), (0, .nameAndType 25 26), (0, u "advance"), (0, u "()V"), (0, .methodref 10 28), (0, .nameAndType 29 26), (0, u "nextLine"), (0, .fieldref 10 31), (0, .nameAndType 32 33), (0, u "pos"), (0, u "I"), (0, .methodref 10 35), (0, .nameAndType 36 37), (0, u "line"), (0, u "()I"), (0, .methodref 10 39), (0, .nameAndType 40 37), (0, u "column"), (0, .methodref 10 42), (0, .nameAndType 43 44), (0, u "low"), (0, u "(C)I"), (3, u "law"), (0, u "(II)Z")] 4

def k2c0 : Code := { maxStack := 3, maxLocals := 3, code := method_1_code, exceptionTable := #[], attributes := #[] }
def k2m0 : Method := { name := "<init>", desc := "(Ljava/lang/String;Ljava/lang/String;)V", sig := { parameters := [(.object "java/lang/String"), (.object "java/lang/String")], returnType := none }, accessFlags := 2, code := some k2c0 }
def k2c1 : Code := { maxStack := 3, maxLocals := 1, code := method_2_code, exceptionTable := #[], attributes := #[] }
def k2m1 : Method := { name := "draw", desc := "(I)C", sig := { parameters := [.int], returnType := some .char }, accessFlags := 10, code := some k2c1 }
def k2c2 : Code := { maxStack := 2, maxLocals := 1, code := method_3_code, exceptionTable := #[], attributes := #[] }
def k2m2 : Method := { name := "low", desc := "(C)I", sig := { parameters := [.char], returnType := some .int }, accessFlags := 10, code := some k2c2 }
def k2c3 : Code := { maxStack := 6, maxLocals := 13, code := code, exceptionTable := #[], attributes := #[] }
def k2m3 : Method := { name := "law", desc := "(II)Z", sig := { parameters := [.int, .int], returnType := some .boolean }, accessFlags := 9, code := some k2c3 }
/-- com/example/modelwright/modelwright/model/SourceParserNextLinePinLaw -/
def k2 : Class := { plain "com/example/modelwright/modelwright/model/SourceParserNextLinePinLaw" (some 1) with
  accessFlags := 49
  interfaces := #[]
  cf := some (fileOf pool2 10 #[] #[{ accessFlags := 2, nameIndex := 5, descriptorIndex := 6, attributes := #[] }, { accessFlags := 10, nameIndex := 13, descriptorIndex := 14, attributes := #[] }, { accessFlags := 10, nameIndex := 43, descriptorIndex := 44, attributes := #[] }, { accessFlags := 9, nameIndex := 48, descriptorIndex := 49, attributes := #[] }] 49 2 #[] #[])
  fields := #[]
  methods := #[k2m0, k2m1, k2m2, k2m3]
  instanceTypes := #[(.object "java/lang/String"), (.object "java/lang/String"), .int, .int, .int, .int, .int, (.object "java/lang/StringBuilder"), (.array (.object "java/lang/String")), .int, (.object "java/util/Map")]
  staticTypes := #[]
  resolved := Array.replicate 54 none
  statics := none }

def pool3 : Array CpInfo := pool [(1, .class_ 2), (0, u "java/io/Serializable"), (0, .class_ 4), (0, u "java/lang/Object")] 2

/-- java/io/Serializable -/
def k3 : Class := { plain "java/io/Serializable" (some 0) with
  accessFlags := 1537
  interfaces := #[]
  cf := some (fileOf pool3 1 #[] #[] 1537 3 #[] #[])
  fields := #[]
  methods := #[]
  instanceTypes := #[]
  staticTypes := #[]
  resolved := Array.replicate 7 none
  statics := none }

def pool4 : Array CpInfo := pool [(1, .class_ 2), (0, u "java/lang/Comparable"), (0, .class_ 4), (0, u "java/lang/Object")] 7

/-- java/lang/Comparable -/
def k4 : Class := { plain "java/lang/Comparable" (some 0) with
  accessFlags := 1537
  interfaces := #[]
  cf := some (fileOf pool4 1 #[] #[] 1537 3 #[] #[])
  fields := #[]
  methods := #[]
  instanceTypes := #[]
  staticTypes := #[]
  resolved := Array.replicate 12 none
  statics := none }

def pool5 : Array CpInfo := pool [(2, .class_ 4), (1, u "java/lang/CharSequence"), (42, .class_ 48), (0, u "java/lang/CharSequence$1CodePointIterator"), (10, .class_ 60), (0, u "java/lang/CharSequence$1CharIterator"), (5, .class_ 67), (0, u "java/lang/Object")] 63

/-- java/lang/CharSequence -/
def k5 : Class := { plain "java/lang/CharSequence" (some 0) with
  accessFlags := 1537
  interfaces := #[]
  cf := some (fileOf pool5 2 #[.nestMembers #[47, 59]] #[] 1537 66 #[] #[])
  fields := #[]
  methods := #[]
  instanceTypes := #[]
  staticTypes := #[]
  resolved := Array.replicate 131 none
  statics := none }

def pool6 : Array CpInfo := pool [(1, .class_ 2), (0, u "java/lang/constant/Constable"), (0, .class_ 4), (0, u "java/lang/Object")] 6

/-- java/lang/constant/Constable -/
def k6 : Class := { plain "java/lang/constant/Constable" (some 0) with
  accessFlags := 1537
  interfaces := #[]
  cf := some (fileOf pool6 1 #[] #[] 1537 3 #[] #[])
  fields := #[]
  methods := #[]
  instanceTypes := #[]
  staticTypes := #[]
  resolved := Array.replicate 11 none
  statics := none }

def pool7 : Array CpInfo := pool [(1, .class_ 2), (0, u "java/lang/constant/ConstantDesc"), (0, .class_ 4), (0, u "java/lang/Object")] 32

/-- java/lang/constant/ConstantDesc -/
def k7 : Class := { plain "java/lang/constant/ConstantDesc" (some 0) with
  accessFlags := 1537
  interfaces := #[]
  cf := some (fileOf pool7 1 #[] #[] 1537 3 #[] #[])
  fields := #[]
  methods := #[]
  instanceTypes := #[]
  staticTypes := #[]
  resolved := Array.replicate 37 none
  statics := none }

def pool8 : Array CpInfo := pool [(1, .methodref 2 3), (0, .class_ 4), (0, .nameAndType 5 6), (0, u "java/lang/Object"), (0, u "<init>"), (0, u "()V"), (2, .fieldref 10 11), (0, .class_ 12), (0, .nameAndType 13 14), (0, u "java/lang/String"), (0, u "value"), (0, u "[B"), (0, .fieldref 10 16), (0, .nameAndType 17 18), (0, u "coder"), (0, u "B"), (2, u "hash"), (0, u "I"), (2, u "hashIsZero"), (0, u "Z"), (0, .methodref 10 28), (0, .nameAndType 5 29), (0, u "([CIILjava/lang/Void;)V"), (8, .fieldref 10 39), (0, .nameAndType 40 26), (0, u "COMPACT_STRINGS"), (1, .class_ 44), (1, u "java/lang/StringUTF16"), (0, u "compress"), (1, .methodref 42 48), (0, .nameAndType 49 50), (0, u "coderFromArrayLen"), (0, u "([BI)B"), (56, .class_ 109), (1, u "java/lang/StringLatin1"), (32, u "()Z"), (34, .methodref 42 178), (0, .nameAndType 45 179), (0, u "([CII)[B"), (183, u "([BI)C"), (27, u "(II)V"), (35, u "(I)C"), (64, .methodref 10 493), (0, .nameAndType 494 142), (0, u "isLatin1"), (0, .methodref 107 496), (0, .nameAndType 497 363), (0, u "charAt"), (0, .methodref 42 496), (2, u "checkIndex"), (73, .class_ 576), (0, u "java/lang/CharSequence"), (22, u "CASE_INSENSITIVE_ORDER"), (0, u "Ljava/util/Comparator;"), (409, u "([C)V"), (42, .fieldref 1054 1055), (0, .class_ 1056), (0, .nameAndType 1057 1058), (0, u "jdk/internal/util/Preconditions"), (0, u "SIOOBE_FORMATTER"), (0, u "Ljava/util/function/BiFunction;"), (0, .methodref 1054 1060), (0, .nameAndType 501 1061), (0, u "(IILjava/util/function/BiFunction;)I"), (39, u "serialPersistentFields"), (0, u "[Ljava/io/ObjectStreamField;"), (0, .class_ 1104), (0, u "java/lang/String$CaseInsensitiveComparator"), (1, .class_ 1107), (0, u "java/io/Serializable"), (0, .class_ 1109), (0, u "java/lang/Comparable"), (0, .class_ 1111), (0, u "java/lang/constant/Constable"), (0, .class_ 1113), (0, u "java/lang/constant/ConstantDesc"), (2, u "serialVersionUID"), (0, u "J"), (3, u "REPL"), (0, u "C"), (2, u "LATIN1"), (1, u "UTF16")] 323

def k8m0 : Method := { name := "<init>", desc := "()V", sig := { parameters := [], returnType := none }, accessFlags := 1, code := none }
def k8c1 : Code := { maxStack := 5, maxLocals := 2, code := jdk_42_method_3_code, exceptionTable := #[], attributes := #[] }
def k8m1 : Method := { name := "<init>", desc := "([C)V", sig := { parameters := [(.array .char)], returnType := none }, accessFlags := 1, code := some k8c1 }
def k8c2 : Code := { maxStack := 2, maxLocals := 2, code := jdk_42_method_56_code, exceptionTable := #[], attributes := #[] }
def k8m2 : Method := { name := "charAt", desc := "(I)C", sig := { parameters := [.int], returnType := some .char }, accessFlags := 1, code := some k8c2 }
def k8c3 : Code := { maxStack := 4, maxLocals := 6, code := jdk_42_method_149_code, exceptionTable := #[], attributes := #[] }
def k8m3 : Method := { name := "<init>", desc := "([CIILjava/lang/Void;)V", sig := { parameters := [(.array .char), .int, .int, (.object "java/lang/Void")], returnType := none }, accessFlags := 2, code := some k8c3 }
def k8c4 : Code := { maxStack := 1, maxLocals := 1, code := jdk_42_method_154_code, exceptionTable := #[], attributes := #[] }
def k8m4 : Method := { name := "isLatin1", desc := "()Z", sig := { parameters := [], returnType := some .boolean }, accessFlags := 0, code := some k8c4 }
def k8c5 : Code := { maxStack := 3, maxLocals := 2, code := jdk_42_method_155_code, exceptionTable := #[], attributes := #[] }
def k8m5 : Method := { name := "checkIndex", desc := "(II)V", sig := { parameters := [.int, .int], returnType := none }, accessFlags := 8, code := some k8c5 }
/-- java/lang/String -/
def k8 : Class := { plain "java/lang/String" (some 0) with
  accessFlags := 49
  interfaces := #[3, 4, 5, 6, 7]
  cf := some (fileOf pool8 10 #[.nestMembers #[1103]] #[{ accessFlags := 1, nameIndex := 5, descriptorIndex := 6, attributes := #[] }, { accessFlags := 1, nameIndex := 5, descriptorIndex := 1010, attributes := #[] }, { accessFlags := 1, nameIndex := 497, descriptorIndex := 427, attributes := #[] }, { accessFlags := 2, nameIndex := 5, descriptorIndex := 29, attributes := #[] }, { accessFlags := 0, nameIndex := 494, descriptorIndex := 142, attributes := #[] }, { accessFlags := 8, nameIndex := 501, descriptorIndex := 391, attributes := #[] }] 49 2 #[1106, 1108, 575, 1110, 1112] #[{ accessFlags := 18, nameIndex := 13, descriptorIndex := 14, attributes := #[] }, { accessFlags := 18, nameIndex := 17, descriptorIndex := 18, attributes := #[] }, { accessFlags := 2, nameIndex := 21, descriptorIndex := 22, attributes := #[] }, { accessFlags := 2, nameIndex := 25, descriptorIndex := 26, attributes := #[] }, { accessFlags := 26, nameIndex := 1116, descriptorIndex := 1117, attributes := #[] }, { accessFlags := 24, nameIndex := 40, descriptorIndex := 26, attributes := #[] }, { accessFlags := 26, nameIndex := 1101, descriptorIndex := 1102, attributes := #[] }, { accessFlags := 26, nameIndex := 1121, descriptorIndex := 1122, attributes := #[] }, { accessFlags := 25, nameIndex := 599, descriptorIndex := 600, attributes := #[] }, { accessFlags := 24, nameIndex := 1125, descriptorIndex := 18, attributes := #[] }, { accessFlags := 24, nameIndex := 1127, descriptorIndex := 18, attributes := #[] }])
  fields := #[{ name := "value", type := (.array .byte), accessFlags := 18, slot := 0, constantValue := 0 }, { name := "coder", type := .byte, accessFlags := 18, slot := 1, constantValue := 0 }, { name := "hash", type := .int, accessFlags := 2, slot := 2, constantValue := 0 }, { name := "hashIsZero", type := .boolean, accessFlags := 2, slot := 3, constantValue := 0 }, { name := "serialVersionUID", type := .long, accessFlags := 26, slot := 0, constantValue := 0 }, { name := "COMPACT_STRINGS", type := .boolean, accessFlags := 24, slot := 1, constantValue := 0 }, { name := "serialPersistentFields", type := (.array (.object "java/io/ObjectStreamField")), accessFlags := 26, slot := 2, constantValue := 0 }, { name := "REPL", type := .char, accessFlags := 26, slot := 3, constantValue := 0 }, { name := "CASE_INSENSITIVE_ORDER", type := (.object "java/util/Comparator"), accessFlags := 25, slot := 4, constantValue := 0 }, { name := "LATIN1", type := .byte, accessFlags := 24, slot := 5, constantValue := 0 }, { name := "UTF16", type := .byte, accessFlags := 24, slot := 6, constantValue := 0 }]
  methods := #[k8m0, k8m1, k8m2, k8m3, k8m4, k8m5]
  instanceTypes := #[(.array .byte), .byte, .int, .boolean]
  staticTypes := #[.long, .boolean, (.array (.object "java/io/ObjectStreamField")), .char, (.object "java/util/Comparator"), .byte, .byte]
  resolved := Array.replicate 1451 none
  statics := some 0 }

def pool9 : Array CpInfo := pool [(3, .class_ 4), (0, u "java/lang/String"), (1, .class_ 8), (1, u "java/lang/Object"), (0, u "<init>"), (0, u "()V"), (0, .methodref 12 13), (0, .class_ 14), (0, .nameAndType 15 16), (0, u "java/lang/StringUTF16"), (0, u "newBytesLength"), (0, u "(I)I"), (3, .integer 1073741823), (23, .fieldref 12 45), (0, .nameAndType 46 47), (0, u "$assertionsDisabled"), (0, u "Z"), (0, .methodref 12 49), (0, .nameAndType 50 51), (0, u "length"), (0, u "([B)I"), (7, .fieldref 12 60), (0, .nameAndType 61 62), (0, u "HI_BYTE_SHIFT"), (0, u "I"), (0, .fieldref 12 64), (0, .nameAndType 65 62), (0, u "LO_BYTE_SHIFT"), (1, .methodref 12 68), (0, .nameAndType 69 70), (0, u "checkIndex"), (0, u "(I[B)V"), (0, .methodref 12 72), (0, .nameAndType 73 74), (0, u "getChar"), (0, u "([BI)C"), (32, .methodref 12 108), (0, .nameAndType 109 110), (0, u "newBytesFor"), (0, u "(I)[B"), (0, .methodref 12 112), (0, .nameAndType 113 114), (0, u "putChar"), (0, u "([BII)V"), (0, .methodref 12 116), (0, .nameAndType 117 118), (0, u "compress"), (0, u "([CI[BII)I"), (0, .methodref 12 120), (0, .nameAndType 121 122), (0, u "toBytes"), (0, u "([CII)[B"), (138, u "coderFromArrayLen"), (0, u "([BI)B"), (106, .class_ 371), (1, u "java/lang/StringUTF16$LinesSpliterator"), (20, u "charAt"), (21, .methodref 3 415), (0, .nameAndType 69 416), (0, u "(II)V"), (13, u "MAX_LENGTH"), (196, .class_ 628), (0, u "java/lang/StringUTF16$CodePointsSpliterator"), (0, .class_ 630), (0, u "java/lang/StringUTF16$CharsSpliterator")] 4

def k9m0 : Method := { name := "<init>", desc := "()V", sig := { parameters := [], returnType := none }, accessFlags := 0, code := none }
def k9c1 : Code := { maxStack := 1, maxLocals := 1, code := jdk_52_method_2_code, exceptionTable := #[], attributes := #[] }
def k9m1 : Method := { name := "newBytesFor", desc := "(I)[B", sig := { parameters := [.int], returnType := some (.array .byte) }, accessFlags := 9, code := some k9c1 }
def k9c2 : Code := { maxStack := 4, maxLocals := 1, code := jdk_52_method_3_code, exceptionTable := #[], attributes := #[] }
def k9m2 : Method := { name := "newBytesLength", desc := "(I)I", sig := { parameters := [.int], returnType := some .int }, accessFlags := 9, code := some k9c2 }
def k9c3 : Code := { maxStack := 4, maxLocals := 3, code := jdk_52_method_4_code, exceptionTable := #[], attributes := #[] }
def k9m3 : Method := { name := "putChar", desc := "([BII)V", sig := { parameters := [(.array .byte), .int, .int], returnType := none }, accessFlags := 8, code := some k9c3 }
def k9c4 : Code := { maxStack := 3, maxLocals := 2, code := jdk_52_method_5_code, exceptionTable := #[], attributes := #[] }
def k9m4 : Method := { name := "getChar", desc := "([BI)C", sig := { parameters := [(.array .byte), .int], returnType := some .char }, accessFlags := 8, code := some k9c4 }
def k9c5 : Code := { maxStack := 2, maxLocals := 1, code := jdk_52_method_6_code, exceptionTable := #[], attributes := #[] }
def k9m5 : Method := { name := "length", desc := "([B)I", sig := { parameters := [(.array .byte)], returnType := some .int }, accessFlags := 9, code := some k9c5 }
def k9c6 : Code := { maxStack := 4, maxLocals := 5, code := jdk_52_method_14_code, exceptionTable := #[], attributes := #[] }
def k9m6 : Method := { name := "toBytes", desc := "([CII)[B", sig := { parameters := [(.array .char), .int, .int], returnType := some (.array .byte) }, accessFlags := 9, code := some k9c6 }
def k9c7 : Code := { maxStack := 2, maxLocals := 2, code := jdk_52_method_15_code, exceptionTable := #[], attributes := #[] }
def k9m7 : Method := { name := "coderFromArrayLen", desc := "([BI)B", sig := { parameters := [(.array .byte), .int], returnType := some .byte }, accessFlags := 8, code := some k9c7 }
def k9c8 : Code := { maxStack := 5, maxLocals := 6, code := jdk_52_method_16_code, exceptionTable := #[], attributes := #[] }
def k9m8 : Method := { name := "compress", desc := "([CII)[B", sig := { parameters := [(.array .char), .int, .int], returnType := some (.array .byte) }, accessFlags := 9, code := some k9c8 }
def k9c9 : Code := { maxStack := 3, maxLocals := 7, code := jdk_52_method_21_code, exceptionTable := #[], attributes := #[] }
def k9m9 : Method := { name := "compress", desc := "([CI[BII)I", sig := { parameters := [(.array .char), .int, (.array .byte), .int, .int], returnType := some .int }, accessFlags := 9, code := some k9c9 }
def k9c10 : Code := { maxStack := 2, maxLocals := 2, code := jdk_52_method_83_code, exceptionTable := #[], attributes := #[] }
def k9m10 : Method := { name := "charAt", desc := "([BI)C", sig := { parameters := [(.array .byte), .int], returnType := some .char }, accessFlags := 9, code := some k9c10 }
def k9c11 : Code := { maxStack := 2, maxLocals := 2, code := jdk_52_method_91_code, exceptionTable := #[], attributes := #[] }
def k9m11 : Method := { name := "checkIndex", desc := "(I[B)V", sig := { parameters := [.int, (.array .byte)], returnType := none }, accessFlags := 9, code := some k9c11 }
/-- java/lang/StringUTF16 -/
def k9 : Class := { plain "java/lang/StringUTF16" (some 0) with
  accessFlags := 48
  interfaces := #[]
  cf := some (fileOf pool9 12 #[.nestMembers #[627, 629, 369]] #[{ accessFlags := 0, nameIndex := 9, descriptorIndex := 10, attributes := #[] }, { accessFlags := 9, nameIndex := 109, descriptorIndex := 110, attributes := #[] }, { accessFlags := 9, nameIndex := 15, descriptorIndex := 16, attributes := #[] }, { accessFlags := 8, nameIndex := 113, descriptorIndex := 114, attributes := #[] }, { accessFlags := 8, nameIndex := 73, descriptorIndex := 74, attributes := #[] }, { accessFlags := 9, nameIndex := 50, descriptorIndex := 51, attributes := #[] }, { accessFlags := 9, nameIndex := 121, descriptorIndex := 122, attributes := #[] }, { accessFlags := 8, nameIndex := 261, descriptorIndex := 262, attributes := #[] }, { accessFlags := 9, nameIndex := 117, descriptorIndex := 122, attributes := #[] }, { accessFlags := 9, nameIndex := 117, descriptorIndex := 118, attributes := #[] }, { accessFlags := 9, nameIndex := 392, descriptorIndex := 74, attributes := #[] }, { accessFlags := 9, nameIndex := 69, descriptorIndex := 70, attributes := #[] }] 48 6 #[] #[{ accessFlags := 26, nameIndex := 61, descriptorIndex := 62, attributes := #[] }, { accessFlags := 26, nameIndex := 65, descriptorIndex := 62, attributes := #[] }, { accessFlags := 24, nameIndex := 430, descriptorIndex := 62, attributes := #[] }, { accessFlags := 4120, nameIndex := 46, descriptorIndex := 47, attributes := #[] }])
  fields := #[{ name := "HI_BYTE_SHIFT", type := .int, accessFlags := 26, slot := 0, constantValue := 0 }, { name := "LO_BYTE_SHIFT", type := .int, accessFlags := 26, slot := 1, constantValue := 0 }, { name := "MAX_LENGTH", type := .int, accessFlags := 24, slot := 2, constantValue := 0 }, { name := "$assertionsDisabled", type := .boolean, accessFlags := 4120, slot := 3, constantValue := 0 }]
  methods := #[k9m0, k9m1, k9m2, k9m3, k9m4, k9m5, k9m6, k9m7, k9m8, k9m9, k9m10, k9m11]
  instanceTypes := #[]
  staticTypes := #[.int, .int, .int, .boolean]
  resolved := Array.replicate 635 none
  statics := some 1 }

def pool10 : Array CpInfo := pool [(1, .class_ 2), (0, u "java/lang/Appendable"), (0, .class_ 4), (0, u "java/lang/Object")] 9

/-- java/lang/Appendable -/
def k10 : Class := { plain "java/lang/Appendable" (some 0) with
  accessFlags := 1537
  interfaces := #[]
  cf := some (fileOf pool10 1 #[] #[] 1537 3 #[] #[])
  fields := #[]
  methods := #[]
  instanceTypes := #[]
  staticTypes := #[]
  resolved := Array.replicate 14 none
  statics := none }

def pool11 : Array CpInfo := pool [(1, .class_ 2), (0, u "java/lang/String"), (0, .methodref 4 5), (0, .class_ 6), (0, .nameAndType 7 8), (0, u "java/lang/Object"), (0, u "<init>"), (0, u "()V"), (1, .class_ 12), (1, u "java/lang/AbstractStringBuilder"), (0, u "EMPTYVALUE"), (0, u "[B"), (0, .fieldref 10 16), (0, .nameAndType 17 14), (0, u "value"), (0, .fieldref 1 19), (0, .nameAndType 20 21), (0, u "COMPACT_STRINGS"), (0, u "Z"), (0, .fieldref 10 23), (0, .nameAndType 24 25), (0, u "coder"), (0, u "B"), (22, .class_ 49), (0, u "java/lang/CharSequence"), (25, u "maybeLatin1"), (5, u "count"), (0, u "I"), (20, u "(I)V"), (340, .class_ 445), (0, u "java/lang/Appendable")] 163

def k11m0 : Method := { name := "<init>", desc := "()V", sig := { parameters := [], returnType := none }, accessFlags := 0, code := none }
def k11c1 : Code := { maxStack := 2, maxLocals := 2, code := jdk_68_method_2_code, exceptionTable := #[], attributes := #[] }
def k11m1 : Method := { name := "<init>", desc := "(I)V", sig := { parameters := [.int], returnType := none }, accessFlags := 0, code := some k11c1 }
/-- java/lang/AbstractStringBuilder -/
def k11 : Class := { plain "java/lang/AbstractStringBuilder" (some 0) with
  accessFlags := 1056
  interfaces := #[10, 5]
  cf := some (fileOf pool11 10 #[] #[{ accessFlags := 0, nameIndex := 7, descriptorIndex := 8, attributes := #[] }, { accessFlags := 0, nameIndex := 7, descriptorIndex := 103, attributes := #[] }] 1056 4 #[444, 48] #[{ accessFlags := 0, nameIndex := 17, descriptorIndex := 14, attributes := #[] }, { accessFlags := 0, nameIndex := 24, descriptorIndex := 25, attributes := #[] }, { accessFlags := 0, nameIndex := 75, descriptorIndex := 21, attributes := #[] }, { accessFlags := 0, nameIndex := 81, descriptorIndex := 82, attributes := #[] }, { accessFlags := 26, nameIndex := 13, descriptorIndex := 14, attributes := #[] }])
  fields := #[{ name := "value", type := (.array .byte), accessFlags := 0, slot := 0, constantValue := 0 }, { name := "coder", type := .byte, accessFlags := 0, slot := 1, constantValue := 0 }, { name := "maybeLatin1", type := .boolean, accessFlags := 0, slot := 2, constantValue := 0 }, { name := "count", type := .int, accessFlags := 0, slot := 3, constantValue := 0 }, { name := "EMPTYVALUE", type := (.array .byte), accessFlags := 26, slot := 0, constantValue := 0 }]
  methods := #[k11m0, k11m1]
  instanceTypes := #[(.array .byte), .byte, .boolean, .int]
  staticTypes := #[(.array .byte)]
  resolved := Array.replicate 609 none
  statics := none }

def pool12 : Array CpInfo := pool [(1, .methodref 2 3), (0, .class_ 4), (0, .nameAndType 5 6), (0, u "java/lang/AbstractStringBuilder"), (0, u "<init>"), (0, u "(I)V"), (17, .class_ 26), (1, u "java/lang/StringBuilder"), (118, u "()V"), (203, .class_ 350), (0, u "java/lang/Appendable"), (0, .class_ 352), (0, u "java/io/Serializable"), (0, .class_ 354), (0, u "java/lang/Comparable"), (0, .class_ 356), (0, u "java/lang/CharSequence"), (0, u "serialVersionUID"), (0, u "J")] 63

def k12c0 : Code := { maxStack := 2, maxLocals := 1, code := jdk_67_method_1_code, exceptionTable := #[], attributes := #[] }
def k12m0 : Method := { name := "<init>", desc := "()V", sig := { parameters := [], returnType := none }, accessFlags := 1, code := some k12c0 }
/-- java/lang/StringBuilder -/
def k12 : Class := { plain "java/lang/StringBuilder" (some 11) with
  accessFlags := 49
  interfaces := #[10, 3, 4, 5]
  cf := some (fileOf pool12 24 #[] #[{ accessFlags := 1, nameIndex := 5, descriptorIndex := 145, attributes := #[] }] 49 2 #[349, 351, 353, 355] #[{ accessFlags := 24, nameIndex := 357, descriptorIndex := 358, attributes := #[] }])
  fields := #[{ name := "serialVersionUID", type := .long, accessFlags := 24, slot := 0, constantValue := 0 }]
  methods := #[k12m0]
  instanceTypes := #[(.array .byte), .byte, .boolean, .int]
  staticTypes := #[.long]
  resolved := Array.replicate 422 none
  statics := none }

def pool13 : Array CpInfo := pool [(1, .class_ 2), (0, u "java/lang/String"), (1, .class_ 6), (1, u "java/lang/Object"), (0, u "<init>"), (0, u "()V"), (0, .methodref 1 10), (0, .nameAndType 11 12), (0, u "checkIndex"), (0, u "(II)V"), (1, .class_ 16), (1, u "java/lang/StringLatin1"), (36, u "([BI)C"), (67, u "$assertionsDisabled"), (0, u "Z"), (98, .class_ 223), (1, u "java/lang/StringLatin1$LinesSpliterator"), (28, u "charAt"), (137, .class_ 391), (0, u "java/lang/StringLatin1$CharsSpliterator")] 3

def k13m0 : Method := { name := "<init>", desc := "()V", sig := { parameters := [], returnType := none }, accessFlags := 0, code := none }
def k13c1 : Code := { maxStack := 2, maxLocals := 2, code := jdk_43_method_2_code, exceptionTable := #[], attributes := #[] }
def k13m1 : Method := { name := "charAt", desc := "([BI)C", sig := { parameters := [(.array .byte), .int], returnType := some .char }, accessFlags := 9, code := some k13c1 }
/-- java/lang/StringLatin1 -/
def k13 : Class := { plain "java/lang/StringLatin1" (some 0) with
  accessFlags := 48
  interfaces := #[]
  cf := some (fileOf pool13 14 #[.nestMembers #[390, 221]] #[{ accessFlags := 0, nameIndex := 7, descriptorIndex := 8, attributes := #[] }, { accessFlags := 9, nameIndex := 252, descriptorIndex := 53, attributes := #[] }] 48 4 #[] #[{ accessFlags := 4120, nameIndex := 121, descriptorIndex := 122, attributes := #[] }])
  fields := #[{ name := "$assertionsDisabled", type := .boolean, accessFlags := 4120, slot := 0, constantValue := 0 }]
  methods := #[k13m0, k13m1]
  instanceTypes := #[]
  staticTypes := #[.boolean]
  resolved := Array.replicate 395 none
  statics := none }

def pool14 : Array CpInfo := pool [(2, .class_ 4), (1, u "java/lang/Object"), (0, u "<init>"), (0, u "()V"), (17, .class_ 26), (1, u "jdk/internal/util/Preconditions"), (6, u "checkIndex"), (21, .class_ 56), (0, u "jdk/internal/util/Preconditions$4"), (57, .class_ 115), (0, u "jdk/internal/util/Preconditions$1"), (7, u "SIOOBE_FORMATTER"), (0, u "Ljava/util/function/BiFunction;"), (0, .class_ 126), (0, u "jdk/internal/util/Preconditions$2"), (3, u "AIOOBE_FORMATTER"), (0, .class_ 132), (0, u "jdk/internal/util/Preconditions$3"), (3, u "IOOBE_FORMATTER"), (41, u "(IILjava/util/function/BiFunction;)I")] 15

def k14m0 : Method := { name := "<init>", desc := "()V", sig := { parameters := [], returnType := none }, accessFlags := 1, code := none }
def k14c1 : Code := { maxStack := 3, maxLocals := 3, code := jdk_41_method_11_code, exceptionTable := #[], attributes := #[] }
def k14m1 : Method := { name := "checkIndex", desc := "(IILjava/util/function/BiFunction;)I", sig := { parameters := [.int, .int, (.object "java/util/function/BiFunction")], returnType := some .int }, accessFlags := 9, code := some k14c1 }
/-- jdk/internal/util/Preconditions -/
def k14 : Class := { plain "jdk/internal/util/Preconditions" (some 0) with
  accessFlags := 33
  interfaces := #[]
  cf := some (fileOf pool14 24 #[.nestMembers #[55, 131, 125, 114]] #[{ accessFlags := 1, nameIndex := 5, descriptorIndex := 6, attributes := #[] }, { accessFlags := 9, nameIndex := 33, descriptorIndex := 178, attributes := #[] }] 33 2 #[] #[{ accessFlags := 25, nameIndex := 123, descriptorIndex := 124, attributes := #[] }, { accessFlags := 25, nameIndex := 130, descriptorIndex := 124, attributes := #[] }, { accessFlags := 25, nameIndex := 136, descriptorIndex := 124, attributes := #[] }])
  fields := #[{ name := "SIOOBE_FORMATTER", type := (.object "java/util/function/BiFunction"), accessFlags := 25, slot := 0, constantValue := 0 }, { name := "AIOOBE_FORMATTER", type := (.object "java/util/function/BiFunction"), accessFlags := 25, slot := 1, constantValue := 0 }, { name := "IOOBE_FORMATTER", type := (.object "java/util/function/BiFunction"), accessFlags := 25, slot := 2, constantValue := 0 }]
  methods := #[k14m0, k14m1]
  instanceTypes := #[]
  staticTypes := #[(.object "java/util/function/BiFunction"), (.object "java/util/function/BiFunction"), (.object "java/util/function/BiFunction")]
  resolved := Array.replicate 194 none
  statics := some 2 }

def pool15 : Array CpInfo := pool [(1, .class_ 2), (0, u "java/lang/Character"), (18, u "value"), (0, u "C"), (19, .class_ 44), (1, u "java/lang/Object"), (3, .class_ 50), (1, u "java/lang/Character$CharacterCache"), (25, .integer 56320), (0, .integer 57344), (3, u "(C)Z"), (2, u "isLowSurrogate"), (199, u "$assertionsDisabled"), (0, u "Z"), (21, .class_ 309), (1, u "java/lang/Character$UnicodeBlock"), (73, u "TYPE"), (0, u "Ljava/lang/Class;"), (0, .class_ 386), (0, u "java/io/Serializable"), (0, .class_ 388), (0, u "java/lang/Comparable"), (0, .class_ 390), (0, u "java/lang/constant/Constable"), (0, u "MIN_RADIX"), (0, u "I"), (2, u "MAX_RADIX"), (1, u "MIN_VALUE"), (1, u "MAX_VALUE"), (3, u "UNASSIGNED"), (0, u "B"), (0, u "UPPERCASE_LETTER"), (1, u "LOWERCASE_LETTER"), (0, u "TITLECASE_LETTER"), (1, u "MODIFIER_LETTER"), (1, u "OTHER_LETTER"), (1, u "NON_SPACING_MARK"), (1, u "ENCLOSING_MARK"), (1, u "COMBINING_SPACING_MARK"), (1, u "DECIMAL_DIGIT_NUMBER"), (1, u "LETTER_NUMBER"), (1, u "OTHER_NUMBER"), (1, u "SPACE_SEPARATOR"), (1, u "LINE_SEPARATOR"), (1, u "PARAGRAPH_SEPARATOR"), (1, u "CONTROL"), (1, u "FORMAT"), (1, u "PRIVATE_USE"), (1, u "SURROGATE"), (1, u "DASH_PUNCTUATION"), (1, u "START_PUNCTUATION"), (1, u "END_PUNCTUATION"), (1, u "CONNECTOR_PUNCTUATION"), (1, u "OTHER_PUNCTUATION"), (1, u "MATH_SYMBOL"), (1, u "CURRENCY_SYMBOL"), (1, u "MODIFIER_SYMBOL"), (1, u "OTHER_SYMBOL"), (1, u "INITIAL_QUOTE_PUNCTUATION"), (1, u "FINAL_QUOTE_PUNCTUATION"), (1, u "ERROR"), (1, u "DIRECTIONALITY_UNDEFINED"), (0, u "DIRECTIONALITY_LEFT_TO_RIGHT"), (0, u "DIRECTIONALITY_RIGHT_TO_LEFT"), (0, u "DIRECTIONALITY_RIGHT_TO_LEFT_ARABIC"), (0, u "DIRECTIONALITY_EUROPEAN_NUMBER"), (0, u "DIRECTIONALITY_EUROPEAN_NUMBER_SEPARATOR"), (0, u "DIRECTIONALITY_EUROPEAN_NUMBER_TERMINATOR"), (0, u "DIRECTIONALITY_ARABIC_NUMBER"), (0, u "DIRECTIONALITY_COMMON_NUMBER_SEPARATOR"), (0, u "DIRECTIONALITY_NONSPACING_MARK"), (0, u "DIRECTIONALITY_BOUNDARY_NEUTRAL"), (0, u "DIRECTIONALITY_PARAGRAPH_SEPARATOR"), (0, u "DIRECTIONALITY_SEGMENT_SEPARATOR"), (0, u "DIRECTIONALITY_WHITESPACE"), (0, u "DIRECTIONALITY_OTHER_NEUTRALS"), (0, u "DIRECTIONALITY_LEFT_TO_RIGHT_EMBEDDING"), (0, u "DIRECTIONALITY_LEFT_TO_RIGHT_OVERRIDE"), (0, u "DIRECTIONALITY_RIGHT_TO_LEFT_EMBEDDING"), (0, u "DIRECTIONALITY_RIGHT_TO_LEFT_OVERRIDE"), (1, u "DIRECTIONALITY_POP_DIRECTIONAL_FORMAT"), (0, u "DIRECTIONALITY_LEFT_TO_RIGHT_ISOLATE"), (0, u "DIRECTIONALITY_RIGHT_TO_LEFT_ISOLATE"), (0, u "DIRECTIONALITY_FIRST_STRONG_ISOLATE"), (0, u "DIRECTIONALITY_POP_DIRECTIONAL_ISOLATE"), (0, u "MIN_HIGH_SURROGATE"), (0, u "MAX_HIGH_SURROGATE"), (1, u "MIN_LOW_SURROGATE"), (0, u "MAX_LOW_SURROGATE"), (1, u "MIN_SURROGATE"), (0, u "MAX_SURROGATE"), (0, u "MIN_SUPPLEMENTARY_CODE_POINT"), (0, u "MIN_CODE_POINT"), (0, u "MAX_CODE_POINT"), (1, u "serialVersionUID"), (0, u "J"), (2, u "SIZE"), (0, u "BYTES"), (88, .class_ 596), (0, u "java/lang/Character$UnicodeScript"), (0, .class_ 598), (0, u "java/lang/Character$Subset")] 5

def k15c0 : Code := { maxStack := 2, maxLocals := 1, code := jdk_89_method_15_code, exceptionTable := #[], attributes := #[] }
def k15m0 : Method := { name := "isLowSurrogate", desc := "(C)Z", sig := { parameters := [.char], returnType := some .boolean }, accessFlags := 9, code := some k15c0 }
/-- java/lang/Character -/
def k15 : Class := { plain "java/lang/Character" (some 0) with
  accessFlags := 49
  interfaces := #[3, 4, 6]
  cf := some (fileOf pool15 1 #[.nestMembers #[48, 595, 307, 597]] #[{ accessFlags := 9, nameIndex := 84, descriptorIndex := 81, attributes := #[] }] 49 42 #[385, 387, 389] #[{ accessFlags := 25, nameIndex := 391, descriptorIndex := 392, attributes := #[] }, { accessFlags := 25, nameIndex := 395, descriptorIndex := 392, attributes := #[] }, { accessFlags := 25, nameIndex := 397, descriptorIndex := 22, attributes := #[] }, { accessFlags := 25, nameIndex := 399, descriptorIndex := 22, attributes := #[] }, { accessFlags := 25, nameIndex := 383, descriptorIndex := 384, attributes := #[] }, { accessFlags := 25, nameIndex := 403, descriptorIndex := 404, attributes := #[] }, { accessFlags := 25, nameIndex := 405, descriptorIndex := 404, attributes := #[] }, { accessFlags := 25, nameIndex := 407, descriptorIndex := 404, attributes := #[] }, { accessFlags := 25, nameIndex := 408, descriptorIndex := 404, attributes := #[] }, { accessFlags := 25, nameIndex := 410, descriptorIndex := 404, attributes := #[] }, { accessFlags := 25, nameIndex := 412, descriptorIndex := 404, attributes := #[] }, { accessFlags := 25, nameIndex := 414, descriptorIndex := 404, attributes := #[] }, { accessFlags := 25, nameIndex := 416, descriptorIndex := 404, attributes := #[] }, { accessFlags := 25, nameIndex := 418, descriptorIndex := 404, attributes := #[] }, { accessFlags := 25, nameIndex := 420, descriptorIndex := 404, attributes := #[] }, { accessFlags := 25, nameIndex := 422, descriptorIndex := 404, attributes := #[] }, { accessFlags := 25, nameIndex := 424, descriptorIndex := 404, attributes := #[] }, { accessFlags := 25, nameIndex := 426, descriptorIndex := 404, attributes := #[] }, { accessFlags := 25, nameIndex := 428, descriptorIndex := 404, attributes := #[] }, { accessFlags := 25, nameIndex := 430, descriptorIndex := 404, attributes := #[] }, { accessFlags := 25, nameIndex := 432, descriptorIndex := 404, attributes := #[] }, { accessFlags := 25, nameIndex := 434, descriptorIndex := 404, attributes := #[] }, { accessFlags := 25, nameIndex := 436, descriptorIndex := 404, attributes := #[] }, { accessFlags := 25, nameIndex := 438, descriptorIndex := 404, attributes := #[] }, { accessFlags := 25, nameIndex := 440, descriptorIndex := 404, attributes := #[] }, { accessFlags := 25, nameIndex := 442, descriptorIndex := 404, attributes := #[] }, { accessFlags := 25, nameIndex := 444, descriptorIndex := 404, attributes := #[] }, { accessFlags := 25, nameIndex := 446, descriptorIndex := 404, attributes := #[] }, { accessFlags := 25, nameIndex := 448, descriptorIndex := 404, attributes := #[] }, { accessFlags := 25, nameIndex := 450, descriptorIndex := 404, attributes := #[] }, { accessFlags := 25, nameIndex := 452, descriptorIndex := 404, attributes := #[] }, { accessFlags := 25, nameIndex := 454, descriptorIndex := 404, attributes := #[] }, { accessFlags := 25, nameIndex := 456, descriptorIndex := 404, attributes := #[] }, { accessFlags := 25, nameIndex := 458, descriptorIndex := 404, attributes := #[] }, { accessFlags := 25, nameIndex := 460, descriptorIndex := 404, attributes := #[] }, { accessFlags := 24, nameIndex := 462, descriptorIndex := 392, attributes := #[] }, { accessFlags := 25, nameIndex := 464, descriptorIndex := 404, attributes := #[] }, { accessFlags := 25, nameIndex := 465, descriptorIndex := 404, attributes := #[] }, { accessFlags := 25, nameIndex := 466, descriptorIndex := 404, attributes := #[] }, { accessFlags := 25, nameIndex := 467, descriptorIndex := 404, attributes := #[] }, { accessFlags := 25, nameIndex := 468, descriptorIndex := 404, attributes := #[] }, { accessFlags := 25, nameIndex := 469, descriptorIndex := 404, attributes := #[] }, { accessFlags := 25, nameIndex := 470, descriptorIndex := 404, attributes := #[] }, { accessFlags := 25, nameIndex := 471, descriptorIndex := 404, attributes := #[] }, { accessFlags := 25, nameIndex := 472, descriptorIndex := 404, attributes := #[] }, { accessFlags := 25, nameIndex := 473, descriptorIndex := 404, attributes := #[] }, { accessFlags := 25, nameIndex := 474, descriptorIndex := 404, attributes := #[] }, { accessFlags := 25, nameIndex := 475, descriptorIndex := 404, attributes := #[] }, { accessFlags := 25, nameIndex := 476, descriptorIndex := 404, attributes := #[] }, { accessFlags := 25, nameIndex := 477, descriptorIndex := 404, attributes := #[] }, { accessFlags := 25, nameIndex := 478, descriptorIndex := 404, attributes := #[] }, { accessFlags := 25, nameIndex := 479, descriptorIndex := 404, attributes := #[] }, { accessFlags := 25, nameIndex := 480, descriptorIndex := 404, attributes := #[] }, { accessFlags := 25, nameIndex := 481, descriptorIndex := 404, attributes := #[] }, { accessFlags := 25, nameIndex := 482, descriptorIndex := 404, attributes := #[] }, { accessFlags := 25, nameIndex := 484, descriptorIndex := 404, attributes := #[] }, { accessFlags := 25, nameIndex := 485, descriptorIndex := 404, attributes := #[] }, { accessFlags := 25, nameIndex := 486, descriptorIndex := 404, attributes := #[] }, { accessFlags := 25, nameIndex := 487, descriptorIndex := 404, attributes := #[] }, { accessFlags := 25, nameIndex := 488, descriptorIndex := 404, attributes := #[] }, { accessFlags := 25, nameIndex := 489, descriptorIndex := 22, attributes := #[] }, { accessFlags := 25, nameIndex := 490, descriptorIndex := 22, attributes := #[] }, { accessFlags := 25, nameIndex := 492, descriptorIndex := 22, attributes := #[] }, { accessFlags := 25, nameIndex := 493, descriptorIndex := 22, attributes := #[] }, { accessFlags := 25, nameIndex := 495, descriptorIndex := 22, attributes := #[] }, { accessFlags := 25, nameIndex := 496, descriptorIndex := 22, attributes := #[] }, { accessFlags := 25, nameIndex := 497, descriptorIndex := 392, attributes := #[] }, { accessFlags := 25, nameIndex := 498, descriptorIndex := 392, attributes := #[] }, { accessFlags := 25, nameIndex := 499, descriptorIndex := 392, attributes := #[] }, { accessFlags := 18, nameIndex := 21, descriptorIndex := 22, attributes := #[] }, { accessFlags := 26, nameIndex := 501, descriptorIndex := 502, attributes := #[] }, { accessFlags := 25, nameIndex := 505, descriptorIndex := 392, attributes := #[] }, { accessFlags := 25, nameIndex := 506, descriptorIndex := 392, attributes := #[] }, { accessFlags := 4120, nameIndex := 284, descriptorIndex := 285, attributes := #[] }])
  fields := #[{ name := "MIN_RADIX", type := .int, accessFlags := 25, slot := 0, constantValue := 0 }, { name := "MAX_RADIX", type := .int, accessFlags := 25, slot := 1, constantValue := 0 }, { name := "MIN_VALUE", type := .char, accessFlags := 25, slot := 2, constantValue := 0 }, { name := "MAX_VALUE", type := .char, accessFlags := 25, slot := 3, constantValue := 0 }, { name := "TYPE", type := (.object "java/lang/Class"), accessFlags := 25, slot := 4, constantValue := 0 }, { name := "UNASSIGNED", type := .byte, accessFlags := 25, slot := 5, constantValue := 0 }, { name := "UPPERCASE_LETTER", type := .byte, accessFlags := 25, slot := 6, constantValue := 0 }, { name := "LOWERCASE_LETTER", type := .byte, accessFlags := 25, slot := 7, constantValue := 0 }, { name := "TITLECASE_LETTER", type := .byte, accessFlags := 25, slot := 8, constantValue := 0 }, { name := "MODIFIER_LETTER", type := .byte, accessFlags := 25, slot := 9, constantValue := 0 }, { name := "OTHER_LETTER", type := .byte, accessFlags := 25, slot := 10, constantValue := 0 }, { name := "NON_SPACING_MARK", type := .byte, accessFlags := 25, slot := 11, constantValue := 0 }, { name := "ENCLOSING_MARK", type := .byte, accessFlags := 25, slot := 12, constantValue := 0 }, { name := "COMBINING_SPACING_MARK", type := .byte, accessFlags := 25, slot := 13, constantValue := 0 }, { name := "DECIMAL_DIGIT_NUMBER", type := .byte, accessFlags := 25, slot := 14, constantValue := 0 }, { name := "LETTER_NUMBER", type := .byte, accessFlags := 25, slot := 15, constantValue := 0 }, { name := "OTHER_NUMBER", type := .byte, accessFlags := 25, slot := 16, constantValue := 0 }, { name := "SPACE_SEPARATOR", type := .byte, accessFlags := 25, slot := 17, constantValue := 0 }, { name := "LINE_SEPARATOR", type := .byte, accessFlags := 25, slot := 18, constantValue := 0 }, { name := "PARAGRAPH_SEPARATOR", type := .byte, accessFlags := 25, slot := 19, constantValue := 0 }, { name := "CONTROL", type := .byte, accessFlags := 25, slot := 20, constantValue := 0 }, { name := "FORMAT", type := .byte, accessFlags := 25, slot := 21, constantValue := 0 }, { name := "PRIVATE_USE", type := .byte, accessFlags := 25, slot := 22, constantValue := 0 }, { name := "SURROGATE", type := .byte, accessFlags := 25, slot := 23, constantValue := 0 }, { name := "DASH_PUNCTUATION", type := .byte, accessFlags := 25, slot := 24, constantValue := 0 }, { name := "START_PUNCTUATION", type := .byte, accessFlags := 25, slot := 25, constantValue := 0 }, { name := "END_PUNCTUATION", type := .byte, accessFlags := 25, slot := 26, constantValue := 0 }, { name := "CONNECTOR_PUNCTUATION", type := .byte, accessFlags := 25, slot := 27, constantValue := 0 }, { name := "OTHER_PUNCTUATION", type := .byte, accessFlags := 25, slot := 28, constantValue := 0 }, { name := "MATH_SYMBOL", type := .byte, accessFlags := 25, slot := 29, constantValue := 0 }, { name := "CURRENCY_SYMBOL", type := .byte, accessFlags := 25, slot := 30, constantValue := 0 }, { name := "MODIFIER_SYMBOL", type := .byte, accessFlags := 25, slot := 31, constantValue := 0 }, { name := "OTHER_SYMBOL", type := .byte, accessFlags := 25, slot := 32, constantValue := 0 }, { name := "INITIAL_QUOTE_PUNCTUATION", type := .byte, accessFlags := 25, slot := 33, constantValue := 0 }, { name := "FINAL_QUOTE_PUNCTUATION", type := .byte, accessFlags := 25, slot := 34, constantValue := 0 }, { name := "ERROR", type := .int, accessFlags := 24, slot := 35, constantValue := 0 }, { name := "DIRECTIONALITY_UNDEFINED", type := .byte, accessFlags := 25, slot := 36, constantValue := 0 }, { name := "DIRECTIONALITY_LEFT_TO_RIGHT", type := .byte, accessFlags := 25, slot := 37, constantValue := 0 }, { name := "DIRECTIONALITY_RIGHT_TO_LEFT", type := .byte, accessFlags := 25, slot := 38, constantValue := 0 }, { name := "DIRECTIONALITY_RIGHT_TO_LEFT_ARABIC", type := .byte, accessFlags := 25, slot := 39, constantValue := 0 }, { name := "DIRECTIONALITY_EUROPEAN_NUMBER", type := .byte, accessFlags := 25, slot := 40, constantValue := 0 }, { name := "DIRECTIONALITY_EUROPEAN_NUMBER_SEPARATOR", type := .byte, accessFlags := 25, slot := 41, constantValue := 0 }, { name := "DIRECTIONALITY_EUROPEAN_NUMBER_TERMINATOR", type := .byte, accessFlags := 25, slot := 42, constantValue := 0 }, { name := "DIRECTIONALITY_ARABIC_NUMBER", type := .byte, accessFlags := 25, slot := 43, constantValue := 0 }, { name := "DIRECTIONALITY_COMMON_NUMBER_SEPARATOR", type := .byte, accessFlags := 25, slot := 44, constantValue := 0 }, { name := "DIRECTIONALITY_NONSPACING_MARK", type := .byte, accessFlags := 25, slot := 45, constantValue := 0 }, { name := "DIRECTIONALITY_BOUNDARY_NEUTRAL", type := .byte, accessFlags := 25, slot := 46, constantValue := 0 }, { name := "DIRECTIONALITY_PARAGRAPH_SEPARATOR", type := .byte, accessFlags := 25, slot := 47, constantValue := 0 }, { name := "DIRECTIONALITY_SEGMENT_SEPARATOR", type := .byte, accessFlags := 25, slot := 48, constantValue := 0 }, { name := "DIRECTIONALITY_WHITESPACE", type := .byte, accessFlags := 25, slot := 49, constantValue := 0 }, { name := "DIRECTIONALITY_OTHER_NEUTRALS", type := .byte, accessFlags := 25, slot := 50, constantValue := 0 }, { name := "DIRECTIONALITY_LEFT_TO_RIGHT_EMBEDDING", type := .byte, accessFlags := 25, slot := 51, constantValue := 0 }, { name := "DIRECTIONALITY_LEFT_TO_RIGHT_OVERRIDE", type := .byte, accessFlags := 25, slot := 52, constantValue := 0 }, { name := "DIRECTIONALITY_RIGHT_TO_LEFT_EMBEDDING", type := .byte, accessFlags := 25, slot := 53, constantValue := 0 }, { name := "DIRECTIONALITY_RIGHT_TO_LEFT_OVERRIDE", type := .byte, accessFlags := 25, slot := 54, constantValue := 0 }, { name := "DIRECTIONALITY_POP_DIRECTIONAL_FORMAT", type := .byte, accessFlags := 25, slot := 55, constantValue := 0 }, { name := "DIRECTIONALITY_LEFT_TO_RIGHT_ISOLATE", type := .byte, accessFlags := 25, slot := 56, constantValue := 0 }, { name := "DIRECTIONALITY_RIGHT_TO_LEFT_ISOLATE", type := .byte, accessFlags := 25, slot := 57, constantValue := 0 }, { name := "DIRECTIONALITY_FIRST_STRONG_ISOLATE", type := .byte, accessFlags := 25, slot := 58, constantValue := 0 }, { name := "DIRECTIONALITY_POP_DIRECTIONAL_ISOLATE", type := .byte, accessFlags := 25, slot := 59, constantValue := 0 }, { name := "MIN_HIGH_SURROGATE", type := .char, accessFlags := 25, slot := 60, constantValue := 0 }, { name := "MAX_HIGH_SURROGATE", type := .char, accessFlags := 25, slot := 61, constantValue := 0 }, { name := "MIN_LOW_SURROGATE", type := .char, accessFlags := 25, slot := 62, constantValue := 0 }, { name := "MAX_LOW_SURROGATE", type := .char, accessFlags := 25, slot := 63, constantValue := 0 }, { name := "MIN_SURROGATE", type := .char, accessFlags := 25, slot := 64, constantValue := 0 }, { name := "MAX_SURROGATE", type := .char, accessFlags := 25, slot := 65, constantValue := 0 }, { name := "MIN_SUPPLEMENTARY_CODE_POINT", type := .int, accessFlags := 25, slot := 66, constantValue := 0 }, { name := "MIN_CODE_POINT", type := .int, accessFlags := 25, slot := 67, constantValue := 0 }, { name := "MAX_CODE_POINT", type := .int, accessFlags := 25, slot := 68, constantValue := 0 }, { name := "value", type := .char, accessFlags := 18, slot := 0, constantValue := 0 }, { name := "serialVersionUID", type := .long, accessFlags := 26, slot := 69, constantValue := 0 }, { name := "SIZE", type := .int, accessFlags := 25, slot := 70, constantValue := 0 }, { name := "BYTES", type := .int, accessFlags := 25, slot := 71, constantValue := 0 }, { name := "$assertionsDisabled", type := .boolean, accessFlags := 4120, slot := 72, constantValue := 0 }]
  methods := #[k15m0]
  instanceTypes := #[.char]
  staticTypes := #[.int, .int, .char, .char, (.object "java/lang/Class"), .byte, .byte, .byte, .byte, .byte, .byte, .byte, .byte, .byte, .byte, .byte, .byte, .byte, .byte, .byte, .byte, .byte, .byte, .byte, .byte, .byte, .byte, .byte, .byte, .byte, .byte, .byte, .byte, .byte, .byte, .int, .byte, .byte, .byte, .byte, .byte, .byte, .byte, .byte, .byte, .byte, .byte, .byte, .byte, .byte, .byte, .byte, .byte, .byte, .byte, .byte, .byte, .byte, .byte, .byte, .char, .char, .char, .char, .char, .char, .int, .int, .int, .long, .int, .int, .boolean]
  resolved := Array.replicate 604 none
  statics := none }

def pool16 : Array CpInfo := pool [(9, u "<init>"), (6, .class_ 18), (1, u "java/lang/Object"), (0, u "()V"), (1, .class_ 23), (1, u "jdk/internal/util/ArraysSupport"), (0, u "LOG2_ARRAY_LONG_INDEX_SCALE"), (0, u "I"), (2, u "U"), (0, u "Ljdk/internal/misc/Unsafe;"), (8, u "BIG_ENDIAN"), (0, u "Z"), (8, u "LOG2_BYTE_BIT_SIZE"), (4, u "LOG2_ARRAY_INT_INDEX_SCALE"), (54, u "JLA"), (0, u "Ljdk/internal/access/JavaLangAccess;"), (11, u "LOG2_ARRAY_BOOLEAN_INDEX_SCALE"), (9, u "LOG2_ARRAY_BYTE_INDEX_SCALE"), (5, u "LOG2_ARRAY_CHAR_INDEX_SCALE"), (5, u "LOG2_ARRAY_SHORT_INDEX_SCALE"), (18, u "LOG2_ARRAY_FLOAT_INDEX_SCALE"), (24, u "LOG2_ARRAY_DOUBLE_INDEX_SCALE"), (89, u "T_BOOLEAN"), (2, u "T_CHAR"), (1, u "T_FLOAT"), (1, u "T_DOUBLE"), (1, u "T_BYTE"), (1, u "T_SHORT"), (1, u "T_INT"), (1, u "T_LONG"), (1, u "SOFT_MAX_ARRAY_LENGTH")] 83

def k16m0 : Method := { name := "<init>", desc := "()V", sig := { parameters := [], returnType := none }, accessFlags := 2, code := none }
/-- jdk/internal/util/ArraysSupport -/
def k16 : Class := { plain "jdk/internal/util/ArraysSupport" (some 0) with
  accessFlags := 33
  interfaces := #[]
  cf := some (fileOf pool16 21 #[] #[{ accessFlags := 2, nameIndex := 9, descriptorIndex := 19, attributes := #[] }] 33 16 #[] #[{ accessFlags := 24, nameIndex := 28, descriptorIndex := 29, attributes := #[] }, { accessFlags := 26, nameIndex := 38, descriptorIndex := 39, attributes := #[] }, { accessFlags := 25, nameIndex := 121, descriptorIndex := 25, attributes := #[] }, { accessFlags := 25, nameIndex := 131, descriptorIndex := 25, attributes := #[] }, { accessFlags := 25, nameIndex := 137, descriptorIndex := 25, attributes := #[] }, { accessFlags := 25, nameIndex := 143, descriptorIndex := 25, attributes := #[] }, { accessFlags := 25, nameIndex := 53, descriptorIndex := 25, attributes := #[] }, { accessFlags := 25, nameIndex := 24, descriptorIndex := 25, attributes := #[] }, { accessFlags := 25, nameIndex := 162, descriptorIndex := 25, attributes := #[] }, { accessFlags := 25, nameIndex := 187, descriptorIndex := 25, attributes := #[] }, { accessFlags := 26, nameIndex := 48, descriptorIndex := 25, attributes := #[] }, { accessFlags := 25, nameIndex := 277, descriptorIndex := 25, attributes := #[] }, { accessFlags := 25, nameIndex := 280, descriptorIndex := 25, attributes := #[] }, { accessFlags := 25, nameIndex := 282, descriptorIndex := 25, attributes := #[] }, { accessFlags := 25, nameIndex := 284, descriptorIndex := 25, attributes := #[] }, { accessFlags := 25, nameIndex := 286, descriptorIndex := 25, attributes := #[] }, { accessFlags := 25, nameIndex := 288, descriptorIndex := 25, attributes := #[] }, { accessFlags := 25, nameIndex := 290, descriptorIndex := 25, attributes := #[] }, { accessFlags := 25, nameIndex := 292, descriptorIndex := 25, attributes := #[] }, { accessFlags := 26, nameIndex := 108, descriptorIndex := 109, attributes := #[] }, { accessFlags := 25, nameIndex := 294, descriptorIndex := 25, attributes := #[] }])
  fields := #[{ name := "U", type := (.object "jdk/internal/misc/Unsafe"), accessFlags := 24, slot := 0, constantValue := 0 }, { name := "BIG_ENDIAN", type := .boolean, accessFlags := 26, slot := 1, constantValue := 0 }, { name := "LOG2_ARRAY_BOOLEAN_INDEX_SCALE", type := .int, accessFlags := 25, slot := 2, constantValue := 0 }, { name := "LOG2_ARRAY_BYTE_INDEX_SCALE", type := .int, accessFlags := 25, slot := 3, constantValue := 0 }, { name := "LOG2_ARRAY_CHAR_INDEX_SCALE", type := .int, accessFlags := 25, slot := 4, constantValue := 0 }, { name := "LOG2_ARRAY_SHORT_INDEX_SCALE", type := .int, accessFlags := 25, slot := 5, constantValue := 0 }, { name := "LOG2_ARRAY_INT_INDEX_SCALE", type := .int, accessFlags := 25, slot := 6, constantValue := 0 }, { name := "LOG2_ARRAY_LONG_INDEX_SCALE", type := .int, accessFlags := 25, slot := 7, constantValue := 0 }, { name := "LOG2_ARRAY_FLOAT_INDEX_SCALE", type := .int, accessFlags := 25, slot := 8, constantValue := 0 }, { name := "LOG2_ARRAY_DOUBLE_INDEX_SCALE", type := .int, accessFlags := 25, slot := 9, constantValue := 0 }, { name := "LOG2_BYTE_BIT_SIZE", type := .int, accessFlags := 26, slot := 10, constantValue := 0 }, { name := "T_BOOLEAN", type := .int, accessFlags := 25, slot := 11, constantValue := 0 }, { name := "T_CHAR", type := .int, accessFlags := 25, slot := 12, constantValue := 0 }, { name := "T_FLOAT", type := .int, accessFlags := 25, slot := 13, constantValue := 0 }, { name := "T_DOUBLE", type := .int, accessFlags := 25, slot := 14, constantValue := 0 }, { name := "T_BYTE", type := .int, accessFlags := 25, slot := 15, constantValue := 0 }, { name := "T_SHORT", type := .int, accessFlags := 25, slot := 16, constantValue := 0 }, { name := "T_INT", type := .int, accessFlags := 25, slot := 17, constantValue := 0 }, { name := "T_LONG", type := .int, accessFlags := 25, slot := 18, constantValue := 0 }, { name := "JLA", type := (.object "jdk/internal/access/JavaLangAccess"), accessFlags := 26, slot := 19, constantValue := 0 }, { name := "SOFT_MAX_ARRAY_LENGTH", type := .int, accessFlags := 25, slot := 20, constantValue := 0 }]
  methods := #[k16m0]
  instanceTypes := #[]
  staticTypes := #[(.object "jdk/internal/misc/Unsafe"), .boolean, .int, .int, .int, .int, .int, .int, .int, .int, .int, .int, .int, .int, .int, .int, .int, .int, .int, (.object "jdk/internal/access/JavaLangAccess"), .int]
  resolved := Array.replicate 378 none
  statics := none }

def pool17 : Array CpInfo := pool [(1, u "java/lang/Cloneable"), (0, .class_ 1), (0, u "java/lang/Object"), (0, .class_ 3)] 3

/-- java/lang/Cloneable -/
def k17 : Class := { plain "java/lang/Cloneable" (some 0) with
  accessFlags := 1537
  interfaces := #[]
  cf := some (fileOf pool17 2 #[] #[] 1537 4 #[] #[])
  fields := #[]
  methods := #[]
  instanceTypes := #[]
  staticTypes := #[]
  resolved := Array.replicate 8 none
  statics := none }

/-- the primitive byte -/
def k18 : Class := { plain "byte" none with kind := .primitive 'B', accessFlags := 0x411 }
/-- [B -/
def k19 : Class := { plain "[B" (some 0) with kind := .array 18 .byte, interfaces := #[17, 3], accessFlags := 1041 }

/-- the primitive char -/
def k20 : Class := { plain "char" none with kind := .primitive 'C', accessFlags := 0x411 }
/-- [C -/
def k21 : Class := { plain "[C" (some 0) with kind := .array 20 .char, interfaces := #[17, 3], accessFlags := 1041 }

/-- the primitive int -/
def k22 : Class := { plain "int" none with kind := .primitive 'I', accessFlags := 0x411 }
/-- [I -/
def k23 : Class := { plain "[I" (some 0) with kind := .array 22 .int, interfaces := #[17, 3], accessFlags := 1041 }

/-- [Ljava/lang/String; -/
def k24 : Class := { plain "[Ljava/lang/String;" (some 0) with kind := .array 8 (.object "java/lang/String"), interfaces := #[17, 3], accessFlags := 1041 }

def heap : Heap := #[{ cls := 8, slots := #[.long 0, .int 1, .null, .int 0, .null, .int 0, .int 0], vm := .statics 8 },
  { cls := 9, slots := #[.int 0, .int 8, .int 0, .int 1], vm := .statics 9 },
  { cls := 14, slots := #[.null, .null, .null], vm := .statics 14 }]
def classes : Array Class := #[k0, k1, k2, k3, k4, k5, k6, k7, k8, k9, k10, k11, k12, k13, k14, k15, k16, k17, k18, k19, k20, k21, k22, k23, k24]
def interned : List (Array UInt16 × Addr) := []
def slotsUsed : Nat := 14
def theMethod : MethodId := ⟨2, 3⟩
def args0 : Array Value := #[.int 5, .int 6]
def aboutOver (below : List Frame) : State where
  vm := { classes := classes, interned := interned.toArray }
  heap := heap
  slotsUsed := slotsUsed
  threads := #[{ frames := .invoking theMethod args0 :: below }]
def below0 : List Frame := [.native { method := ⟨0, 0⟩, args := #[] }]
def about1 : State := aboutOver below0
def p0 : Program := .bare "" "" ""
def e0 : Env := launch0.env 0 0 0
theorem w_frames : about1.frames = Frame.invoking theMethod args0 :: below0 := rfl
set_option maxRecDepth 65536 in
theorem w_args : argsFit about1.vm theMethod args0 = true := by decide +kernel
set_option maxRecDepth 65536 in
theorem w_heap : heapFits about1 = true := by decide +kernel
set_option maxRecDepth 65536 in
theorem w_runnable : about1.curStatus? = some .runnable := by decide +kernel
set_option maxRecDepth 65536 in
theorem w_alone : about1.alone = true := by decide +kernel
set_option maxRecDepth 65536 in
theorem w_named : about1.methodNamed? x = some theMethod := by decide +kernel
set_option maxRecDepth 65536 in
theorem w_hears : about1.hears theMethod below0 = true := by decide +kernel
set_option maxRecDepth 65536 in
theorem w_ripe : about1.ripe theMethod args0 below0 = true := by decide +kernel
theorem w_running : about1.status = .running := rfl
set_option maxRecDepth 65536 in
theorem w_room : about1.hasRoom e0.platform room_1 = true :=
  launch0.hasRoom_least _ room_1 (by decide +kernel) (by decide +kernel) (by decide +kernel) (by decide +kernel) (by decide +kernel) (by decide +kernel)
theorem allAtoms_all (ts : List Jvm.Cond) (a : Array Jvm.Value) (st : Jvm.State) : (allAtoms ts).before a st = ts.all (fun c => c.before a st) := by
  induction ts with
  | nil => rfl
  | cons c t ih =>
    show (Jvm.Cond.and c (allAtoms t)).before a st = _
    rw [Jvm.Cond.before_and, ih, List.all_cons]
def words1 : List Jvm.Cond := Jvm.Cond.code x code maxLocals ret :: tables_1
/-- a 'code' word, met by the world's own term for the bytes: nothing is compared byte by byte -/
theorem code_word {y : MethodName} {bytes : ByteArray} {mx : Nat} {rt : Option FieldType} {a : Array Value} {s : State} {m : MethodId} {meth : Method} {c : Code} (h1 : s.methodNamed? y = some m) (h2 : s.vm.method? m = some meth) (h3 : meth.code = some c) (h4 : c.code = bytes)
    (h5 : (c.maxLocals == mx && c.exceptionTable.isEmpty && decide (c.maxStack ≤ mostOperands) && decide (meth.sig.returnType = rt) && !meth.locks && decide (parseMethodDescriptor y.desc = some meth.sig)) = true) : (Jvm.Cond.code y bytes mx rt).before a s = true := by
  simp only [Bool.and_eq_true, beq_iff_eq, Bool.not_eq_true', decide_eq_true_eq] at h5
  obtain ⟨⟨⟨⟨⟨g1, g2⟩, g3⟩, g4⟩, g5⟩, g6⟩ := h5
  simp [Cond.before, Cond.holds, Cond.value, h1, h2, h3, h4, g1, g2, g3, g4, g5, g6]
def isCode : Jvm.Cond → Bool
  | .code _ _ _ _ => true
  | _ => false
theorem all_split {L : List Jvm.Cond} {P : Jvm.Cond → Bool} (h1 : L.all (fun c => isCode c || P c) = true) (h2 : ∀ c ∈ L.filter isCode, P c = true) : L.all P = true := by
  refine List.all_eq_true.mpr fun c hc => ?_
  have h := List.all_eq_true.mp h1 c hc
  rcases Bool.eq_false_or_eq_true (isCode c) with hi | hi
  · exact h2 c (List.mem_filter.mpr ⟨hc, hi⟩)
  · simpa [hi] using h
set_option maxRecDepth 65536 in
theorem w_c0 : (Jvm.Cond.code x code maxLocals ret).before args0 about1 = true := code_word (m := ⟨2, 3⟩) (meth := k2m3) (c := k2c3) (by decide +kernel) rfl rfl rfl (by decide +kernel)
set_option maxRecDepth 65536 in
theorem w_c1 : (Jvm.Cond.code ({ cls := "com/example/modelwright/modelwright/model/SourceParserNextLinePinLaw", name := "draw", desc := "(I)C" } : Jvm.MethodName) method_2_code (1 : Nat) (Option.some Jvm.ClassFile.FieldType.char)).before args0 about1 = true := code_word (m := ⟨2, 1⟩) (meth := k2m1) (c := k2c1) (by decide +kernel) rfl rfl rfl (by decide +kernel)
set_option maxRecDepth 65536 in
theorem w_c2 : (Jvm.Cond.code ({ cls := "java/lang/String", name := "<init>", desc := "([C)V" } : Jvm.MethodName) jdk_42_method_3_code (2 : Nat) (Option.none : Option Jvm.ClassFile.FieldType)).before args0 about1 = true := code_word (m := ⟨8, 1⟩) (meth := k8m1) (c := k8c1) (by decide +kernel) rfl rfl rfl (by decide +kernel)
set_option maxRecDepth 65536 in
theorem w_c3 : (Jvm.Cond.code ({ cls := "java/lang/String", name := "<init>", desc := "([CIILjava/lang/Void;)V" } : Jvm.MethodName) jdk_42_method_149_code (6 : Nat) (Option.none : Option Jvm.ClassFile.FieldType)).before args0 about1 = true := code_word (m := ⟨8, 3⟩) (meth := k8m3) (c := k8c3) (by decide +kernel) rfl rfl rfl (by decide +kernel)
set_option maxRecDepth 65536 in
theorem w_c4 : (Jvm.Cond.code ({ cls := "java/lang/Object", name := "<init>", desc := "()V" } : Jvm.MethodName) object_method_1_code (1 : Nat) (Option.none : Option Jvm.ClassFile.FieldType)).before args0 about1 = true := code_word (m := ⟨0, 0⟩) (meth := k0m0) (c := k0c0) (by decide +kernel) rfl rfl rfl (by decide +kernel)
set_option maxRecDepth 65536 in
theorem w_c5 : (Jvm.Cond.code ({ cls := "java/lang/StringUTF16", name := "compress", desc := "([CII)[B" } : Jvm.MethodName) jdk_52_method_16_code (6 : Nat) (Option.some (Jvm.ClassFile.FieldType.array Jvm.ClassFile.FieldType.byte))).before args0 about1 = true := code_word (m := ⟨9, 8⟩) (meth := k9m8) (c := k9c8) (by decide +kernel) rfl rfl rfl (by decide +kernel)
set_option maxRecDepth 65536 in
theorem w_c6 : (Jvm.Cond.code ({ cls := "java/lang/StringUTF16", name := "compress", desc := "([CI[BII)I" } : Jvm.MethodName) jdk_52_method_21_code (7 : Nat) (Option.some Jvm.ClassFile.FieldType.int)).before args0 about1 = true := code_word (m := ⟨9, 9⟩) (meth := k9m9) (c := k9c9) (by decide +kernel) rfl rfl rfl (by decide +kernel)
set_option maxRecDepth 65536 in
theorem w_c7 : (Jvm.Cond.code ({ cls := "java/lang/StringUTF16", name := "coderFromArrayLen", desc := "([BI)B" } : Jvm.MethodName) jdk_52_method_15_code (2 : Nat) (Option.some Jvm.ClassFile.FieldType.byte)).before args0 about1 = true := code_word (m := ⟨9, 7⟩) (meth := k9m7) (c := k9c7) (by decide +kernel) rfl rfl rfl (by decide +kernel)
set_option maxRecDepth 65536 in
theorem w_c8 : (Jvm.Cond.code ({ cls := "com/example/modelwright/modelwright/model/SourceParserNextLinePinLaw", name := "<init>", desc := "(Ljava/lang/String;Ljava/lang/String;)V" } : Jvm.MethodName) method_1_code (3 : Nat) (Option.none : Option Jvm.ClassFile.FieldType)).before args0 about1 = true := code_word (m := ⟨2, 0⟩) (meth := k2m0) (c := k2c0) (by decide +kernel) rfl rfl rfl (by decide +kernel)
set_option maxRecDepth 65536 in
theorem w_c9 : (Jvm.Cond.code ({ cls := "com/example/modelwright/modelwright/model/SourceParser", name := "<init>", desc := "(Ljava/lang/String;Ljava/lang/String;)V" } : Jvm.MethodName) prog_77_method_1_code (3 : Nat) (Option.none : Option Jvm.ClassFile.FieldType)).before args0 about1 = true := code_word (m := ⟨1, 0⟩) (meth := k1m0) (c := k1c0) (by decide +kernel) rfl rfl rfl (by decide +kernel)
set_option maxRecDepth 65536 in
theorem w_c10 : (Jvm.Cond.code ({ cls := "java/lang/StringBuilder", name := "<init>", desc := "()V" } : Jvm.MethodName) jdk_67_method_1_code (1 : Nat) (Option.none : Option Jvm.ClassFile.FieldType)).before args0 about1 = true := code_word (m := ⟨12, 0⟩) (meth := k12m0) (c := k12c0) (by decide +kernel) rfl rfl rfl (by decide +kernel)
set_option maxRecDepth 65536 in
theorem w_c11 : (Jvm.Cond.code ({ cls := "java/lang/AbstractStringBuilder", name := "<init>", desc := "(I)V" } : Jvm.MethodName) jdk_68_method_2_code (2 : Nat) (Option.none : Option Jvm.ClassFile.FieldType)).before args0 about1 = true := code_word (m := ⟨11, 1⟩) (meth := k11m1) (c := k11c1) (by decide +kernel) rfl rfl rfl (by decide +kernel)
set_option maxRecDepth 65536 in
theorem w_c12 : (Jvm.Cond.code ({ cls := "com/example/modelwright/modelwright/model/SourceParser", name := "advance", desc := "()V" } : Jvm.MethodName) prog_77_method_5_code (1 : Nat) (Option.none : Option Jvm.ClassFile.FieldType)).before args0 about1 = true := code_word (m := ⟨1, 2⟩) (meth := k1m2) (c := k1c2) (by decide +kernel) rfl rfl rfl (by decide +kernel)
set_option maxRecDepth 65536 in
theorem w_c13 : (Jvm.Cond.code ({ cls := "java/lang/String", name := "charAt", desc := "(I)C" } : Jvm.MethodName) jdk_42_method_56_code (2 : Nat) (Option.some Jvm.ClassFile.FieldType.char)).before args0 about1 = true := code_word (m := ⟨8, 2⟩) (meth := k8m2) (c := k8c2) (by decide +kernel) rfl rfl rfl (by decide +kernel)
set_option maxRecDepth 65536 in
theorem w_c14 : (Jvm.Cond.code ({ cls := "java/lang/String", name := "isLatin1", desc := "()Z" } : Jvm.MethodName) jdk_42_method_154_code (1 : Nat) (Option.some Jvm.ClassFile.FieldType.boolean)).before args0 about1 = true := code_word (m := ⟨8, 4⟩) (meth := k8m4) (c := k8c4) (by decide +kernel) rfl rfl rfl (by decide +kernel)
set_option maxRecDepth 65536 in
theorem w_c15 : (Jvm.Cond.code ({ cls := "java/lang/StringLatin1", name := "charAt", desc := "([BI)C" } : Jvm.MethodName) jdk_43_method_2_code (2 : Nat) (Option.some Jvm.ClassFile.FieldType.char)).before args0 about1 = true := code_word (m := ⟨13, 1⟩) (meth := k13m1) (c := k13c1) (by decide +kernel) rfl rfl rfl (by decide +kernel)
set_option maxRecDepth 65536 in
theorem w_c16 : (Jvm.Cond.code ({ cls := "java/lang/String", name := "checkIndex", desc := "(II)V" } : Jvm.MethodName) jdk_42_method_155_code (2 : Nat) (Option.none : Option Jvm.ClassFile.FieldType)).before args0 about1 = true := code_word (m := ⟨8, 5⟩) (meth := k8m5) (c := k8c5) (by decide +kernel) rfl rfl rfl (by decide +kernel)
set_option maxRecDepth 65536 in
theorem w_c17 : (Jvm.Cond.code ({ cls := "jdk/internal/util/Preconditions", name := "checkIndex", desc := "(IILjava/util/function/BiFunction;)I" } : Jvm.MethodName) jdk_41_method_11_code (3 : Nat) (Option.some Jvm.ClassFile.FieldType.int)).before args0 about1 = true := code_word (m := ⟨14, 1⟩) (meth := k14m1) (c := k14c1) (by decide +kernel) rfl rfl rfl (by decide +kernel)
set_option maxRecDepth 65536 in
theorem w_c18 : (Jvm.Cond.code ({ cls := "java/lang/Character", name := "isLowSurrogate", desc := "(C)Z" } : Jvm.MethodName) jdk_89_method_15_code (1 : Nat) (Option.some Jvm.ClassFile.FieldType.boolean)).before args0 about1 = true := code_word (m := ⟨15, 0⟩) (meth := k15m0) (c := k15c0) (by decide +kernel) rfl rfl rfl (by decide +kernel)
set_option maxRecDepth 65536 in
theorem w_c19 : (Jvm.Cond.code ({ cls := "com/example/modelwright/modelwright/model/SourceParser", name := "nextLine", desc := "()V" } : Jvm.MethodName) prog_77_method_4_code (1 : Nat) (Option.none : Option Jvm.ClassFile.FieldType)).before args0 about1 = true := code_word (m := ⟨1, 1⟩) (meth := k1m1) (c := k1c1) (by decide +kernel) rfl rfl rfl (by decide +kernel)
set_option maxRecDepth 65536 in
theorem w_c20 : (Jvm.Cond.code ({ cls := "com/example/modelwright/modelwright/model/SourceParser", name := "line", desc := "()I" } : Jvm.MethodName) prog_77_method_7_code (1 : Nat) (Option.some Jvm.ClassFile.FieldType.int)).before args0 about1 = true := code_word (m := ⟨1, 3⟩) (meth := k1m3) (c := k1c3) (by decide +kernel) rfl rfl rfl (by decide +kernel)
set_option maxRecDepth 65536 in
theorem w_c21 : (Jvm.Cond.code ({ cls := "com/example/modelwright/modelwright/model/SourceParser", name := "column", desc := "()I" } : Jvm.MethodName) prog_77_method_8_code (1 : Nat) (Option.some Jvm.ClassFile.FieldType.int)).before args0 about1 = true := code_word (m := ⟨1, 4⟩) (meth := k1m4) (c := k1c4) (by decide +kernel) rfl rfl rfl (by decide +kernel)
set_option maxRecDepth 65536 in
theorem w_c22 : (Jvm.Cond.code ({ cls := "com/example/modelwright/modelwright/model/SourceParserNextLinePinLaw", name := "low", desc := "(C)I" } : Jvm.MethodName) method_3_code (1 : Nat) (Option.some Jvm.ClassFile.FieldType.int)).before args0 about1 = true := code_word (m := ⟨2, 2⟩) (meth := k2m2) (c := k2c2) (by decide +kernel) rfl rfl rfl (by decide +kernel)
set_option maxRecDepth 65536 in
theorem w_c23 : (Jvm.Cond.code ({ cls := "java/lang/StringUTF16", name := "toBytes", desc := "([CII)[B" } : Jvm.MethodName) jdk_52_method_14_code (5 : Nat) (Option.some (Jvm.ClassFile.FieldType.array Jvm.ClassFile.FieldType.byte))).before args0 about1 = true := code_word (m := ⟨9, 6⟩) (meth := k9m6) (c := k9c6) (by decide +kernel) rfl rfl rfl (by decide +kernel)
set_option maxRecDepth 65536 in
theorem w_c24 : (Jvm.Cond.code ({ cls := "java/lang/StringUTF16", name := "newBytesFor", desc := "(I)[B" } : Jvm.MethodName) jdk_52_method_2_code (1 : Nat) (Option.some (Jvm.ClassFile.FieldType.array Jvm.ClassFile.FieldType.byte))).before args0 about1 = true := code_word (m := ⟨9, 1⟩) (meth := k9m1) (c := k9c1) (by decide +kernel) rfl rfl rfl (by decide +kernel)
set_option maxRecDepth 65536 in
theorem w_c25 : (Jvm.Cond.code ({ cls := "java/lang/StringUTF16", name := "newBytesLength", desc := "(I)I" } : Jvm.MethodName) jdk_52_method_3_code (1 : Nat) (Option.some Jvm.ClassFile.FieldType.int)).before args0 about1 = true := code_word (m := ⟨9, 2⟩) (meth := k9m2) (c := k9c2) (by decide +kernel) rfl rfl rfl (by decide +kernel)
set_option maxRecDepth 65536 in
theorem w_c26 : (Jvm.Cond.code ({ cls := "java/lang/StringUTF16", name := "putChar", desc := "([BII)V" } : Jvm.MethodName) jdk_52_method_4_code (3 : Nat) (Option.none : Option Jvm.ClassFile.FieldType)).before args0 about1 = true := code_word (m := ⟨9, 3⟩) (meth := k9m3) (c := k9c3) (by decide +kernel) rfl rfl rfl (by decide +kernel)
set_option maxRecDepth 65536 in
theorem w_c27 : (Jvm.Cond.code ({ cls := "java/lang/StringUTF16", name := "getChar", desc := "([BI)C" } : Jvm.MethodName) jdk_52_method_5_code (2 : Nat) (Option.some Jvm.ClassFile.FieldType.char)).before args0 about1 = true := code_word (m := ⟨9, 4⟩) (meth := k9m4) (c := k9c4) (by decide +kernel) rfl rfl rfl (by decide +kernel)
set_option maxRecDepth 65536 in
theorem w_c28 : (Jvm.Cond.code ({ cls := "java/lang/StringUTF16", name := "charAt", desc := "([BI)C" } : Jvm.MethodName) jdk_52_method_83_code (2 : Nat) (Option.some Jvm.ClassFile.FieldType.char)).before args0 about1 = true := code_word (m := ⟨9, 10⟩) (meth := k9m10) (c := k9c10) (by decide +kernel) rfl rfl rfl (by decide +kernel)
set_option maxRecDepth 65536 in
theorem w_c29 : (Jvm.Cond.code ({ cls := "java/lang/StringUTF16", name := "checkIndex", desc := "(I[B)V" } : Jvm.MethodName) jdk_52_method_91_code (2 : Nat) (Option.none : Option Jvm.ClassFile.FieldType)).before args0 about1 = true := code_word (m := ⟨9, 11⟩) (meth := k9m11) (c := k9c11) (by decide +kernel) rfl rfl rfl (by decide +kernel)
set_option maxRecDepth 65536 in
theorem w_c30 : (Jvm.Cond.code ({ cls := "java/lang/StringUTF16", name := "length", desc := "([B)I" } : Jvm.MethodName) jdk_52_method_6_code (1 : Nat) (Option.some Jvm.ClassFile.FieldType.int)).before args0 about1 = true := code_word (m := ⟨9, 5⟩) (meth := k9m5) (c := k9c5) (by decide +kernel) rfl rfl rfl (by decide +kernel)
def codes1 : List Jvm.Cond := [Jvm.Cond.code x code maxLocals ret, Jvm.Cond.code ({ cls := "com/example/modelwright/modelwright/model/SourceParserNextLinePinLaw", name := "draw", desc := "(I)C" } : Jvm.MethodName) method_2_code (1 : Nat) (Option.some Jvm.ClassFile.FieldType.char), Jvm.Cond.code ({ cls := "java/lang/String", name := "<init>", desc := "([C)V" } : Jvm.MethodName) jdk_42_method_3_code (2 : Nat) (Option.none : Option Jvm.ClassFile.FieldType), Jvm.Cond.code ({ cls := "java/lang/String", name := "<init>", desc := "([CIILjava/lang/Void;)V" } : Jvm.MethodName) jdk_42_method_149_code (6 : Nat) (Option.none : Option Jvm.ClassFile.FieldType), Jvm.Cond.code ({ cls := "java/lang/Object", name := "<init>", desc := "()V" } : Jvm.MethodName) object_method_1_code (1 : Nat) (Option.none : Option Jvm.ClassFile.FieldType), Jvm.Cond.code ({ cls := "java/lang/StringUTF16", name := "compress", desc := "([CII)[B" } : Jvm.MethodName) jdk_52_method_16_code (6 : Nat) (Option.some (Jvm.ClassFile.FieldType.array Jvm.ClassFile.FieldType.byte)), Jvm.Cond.code ({ cls := "java/lang/StringUTF16", name := "compress", desc := "([CI[BII)I" } : Jvm.MethodName) jdk_52_method_21_code (7 : Nat) (Option.some Jvm.ClassFile.FieldType.int), Jvm.Cond.code ({ cls := "java/lang/StringUTF16", name := "coderFromArrayLen", desc := "([BI)B" } : Jvm.MethodName) jdk_52_method_15_code (2 : Nat) (Option.some Jvm.ClassFile.FieldType.byte), Jvm.Cond.code ({ cls := "com/example/modelwright/modelwright/model/SourceParserNextLinePinLaw", name := "<init>", desc := "(Ljava/lang/String;Ljava/lang/String;)V" } : Jvm.MethodName) method_1_code (3 : Nat) (Option.none : Option Jvm.ClassFile.FieldType), Jvm.Cond.code ({ cls := "com/example/modelwright/modelwright/model/SourceParser", name := "<init>", desc := "(Ljava/lang/String;Ljava/lang/String;)V" } : Jvm.MethodName) prog_77_method_1_code (3 : Nat) (Option.none : Option Jvm.ClassFile.FieldType), Jvm.Cond.code ({ cls := "java/lang/StringBuilder", name := "<init>", desc := "()V" } : Jvm.MethodName) jdk_67_method_1_code (1 : Nat) (Option.none : Option Jvm.ClassFile.FieldType), Jvm.Cond.code ({ cls := "java/lang/AbstractStringBuilder", name := "<init>", desc := "(I)V" } : Jvm.MethodName) jdk_68_method_2_code (2 : Nat) (Option.none : Option Jvm.ClassFile.FieldType), Jvm.Cond.code ({ cls := "com/example/modelwright/modelwright/model/SourceParser", name := "advance", desc := "()V" } : Jvm.MethodName) prog_77_method_5_code (1 : Nat) (Option.none : Option Jvm.ClassFile.FieldType), Jvm.Cond.code ({ cls := "java/lang/String", name := "charAt", desc := "(I)C" } : Jvm.MethodName) jdk_42_method_56_code (2 : Nat) (Option.some Jvm.ClassFile.FieldType.char), Jvm.Cond.code ({ cls := "java/lang/String", name := "isLatin1", desc := "()Z" } : Jvm.MethodName) jdk_42_method_154_code (1 : Nat) (Option.some Jvm.ClassFile.FieldType.boolean), Jvm.Cond.code ({ cls := "java/lang/StringLatin1", name := "charAt", desc := "([BI)C" } : Jvm.MethodName) jdk_43_method_2_code (2 : Nat) (Option.some Jvm.ClassFile.FieldType.char), Jvm.Cond.code ({ cls := "java/lang/String", name := "checkIndex", desc := "(II)V" } : Jvm.MethodName) jdk_42_method_155_code (2 : Nat) (Option.none : Option Jvm.ClassFile.FieldType), Jvm.Cond.code ({ cls := "jdk/internal/util/Preconditions", name := "checkIndex", desc := "(IILjava/util/function/BiFunction;)I" } : Jvm.MethodName) jdk_41_method_11_code (3 : Nat) (Option.some Jvm.ClassFile.FieldType.int), Jvm.Cond.code ({ cls := "java/lang/Character", name := "isLowSurrogate", desc := "(C)Z" } : Jvm.MethodName) jdk_89_method_15_code (1 : Nat) (Option.some Jvm.ClassFile.FieldType.boolean), Jvm.Cond.code ({ cls := "com/example/modelwright/modelwright/model/SourceParser", name := "nextLine", desc := "()V" } : Jvm.MethodName) prog_77_method_4_code (1 : Nat) (Option.none : Option Jvm.ClassFile.FieldType), Jvm.Cond.code ({ cls := "com/example/modelwright/modelwright/model/SourceParser", name := "line", desc := "()I" } : Jvm.MethodName) prog_77_method_7_code (1 : Nat) (Option.some Jvm.ClassFile.FieldType.int), Jvm.Cond.code ({ cls := "com/example/modelwright/modelwright/model/SourceParser", name := "column", desc := "()I" } : Jvm.MethodName) prog_77_method_8_code (1 : Nat) (Option.some Jvm.ClassFile.FieldType.int), Jvm.Cond.code ({ cls := "com/example/modelwright/modelwright/model/SourceParserNextLinePinLaw", name := "low", desc := "(C)I" } : Jvm.MethodName) method_3_code (1 : Nat) (Option.some Jvm.ClassFile.FieldType.int), Jvm.Cond.code ({ cls := "java/lang/StringUTF16", name := "toBytes", desc := "([CII)[B" } : Jvm.MethodName) jdk_52_method_14_code (5 : Nat) (Option.some (Jvm.ClassFile.FieldType.array Jvm.ClassFile.FieldType.byte)), Jvm.Cond.code ({ cls := "java/lang/StringUTF16", name := "newBytesFor", desc := "(I)[B" } : Jvm.MethodName) jdk_52_method_2_code (1 : Nat) (Option.some (Jvm.ClassFile.FieldType.array Jvm.ClassFile.FieldType.byte)), Jvm.Cond.code ({ cls := "java/lang/StringUTF16", name := "newBytesLength", desc := "(I)I" } : Jvm.MethodName) jdk_52_method_3_code (1 : Nat) (Option.some Jvm.ClassFile.FieldType.int), Jvm.Cond.code ({ cls := "java/lang/StringUTF16", name := "putChar", desc := "([BII)V" } : Jvm.MethodName) jdk_52_method_4_code (3 : Nat) (Option.none : Option Jvm.ClassFile.FieldType), Jvm.Cond.code ({ cls := "java/lang/StringUTF16", name := "getChar", desc := "([BI)C" } : Jvm.MethodName) jdk_52_method_5_code (2 : Nat) (Option.some Jvm.ClassFile.FieldType.char), Jvm.Cond.code ({ cls := "java/lang/StringUTF16", name := "charAt", desc := "([BI)C" } : Jvm.MethodName) jdk_52_method_83_code (2 : Nat) (Option.some Jvm.ClassFile.FieldType.char), Jvm.Cond.code ({ cls := "java/lang/StringUTF16", name := "checkIndex", desc := "(I[B)V" } : Jvm.MethodName) jdk_52_method_91_code (2 : Nat) (Option.none : Option Jvm.ClassFile.FieldType), Jvm.Cond.code ({ cls := "java/lang/StringUTF16", name := "length", desc := "([B)I" } : Jvm.MethodName) jdk_52_method_6_code (1 : Nat) (Option.some Jvm.ClassFile.FieldType.int)]
set_option maxRecDepth 65536 in
theorem codes_eq : words1.filter isCode = codes1 := rfl
theorem w_codes : ∀ c ∈ words1.filter isCode, c.before args0 about1 = true := by
  rw [codes_eq]
  intro c hc
  simp only [codes1, List.mem_cons, List.not_mem_nil, or_false] at hc
  rcases hc with rfl | rfl | rfl | rfl | rfl | rfl | rfl | rfl | rfl | rfl | rfl | rfl | rfl | rfl | rfl | rfl | rfl | rfl | rfl | rfl | rfl | rfl | rfl | rfl | rfl | rfl | rfl | rfl | rfl | rfl | rfl
  · exact w_c0
  · exact w_c1
  · exact w_c2
  · exact w_c3
  · exact w_c4
  · exact w_c5
  · exact w_c6
  · exact w_c7
  · exact w_c8
  · exact w_c9
  · exact w_c10
  · exact w_c11
  · exact w_c12
  · exact w_c13
  · exact w_c14
  · exact w_c15
  · exact w_c16
  · exact w_c17
  · exact w_c18
  · exact w_c19
  · exact w_c20
  · exact w_c21
  · exact w_c22
  · exact w_c23
  · exact w_c24
  · exact w_c25
  · exact w_c26
  · exact w_c27
  · exact w_c28
  · exact w_c29
  · exact w_c30
set_option maxRecDepth 65536 in
theorem w_t1 : (words1.take 24).all (fun c => isCode c || c.before args0 about1) = true := by decide +kernel
set_option maxRecDepth 65536 in
theorem w_t2 : ((words1.drop 24).take 24).all (fun c => isCode c || c.before args0 about1) = true := by decide +kernel
set_option maxRecDepth 65536 in
theorem w_t3 : (((words1.drop 24).drop 24).take 24).all (fun c => isCode c || c.before args0 about1) = true := by decide +kernel
set_option maxRecDepth 65536 in
theorem w_t4 : ((((words1.drop 24).drop 24).drop 24).take 24).all (fun c => isCode c || c.before args0 about1) = true := by decide +kernel
set_option maxRecDepth 65536 in
theorem w_t5 : (((((words1.drop 24).drop 24).drop 24).drop 24).take 24).all (fun c => isCode c || c.before args0 about1) = true := by decide +kernel
set_option maxRecDepth 65536 in
theorem w_t6 : ((((((words1.drop 24).drop 24).drop 24).drop 24).drop 24).take 24).all (fun c => isCode c || c.before args0 about1) = true := by decide +kernel
set_option maxRecDepth 65536 in
theorem w_t7 : (((((((words1.drop 24).drop 24).drop 24).drop 24).drop 24).drop 24).take 24).all (fun c => isCode c || c.before args0 about1) = true := by decide +kernel
set_option maxRecDepth 65536 in
theorem w_t8 : (((((((words1.drop 24).drop 24).drop 24).drop 24).drop 24).drop 24).drop 24).all (fun c => isCode c || c.before args0 about1) = true := by decide +kernel
theorem w_tables : (allAtoms (Jvm.Cond.code x code maxLocals ret :: tables_1)).before args0 about1 = true := by
  rw [allAtoms_all]
  show words1.all (fun c => c.before args0 about1) = true
  refine all_split ?_ w_codes
  rw [← List.take_append_drop 24 words1, List.all_append, w_t1, ← List.take_append_drop 24 (words1.drop 24), List.all_append, w_t2, ← List.take_append_drop 24 ((words1.drop 24).drop 24), List.all_append, w_t3, ← List.take_append_drop 24 (((words1.drop 24).drop 24).drop 24), List.all_append, w_t4, ← List.take_append_drop 24 ((((words1.drop 24).drop 24).drop 24).drop 24), List.all_append, w_t5, ← List.take_append_drop 24 (((((words1.drop 24).drop 24).drop 24).drop 24).drop 24), List.all_append, w_t6, ← List.take_append_drop 24 ((((((words1.drop 24).drop 24).drop 24).drop 24).drop 24).drop 24), List.all_append, w_t7, w_t8]
  rfl
set_option maxRecDepth 65536 in
theorem w_rest : rest_1_c.before args0 about1 = true := by decide +kernel
set_option maxRecDepth 65536 in
theorem w_case : (Jvm.Cond.and given_1 narrow_1).before args0 about1 = true := by decide +kernel
theorem w_applies : (headSpec (Jvm.Cond.code x code maxLocals ret :: tables_1) room_1).applies x e0.platform about1 = true :=
  (Spec.applies_iff w_frames).mpr ⟨w_running, w_runnable, w_alone, w_named, w_hears, w_ripe, w_room, w_tables⟩
theorem atStart : AtStart classFile x code maxLocals ret World_1 tables_1 room_1 Calls_1 rest_1 Pre_1 launch0 p0 e0 about1 theMethod args0 below0 :=
  ⟨lists_1, trivial, launch0.admits_env _ _ _, launch0.least_env, fairChoices_fair.cas, fairChoices_fair.clock, w_frames, w_args, w_heap, w_applies, trivial, w_rest, w_case⟩
end start1
theorem witness_1 : WitnessClaimed_1 := ⟨start1.p0, start1.e0, start1.about1, start1.theMethod, start1.args0, start1.below0, start1.atStart⟩
end Jvm.Pilot.@@N@@
