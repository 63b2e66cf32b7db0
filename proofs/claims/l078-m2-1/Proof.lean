import JvmDerived
import JvmDerived.Pilot.@@N@@Statement
import JvmDerived.Pilot.@@N@@Code
set_option linter.unusedVariables false
set_option linter.unusedSimpArgs false
namespace Jvm.RoadKit
open Sem ClassFile Op Lib Jvm.Stand Jvm.Free Jvm.LawKit
section New
variable {p : Program} {l : Launch} {e : Env} {R : Room} {s : State} {m : MethodId} {args : Array Value} {below : List Frame} {meth : Method} {c : Code} {T : State} {locs : List Loc} {cells slots : Nat}
theorem retI (X : Stand p l e R s m args below meth c T locs cells slots) (hx : p.tables.exec = Jvm.exec) {pc : Nat} {Ls : Array Slot} {z : Int32} {rest : List Value} (hret : meth.sig.returnType = some .int) (hd : decode c.code pc = .ok (.ireturn, 1)) {fs : List Frame}
    (hl : ∀ (f : JFrame) (acts : List Action), f.method = m → f.locked = none → f.entered = [] → (doReturn e (T.setTop f) acts (some (.int z))).1 = T.setFrames fs) : Steps p.tables e below (T.setTop (mkF m pc Ls (.int z :: rest))) (T.setFrames fs) := by
  have hm' : T.vm.method? m = some meth := X.method'
  have hn : narrow .int (.int z) = .int z := rfl
  show Steps p.tables e below (T.setTop { method := m, pc := pc, locals := Ls, stack := _ :: rest, locked := none }) _
  jvm_step X.here [X.here.top, hx, hd, hm', hret, hn]
  first | (intro acts; rw [hl _ acts rfl rfl rfl]) | rw [hl _ _ rfl rfl rfl]
  exact Steps.refl _
/-- a boolean, byte, char or short that is one already -/
theorem own_retB (X : Stand p l e R s m args below meth c T locs cells slots) (hx : p.tables.exec = Jvm.exec) {pc : Nat} {Ls : Array Slot} {z : Int32} {t : FieldType} {rest : List Value} (hret : meth.sig.returnType = some t) (ht : t = .boolean ∨ t = .byte ∨ t = .char ∨ t = .short) (hz : nar t z = z)
    (hd : decode c.code pc = .ok (.ireturn, 1)) {fs : List Frame} (hl : ∀ (f : JFrame) (acts : List Action), f.method = m → f.locked = none → f.entered = [] → (doReturn e (T.setTop f) acts (some (.int z))).1 = T.setFrames fs) :
    Steps p.tables e below (T.setTop (mkF m pc Ls (.int z :: rest))) (T.setFrames fs) := retN X hx hret ht hd (by rw [hz]; exact hl)
theorem own_retL (X : Stand p l e R s m args below meth c T locs cells slots) (hx : p.tables.exec = Jvm.exec) {pc : Nat} {Ls : Array Slot} {z : Int64} {rest : List Value} (hret : meth.sig.returnType = some .long) (hd : decode c.code pc = .ok (.lreturn, 1)) {fs : List Frame}
    (hl : ∀ (f : JFrame) (acts : List Action), f.method = m → f.locked = none → f.entered = [] → (doReturn e (T.setTop f) acts (some (.long z))).1 = T.setFrames fs) : Steps p.tables e below (T.setTop (mkF m pc Ls (.long z :: rest))) (T.setFrames fs) :=
  retOut X hx hret rfl (Or.inr (Or.inl ⟨rfl, rfl, z, rfl⟩)) hd hl
end New
end Jvm.RoadKit
namespace Jvm.Pilot.@@N@@
open Jvm Jvm.ClassFile Sem Op Lib Jvm.Free Jvm.Stand Jvm.LawKit Jvm.RoadKit Bundle Jvm.Pilot.@@N@@.Jvm.D
theorem own_w {a0 : Array Value} {Z : State} (hw : ∀ d ∈ tables_1, d.before a0 Z = true) (i : Nat) {d : Jvm.Cond} (h : tables_1[i]? = some d) : d.before a0 Z = true := hw _ (List.mem_of_getElem? h)
/-- from A the walk comes to an end that P takes -/
abbrev own_R (tb : Tables) (e : Env) (below : List Frame) (P : State → Outcome → Prop) (A : State) : Prop := ∃ t o, Steps tb e below A t ∧ t.status = .running ∧ Ended t below o ∧ P t o
abbrev own_P (s : State) (Q : Option Value → Heap → List Loc → Prop) (k n : Nat) (t : State) (o : Outcome) : Prop := ∃ v L, o = .returned v ∧ Q v t.heap L ∧ FrameEnd s o t L k n
abbrev own_PW (s : State) (Q : Option Value → Heap → List Loc → Prop) (k n : Nat) (t : State) (o : Outcome) : Prop := ∃ v L, o = .returned v ∧ Q v t.heap L ∧ ReturnedEndW s o t L k n
theorem own_step {tb : Tables} {e : Env} {below : List Frame} {P : State → Outcome → Prop} {A A' : State} (st : ∀ t, Steps tb e below A' t → Steps tb e below A t) (h : own_R tb e below P A') : own_R tb e below P A := by
  obtain ⟨t, o, h1, h2⟩ := h
  exact ⟨t, o, st t h1, h2⟩
theorem own_go {tb : Tables} {e : Env} {below : List Frame} {P : State → Outcome → Prop} {A A' : State} (st : Steps tb e below A A') (h : own_R tb e below P A') : own_R tb e below P A := own_step (fun _ k => st.trans k) h
theorem own_f {tb : Tables} {e : Env} {below : List Frame} {P : State → Outcome → Prop} {A : State} (T : State) (g : JFrame) (st : ∀ t, Steps tb e below (T.setTop g) t → Steps tb e below A t) (h : own_R tb e below P (T.setTop g)) : own_R tb e below P A := own_step st h
theorem own_g {tb : Tables} {e : Env} {below : List Frame} {P : State → Outcome → Prop} {A : State} (T : State) (g : JFrame) (st : Steps tb e below A (T.setTop g)) (h : own_R tb e below P (T.setTop g)) : own_R tb e below P A := own_go st h
theorem own_lsw {tb : Tables} [Ours tb] {e : Env} {below : List Frame} {T target : State} {m : MethodId} {c : Code} {g : JFrame} (h : At T m c below) (hx : tb.exec = Jvm.exec) (hg : g.method = m) {df : Int} {ps : Array (Int × Int)} {len : Nat} {o : Int} {pc0 pc' : Nat} (hpc : g.pc = pc0) (hd : decode c.code g.pc = .ok (.lookupswitch df ps, len)) {i : Int32} {rest : List Value} (hs : g.stack = .int i :: rest)
    (hord : (ps.toList.zip (ps.toList.drop 1)).all (fun (a, next) => a.1 < next.1) = true) (hoff : lookupswitch.offset ps.toList df i.toInt = o) (ho : 0 ≤ (pc0 : Int) + o) (hp : ((pc0 : Int) + o).toNat = pc')
    (hr : Steps tb e below (T.setTop { g with pc := pc', stack := rest }) target) : Steps tb e below (T.setTop g) target := by
  subst hg hpc hp
  jvm_step h [h.top, hx, hd, hs, hoff, ho, lookupswitch.wp_chain]
  exact ⟨by simpa using hord, hr⟩
theorem own_len {p : Program} {l : Launch} {e : Env} {R : Room} {s : State} {m : MethodId} {args : Array Value} {below : List Frame} {meth : Method} {c : Code} {T target : State} {locs : List Loc} {cells slots : Nat} {Z : State} {h : Heap} {a : Addr} {k : ClassId} {ty : FieldType} {z : Int32} {vs : List Value} {dv : Value}
    (X : Stand p l e R s m args below meth c T locs cells slots) (hx : p.tables.exec = Jvm.exec) (hZ : Z.Warmed39 s.vm) (eT : T.heap = h) (F : Arv Z h a k ty z vs dv) {g : JFrame} (hg : g.method = m) {rest : List Value} (hs : g.stack = .ref a :: rest) (hd : decode c.code g.pc = .ok (.arraylength, 1))
    (hr : Steps p.tables e below (T.setTop { g with pc := g.pc + 1, stack := .int z :: rest }) target) : Steps p.tables e below (T.setTop g) target := by
  obtain ⟨cl, A, -, S, q, -⟩ := F
  exact X.arraylength hx (by rw [eT]; exact A.1) (State.isArrayOf_alike hZ.alike A.2.1) hg hs hd _ (by rw [len_of S q]; exact hr)
theorem own_arvnew {Z : State} {h : Heap} {a : Addr} {k : ClassId} {ty : FieldType} {z : Int32} (n : Nat) (A : Arr Z h a (newA k ty z) ty) (q : ¬ z < 0) : Arv Z h a k ty z (List.replicate n (defaultValue ty)) (defaultValue ty) := (Arv.new A q).pad fun i => pad_rep [] _ n i
theorem own_narB (x : Int32) : nar .byte x.toInt8.toInt32 = x.toInt8.toInt32 := by show x.toInt8.toInt32.toInt8.toInt32 = _; simp
theorem own_narC (x : Int32) : nar .char x.toUInt32.toUInt16.toUInt32.toInt32 = x.toUInt32.toUInt16.toUInt32.toInt32 := by show x.toUInt32.toUInt16.toUInt32.toInt32.toUInt32.toUInt16.toUInt32.toInt32 = _; simp only [UInt32.toUInt32_toInt32, UInt16.toUInt16_toUInt32]
theorem own_fitB (x : Int32) : fits .byte (.int (nar .byte x)) = true := fits_nar_byte x
theorem own_nb {z : Int32} (h : z = 0 ∨ z = 1) : narrow .boolean (.int z) = .int z := by rcases h with rfl | rfl <;> rfl
theorem own_fb {z : Int32} (h : z = 0 ∨ z = 1) : fits .boolean (.int z) = true := by rcases h with rfl | rfl <;> rfl
theorem own_nar {z : Int32} (h : z = 0 ∨ z = 1) : nar .boolean z = z := by rcases h with rfl | rfl <;> rfl
def own_W (c : Int32) : Prop := 0 ≤ c.toInt ∧ c.toInt < 65536
theorem own_W.nar {c : Int32} (h : own_W c) : nar .char c = c := by
  obtain ⟨h1, h2⟩ := h
  show c.toUInt32.toUInt16.toUInt32.toInt32 = c
  apply Int32.toInt_inj.mp
  have q := c_i2c c
  omega
theorem own_Wc (x : Int32) : own_W (x.toUInt32.toUInt16.toUInt32.toInt32) := by
  have q := c_i2c x
  exact ⟨q.2.1, q.2.2⟩
theorem own_gc {c : Int32} (h : own_W c) : (((((c >>> ((0 : Int32) &&& 31)).toInt8.toInt32) &&& (255 : Int32)) <<< ((0 : Int32) &&& 31)) ||| ((((c >>> ((8 : Int32) &&& 31)).toInt8.toInt32) &&& (255 : Int32)) <<< ((8 : Int32) &&& 31))).toUInt32.toUInt16.toUInt32.toInt32 = c := by
  obtain ⟨h1, h2⟩ := h
  have a1 := c_ishr c 0 0 (by decide)
  have a2 := c_ishr c 8 8 (by decide)
  generalize (c >>> ((0 : Int32) &&& 31)) = x at *
  generalize (c >>> ((8 : Int32) &&& 31)) = y at *
  have b1 := c_i2b x
  have b2 := c_i2b y
  generalize x.toInt8.toInt32 = x1 at *
  generalize y.toInt8.toInt32 = y1 at *
  have d1 := c_mask x1 255 8 (by decide) (by decide)
  have d2 := c_mask y1 255 8 (by decide) (by decide)
  generalize (x1 &&& (255 : Int32)) = x2 at *
  generalize (y1 &&& (255 : Int32)) = y2 at *
  have f1 := c_ishl x2 0 0 (by decide)
  have f2 := c_ishl y2 8 8 (by decide)
  generalize (x2 <<< ((0 : Int32) &&& 31)) = x3 at *
  generalize (y2 <<< ((8 : Int32) &&& 31)) = y3 at *
  have r1 := rng32 x3
  have r2 := rng32 y3
  have e8 : ((2 ^ 8 : Nat) : Int) = 256 := by decide
  have e0 : ((2 ^ 0 : Nat) : Int) = 1 := by decide
  rw [e8] at *
  rw [e0] at *
  have x3v : x3.toInt = x.toInt % 256 := by omega
  have y3v : y3.toInt = 256 * (y.toInt % 256) := by omega
  have g := c_or' x3 y3 8 (by decide) 256 rfl (by omega) (by omega) (by omega)
  generalize (x3 ||| y3) = z at *
  have r3 := rng32 z
  have k := c_i2c z
  apply Int32.toInt_inj.mp
  omega
def own_le (c : Int32) : Int32 := if (255 : Int32) < c then 0 else 1
theorem own_nar8 {c : Int32} (h : c = 0 ∨ c = 1) : nar .byte c = c := by rcases h with rfl | rfl <;> rfl
theorem own_cd {cd z n : Int32} (h : (cd = 0 ∧ z = n) ∨ (cd = 1 ∧ z = n + n)) : cd = 0 ∨ cd = 1 := h.imp (·.1) (·.1)
theorem own_znz {cd z n : Int32} (hn : n = 1 ∨ n = 2 ∨ n = 3) (h : (cd = 0 ∧ z = n) ∨ (cd = 1 ∧ z = n + n)) : ¬ (z = 0) := by
  rcases h with ⟨-, rfl⟩ | ⟨-, rfl⟩ <;> rcases hn with rfl | rfl | rfl <;> decide
theorem own_len2 {cd z n : Int32} (hn : n = 1 ∨ n = 2 ∨ n = 3) (h : (cd = 0 ∧ z = n) ∨ (cd = 1 ∧ z = n + n)) : (z >>> (cd &&& 31)) = n := by
  rcases h with ⟨rfl, rfl⟩ | ⟨rfl, rfl⟩ <;> rcases hn with rfl | rfl | rfl <;> decide
theorem own_l3 {n : Int32} (h : n = 1 ∨ n = 2 ∨ n = 3) (h1 : ¬ n = (1 : Int32)) (h2 : ¬ n = (2 : Int32)) : n = 3 := h.elim (fun z => absurd z h1) fun z => z.elim (fun y => absurd y h2) id
theorem own_ln (x : Int32) : ((1 : Int32) + ((x &&& (2147483647 : Int32)) % (3 : Int32))) = 1 ∨ ((1 : Int32) + ((x &&& (2147483647 : Int32)) % (3 : Int32))) = 2 ∨ ((1 : Int32) + ((x &&& (2147483647 : Int32)) % (3 : Int32))) = 3 := by
  have m := c_mask x 2147483647 31 (by decide) (by decide)
  have q := (c_irem (x &&& (2147483647 : Int32)) 3 3 rfl).1 (by rw [m]; omega)
  have e0 : (1 : Int32).toInt = 1 := rfl
  have e1 : (2 : Int32).toInt = 2 := rfl
  have e2 : (3 : Int32).toInt = 3 := rfl
  have e : ((1 : Int32) + ((x &&& (2147483647 : Int32)) % (3 : Int32))).toInt = (1 : Int32).toInt + ((x &&& (2147483647 : Int32)) % (3 : Int32)).toInt := XT.add32 ⟨by rw [q, e0]; omega, by rw [q, e0]; omega⟩
  simp only [← Int32.toInt_inj]
  rw [e, q, e0, e1, e2]
  omega
theorem own_mono {l : Launch} {x : MethodName} {Sp : Spec} {P : Array Value → State → Prop} {Q Q' : Option Value → Heap → List Loc → Prop} {k n : Nat} (h : MetFree l x Sp P (fun _ _ _ _ _ => True) (fun _ U o U' => ∃ v L, o = .returned v ∧ Q v U'.heap L ∧ FrameEnd U o U' L k n)) (q : ∀ v h L, Q v h L → Q' v h L) :
    MetFree l x Sp P (fun _ _ _ _ _ => True) (fun _ U o U' => ∃ v L, o = .returned v ∧ Q' v U'.heap L ∧ FrameEnd U o U' L k n) := by
  intro p e ha hc hk s m args below hf happ hP hK
  obtain ⟨i, o, h1, h2, h3, v, L, h4, h5, h6⟩ := h p e ha hc hk s m args below hf happ hP hK
  exact ⟨i, o, h1, h2, h3, v, L, h4, q _ _ _ h5, h6⟩
theorem own_str {a0 : Array Value} {Z : State} (hw : ∀ d ∈ tables_1, d.before a0 Z = true) : ∀ a ∈ Bundle.stringAtoms, a.before a0 Z = true := by
  intro a ha
  simp only [Bundle.stringAtoms, List.mem_cons, List.not_mem_nil, or_false] at ha
  rcases ha with rfl | rfl | rfl | rfl | rfl | rfl | rfl
  · exact (own_w hw 4 rfl)
  · exact (own_w hw 3 rfl)
  · exact (own_w hw 21 rfl)
  · exact (own_w hw 31 rfl)
  · exact (own_w hw 29 rfl)
  · exact (own_w hw 71 rfl)
  · exact (own_w hw 72 rfl)
def own_EL : List (String × Nat) := [("java/lang/String", 7)]
abbrev own_PH (Z s : State) (Q : Option Value → Heap → List Loc → Prop) (k n : Nat) (t : State) (o : Outcome) : Prop := ∃ v L, o = .returned v ∧ Q v t.heap L ∧ CHr Z own_EL s.vm s.heap t.vm t.heap ∧ ReturnedEndW s o t L k n
theorem own_safe {Z : State} {EL : List (String × Nat)} {vm : Vm} {h : Heap} {x : Addr} (hal : Z.vm.Alike vm) (E : Exa Z h x "java/lang/String") (F : Fld Z h x "java/lang/String" "value" "[B" .null) : Safe Z EL vm h x := fun B => by
  obtain ⟨p, -, u, a, -, q, -, G, rfl | rfl⟩ := B
  · obtain ⟨cell, cf, k, i, f, h1, h2, -, -, -, -, h7⟩ := F
    cases (show h[q.sa]? = some q.sC from G.ha).symm.trans h1
    obtain ⟨cS, ⟨⟨-, -, -, ⟨c1, k1, i1, f1, -⟩, -, -, -, v1, -⟩, -⟩, -⟩ := G
    obtain ⟨k3, e3, -⟩ := State.fieldFound?_setVm (s := Z) hal h2
    have e4 := (show (Wst Z vm h).fieldFound? _ _ _ = _ from e3).symm.trans f1
    simp only [Option.some.injEq, Prod.mk.injEq] at e4
    rw [← e4.2.2.2, h7] at v1
    cases v1
  · obtain ⟨cell, k, e1, e2, e3, -, -⟩ := E
    cases (show h[q.sd]? = some q.SA from G.hd).symm.trans e1
    obtain ⟨cS, -, -, f, -⟩ := G
    have f' : Z.vm.findClass "[B" = some q.SA.cls := by rw [← hal.findClass]; exact f
    obtain ⟨k1, q1, q2⟩ := Vm.findClass_spec f'
    obtain ⟨k2, q3, q4⟩ := Vm.findClass_spec e2
    cases q1.symm.trans q3
    have := q2.symm.trans q4
    exact absurd this (by decide)
theorem own_EW {a0 : Array Value} {Z : State} (hw : ∀ d ∈ tables_1, d.before a0 Z = true) : EW Z a0 own_EL := EW.cons (own_w hw 70 rfl) (by decide) EW.nil
theorem own_sta {s : State} {args : Array Value} {C n d : String} {v : Int32} {ty : FieldType} (hf : Fit s) (w0 : (Jvm.Cond.laysStatic C n d).before args s = true) (w1 : (Jvm.Cond.initializedFor C n d).before args s = true) (w2 : (Jvm.Cond.eq (Term.static C n d) (Term.int v)).before args s = true) (ht : parseFieldDescriptor d = some ty) (hk : ty = .int ∨ ty = .boolean ∨ ty = .byte ∨ ty = .char ∨ ty = .short) : Sta s s.heap C n d (.int v) := by
  obtain ⟨u, eu, fu⟩ := static_fit hf w0 ht
  obtain ⟨x, rfl⟩ := fit_I fu hk
  have e : x = v := by
    have q := Cond.before_iff.mp w2
    have q2 := Cond.eq_ints (idx := []) (o := none) (first := s) eu (Term.int_eval v)
    rw [q2] at q
    simpa using q
  subst e
  exact Sta.start eu (Or.inl w1)
theorem pd__B : parseMethodDescriptor "()B" = some ⟨[], some .byte⟩ := by decide +kernel
theorem pd__I : parseMethodDescriptor "()I" = some ⟨[], some .int⟩ := by decide +kernel
theorem pd__Z : parseMethodDescriptor "()Z" = some ⟨[], some .boolean⟩ := by decide +kernel
theorem pd__C_Ljava_lang_String_ : parseMethodDescriptor "(C)Ljava/lang/String;" = some ⟨[.char], some (.object "java/lang/String")⟩ := by decide +kernel
theorem pd__C_Z : parseMethodDescriptor "(C)Z" = some ⟨[.char], some .boolean⟩ := by decide +kernel
theorem pd__C_B : parseMethodDescriptor "(C)[B" = some ⟨[.char], some (.array .byte)⟩ := by decide +kernel
theorem pd__I_I : parseMethodDescriptor "(I)I" = some ⟨[.int], some .int⟩ := by decide +kernel
theorem pd__I_B : parseMethodDescriptor "(I)[B" = some ⟨[.int], some (.array .byte)⟩ := by decide +kernel
theorem pd__Ljava_lang_Object_Z : parseMethodDescriptor "(Ljava/lang/Object;)Z" = some ⟨[(.object "java/lang/Object")], some .boolean⟩ := by decide +kernel
theorem pd__Ljava_lang_String_Ljava_lang_String_Ljava_lang_String_ : parseMethodDescriptor "(Ljava/lang/String;Ljava/lang/String;)Ljava/lang/String;" = some ⟨[(.object "java/lang/String"), (.object "java/lang/String")], some (.object "java/lang/String")⟩ := by decide +kernel
theorem pd__BB_V : parseMethodDescriptor "([BB)V" = some ⟨[(.array .byte), .byte], none⟩ := by decide +kernel
theorem pd__BI_B : parseMethodDescriptor "([BI)B" = some ⟨[(.array .byte), .int], some .byte⟩ := by decide +kernel
theorem pd__BI_C : parseMethodDescriptor "([BI)C" = some ⟨[(.array .byte), .int], some .char⟩ := by decide +kernel
theorem pd__BII_V : parseMethodDescriptor "([BII)V" = some ⟨[(.array .byte), .int, .int], none⟩ := by decide +kernel
theorem pd__C_V : parseMethodDescriptor "([C)V" = some ⟨[(.array .char)], none⟩ := by decide +kernel
theorem pd__CII_B : parseMethodDescriptor "([CII)[B" = some ⟨[(.array .char), .int, .int], some (.array .byte)⟩ := by decide +kernel
theorem pd__CIILjava_lang_Void_V : parseMethodDescriptor "([CIILjava/lang/Void;)V" = some ⟨[(.array .char), .int, .int, (.object "java/lang/Void")], none⟩ := by decide +kernel
theorem pd__CI_BII_I : parseMethodDescriptor "([CI[BII)I" = some ⟨[(.array .char), .int, (.array .byte), .int, .int], some .int⟩ := by decide +kernel
theorem dnl1_0 : decode jdk_52_method_3_code 0 = .ok (.iload_n 0, 1) := by decide +kernel
theorem dnl1_1 : decode jdk_52_method_3_code 1 = .ok (.ifCond .ge 11, 3) := by decide +kernel
theorem dnl1_12 : decode jdk_52_method_3_code 12 = .ok (.iload_n 0, 1) := by decide +kernel
theorem dnl1_13 : decode jdk_52_method_3_code 13 = .ok (.ldc 20, 2) := by decide +kernel
theorem dnl1_15 : decode jdk_52_method_3_code 15 = .ok (.if_icmp .lt 40, 3) := by decide +kernel
theorem dnl1_55 : decode jdk_52_method_3_code 55 = .ok (.iload_n 0, 1) := by decide +kernel
theorem dnl1_56 : decode jdk_52_method_3_code 56 = .ok (.iconst 1, 1) := by decide +kernel
theorem dnl1_57 : decode jdk_52_method_3_code 57 = .ok (.ishl, 1) := by decide +kernel
theorem dnl1_58 : decode jdk_52_method_3_code 58 = .ok (.ireturn, 1) := by decide +kernel
theorem pn_nl1 : plainName "java/lang/StringUTF16" = true := by first | (simp [plainName, overriddenIn]; done) | decide +kernel
theorem ef_nl1 (m : MethodId) (x0 : Int32) : entryFrame m #[(.int x0)] 1 = mkF m 0 #[.val (.int x0)] [] := by first | (simp [entryFrame, mkF, argsToLocals, Value.category]; done) | rfl
def Qnl1 (Z : State) (h0 : Heap) (n0 : Nat) (v : Option Value) (h : Heap) (L : List Loc) : Prop := v = some (.int (2 : Int32)) ∧ Fr n0 L ∧ h = h0
set_option maxRecDepth 65536 in
set_option maxHeartbeats 40000000 in
theorem rmnl1 (l : Launch) (Z : State) (a0 : Array Value) (hw : ∀ d ∈ tables_1, d.before a0 Z = true) (ws : List Jvm.Cond) (h0 : Heap) (n0 : Nat) (Z0 : n0 ≤ h0.size) :
    MetFree l (⟨"java/lang/StringUTF16", "newBytesLength", "(I)I"⟩ : MethodName) (head1 (Jvm.Cond.code (⟨"java/lang/StringUTF16", "newBytesLength", "(I)I"⟩ : MethodName) jdk_52_method_3_code 1 (some .int) :: ws) ({ frames := 0, cells := 0, slots := 0, locals := 0 } : Room)) (fun a U => a = #[(.int (1 : Int32))] ∧ Z.Warmed39 U.vm ∧ U.heap = h0) (fun _ _ _ _ _ => True) (fun _ U o U' => ∃ v L, o = .returned v ∧ Qnl1 Z h0 n0 v U'.heap L ∧ FrameEnd U o U' L ({ frames := 0, cells := 0, slots := 0, locals := 0 } : Room).cells ({ frames := 0, cells := 0, slots := 0, locals := 0 } : Room).slots) := by
  refine MetFree.of_bodySF (plainFor_of_name pn_nl1) hisR ?_
  intro p e s m args below meth c s₁ Bd hml0 hP hK
  obtain ⟨rfl, hZ, hh⟩ := hP
  have hx := Bd.exec
  have hby := Bd.bytes
  have hml : c.maxLocals = 1 := hml0
  have hown : s.vm.findClass "java/lang/StringUTF16" = some m.cls := findClass_of_methodNamed Bd.named
  have hnm := (name_of_methodNamed Bd.named Bd.method).1
  have X0 : Stand p l e ({ frames := 0, cells := 0, slots := 0, locals := 0 } : Room) s m #[(.int (1 : Int32))] below meth c s₁ [] 0 0 := Stand.of_body Bd
  have e0 : s₁.heap = h0 := by rw [← hh, Bd.state]; rfl
  have N0 := Fr.nil n0
  show own_R p.tables e below (own_P s (Qnl1 Z h0 n0) ({ frames := 0, cells := 0, slots := 0, locals := 0 } : Room).cells ({ frames := 0, cells := 0, slots := 0, locals := 0 } : Room).slots) (s₁.setTop (entryFrame m #[(.int (1 : Int32))] 1))
  refine own_f s₁ (mkF m 0 #[.val (.int (1 : Int32))] []) (fun t k => castTop (ef_nl1 m (1 : Int32)) k) ?_
  refine own_step (fun t k => XS.iloadN X0.here hx rfl (hb hby dnl1_0) rfl k) ?_
  refine own_f s₁ (mkF m 12 #[.val (.int (1 : Int32))] []) (fun t k => XS.ifYes X0.here hx rfl (pc0 := 1) (pc' := 12) rfl (hb hby dnl1_1) rfl (XT.i0_ge_t (by decide)) (by decide) (by decide) k) ?_
  refine own_f s₁ (mkF m 13 #[.val (.int (1 : Int32))] [(.int (1 : Int32))]) (fun t k => XS.iloadN X0.here hx rfl (hb hby dnl1_12) rfl k) ?_
  refine own_f s₁ (mkF m 15 #[.val (.int (1 : Int32))] [(.int (1073741823 : Int32)), (.int (1 : Int32))]) (fun t k => X0.ldcI hx hown (mvT hZ (own_w hw 82 rfl)) rfl (hb hby dnl1_13) k) ?_
  refine own_f s₁ (mkF m 55 #[.val (.int (1 : Int32))] []) (fun t k => XS.icmpYes X0.here hx rfl (pc0 := 15) (pc' := 55) rfl (hb hby dnl1_15) rfl (XT.ii_lt_t (by decide)) (by decide) (by decide) k) ?_
  refine own_step (fun t k => XS.iloadN X0.here hx rfl (hb hby dnl1_55) rfl k) ?_
  refine own_step (fun t k => XT.iconstV X0.here hx rfl (1 : Int32) (hb hby dnl1_56) (by decide) k) ?_
  refine own_f s₁ (mkF m 58 #[.val (.int (1 : Int32))] [(.int ((1 : Int32) <<< ((1 : Int32) &&& 31)))]) (fun t k => XS.ishl X0.here hx rfl (hb hby dnl1_57) rfl k) ?_
  rw [show ((1 : Int32) <<< ((1 : Int32) &&& 31)) = (2 : Int32) from by decide]
  obtain ⟨fs, hr, hrun, hended, hW, hsame⟩ := X0.leave (v := some (.int (2 : Int32))) (fun h => by rw [Bd.returns] at h; cases h)
  refine ⟨_, _, retI X0 hx Bd.returns (hb hby dnl1_58) hr, hrun, hended, _, _, rfl, ?_, ⟨_, rfl⟩, hW, hsame.mono (by decide) (by decide)⟩
  show Qnl1 Z h0 n0 _ s₁.heap _
  rw [e0]
  exact ⟨rfl, N0, rfl⟩
theorem dnf1_0 : decode jdk_52_method_2_code 0 = .ok (.iload_n 0, 1) := by decide +kernel
theorem dnf1_1 : decode jdk_52_method_2_code 1 = .ok (.invokestatic 11, 3) := by decide +kernel
theorem dnf1_4 : decode jdk_52_method_2_code 4 = .ok (.newarray .byte, 2) := by decide +kernel
theorem dnf1_6 : decode jdk_52_method_2_code 6 = .ok (.areturn, 1) := by decide +kernel
theorem pn_nf1 : plainName "java/lang/StringUTF16" = true := by first | (simp [plainName, overriddenIn]; done) | decide +kernel
theorem ef_nf1 (m : MethodId) (x0 : Int32) : entryFrame m #[(.int x0)] 1 = mkF m 0 #[.val (.int x0)] [] := by first | (simp [entryFrame, mkF, argsToLocals, Value.category]; done) | rfl
def Qnf1 (Z : State) (h0 : Heap) (n0 : Nat) (v : Option Value) (h : Heap) (L : List Loc) : Prop := ∃ (b : Addr) (kb : ClassId), v = some (.ref b) ∧ Fr n0 L ∧ Keep h0 h [] ∧ Arv Z h b kb .byte (2 : Int32) [.int 0, .int 0] (.int 0) ∧ h0.size ≤ b
set_option maxRecDepth 65536 in
set_option maxHeartbeats 40000000 in
theorem rmnf1 (l : Launch) (Z : State) (a0 : Array Value) (hw : ∀ d ∈ tables_1, d.before a0 Z = true) (ws : List Jvm.Cond) (h0 : Heap) (n0 : Nat) (Z0 : n0 ≤ h0.size) :
    MetFree l (⟨"java/lang/StringUTF16", "newBytesFor", "(I)[B"⟩ : MethodName) (head1 (Jvm.Cond.code (⟨"java/lang/StringUTF16", "newBytesFor", "(I)[B"⟩ : MethodName) jdk_52_method_2_code 1 (some (.array .byte)) :: ws) ({ frames := 1, cells := 1, slots := 2, locals := 12 } : Room)) (fun a U => a = #[(.int (1 : Int32))] ∧ Z.Warmed39 U.vm ∧ U.heap = h0) (fun _ _ _ _ _ => True) (fun _ U o U' => ∃ v L, o = .returned v ∧ Qnf1 Z h0 n0 v U'.heap L ∧ FrameEnd U o U' L ({ frames := 1, cells := 1, slots := 2, locals := 12 } : Room).cells ({ frames := 1, cells := 1, slots := 2, locals := 12 } : Room).slots) := by
  refine MetFree.of_bodySF (plainFor_of_name pn_nf1) hisR ?_
  intro p e s m args below meth c s₁ Bd hml0 hP hK
  obtain ⟨rfl, hZ, hh⟩ := hP
  have hx := Bd.exec
  have hby := Bd.bytes
  have hml : c.maxLocals = 1 := hml0
  have hown : s.vm.findClass "java/lang/StringUTF16" = some m.cls := findClass_of_methodNamed Bd.named
  have hnm := (name_of_methodNamed Bd.named Bd.method).1
  have X0 : Stand p l e ({ frames := 1, cells := 1, slots := 2, locals := 12 } : Room) s m #[(.int (1 : Int32))] below meth c s₁ [] 0 0 := Stand.of_body Bd
  have e0 : s₁.heap = h0 := by rw [← hh, Bd.state]; rfl
  have N0 := Fr.nil n0
  show own_R p.tables e below (own_P s (Qnf1 Z h0 n0) ({ frames := 1, cells := 1, slots := 2, locals := 12 } : Room).cells ({ frames := 1, cells := 1, slots := 2, locals := 12 } : Room).slots) (s₁.setTop (entryFrame m #[(.int (1 : Int32))] 1))
  refine own_f s₁ (mkF m 0 #[.val (.int (1 : Int32))] []) (fun t k => castTop (ef_nf1 m (1 : Int32)) k) ?_
  refine own_f s₁ (mkF m 1 #[.val (.int (1 : Int32))] [(.int (1 : Int32))]) (fun t k => XS.iloadN X0.here hx rfl (hb hby dnf1_0) rfl k) ?_
  obtain ⟨_, _, ⟨T1, Lq1, kq_1, nq_1⟩, -, X1, ⟨Lc1, hQ1, lq1, yq1, zq1⟩, st1⟩ := Jvm.LawKit.callS X0 hx (y := (⟨"java/lang/StringUTF16", "newBytesLength", "(I)I"⟩ : MethodName)) hown (mvT hZ (own_w hw 79 rfl)) (mvT hZ (own_w hw 80 rfl)) (mvT hZ (own_w hw 19 rfl)) (mvT hZ (own_w hw 81 rfl)) (by decide) (backOf (W := 0) (rmnl1 l Z a0 hw []  h0 n0 Z0 ) hZ (own_w hw 81 rfl) (own_w hw 19 rfl) (by decide) (by decide)) (g := (mkF m 1 #[.val (.int (1 : Int32))] [(.int (1 : Int32))])) rfl (by rw [hml]; rfl) (argsL := [(.int (1 : Int32))]) (rest := []) (lenOf pd__I_I rfl) rfl (by show 2 * 0 + _ ≤ _; exact Nat.le_of_eq rfl) (hb hby dnf1_1) (fun _ _ => ⟨rfl, e0, (by decide : 0 + 0 ≤ _), (by decide : 0 + 0 ≤ _)⟩)
  dsimp only [Pt.U, Pt.locs, Pt.cells, Pt.slots] at X1 lq1 yq1 zq1 st1 hQ1
  subst lq1 yq1 zq1
  obtain ⟨h1, e1⟩ : ∃ z, T1.heap = z := ⟨_, rfl⟩
  rw [e1] at hQ1
  unfold Qnl1 at hQ1
  obtain ⟨rfl, Nq1, qh1⟩ := hQ1
  have N1 := Fr.app N0 Nq1
  rw [qh1] at e1
  refine own_f T1 (mkF m 4 #[.val (.int (1 : Int32))] [(.int (2 : Int32))]) st1 ?_
  obtain ⟨T2, h2, kA2, X2, e2, E2, A2, st2⟩ := newP X1 hx hZ (own_w hw 21 rfl) e1 (g := (mkF m 4 #[.val (.int (1 : Int32))] [(.int (2 : Int32))])) rfl (hb hby dnf1_4) rfl (by decide) (cap := 2) (by decide) (by decide) (by decide) (by decide)
  obtain ⟨b2, g2⟩ : ∃ z, z = h0.size := ⟨_, rfl⟩
  rw [← g2] at A2 st2
  have ge2 : n0 ≤ b2 := by rw [g2]; exact Z0
  have gf2 : h0.size ≤ b2 := by rw [g2]; exact (Keep.refl h0 []).1
  have Zs2 : n0 ≤ h2.size := Nat.le_trans Z0 E2.1
  have K2 : Keep h0 h2 [] := (Keep.refl h0 []).ext E2
  have F_3 : Arv Z h2 b2 kA2 .byte (2 : Int32) [.int 0, .int 0] (.int 0) := own_arvnew 2 A2 (by decide)
  refine own_f T2 (mkF m 6 #[.val (.int (1 : Int32))] [(.ref b2)]) st2 ?_
  obtain ⟨fs, hr, hrun, hended, hW, hsame⟩ := X2.leave (v := some (.ref b2)) (fun h => by rw [Bd.returns] at h; cases h)
  refine ⟨_, _, retOut X2 hx Bd.returns (by rfl) (Or.inr (Or.inr (Or.inr (Or.inr ⟨rfl, rfl, rfl⟩)))) (hb hby dnf1_6) hr, hrun, hended, _, _, rfl, ?_, ⟨_, rfl⟩, hW, hsame.mono (by decide) (by decide)⟩
  show Qnf1 Z h0 n0 _ T2.heap _
  rw [e2]
  exact ⟨b2, kA2, rfl, N1, K2, F_3, gf2⟩
theorem dpc1_0_0 : decode jdk_52_method_4_code 0 = .ok (.getstatic 44, 3) := by decide +kernel
theorem dpc1_0_3 : decode jdk_52_method_4_code 3 = .ok (.ifCond .ne 25, 3) := by decide +kernel
theorem dpc1_0_28 : decode jdk_52_method_4_code 28 = .ok (.iload_n 1, 1) := by decide +kernel
theorem dpc1_0_29 : decode jdk_52_method_4_code 29 = .ok (.iconst 1, 1) := by decide +kernel
theorem dpc1_0_30 : decode jdk_52_method_4_code 30 = .ok (.ishl, 1) := by decide +kernel
theorem dpc1_0_31 : decode jdk_52_method_4_code 31 = .ok (.istore_n 1, 1) := by decide +kernel
theorem dpc1_0_32 : decode jdk_52_method_4_code 32 = .ok (.aload_n 0, 1) := by decide +kernel
theorem dpc1_0_33 : decode jdk_52_method_4_code 33 = .ok (.iload_n 1, 1) := by decide +kernel
theorem dpc1_0_34 : decode jdk_52_method_4_code 34 = .ok (.iinc 1 1, 3) := by decide +kernel
theorem dpc1_0_37 : decode jdk_52_method_4_code 37 = .ok (.iload_n 2, 1) := by decide +kernel
theorem dpc1_0_38 : decode jdk_52_method_4_code 38 = .ok (.getstatic 59, 3) := by decide +kernel
theorem dpc1_0_41 : decode jdk_52_method_4_code 41 = .ok (.ishr, 1) := by decide +kernel
theorem dpc1_0_42 : decode jdk_52_method_4_code 42 = .ok (.i2b, 1) := by decide +kernel
theorem dpc1_0_43 : decode jdk_52_method_4_code 43 = .ok (.bastore, 1) := by decide +kernel
theorem dpc1_0_44 : decode jdk_52_method_4_code 44 = .ok (.aload_n 0, 1) := by decide +kernel
theorem dpc1_0_45 : decode jdk_52_method_4_code 45 = .ok (.iload_n 1, 1) := by decide +kernel
theorem dpc1_0_46 : decode jdk_52_method_4_code 46 = .ok (.iload_n 2, 1) := by decide +kernel
theorem dpc1_0_47 : decode jdk_52_method_4_code 47 = .ok (.getstatic 63, 3) := by decide +kernel
theorem dpc1_0_50 : decode jdk_52_method_4_code 50 = .ok (.ishr, 1) := by decide +kernel
theorem dpc1_0_51 : decode jdk_52_method_4_code 51 = .ok (.i2b, 1) := by decide +kernel
theorem dpc1_0_52 : decode jdk_52_method_4_code 52 = .ok (.bastore, 1) := by decide +kernel
theorem dpc1_0_53 : decode jdk_52_method_4_code 53 = .ok (.return_, 1) := by decide +kernel
theorem pn_pc1_0 : plainName "java/lang/StringUTF16" = true := by first | (simp [plainName, overriddenIn]; done) | decide +kernel
theorem ef_pc1_0 (m : MethodId) (x0 : Addr) (x1 : Int32) (x2 : Int32) : entryFrame m #[(.ref x0), (.int x1), (.int x2)] 3 = mkF m 0 #[.val (.ref x0), .val (.int x1), .val (.int x2)] [] := by first | (simp [entryFrame, mkF, argsToLocals, Value.category]; done) | rfl
def Qpc1_0 (Z : State) (a1 : Addr) (k1 : ClassId) (cc : Int32) (e0_ : Int32) (e1_ : Int32) (h0 : Heap) (n0 : Nat) (v : Option Value) (h : Heap) (L : List Loc) : Prop := v = none ∧ Fr n0 L ∧ Keep h0 h [a1] ∧ Arv Z h a1 k1 .byte (2 : Int32) [.int ((cc >>> ((0 : Int32) &&& 31)).toInt8.toInt32), .int ((cc >>> ((8 : Int32) &&& 31)).toInt8.toInt32)] (.int 0)
set_option maxRecDepth 65536 in
set_option maxHeartbeats 40000000 in
theorem rmpc1_0 (l : Launch) (Z : State) (a0 : Array Value) (hw : ∀ d ∈ tables_1, d.before a0 Z = true) (ws : List Jvm.Cond) (a1 : Addr) (k1 : ClassId) (cc : Int32) (e0_ : Int32) (e1_ : Int32) (h0 : Heap) (n0 : Nat) (Z0 : n0 ≤ h0.size) (F0 : Old Z n0 h0) (F1 : Arv Z h0 a1 k1 .byte (2 : Int32) [.int e0_, .int e1_] (.int 0)) (ge_a1 : n0 ≤ a1) (SH : Sta Z Z.heap "java/lang/StringUTF16" "HI_BYTE_SHIFT" "I" (.int (0 : Int32))) (SL : Sta Z Z.heap "java/lang/StringUTF16" "LO_BYTE_SHIFT" "I" (.int (8 : Int32))) (SA : Sta Z Z.heap "java/lang/StringUTF16" "$assertionsDisabled" "Z" (.int (1 : Int32))) :
    MetFree l (⟨"java/lang/StringUTF16", "putChar", "([BII)V"⟩ : MethodName) (head1 (Jvm.Cond.code (⟨"java/lang/StringUTF16", "putChar", "([BII)V"⟩ : MethodName) jdk_52_method_4_code 3 none :: ws) ({ frames := 0, cells := 0, slots := 0, locals := 0 } : Room)) (fun a U => a = #[(.ref a1), (.int (0 : Int32)), (.int cc)] ∧ Z.Warmed39 U.vm ∧ U.heap = h0) (fun _ _ _ _ _ => True) (fun _ U o U' => ∃ v L, o = .returned v ∧ Qpc1_0 Z a1 k1 cc e0_ e1_ h0 n0 v U'.heap L ∧ FrameEnd U o U' L ({ frames := 0, cells := 0, slots := 0, locals := 0 } : Room).cells ({ frames := 0, cells := 0, slots := 0, locals := 0 } : Room).slots) := by
  refine MetFree.of_bodySF (plainFor_of_name pn_pc1_0) hisR ?_
  intro p e s m args below meth c s₁ Bd hml0 hP hK
  obtain ⟨rfl, hZ, hh⟩ := hP
  have hx := Bd.exec
  have hby := Bd.bytes
  have hml : c.maxLocals = 3 := hml0
  have hown : s.vm.findClass "java/lang/StringUTF16" = some m.cls := findClass_of_methodNamed Bd.named
  have hnm := (name_of_methodNamed Bd.named Bd.method).1
  have X0 : Stand p l e ({ frames := 0, cells := 0, slots := 0, locals := 0 } : Room) s m #[(.ref a1), (.int (0 : Int32)), (.int cc)] below meth c s₁ [] 0 0 := Stand.of_body Bd
  have e0 : s₁.heap = h0 := by rw [← hh, Bd.state]; rfl
  have N0 := Fr.nil n0
  show own_R p.tables e below (own_P s (Qpc1_0 Z a1 k1 cc e0_ e1_ h0 n0) ({ frames := 0, cells := 0, slots := 0, locals := 0 } : Room).cells ({ frames := 0, cells := 0, slots := 0, locals := 0 } : Room).slots) (s₁.setTop (entryFrame m #[(.ref a1), (.int (0 : Int32)), (.int cc)] 3))
  refine own_f s₁ (mkF m 0 #[.val (.ref a1), .val (.int (0 : Int32)), .val (.int cc)] []) (fun t k => castTop (ef_pc1_0 m a1 (0 : Int32) cc) k) ?_
  have S1 : Sta Z h0 "java/lang/StringUTF16" "$assertionsDisabled" "Z" (.int (1 : Int32)) := SA.ext F0.2
  obtain ⟨T1, X1, e1, st1⟩ := getS X0 hx hZ (host := "") hown (own_w hw 86 rfl) Via.refl e0 S1 (g := (mkF m 0 #[.val (.ref a1), .val (.int (0 : Int32)), .val (.int cc)] [])) rfl (hb hby dpc1_0_0)
  refine own_f T1 (mkF m 3 #[.val (.ref a1), .val (.int (0 : Int32)), .val (.int cc)] [(.int (1 : Int32))]) st1 ?_
  refine own_f T1 (mkF m 28 #[.val (.ref a1), .val (.int (0 : Int32)), .val (.int cc)] []) (fun t k => XS.ifYes X1.here hx rfl (pc0 := 3) (pc' := 28) rfl (hb hby dpc1_0_3) rfl (XT.i0_ne_t (by decide)) (by decide) (by decide) k) ?_
  refine own_step (fun t k => XS.iloadN X1.here hx rfl (hb hby dpc1_0_28) rfl k) ?_
  refine own_step (fun t k => XT.iconstV X1.here hx rfl (1 : Int32) (hb hby dpc1_0_29) (by decide) k) ?_
  refine own_f T1 (mkF m 31 #[.val (.ref a1), .val (.int (0 : Int32)), .val (.int cc)] [(.int ((0 : Int32) <<< ((1 : Int32) &&& 31)))]) (fun t k => XS.ishl X1.here hx rfl (hb hby dpc1_0_30) rfl k) ?_
  rw [show ((0 : Int32) <<< ((1 : Int32) &&& 31)) = (0 : Int32) from by decide]
  refine own_f T1 (mkF m 32 #[.val (.ref a1), .val (.int (0 : Int32)), .val (.int cc)] []) (fun t k => XS.istoreN X1.here hx rfl (hb hby dpc1_0_31) rfl (l' := #[.val (.ref a1), .val (.int (0 : Int32)), .val (.int cc)]) rfl k) ?_
  refine own_step (fun t k => XS.aloadN X1.here hx rfl (hb hby dpc1_0_32) rfl rfl k) ?_
  refine own_f T1 (mkF m 34 #[.val (.ref a1), .val (.int (0 : Int32)), .val (.int cc)] [(.int (0 : Int32)), (.ref a1)]) (fun t k => XS.iloadN X1.here hx rfl (hb hby dpc1_0_33) rfl k) ?_
  refine own_f T1 (mkF m 37 #[.val (.ref a1), .val (.int ((0 : Int32) + (1 : Int32))), .val (.int cc)] [(.int (0 : Int32)), (.ref a1)]) (fun t k => XT.iincV X1.here hx rfl (l' := #[.val (.ref a1), .val (.int ((0 : Int32) + (1 : Int32))), .val (.int cc)]) (1 : Int32) (hb hby dpc1_0_34) (by decide) rfl rfl k) ?_
  rw [show ((0 : Int32) + (1 : Int32)) = (1 : Int32) from by decide]
  refine own_f T1 (mkF m 38 #[.val (.ref a1), .val (.int (1 : Int32)), .val (.int cc)] [(.int cc), (.int (0 : Int32)), (.ref a1)]) (fun t k => XS.iloadN X1.here hx rfl (hb hby dpc1_0_37) rfl k) ?_
  have S2 : Sta Z h0 "java/lang/StringUTF16" "HI_BYTE_SHIFT" "I" (.int (0 : Int32)) := SH.ext F0.2
  obtain ⟨T2, X2, e2, st2⟩ := getS X1 hx hZ (host := "") hown (own_w hw 87 rfl) Via.refl e1 S2 (g := (mkF m 38 #[.val (.ref a1), .val (.int (1 : Int32)), .val (.int cc)] [(.int cc), (.int (0 : Int32)), (.ref a1)])) rfl (hb hby dpc1_0_38)
  refine own_f T2 (mkF m 41 #[.val (.ref a1), .val (.int (1 : Int32)), .val (.int cc)] [(.int (0 : Int32)), (.int cc), (.int (0 : Int32)), (.ref a1)]) st2 ?_
  refine own_f T2 (mkF m 42 #[.val (.ref a1), .val (.int (1 : Int32)), .val (.int cc)] [(.int (cc >>> ((0 : Int32) &&& 31))), (.int (0 : Int32)), (.ref a1)]) (fun t k => XS.ishr X2.here hx rfl (hb hby dpc1_0_41) rfl k) ?_
  refine own_f T2 (mkF m 43 #[.val (.ref a1), .val (.int (1 : Int32)), .val (.int cc)] [(.int ((cc >>> ((0 : Int32) &&& 31)).toInt8.toInt32)), (.int (0 : Int32)), (.ref a1)]) (fun t k => XS.i2b X2.here hx rfl (hb hby dpc1_0_42) rfl k) ?_
  obtain ⟨cl3, Ar3, q13, Sz3, q33, Hs3, Gs3⟩ := id F1
  obtain ⟨T3, h3, X3, e3, W3, st3⟩ := stB X2 hx hZ e2 Ar3 (j := (0 : Int32)) (inb_of Sz3 ⟨by decide, by decide⟩) (g := (mkF m 43 #[.val (.ref a1), .val (.int (1 : Int32)), .val (.int cc)] [(.int ((cc >>> ((0 : Int32) &&& 31)).toInt8.toInt32)), (.int (0 : Int32)), (.ref a1)])) rfl rfl (hb hby dpc1_0_43)
  have N3 := Fr.snoc X3 N0 ge_a1
  have Zs3 : n0 ≤ h3.size := by rw [W3.size]; exact Z0
  have K3 : Keep h0 h3 [a1] := (Keep.refl h0 [a1]).wr W3 (Or.inl (by simp))
  have F_4 := F0.wr W3 ge_a1
  have F_5 : Arv Z h3 a1 k1 .byte (2 : Int32) [.int ((cc >>> ((0 : Int32) &&& 31)).toInt8.toInt32), .int e1_] (.int 0) := Arv.set Ar3 q13 Sz3 q33 Hs3 Gs3 (by rw [← ((own_narB _) : nar .byte ((cc >>> ((0 : Int32) &&& 31)).toInt8.toInt32) = ((cc >>> ((0 : Int32) &&& 31)).toInt8.toInt32))]; exact own_fitB _) (by rw [((own_narB _) : nar .byte ((cc >>> ((0 : Int32) &&& 31)).toInt8.toInt32) = ((cc >>> ((0 : Int32) &&& 31)).toInt8.toInt32))] at W3; exact W3) 0 (by decide) (by simp)
  refine own_f T3 (mkF m 44 #[.val (.ref a1), .val (.int (1 : Int32)), .val (.int cc)] []) st3 ?_
  refine own_step (fun t k => XS.aloadN X3.here hx rfl (hb hby dpc1_0_44) rfl rfl k) ?_
  refine own_step (fun t k => XS.iloadN X3.here hx rfl (hb hby dpc1_0_45) rfl k) ?_
  refine own_f T3 (mkF m 47 #[.val (.ref a1), .val (.int (1 : Int32)), .val (.int cc)] [(.int cc), (.int (1 : Int32)), (.ref a1)]) (fun t k => XS.iloadN X3.here hx rfl (hb hby dpc1_0_46) rfl k) ?_
  have S6 : Sta Z h3 "java/lang/StringUTF16" "LO_BYTE_SHIFT" "I" (.int (8 : Int32)) := SL.ext F_4.2
  obtain ⟨T6, X6, e6, st6⟩ := getS X3 hx hZ (host := "") hown (own_w hw 88 rfl) Via.refl e3 S6 (g := (mkF m 47 #[.val (.ref a1), .val (.int (1 : Int32)), .val (.int cc)] [(.int cc), (.int (1 : Int32)), (.ref a1)])) rfl (hb hby dpc1_0_47)
  refine own_f T6 (mkF m 50 #[.val (.ref a1), .val (.int (1 : Int32)), .val (.int cc)] [(.int (8 : Int32)), (.int cc), (.int (1 : Int32)), (.ref a1)]) st6 ?_
  refine own_f T6 (mkF m 51 #[.val (.ref a1), .val (.int (1 : Int32)), .val (.int cc)] [(.int (cc >>> ((8 : Int32) &&& 31))), (.int (1 : Int32)), (.ref a1)]) (fun t k => XS.ishr X6.here hx rfl (hb hby dpc1_0_50) rfl k) ?_
  refine own_f T6 (mkF m 52 #[.val (.ref a1), .val (.int (1 : Int32)), .val (.int cc)] [(.int ((cc >>> ((8 : Int32) &&& 31)).toInt8.toInt32)), (.int (1 : Int32)), (.ref a1)]) (fun t k => XS.i2b X6.here hx rfl (hb hby dpc1_0_51) rfl k) ?_
  obtain ⟨cl7, Ar7, q17, Sz7, q37, Hs7, Gs7⟩ := id F_5
  obtain ⟨T7, h7, X7, e7, W7, st7⟩ := stB X6 hx hZ e6 Ar7 (j := (1 : Int32)) (inb_of Sz7 ⟨by decide, by decide⟩) (g := (mkF m 52 #[.val (.ref a1), .val (.int (1 : Int32)), .val (.int cc)] [(.int ((cc >>> ((8 : Int32) &&& 31)).toInt8.toInt32)), (.int (1 : Int32)), (.ref a1)])) rfl rfl (hb hby dpc1_0_52)
  have N7 := Fr.snoc X7 N3 ge_a1
  have Zs7 : n0 ≤ h7.size := by rw [W7.size]; exact Zs3
  have K7 : Keep h0 h7 [a1] := K3.wr W7 (Or.inl (by simp))
  have F_8 := F_4.wr W7 ge_a1
  have F_9 : Arv Z h7 a1 k1 .byte (2 : Int32) [.int ((cc >>> ((0 : Int32) &&& 31)).toInt8.toInt32), .int ((cc >>> ((8 : Int32) &&& 31)).toInt8.toInt32)] (.int 0) := Arv.set Ar7 q17 Sz7 q37 Hs7 Gs7 (by rw [← ((own_narB _) : nar .byte ((cc >>> ((8 : Int32) &&& 31)).toInt8.toInt32) = ((cc >>> ((8 : Int32) &&& 31)).toInt8.toInt32))]; exact own_fitB _) (by rw [((own_narB _) : nar .byte ((cc >>> ((8 : Int32) &&& 31)).toInt8.toInt32) = ((cc >>> ((8 : Int32) &&& 31)).toInt8.toInt32))] at W7; exact W7) 1 (by decide) (by simp)
  refine own_f T7 (mkF m 53 #[.val (.ref a1), .val (.int (1 : Int32)), .val (.int cc)] []) st7 ?_
  obtain ⟨fs, hr, hrun, hended, hW, hsame⟩ := X7.leave (v := none) (fun _ => rfl)
  refine ⟨_, _, X7.returnOut hx Bd.returns (hb hby dpc1_0_53) hr, hrun, hended, _, _, rfl, ?_, ⟨_, rfl⟩, hW, hsame.mono (by decide) (by decide)⟩
  show Qpc1_0 Z a1 k1 cc e0_ e1_ h0 n0 _ T7.heap _
  rw [e7]
  exact ⟨rfl, N7, K7, F_9⟩
theorem dtb1_0 : decode jdk_52_method_14_code 0 = .ok (.iload_n 2, 1) := by decide +kernel
theorem dtb1_1 : decode jdk_52_method_14_code 1 = .ok (.invokestatic 107, 3) := by decide +kernel
theorem dtb1_4 : decode jdk_52_method_14_code 4 = .ok (.astore_n 3, 1) := by decide +kernel
theorem dtb1_5 : decode jdk_52_method_14_code 5 = .ok (.iconst 0, 1) := by decide +kernel
theorem dtb1_6 : decode jdk_52_method_14_code 6 = .ok (.istore 4, 2) := by decide +kernel
theorem dtb1_8 : decode jdk_52_method_14_code 8 = .ok (.iload 4, 2) := by decide +kernel
theorem dtb1_10 : decode jdk_52_method_14_code 10 = .ok (.iload_n 2, 1) := by decide +kernel
theorem dtb1_11 : decode jdk_52_method_14_code 11 = .ok (.if_icmp .ge 21, 3) := by decide +kernel
theorem dtb1_14 : decode jdk_52_method_14_code 14 = .ok (.aload_n 3, 1) := by decide +kernel
theorem dtb1_15 : decode jdk_52_method_14_code 15 = .ok (.iload 4, 2) := by decide +kernel
theorem dtb1_17 : decode jdk_52_method_14_code 17 = .ok (.aload_n 0, 1) := by decide +kernel
theorem dtb1_18 : decode jdk_52_method_14_code 18 = .ok (.iload_n 1, 1) := by decide +kernel
theorem dtb1_19 : decode jdk_52_method_14_code 19 = .ok (.caload, 1) := by decide +kernel
theorem dtb1_20 : decode jdk_52_method_14_code 20 = .ok (.invokestatic 111, 3) := by decide +kernel
theorem dtb1_23 : decode jdk_52_method_14_code 23 = .ok (.iinc 1 1, 3) := by decide +kernel
theorem dtb1_26 : decode jdk_52_method_14_code 26 = .ok (.iinc 4 1, 3) := by decide +kernel
theorem dtb1_29 : decode jdk_52_method_14_code 29 = .ok (.goto (-21), 3) := by decide +kernel
theorem dtb1_32 : decode jdk_52_method_14_code 32 = .ok (.aload_n 3, 1) := by decide +kernel
theorem dtb1_33 : decode jdk_52_method_14_code 33 = .ok (.areturn, 1) := by decide +kernel
theorem pn_tb1 : plainName "java/lang/StringUTF16" = true := by first | (simp [plainName, overriddenIn]; done) | decide +kernel
theorem ef_tb1 (m : MethodId) (x0 : Addr) (x1 : Int32) (x2 : Int32) : entryFrame m #[(.ref x0), (.int x1), (.int x2)] 5 = mkF m 0 #[.val (.ref x0), .val (.int x1), .val (.int x2), .unset, .unset] [] := by first | (simp [entryFrame, mkF, argsToLocals, Value.category]; done) | rfl
def Qtb1 (Z : State) (a1 : Addr) (k1 : ClassId) (c0 : Int32) (h0 : Heap) (n0 : Nat) (v : Option Value) (h : Heap) (L : List Loc) : Prop := ∃ (b : Addr) (kb : ClassId), v = some (.ref b) ∧ Fr n0 L ∧ Keep h0 h [] ∧ Arv Z h b kb .byte (2 : Int32) [.int ((c0 >>> ((0 : Int32) &&& 31)).toInt8.toInt32), .int ((c0 >>> ((8 : Int32) &&& 31)).toInt8.toInt32)] (.int 0) ∧ h0.size ≤ b
set_option maxRecDepth 65536 in
set_option maxHeartbeats 40000000 in
theorem rmtb1 (l : Launch) (Z : State) (a0 : Array Value) (hw : ∀ d ∈ tables_1, d.before a0 Z = true) (ws : List Jvm.Cond) (a1 : Addr) (k1 : ClassId) (c0 : Int32) (h0 : Heap) (n0 : Nat) (Z0 : n0 ≤ h0.size) (F0 : Old Z n0 h0) (F1 : Arv Z h0 a1 k1 .char (1 : Int32) [.int c0] (.int 0)) (SH : Sta Z Z.heap "java/lang/StringUTF16" "HI_BYTE_SHIFT" "I" (.int (0 : Int32))) (SL : Sta Z Z.heap "java/lang/StringUTF16" "LO_BYTE_SHIFT" "I" (.int (8 : Int32))) (SA : Sta Z Z.heap "java/lang/StringUTF16" "$assertionsDisabled" "Z" (.int (1 : Int32))) :
    MetFree l (⟨"java/lang/StringUTF16", "toBytes", "([CII)[B"⟩ : MethodName) (head1 (Jvm.Cond.code (⟨"java/lang/StringUTF16", "toBytes", "([CII)[B"⟩ : MethodName) jdk_52_method_14_code 5 (some (.array .byte)) :: ws) ({ frames := 2, cells := 1, slots := 2, locals := 24 } : Room)) (fun a U => a = #[(.ref a1), (.int (0 : Int32)), (.int (1 : Int32))] ∧ Z.Warmed39 U.vm ∧ U.heap = h0) (fun _ _ _ _ _ => True) (fun _ U o U' => ∃ v L, o = .returned v ∧ Qtb1 Z a1 k1 c0 h0 n0 v U'.heap L ∧ FrameEnd U o U' L ({ frames := 2, cells := 1, slots := 2, locals := 24 } : Room).cells ({ frames := 2, cells := 1, slots := 2, locals := 24 } : Room).slots) := by
  refine MetFree.of_bodySF (plainFor_of_name pn_tb1) hisR ?_
  intro p e s m args below meth c s₁ Bd hml0 hP hK
  obtain ⟨rfl, hZ, hh⟩ := hP
  have hx := Bd.exec
  have hby := Bd.bytes
  have hml : c.maxLocals = 5 := hml0
  have hown : s.vm.findClass "java/lang/StringUTF16" = some m.cls := findClass_of_methodNamed Bd.named
  have hnm := (name_of_methodNamed Bd.named Bd.method).1
  have X0 : Stand p l e ({ frames := 2, cells := 1, slots := 2, locals := 24 } : Room) s m #[(.ref a1), (.int (0 : Int32)), (.int (1 : Int32))] below meth c s₁ [] 0 0 := Stand.of_body Bd
  have e0 : s₁.heap = h0 := by rw [← hh, Bd.state]; rfl
  have N0 := Fr.nil n0
  show own_R p.tables e below (own_P s (Qtb1 Z a1 k1 c0 h0 n0) ({ frames := 2, cells := 1, slots := 2, locals := 24 } : Room).cells ({ frames := 2, cells := 1, slots := 2, locals := 24 } : Room).slots) (s₁.setTop (entryFrame m #[(.ref a1), (.int (0 : Int32)), (.int (1 : Int32))] 5))
  refine own_f s₁ (mkF m 0 #[.val (.ref a1), .val (.int (0 : Int32)), .val (.int (1 : Int32)), .unset, .unset] []) (fun t k => castTop (ef_tb1 m a1 (0 : Int32) (1 : Int32)) k) ?_
  refine own_f s₁ (mkF m 1 #[.val (.ref a1), .val (.int (0 : Int32)), .val (.int (1 : Int32)), .unset, .unset] [(.int (1 : Int32))]) (fun t k => XS.iloadN X0.here hx rfl (hb hby dtb1_0) rfl k) ?_
  obtain ⟨_, _, ⟨T1, Lq1, kq_1, nq_1⟩, -, X1, ⟨Lc1, hQ1, lq1, yq1, zq1⟩, st1⟩ := Jvm.LawKit.callS X0 hx (y := (⟨"java/lang/StringUTF16", "newBytesFor", "(I)[B"⟩ : MethodName)) hown (mvT hZ (own_w hw 76 rfl)) (mvT hZ (own_w hw 77 rfl)) (mvT hZ (own_w hw 19 rfl)) (mvT hZ (own_w hw 78 rfl)) (by decide) (backOf (W := 0) (rmnf1 l Z a0 hw []  h0 n0 Z0 ) hZ (own_w hw 78 rfl) (own_w hw 19 rfl) (by decide) (by decide)) (g := (mkF m 1 #[.val (.ref a1), .val (.int (0 : Int32)), .val (.int (1 : Int32)), .unset, .unset] [(.int (1 : Int32))])) rfl (by rw [hml]; rfl) (argsL := [(.int (1 : Int32))]) (rest := []) (lenOf pd__I_B rfl) rfl (by show 2 * 0 + _ ≤ _; exact Nat.le_of_eq rfl) (hb hby dtb1_1) (fun _ _ => ⟨rfl, e0, (by decide : 0 + 1 ≤ _), (by decide : 0 + 2 ≤ _)⟩)
  dsimp only [Pt.U, Pt.locs, Pt.cells, Pt.slots] at X1 lq1 yq1 zq1 st1 hQ1
  subst lq1 yq1 zq1
  obtain ⟨h1, e1⟩ : ∃ z, T1.heap = z := ⟨_, rfl⟩
  rw [e1] at hQ1
  unfold Qnf1 at hQ1
  obtain ⟨b1, kb1, rfl, Nq1, qh1, G1_0, H1_0⟩ := hQ1
  have N1 := Fr.app N0 Nq1
  have Zs1 : n0 ≤ h1.size := Nat.le_trans Z0 qh1.1
  have F_2 := F0.keep qh1 all0
  have F_3 := F1.keep qh1 nin0
  have K1 : Keep h0 h1 [] := (Keep.refl h0 []).trans qh1 all0
  have ne1_a1 : a1 ≠ b1 := Nat.ne_of_lt (Nat.lt_of_lt_of_le F1.lt H1_0)
  have ge1 : n0 ≤ b1 := Nat.le_trans Z0 H1_0
  have gf1 : h0.size ≤ b1 := Nat.le_trans (Keep.refl h0 []).1 H1_0
  refine own_f T1 (mkF m 4 #[.val (.ref a1), .val (.int (0 : Int32)), .val (.int (1 : Int32)), .unset, .unset] [(.ref b1)]) st1 ?_
  refine own_f T1 (mkF m 5 #[.val (.ref a1), .val (.int (0 : Int32)), .val (.int (1 : Int32)), .val (.ref b1), .unset] []) (fun t k => XS.astoreN X1.here hx rfl (hb hby dtb1_4) rfl rfl (l' := #[.val (.ref a1), .val (.int (0 : Int32)), .val (.int (1 : Int32)), .val (.ref b1), .unset]) rfl k) ?_
  refine own_step (fun t k => XT.iconstV X1.here hx rfl (0 : Int32) (hb hby dtb1_5) (by decide) k) ?_
  refine own_f T1 (mkF m 8 #[.val (.ref a1), .val (.int (0 : Int32)), .val (.int (1 : Int32)), .val (.ref b1), .val (.int (0 : Int32))] []) (fun t k => XS.istore X1.here hx rfl (hb hby dtb1_6) rfl (l' := #[.val (.ref a1), .val (.int (0 : Int32)), .val (.int (1 : Int32)), .val (.ref b1), .val (.int (0 : Int32))]) rfl k) ?_
  refine own_step (fun t k => XS.iload X1.here hx rfl (hb hby dtb1_8) rfl k) ?_
  refine own_step (fun t k => XS.iloadN X1.here hx rfl (hb hby dtb1_10) rfl k) ?_
  refine own_f T1 (mkF m 14 #[.val (.ref a1), .val (.int (0 : Int32)), .val (.int (1 : Int32)), .val (.ref b1), .val (.int (0 : Int32))] []) (fun t k => XS.icmpNo X1.here hx rfl (hb hby dtb1_11) rfl (XT.ii_ge_f (by decide)) k) ?_
  refine own_step (fun t k => XS.aloadN X1.here hx rfl (hb hby dtb1_14) rfl rfl k) ?_
  refine own_step (fun t k => XS.iload X1.here hx rfl (hb hby dtb1_15) rfl k) ?_
  refine own_step (fun t k => XS.aloadN X1.here hx rfl (hb hby dtb1_17) rfl rfl k) ?_
  refine own_f T1 (mkF m 19 #[.val (.ref a1), .val (.int (0 : Int32)), .val (.int (1 : Int32)), .val (.ref b1), .val (.int (0 : Int32))] [(.int (0 : Int32)), (.ref a1), (.int (0 : Int32)), (.ref b1)]) (fun t k => XS.iloadN X1.here hx rfl (hb hby dtb1_18) rfl k) ?_
  obtain ⟨cl4, Ar4, q14, Sz4, q34, Hs4, Gs4⟩ := id F_3
  have hi4 := inb_of (j := (0 : Int32)) Sz4 ⟨by decide, by decide⟩
  refine own_f T1 (mkF m 20 #[.val (.ref a1), .val (.int (0 : Int32)), .val (.int (1 : Int32)), .val (.ref b1), .val (.int (0 : Int32))] [(.int c0), (.int (0 : Int32)), (.ref b1)]) (fun t k => X1.caload hx (j := (0 : Int32)) (v := (.int c0)) (by rw [e1]; exact Ar4.1) (State.isArrayOf_alike hZ.alike Ar4.2.1) Ar4.2.2 hi4 (Has.at Hs4 hi4 rfl) (g := (mkF m 19 #[.val (.ref a1), .val (.int (0 : Int32)), .val (.int (1 : Int32)), .val (.ref b1), .val (.int (0 : Int32))] [(.int (0 : Int32)), (.ref a1), (.int (0 : Int32)), (.ref b1)])) rfl rfl (hb hby dtb1_19) t k) ?_
  obtain ⟨_, _, ⟨T5, Lq5, kq_5, nq_5⟩, -, X5, ⟨Lc5, hQ5, lq5, yq5, zq5⟩, st5⟩ := Jvm.LawKit.callS X1 hx (y := (⟨"java/lang/StringUTF16", "putChar", "([BII)V"⟩ : MethodName)) hown (mvT hZ (own_w hw 83 rfl)) (mvT hZ (own_w hw 84 rfl)) (mvT hZ (own_w hw 19 rfl)) (mvT hZ (own_w hw 85 rfl)) (by decide) (backOf (W := 0) (rmpc1_0 l Z a0 hw [] b1 _ c0 _ _ h1 n0 Zs1 F_2 G1_0 ge1 SH SL SA) hZ (own_w hw 85 rfl) (own_w hw 19 rfl) (by decide) (by decide)) (g := (mkF m 20 #[.val (.ref a1), .val (.int (0 : Int32)), .val (.int (1 : Int32)), .val (.ref b1), .val (.int (0 : Int32))] [(.int c0), (.int (0 : Int32)), (.ref b1)])) rfl (by rw [hml]; rfl) (argsL := [(.ref b1), (.int (0 : Int32)), (.int c0)]) (rest := []) (lenOf pd__BII_V rfl) rfl (by show 2 * 0 + _ ≤ _; exact Nat.le_of_eq rfl) (hb hby dtb1_20) (fun _ _ => ⟨rfl, e1, (by decide : 0 + 1 + 0 ≤ _), (by decide : 0 + 2 + 0 ≤ _)⟩)
  dsimp only [Pt.U, Pt.locs, Pt.cells, Pt.slots] at X5 lq5 yq5 zq5 st5 hQ5
  subst lq5 yq5 zq5
  obtain ⟨h5, e5⟩ : ∃ z, T5.heap = z := ⟨_, rfl⟩
  rw [e5] at hQ5
  unfold Qpc1_0 at hQ5
  obtain ⟨rfl, Nq5, qh5, G5_0⟩ := hQ5
  have N5 := Fr.app N1 Nq5
  have Zs5 : n0 ≤ h5.size := Nat.le_trans Zs1 qh5.1
  have F_6 := F_2.keep qh5 (allS ge1 all0)
  have F_7 := F_3.keep qh5 (ninS ne1_a1 nin0)
  have K5 : Keep h0 h5 [] := K1.trans qh5 (allS (Or.inr gf1) all0)
  refine own_f T5 (mkF m 23 #[.val (.ref a1), .val (.int (0 : Int32)), .val (.int (1 : Int32)), .val (.ref b1), .val (.int (0 : Int32))] []) st5 ?_
  refine own_f T5 (mkF m 26 #[.val (.ref a1), .val (.int ((0 : Int32) + (1 : Int32))), .val (.int (1 : Int32)), .val (.ref b1), .val (.int (0 : Int32))] []) (fun t k => XT.iincV X5.here hx rfl (l' := #[.val (.ref a1), .val (.int ((0 : Int32) + (1 : Int32))), .val (.int (1 : Int32)), .val (.ref b1), .val (.int (0 : Int32))]) (1 : Int32) (hb hby dtb1_23) (by decide) rfl rfl k) ?_
  rw [show ((0 : Int32) + (1 : Int32)) = (1 : Int32) from by decide]
  refine own_f T5 (mkF m 29 #[.val (.ref a1), .val (.int (1 : Int32)), .val (.int (1 : Int32)), .val (.ref b1), .val (.int ((0 : Int32) + (1 : Int32)))] []) (fun t k => XT.iincV X5.here hx rfl (l' := #[.val (.ref a1), .val (.int (1 : Int32)), .val (.int (1 : Int32)), .val (.ref b1), .val (.int ((0 : Int32) + (1 : Int32)))]) (1 : Int32) (hb hby dtb1_26) (by decide) rfl rfl k) ?_
  rw [show ((0 : Int32) + (1 : Int32)) = (1 : Int32) from by decide]
  refine own_step (fun t k => XS.goto X5.here hx rfl (pc0 := 29) (pc' := 8) rfl (hb hby dtb1_29) (by decide) (by decide) k) ?_
  refine own_step (fun t k => XS.iload X5.here hx rfl (hb hby dtb1_8) rfl k) ?_
  refine own_step (fun t k => XS.iloadN X5.here hx rfl (hb hby dtb1_10) rfl k) ?_
  refine own_f T5 (mkF m 32 #[.val (.ref a1), .val (.int (1 : Int32)), .val (.int (1 : Int32)), .val (.ref b1), .val (.int (1 : Int32))] []) (fun t k => XS.icmpYes X5.here hx rfl (pc0 := 11) (pc' := 32) rfl (hb hby dtb1_11) rfl (XT.ii_ge_t (by decide)) (by decide) (by decide) k) ?_
  refine own_f T5 (mkF m 33 #[.val (.ref a1), .val (.int (1 : Int32)), .val (.int (1 : Int32)), .val (.ref b1), .val (.int (1 : Int32))] [(.ref b1)]) (fun t k => XS.aloadN X5.here hx rfl (hb hby dtb1_32) rfl rfl k) ?_
  obtain ⟨fs, hr, hrun, hended, hW, hsame⟩ := X5.leave (v := some (.ref b1)) (fun h => by rw [Bd.returns] at h; cases h)
  refine ⟨_, _, retOut X5 hx Bd.returns (by rfl) (Or.inr (Or.inr (Or.inr (Or.inr ⟨rfl, rfl, rfl⟩)))) (hb hby dtb1_33) hr, hrun, hended, _, _, rfl, ?_, ⟨_, rfl⟩, hW, hsame.mono (by decide) (by decide)⟩
  show Qtb1 Z a1 k1 c0 h0 n0 _ T5.heap _
  rw [e5]
  exact ⟨b1, kb1, rfl, N5, K5, G5_0, gf1⟩
theorem dco1_1_0 : decode jdk_52_method_15_code 0 = .ok (.iload_n 1, 1) := by decide +kernel
theorem dco1_1_1 : decode jdk_52_method_15_code 1 = .ok (.aload_n 0, 1) := by decide +kernel
theorem dco1_1_2 : decode jdk_52_method_15_code 2 = .ok (.arraylength, 1) := by decide +kernel
theorem dco1_1_3 : decode jdk_52_method_15_code 3 = .ok (.isub, 1) := by decide +kernel
theorem dco1_1_4 : decode jdk_52_method_15_code 4 = .ok (.bipush 31, 2) := by decide +kernel
theorem dco1_1_6 : decode jdk_52_method_15_code 6 = .ok (.iushr, 1) := by decide +kernel
theorem dco1_1_7 : decode jdk_52_method_15_code 7 = .ok (.i2b, 1) := by decide +kernel
theorem dco1_1_8 : decode jdk_52_method_15_code 8 = .ok (.ireturn, 1) := by decide +kernel
theorem pn_co1_1 : plainName "java/lang/StringUTF16" = true := by first | (simp [plainName, overriddenIn]; done) | decide +kernel
theorem ef_co1_1 (m : MethodId) (x0 : Addr) (x1 : Int32) : entryFrame m #[(.ref x0), (.int x1)] 2 = mkF m 0 #[.val (.ref x0), .val (.int x1)] [] := by first | (simp [entryFrame, mkF, argsToLocals, Value.category]; done) | rfl
def Qco1_1 (Z : State) (a1 : Addr) (k1 : ClassId) (vv : List Value) (h0 : Heap) (n0 : Nat) (v : Option Value) (h : Heap) (L : List Loc) : Prop := v = some (.int (0 : Int32)) ∧ Fr n0 L ∧ h = h0
set_option maxRecDepth 65536 in
set_option maxHeartbeats 40000000 in
theorem rmco1_1 (l : Launch) (Z : State) (a0 : Array Value) (hw : ∀ d ∈ tables_1, d.before a0 Z = true) (ws : List Jvm.Cond) (a1 : Addr) (k1 : ClassId) (vv : List Value) (h0 : Heap) (n0 : Nat) (Z0 : n0 ≤ h0.size) (F0 : Arv Z h0 a1 k1 .byte (1 : Int32) vv (.int 0)) :
    MetFree l (⟨"java/lang/StringUTF16", "coderFromArrayLen", "([BI)B"⟩ : MethodName) (head1 (Jvm.Cond.code (⟨"java/lang/StringUTF16", "coderFromArrayLen", "([BI)B"⟩ : MethodName) jdk_52_method_15_code 2 (some .byte) :: ws) ({ frames := 0, cells := 0, slots := 0, locals := 0 } : Room)) (fun a U => a = #[(.ref a1), (.int (1 : Int32))] ∧ Z.Warmed39 U.vm ∧ U.heap = h0) (fun _ _ _ _ _ => True) (fun _ U o U' => ∃ v L, o = .returned v ∧ Qco1_1 Z a1 k1 vv h0 n0 v U'.heap L ∧ FrameEnd U o U' L ({ frames := 0, cells := 0, slots := 0, locals := 0 } : Room).cells ({ frames := 0, cells := 0, slots := 0, locals := 0 } : Room).slots) := by
  refine MetFree.of_bodySF (plainFor_of_name pn_co1_1) hisR ?_
  intro p e s m args below meth c s₁ Bd hml0 hP hK
  obtain ⟨rfl, hZ, hh⟩ := hP
  have hx := Bd.exec
  have hby := Bd.bytes
  have hml : c.maxLocals = 2 := hml0
  have hown : s.vm.findClass "java/lang/StringUTF16" = some m.cls := findClass_of_methodNamed Bd.named
  have hnm := (name_of_methodNamed Bd.named Bd.method).1
  have X0 : Stand p l e ({ frames := 0, cells := 0, slots := 0, locals := 0 } : Room) s m #[(.ref a1), (.int (1 : Int32))] below meth c s₁ [] 0 0 := Stand.of_body Bd
  have e0 : s₁.heap = h0 := by rw [← hh, Bd.state]; rfl
  have N0 := Fr.nil n0
  show own_R p.tables e below (own_P s (Qco1_1 Z a1 k1 vv h0 n0) ({ frames := 0, cells := 0, slots := 0, locals := 0 } : Room).cells ({ frames := 0, cells := 0, slots := 0, locals := 0 } : Room).slots) (s₁.setTop (entryFrame m #[(.ref a1), (.int (1 : Int32))] 2))
  refine own_f s₁ (mkF m 0 #[.val (.ref a1), .val (.int (1 : Int32))] []) (fun t k => castTop (ef_co1_1 m a1 (1 : Int32)) k) ?_
  refine own_step (fun t k => XS.iloadN X0.here hx rfl (hb hby dco1_1_0) rfl k) ?_
  refine own_f s₁ (mkF m 2 #[.val (.ref a1), .val (.int (1 : Int32))] [(.ref a1), (.int (1 : Int32))]) (fun t k => XS.aloadN X0.here hx rfl (hb hby dco1_1_1) rfl rfl k) ?_
  refine own_f s₁ (mkF m 3 #[.val (.ref a1), .val (.int (1 : Int32))] [(.int (1 : Int32)), (.int (1 : Int32))]) (fun t k => own_len X0 hx hZ e0 F0 (g := (mkF m 2 #[.val (.ref a1), .val (.int (1 : Int32))] [(.ref a1), (.int (1 : Int32))])) rfl rfl (hb hby dco1_1_2) k) ?_
  refine own_f s₁ (mkF m 4 #[.val (.ref a1), .val (.int (1 : Int32))] [(.int ((1 : Int32) - (1 : Int32)))]) (fun t k => XS.isub X0.here hx rfl (hb hby dco1_1_3) rfl k) ?_
  rw [show ((1 : Int32) - (1 : Int32)) = (0 : Int32) from by decide]
  refine own_step (fun t k => XT.bipushV X0.here hx rfl (31 : Int32) (hb hby dco1_1_4) (by decide) k) ?_
  refine own_f s₁ (mkF m 7 #[.val (.ref a1), .val (.int (1 : Int32))] [(.int (((0 : Int32).toUInt32 >>> ((31 : Int32) &&& 31).toUInt32).toInt32))]) (fun t k => XS.iushr X0.here hx rfl (hb hby dco1_1_6) rfl k) ?_
  rw [show (((0 : Int32).toUInt32 >>> ((31 : Int32) &&& 31).toUInt32).toInt32) = (0 : Int32) from by decide]
  refine own_f s₁ (mkF m 8 #[.val (.ref a1), .val (.int (1 : Int32))] [(.int ((0 : Int32).toInt8.toInt32))]) (fun t k => XS.i2b X0.here hx rfl (hb hby dco1_1_7) rfl k) ?_
  rw [show ((0 : Int32).toInt8.toInt32) = (0 : Int32) from by decide]
  obtain ⟨fs, hr, hrun, hended, hW, hsame⟩ := X0.leave (v := some (.int (0 : Int32))) (fun h => by rw [Bd.returns] at h; cases h)
  refine ⟨_, _, own_retB X0 hx (t := .byte) Bd.returns (by simp) (by decide) (hb hby dco1_1_8) hr, hrun, hended, _, _, rfl, ?_, ⟨_, rfl⟩, hW, hsame.mono (by decide) (by decide)⟩
  show Qco1_1 Z a1 k1 vv h0 n0 _ s₁.heap _
  rw [e0]
  exact ⟨rfl, N0, rfl⟩
theorem dco1_2_0 : decode jdk_52_method_15_code 0 = .ok (.iload_n 1, 1) := by decide +kernel
theorem dco1_2_1 : decode jdk_52_method_15_code 1 = .ok (.aload_n 0, 1) := by decide +kernel
theorem dco1_2_2 : decode jdk_52_method_15_code 2 = .ok (.arraylength, 1) := by decide +kernel
theorem dco1_2_3 : decode jdk_52_method_15_code 3 = .ok (.isub, 1) := by decide +kernel
theorem dco1_2_4 : decode jdk_52_method_15_code 4 = .ok (.bipush 31, 2) := by decide +kernel
theorem dco1_2_6 : decode jdk_52_method_15_code 6 = .ok (.iushr, 1) := by decide +kernel
theorem dco1_2_7 : decode jdk_52_method_15_code 7 = .ok (.i2b, 1) := by decide +kernel
theorem dco1_2_8 : decode jdk_52_method_15_code 8 = .ok (.ireturn, 1) := by decide +kernel
theorem pn_co1_2 : plainName "java/lang/StringUTF16" = true := by first | (simp [plainName, overriddenIn]; done) | decide +kernel
theorem ef_co1_2 (m : MethodId) (x0 : Addr) (x1 : Int32) : entryFrame m #[(.ref x0), (.int x1)] 2 = mkF m 0 #[.val (.ref x0), .val (.int x1)] [] := by first | (simp [entryFrame, mkF, argsToLocals, Value.category]; done) | rfl
def Qco1_2 (Z : State) (a1 : Addr) (k1 : ClassId) (vv : List Value) (h0 : Heap) (n0 : Nat) (v : Option Value) (h : Heap) (L : List Loc) : Prop := v = some (.int (1 : Int32)) ∧ Fr n0 L ∧ h = h0
set_option maxRecDepth 65536 in
set_option maxHeartbeats 40000000 in
theorem rmco1_2 (l : Launch) (Z : State) (a0 : Array Value) (hw : ∀ d ∈ tables_1, d.before a0 Z = true) (ws : List Jvm.Cond) (a1 : Addr) (k1 : ClassId) (vv : List Value) (h0 : Heap) (n0 : Nat) (Z0 : n0 ≤ h0.size) (F0 : Arv Z h0 a1 k1 .byte (2 : Int32) vv (.int 0)) :
    MetFree l (⟨"java/lang/StringUTF16", "coderFromArrayLen", "([BI)B"⟩ : MethodName) (head1 (Jvm.Cond.code (⟨"java/lang/StringUTF16", "coderFromArrayLen", "([BI)B"⟩ : MethodName) jdk_52_method_15_code 2 (some .byte) :: ws) ({ frames := 0, cells := 0, slots := 0, locals := 0 } : Room)) (fun a U => a = #[(.ref a1), (.int (1 : Int32))] ∧ Z.Warmed39 U.vm ∧ U.heap = h0) (fun _ _ _ _ _ => True) (fun _ U o U' => ∃ v L, o = .returned v ∧ Qco1_2 Z a1 k1 vv h0 n0 v U'.heap L ∧ FrameEnd U o U' L ({ frames := 0, cells := 0, slots := 0, locals := 0 } : Room).cells ({ frames := 0, cells := 0, slots := 0, locals := 0 } : Room).slots) := by
  refine MetFree.of_bodySF (plainFor_of_name pn_co1_2) hisR ?_
  intro p e s m args below meth c s₁ Bd hml0 hP hK
  obtain ⟨rfl, hZ, hh⟩ := hP
  have hx := Bd.exec
  have hby := Bd.bytes
  have hml : c.maxLocals = 2 := hml0
  have hown : s.vm.findClass "java/lang/StringUTF16" = some m.cls := findClass_of_methodNamed Bd.named
  have hnm := (name_of_methodNamed Bd.named Bd.method).1
  have X0 : Stand p l e ({ frames := 0, cells := 0, slots := 0, locals := 0 } : Room) s m #[(.ref a1), (.int (1 : Int32))] below meth c s₁ [] 0 0 := Stand.of_body Bd
  have e0 : s₁.heap = h0 := by rw [← hh, Bd.state]; rfl
  have N0 := Fr.nil n0
  show own_R p.tables e below (own_P s (Qco1_2 Z a1 k1 vv h0 n0) ({ frames := 0, cells := 0, slots := 0, locals := 0 } : Room).cells ({ frames := 0, cells := 0, slots := 0, locals := 0 } : Room).slots) (s₁.setTop (entryFrame m #[(.ref a1), (.int (1 : Int32))] 2))
  refine own_f s₁ (mkF m 0 #[.val (.ref a1), .val (.int (1 : Int32))] []) (fun t k => castTop (ef_co1_2 m a1 (1 : Int32)) k) ?_
  refine own_step (fun t k => XS.iloadN X0.here hx rfl (hb hby dco1_2_0) rfl k) ?_
  refine own_f s₁ (mkF m 2 #[.val (.ref a1), .val (.int (1 : Int32))] [(.ref a1), (.int (1 : Int32))]) (fun t k => XS.aloadN X0.here hx rfl (hb hby dco1_2_1) rfl rfl k) ?_
  refine own_f s₁ (mkF m 3 #[.val (.ref a1), .val (.int (1 : Int32))] [(.int (2 : Int32)), (.int (1 : Int32))]) (fun t k => own_len X0 hx hZ e0 F0 (g := (mkF m 2 #[.val (.ref a1), .val (.int (1 : Int32))] [(.ref a1), (.int (1 : Int32))])) rfl rfl (hb hby dco1_2_2) k) ?_
  refine own_f s₁ (mkF m 4 #[.val (.ref a1), .val (.int (1 : Int32))] [(.int ((1 : Int32) - (2 : Int32)))]) (fun t k => XS.isub X0.here hx rfl (hb hby dco1_2_3) rfl k) ?_
  rw [show ((1 : Int32) - (2 : Int32)) = (-1 : Int32) from by decide]
  refine own_step (fun t k => XT.bipushV X0.here hx rfl (31 : Int32) (hb hby dco1_2_4) (by decide) k) ?_
  refine own_f s₁ (mkF m 7 #[.val (.ref a1), .val (.int (1 : Int32))] [(.int (((-1 : Int32).toUInt32 >>> ((31 : Int32) &&& 31).toUInt32).toInt32))]) (fun t k => XS.iushr X0.here hx rfl (hb hby dco1_2_6) rfl k) ?_
  rw [show (((-1 : Int32).toUInt32 >>> ((31 : Int32) &&& 31).toUInt32).toInt32) = (1 : Int32) from by decide]
  refine own_f s₁ (mkF m 8 #[.val (.ref a1), .val (.int (1 : Int32))] [(.int ((1 : Int32).toInt8.toInt32))]) (fun t k => XS.i2b X0.here hx rfl (hb hby dco1_2_7) rfl k) ?_
  rw [show ((1 : Int32).toInt8.toInt32) = (1 : Int32) from by decide]
  obtain ⟨fs, hr, hrun, hended, hW, hsame⟩ := X0.leave (v := some (.int (1 : Int32))) (fun h => by rw [Bd.returns] at h; cases h)
  refine ⟨_, _, own_retB X0 hx (t := .byte) Bd.returns (by simp) (by decide) (hb hby dco1_2_8) hr, hrun, hended, _, _, rfl, ?_, ⟨_, rfl⟩, hW, hsame.mono (by decide) (by decide)⟩
  show Qco1_2 Z a1 k1 vv h0 n0 _ s₁.heap _
  rw [e0]
  exact ⟨rfl, N0, rfl⟩
theorem dci1_0_0 : decode jdk_52_method_21_code 0 = .ok (.iconst 0, 1) := by decide +kernel
theorem dci1_0_1 : decode jdk_52_method_21_code 1 = .ok (.istore 5, 2) := by decide +kernel
theorem dci1_0_3 : decode jdk_52_method_21_code 3 = .ok (.iload 5, 2) := by decide +kernel
theorem dci1_0_5 : decode jdk_52_method_21_code 5 = .ok (.iload 4, 2) := by decide +kernel
theorem dci1_0_7 : decode jdk_52_method_21_code 7 = .ok (.if_icmp .ge 37, 3) := by decide +kernel
theorem dci1_0_10 : decode jdk_52_method_21_code 10 = .ok (.aload_n 0, 1) := by decide +kernel
theorem dci1_0_11 : decode jdk_52_method_21_code 11 = .ok (.iload_n 1, 1) := by decide +kernel
theorem dci1_0_12 : decode jdk_52_method_21_code 12 = .ok (.caload, 1) := by decide +kernel
theorem dci1_0_13 : decode jdk_52_method_21_code 13 = .ok (.istore 6, 2) := by decide +kernel
theorem dci1_0_15 : decode jdk_52_method_21_code 15 = .ok (.iload 6, 2) := by decide +kernel
theorem dci1_0_17 : decode jdk_52_method_21_code 17 = .ok (.sipush 255, 3) := by decide +kernel
theorem dci1_0_20 : decode jdk_52_method_21_code 20 = .ok (.if_icmp .le 6, 3) := by decide +kernel
theorem dci1_0_23 : decode jdk_52_method_21_code 23 = .ok (.iload 5, 2) := by decide +kernel
theorem dci1_0_25 : decode jdk_52_method_21_code 25 = .ok (.ireturn, 1) := by decide +kernel
theorem pn_ci1_0 : plainName "java/lang/StringUTF16" = true := by first | (simp [plainName, overriddenIn]; done) | decide +kernel
theorem ef_ci1_0 (m : MethodId) (x0 : Addr) (x1 : Int32) (x2 : Addr) (x3 : Int32) (x4 : Int32) : entryFrame m #[(.ref x0), (.int x1), (.ref x2), (.int x3), (.int x4)] 7 = mkF m 0 #[.val (.ref x0), .val (.int x1), .val (.ref x2), .val (.int x3), .val (.int x4), .unset, .unset] [] := by first | (simp [entryFrame, mkF, argsToLocals, Value.category]; done) | rfl
def Qci1_0 (Z : State) (a1 : Addr) (a2 : Addr) (k1 : ClassId) (k2 : ClassId) (c0 : Int32) (h0 : Heap) (n0 : Nat) (v : Option Value) (h : Heap) (L : List Loc) : Prop := v = some (.int (0 : Int32)) ∧ Fr n0 L ∧ Keep h0 h [a2] ∧ Arv Z h a2 k2 .byte (1 : Int32) [.int 0] (.int 0)
set_option maxRecDepth 65536 in
set_option maxHeartbeats 40000000 in
theorem rmci1_0 (l : Launch) (Z : State) (a0 : Array Value) (hw : ∀ d ∈ tables_1, d.before a0 Z = true) (ws : List Jvm.Cond) (a1 : Addr) (a2 : Addr) (k1 : ClassId) (k2 : ClassId) (c0 : Int32) (h0 : Heap) (n0 : Nat) (Z0 : n0 ≤ h0.size) (F0 : Arv Z h0 a1 k1 .char (1 : Int32) [.int c0] (.int 0)) (F1 : Arv Z h0 a2 k2 .byte (1 : Int32) [.int 0] (.int 0)) (ge_a2 : n0 ≤ a2) (hne : a1 ≠ a2) (hc_c0 : (255 : Int32) < c0) :
    MetFree l (⟨"java/lang/StringUTF16", "compress", "([CI[BII)I"⟩ : MethodName) (head1 (Jvm.Cond.code (⟨"java/lang/StringUTF16", "compress", "([CI[BII)I"⟩ : MethodName) jdk_52_method_21_code 7 (some .int) :: ws) ({ frames := 0, cells := 0, slots := 0, locals := 0 } : Room)) (fun a U => a = #[(.ref a1), (.int (0 : Int32)), (.ref a2), (.int (0 : Int32)), (.int (1 : Int32))] ∧ Z.Warmed39 U.vm ∧ U.heap = h0) (fun _ _ _ _ _ => True) (fun _ U o U' => ∃ v L, o = .returned v ∧ Qci1_0 Z a1 a2 k1 k2 c0 h0 n0 v U'.heap L ∧ FrameEnd U o U' L ({ frames := 0, cells := 0, slots := 0, locals := 0 } : Room).cells ({ frames := 0, cells := 0, slots := 0, locals := 0 } : Room).slots) := by
  refine MetFree.of_bodySF (plainFor_of_name pn_ci1_0) hisR ?_
  intro p e s m args below meth c s₁ Bd hml0 hP hK
  obtain ⟨rfl, hZ, hh⟩ := hP
  have hx := Bd.exec
  have hby := Bd.bytes
  have hml : c.maxLocals = 7 := hml0
  have hown : s.vm.findClass "java/lang/StringUTF16" = some m.cls := findClass_of_methodNamed Bd.named
  have hnm := (name_of_methodNamed Bd.named Bd.method).1
  have X0 : Stand p l e ({ frames := 0, cells := 0, slots := 0, locals := 0 } : Room) s m #[(.ref a1), (.int (0 : Int32)), (.ref a2), (.int (0 : Int32)), (.int (1 : Int32))] below meth c s₁ [] 0 0 := Stand.of_body Bd
  have e0 : s₁.heap = h0 := by rw [← hh, Bd.state]; rfl
  have N0 := Fr.nil n0
  show own_R p.tables e below (own_P s (Qci1_0 Z a1 a2 k1 k2 c0 h0 n0) ({ frames := 0, cells := 0, slots := 0, locals := 0 } : Room).cells ({ frames := 0, cells := 0, slots := 0, locals := 0 } : Room).slots) (s₁.setTop (entryFrame m #[(.ref a1), (.int (0 : Int32)), (.ref a2), (.int (0 : Int32)), (.int (1 : Int32))] 7))
  refine own_f s₁ (mkF m 0 #[.val (.ref a1), .val (.int (0 : Int32)), .val (.ref a2), .val (.int (0 : Int32)), .val (.int (1 : Int32)), .unset, .unset] []) (fun t k => castTop (ef_ci1_0 m a1 (0 : Int32) a2 (0 : Int32) (1 : Int32)) k) ?_
  refine own_step (fun t k => XT.iconstV X0.here hx rfl (0 : Int32) (hb hby dci1_0_0) (by decide) k) ?_
  refine own_f s₁ (mkF m 3 #[.val (.ref a1), .val (.int (0 : Int32)), .val (.ref a2), .val (.int (0 : Int32)), .val (.int (1 : Int32)), .val (.int (0 : Int32)), .unset] []) (fun t k => XS.istore X0.here hx rfl (hb hby dci1_0_1) rfl (l' := #[.val (.ref a1), .val (.int (0 : Int32)), .val (.ref a2), .val (.int (0 : Int32)), .val (.int (1 : Int32)), .val (.int (0 : Int32)), .unset]) rfl k) ?_
  refine own_step (fun t k => XS.iload X0.here hx rfl (hb hby dci1_0_3) rfl k) ?_
  refine own_step (fun t k => XS.iload X0.here hx rfl (hb hby dci1_0_5) rfl k) ?_
  refine own_f s₁ (mkF m 10 #[.val (.ref a1), .val (.int (0 : Int32)), .val (.ref a2), .val (.int (0 : Int32)), .val (.int (1 : Int32)), .val (.int (0 : Int32)), .unset] []) (fun t k => XS.icmpNo X0.here hx rfl (hb hby dci1_0_7) rfl (XT.ii_ge_f (by decide)) k) ?_
  refine own_step (fun t k => XS.aloadN X0.here hx rfl (hb hby dci1_0_10) rfl rfl k) ?_
  refine own_f s₁ (mkF m 12 #[.val (.ref a1), .val (.int (0 : Int32)), .val (.ref a2), .val (.int (0 : Int32)), .val (.int (1 : Int32)), .val (.int (0 : Int32)), .unset] [(.int (0 : Int32)), (.ref a1)]) (fun t k => XS.iloadN X0.here hx rfl (hb hby dci1_0_11) rfl k) ?_
  obtain ⟨cl1, Ar1, q11, Sz1, q31, Hs1, Gs1⟩ := id F0
  have hi1 := inb_of (j := (0 : Int32)) Sz1 ⟨by decide, by decide⟩
  refine own_f s₁ (mkF m 13 #[.val (.ref a1), .val (.int (0 : Int32)), .val (.ref a2), .val (.int (0 : Int32)), .val (.int (1 : Int32)), .val (.int (0 : Int32)), .unset] [(.int c0)]) (fun t k => X0.caload hx (j := (0 : Int32)) (v := (.int c0)) (by rw [e0]; exact Ar1.1) (State.isArrayOf_alike hZ.alike Ar1.2.1) Ar1.2.2 hi1 (Has.at Hs1 hi1 rfl) (g := (mkF m 12 #[.val (.ref a1), .val (.int (0 : Int32)), .val (.ref a2), .val (.int (0 : Int32)), .val (.int (1 : Int32)), .val (.int (0 : Int32)), .unset] [(.int (0 : Int32)), (.ref a1)])) rfl rfl (hb hby dci1_0_12) t k) ?_
  refine own_f s₁ (mkF m 15 #[.val (.ref a1), .val (.int (0 : Int32)), .val (.ref a2), .val (.int (0 : Int32)), .val (.int (1 : Int32)), .val (.int (0 : Int32)), .val (.int c0)] []) (fun t k => XS.istore X0.here hx rfl (hb hby dci1_0_13) rfl (l' := #[.val (.ref a1), .val (.int (0 : Int32)), .val (.ref a2), .val (.int (0 : Int32)), .val (.int (1 : Int32)), .val (.int (0 : Int32)), .val (.int c0)]) rfl k) ?_
  refine own_step (fun t k => XS.iload X0.here hx rfl (hb hby dci1_0_15) rfl k) ?_
  refine own_step (fun t k => XT.sipushV X0.here hx rfl (255 : Int32) (hb hby dci1_0_17) (by decide) k) ?_
  refine own_f s₁ (mkF m 23 #[.val (.ref a1), .val (.int (0 : Int32)), .val (.ref a2), .val (.int (0 : Int32)), .val (.int (1 : Int32)), .val (.int (0 : Int32)), .val (.int c0)] []) (fun t k => XS.icmpNo X0.here hx rfl (hb hby dci1_0_20) rfl (XT.ii_le_f hc_c0) k) ?_
  refine own_f s₁ (mkF m 25 #[.val (.ref a1), .val (.int (0 : Int32)), .val (.ref a2), .val (.int (0 : Int32)), .val (.int (1 : Int32)), .val (.int (0 : Int32)), .val (.int c0)] [(.int (0 : Int32))]) (fun t k => XS.iload X0.here hx rfl (hb hby dci1_0_23) rfl k) ?_
  obtain ⟨fs, hr, hrun, hended, hW, hsame⟩ := X0.leave (v := some (.int (0 : Int32))) (fun h => by rw [Bd.returns] at h; cases h)
  refine ⟨_, _, retI X0 hx Bd.returns (hb hby dci1_0_25) hr, hrun, hended, _, _, rfl, ?_, ⟨_, rfl⟩, hW, hsame.mono (by decide) (by decide)⟩
  show Qci1_0 Z a1 a2 k1 k2 c0 h0 n0 _ s₁.heap _
  rw [e0]
  exact ⟨rfl, N0, (Keep.refl h0 [a2]), F1⟩
theorem dgc1_0_0 : decode jdk_52_method_5_code 0 = .ok (.getstatic 44, 3) := by decide +kernel
theorem dgc1_0_3 : decode jdk_52_method_5_code 3 = .ok (.ifCond .ne 25, 3) := by decide +kernel
theorem dgc1_0_28 : decode jdk_52_method_5_code 28 = .ok (.iload_n 1, 1) := by decide +kernel
theorem dgc1_0_29 : decode jdk_52_method_5_code 29 = .ok (.iconst 1, 1) := by decide +kernel
theorem dgc1_0_30 : decode jdk_52_method_5_code 30 = .ok (.ishl, 1) := by decide +kernel
theorem dgc1_0_31 : decode jdk_52_method_5_code 31 = .ok (.istore_n 1, 1) := by decide +kernel
theorem dgc1_0_32 : decode jdk_52_method_5_code 32 = .ok (.aload_n 0, 1) := by decide +kernel
theorem dgc1_0_33 : decode jdk_52_method_5_code 33 = .ok (.iload_n 1, 1) := by decide +kernel
theorem dgc1_0_34 : decode jdk_52_method_5_code 34 = .ok (.iinc 1 1, 3) := by decide +kernel
theorem dgc1_0_37 : decode jdk_52_method_5_code 37 = .ok (.baload, 1) := by decide +kernel
theorem dgc1_0_38 : decode jdk_52_method_5_code 38 = .ok (.sipush 255, 3) := by decide +kernel
theorem dgc1_0_41 : decode jdk_52_method_5_code 41 = .ok (.iand, 1) := by decide +kernel
theorem dgc1_0_42 : decode jdk_52_method_5_code 42 = .ok (.getstatic 59, 3) := by decide +kernel
theorem dgc1_0_45 : decode jdk_52_method_5_code 45 = .ok (.ishl, 1) := by decide +kernel
theorem dgc1_0_46 : decode jdk_52_method_5_code 46 = .ok (.aload_n 0, 1) := by decide +kernel
theorem dgc1_0_47 : decode jdk_52_method_5_code 47 = .ok (.iload_n 1, 1) := by decide +kernel
theorem dgc1_0_48 : decode jdk_52_method_5_code 48 = .ok (.baload, 1) := by decide +kernel
theorem dgc1_0_49 : decode jdk_52_method_5_code 49 = .ok (.sipush 255, 3) := by decide +kernel
theorem dgc1_0_52 : decode jdk_52_method_5_code 52 = .ok (.iand, 1) := by decide +kernel
theorem dgc1_0_53 : decode jdk_52_method_5_code 53 = .ok (.getstatic 63, 3) := by decide +kernel
theorem dgc1_0_56 : decode jdk_52_method_5_code 56 = .ok (.ishl, 1) := by decide +kernel
theorem dgc1_0_57 : decode jdk_52_method_5_code 57 = .ok (.ior, 1) := by decide +kernel
theorem dgc1_0_58 : decode jdk_52_method_5_code 58 = .ok (.i2c, 1) := by decide +kernel
theorem dgc1_0_59 : decode jdk_52_method_5_code 59 = .ok (.ireturn, 1) := by decide +kernel
theorem pn_gc1_0 : plainName "java/lang/StringUTF16" = true := by first | (simp [plainName, overriddenIn]; done) | decide +kernel
theorem ef_gc1_0 (m : MethodId) (x0 : Addr) (x1 : Int32) : entryFrame m #[(.ref x0), (.int x1)] 2 = mkF m 0 #[.val (.ref x0), .val (.int x1)] [] := by first | (simp [entryFrame, mkF, argsToLocals, Value.category]; done) | rfl
def Qgc1_0 (Z : State) (a1 : Addr) (k1 : ClassId) (c0 : Int32) (h0 : Heap) (n0 : Nat) (v : Option Value) (h : Heap) (L : List Loc) : Prop := v = some (.int c0) ∧ Fr n0 L ∧ h = h0
set_option maxRecDepth 65536 in
set_option maxHeartbeats 40000000 in
theorem rmgc1_0 (l : Launch) (Z : State) (a0 : Array Value) (hw : ∀ d ∈ tables_1, d.before a0 Z = true) (ws : List Jvm.Cond) (a1 : Addr) (k1 : ClassId) (c0 : Int32) (h0 : Heap) (n0 : Nat) (Z0 : n0 ≤ h0.size) (F0 : Old Z n0 h0) (F1 : Arv Z h0 a1 k1 .byte (2 : Int32) [.int ((c0 >>> ((0 : Int32) &&& 31)).toInt8.toInt32), .int ((c0 >>> ((8 : Int32) &&& 31)).toInt8.toInt32)] (.int 0)) (SH : Sta Z Z.heap "java/lang/StringUTF16" "HI_BYTE_SHIFT" "I" (.int (0 : Int32))) (SL : Sta Z Z.heap "java/lang/StringUTF16" "LO_BYTE_SHIFT" "I" (.int (8 : Int32))) (SA : Sta Z Z.heap "java/lang/StringUTF16" "$assertionsDisabled" "Z" (.int (1 : Int32))) (hw_c0 : own_W c0) :
    MetFree l (⟨"java/lang/StringUTF16", "getChar", "([BI)C"⟩ : MethodName) (head1 (Jvm.Cond.code (⟨"java/lang/StringUTF16", "getChar", "([BI)C"⟩ : MethodName) jdk_52_method_5_code 2 (some .char) :: ws) ({ frames := 0, cells := 0, slots := 0, locals := 0 } : Room)) (fun a U => a = #[(.ref a1), (.int (0 : Int32))] ∧ Z.Warmed39 U.vm ∧ U.heap = h0) (fun _ _ _ _ _ => True) (fun _ U o U' => ∃ v L, o = .returned v ∧ Qgc1_0 Z a1 k1 c0 h0 n0 v U'.heap L ∧ FrameEnd U o U' L ({ frames := 0, cells := 0, slots := 0, locals := 0 } : Room).cells ({ frames := 0, cells := 0, slots := 0, locals := 0 } : Room).slots) := by
  refine MetFree.of_bodySF (plainFor_of_name pn_gc1_0) hisR ?_
  intro p e s m args below meth c s₁ Bd hml0 hP hK
  obtain ⟨rfl, hZ, hh⟩ := hP
  have hx := Bd.exec
  have hby := Bd.bytes
  have hml : c.maxLocals = 2 := hml0
  have hown : s.vm.findClass "java/lang/StringUTF16" = some m.cls := findClass_of_methodNamed Bd.named
  have hnm := (name_of_methodNamed Bd.named Bd.method).1
  have X0 : Stand p l e ({ frames := 0, cells := 0, slots := 0, locals := 0 } : Room) s m #[(.ref a1), (.int (0 : Int32))] below meth c s₁ [] 0 0 := Stand.of_body Bd
  have e0 : s₁.heap = h0 := by rw [← hh, Bd.state]; rfl
  have N0 := Fr.nil n0
  show own_R p.tables e below (own_P s (Qgc1_0 Z a1 k1 c0 h0 n0) ({ frames := 0, cells := 0, slots := 0, locals := 0 } : Room).cells ({ frames := 0, cells := 0, slots := 0, locals := 0 } : Room).slots) (s₁.setTop (entryFrame m #[(.ref a1), (.int (0 : Int32))] 2))
  refine own_f s₁ (mkF m 0 #[.val (.ref a1), .val (.int (0 : Int32))] []) (fun t k => castTop (ef_gc1_0 m a1 (0 : Int32)) k) ?_
  have S1 : Sta Z h0 "java/lang/StringUTF16" "$assertionsDisabled" "Z" (.int (1 : Int32)) := SA.ext F0.2
  obtain ⟨T1, X1, e1, st1⟩ := getS X0 hx hZ (host := "") hown (own_w hw 86 rfl) Via.refl e0 S1 (g := (mkF m 0 #[.val (.ref a1), .val (.int (0 : Int32))] [])) rfl (hb hby dgc1_0_0)
  refine own_f T1 (mkF m 3 #[.val (.ref a1), .val (.int (0 : Int32))] [(.int (1 : Int32))]) st1 ?_
  refine own_f T1 (mkF m 28 #[.val (.ref a1), .val (.int (0 : Int32))] []) (fun t k => XS.ifYes X1.here hx rfl (pc0 := 3) (pc' := 28) rfl (hb hby dgc1_0_3) rfl (XT.i0_ne_t (by decide)) (by decide) (by decide) k) ?_
  refine own_step (fun t k => XS.iloadN X1.here hx rfl (hb hby dgc1_0_28) rfl k) ?_
  refine own_step (fun t k => XT.iconstV X1.here hx rfl (1 : Int32) (hb hby dgc1_0_29) (by decide) k) ?_
  refine own_f T1 (mkF m 31 #[.val (.ref a1), .val (.int (0 : Int32))] [(.int ((0 : Int32) <<< ((1 : Int32) &&& 31)))]) (fun t k => XS.ishl X1.here hx rfl (hb hby dgc1_0_30) rfl k) ?_
  rw [show ((0 : Int32) <<< ((1 : Int32) &&& 31)) = (0 : Int32) from by decide]
  refine own_f T1 (mkF m 32 #[.val (.ref a1), .val (.int (0 : Int32))] []) (fun t k => XS.istoreN X1.here hx rfl (hb hby dgc1_0_31) rfl (l' := #[.val (.ref a1), .val (.int (0 : Int32))]) rfl k) ?_
  refine own_step (fun t k => XS.aloadN X1.here hx rfl (hb hby dgc1_0_32) rfl rfl k) ?_
  refine own_f T1 (mkF m 34 #[.val (.ref a1), .val (.int (0 : Int32))] [(.int (0 : Int32)), (.ref a1)]) (fun t k => XS.iloadN X1.here hx rfl (hb hby dgc1_0_33) rfl k) ?_
  refine own_f T1 (mkF m 37 #[.val (.ref a1), .val (.int ((0 : Int32) + (1 : Int32)))] [(.int (0 : Int32)), (.ref a1)]) (fun t k => XT.iincV X1.here hx rfl (l' := #[.val (.ref a1), .val (.int ((0 : Int32) + (1 : Int32)))]) (1 : Int32) (hb hby dgc1_0_34) (by decide) rfl rfl k) ?_
  rw [show ((0 : Int32) + (1 : Int32)) = (1 : Int32) from by decide]
  obtain ⟨cl2, Ar2, q12, Sz2, q32, Hs2, Gs2⟩ := id F1
  have hi2 := inb_of (j := (0 : Int32)) Sz2 ⟨by decide, by decide⟩
  refine own_f T1 (mkF m 38 #[.val (.ref a1), .val (.int (1 : Int32))] [(.int ((c0 >>> ((0 : Int32) &&& 31)).toInt8.toInt32))]) (fun t k => X1.baloadBytes hx (j := (0 : Int32)) (v := (.int ((c0 >>> ((0 : Int32) &&& 31)).toInt8.toInt32))) (by rw [e1]; exact Ar2.1) (State.isArrayOf_alike hZ.alike Ar2.2.1) Ar2.2.2 hi2 (Has.at Hs2 hi2 rfl) (g := (mkF m 37 #[.val (.ref a1), .val (.int (1 : Int32))] [(.int (0 : Int32)), (.ref a1)])) rfl rfl (hb hby dgc1_0_37) t k) ?_
  refine own_step (fun t k => XT.sipushV X1.here hx rfl (255 : Int32) (hb hby dgc1_0_38) (by decide) k) ?_
  refine own_f T1 (mkF m 42 #[.val (.ref a1), .val (.int (1 : Int32))] [(.int (((c0 >>> ((0 : Int32) &&& 31)).toInt8.toInt32) &&& (255 : Int32)))]) (fun t k => XS.iand X1.here hx rfl (hb hby dgc1_0_41) rfl k) ?_
  have S3 : Sta Z h0 "java/lang/StringUTF16" "HI_BYTE_SHIFT" "I" (.int (0 : Int32)) := SH.ext F0.2
  obtain ⟨T3, X3, e3, st3⟩ := getS X1 hx hZ (host := "") hown (own_w hw 87 rfl) Via.refl e1 S3 (g := (mkF m 42 #[.val (.ref a1), .val (.int (1 : Int32))] [(.int (((c0 >>> ((0 : Int32) &&& 31)).toInt8.toInt32) &&& (255 : Int32)))])) rfl (hb hby dgc1_0_42)
  refine own_f T3 (mkF m 45 #[.val (.ref a1), .val (.int (1 : Int32))] [(.int (0 : Int32)), (.int (((c0 >>> ((0 : Int32) &&& 31)).toInt8.toInt32) &&& (255 : Int32)))]) st3 ?_
  refine own_f T3 (mkF m 46 #[.val (.ref a1), .val (.int (1 : Int32))] [(.int ((((c0 >>> ((0 : Int32) &&& 31)).toInt8.toInt32) &&& (255 : Int32)) <<< ((0 : Int32) &&& 31)))]) (fun t k => XS.ishl X3.here hx rfl (hb hby dgc1_0_45) rfl k) ?_
  refine own_step (fun t k => XS.aloadN X3.here hx rfl (hb hby dgc1_0_46) rfl rfl k) ?_
  refine own_f T3 (mkF m 48 #[.val (.ref a1), .val (.int (1 : Int32))] [(.int (1 : Int32)), (.ref a1), (.int ((((c0 >>> ((0 : Int32) &&& 31)).toInt8.toInt32) &&& (255 : Int32)) <<< ((0 : Int32) &&& 31)))]) (fun t k => XS.iloadN X3.here hx rfl (hb hby dgc1_0_47) rfl k) ?_
  obtain ⟨cl4, Ar4, q14, Sz4, q34, Hs4, Gs4⟩ := id F1
  have hi4 := inb_of (j := (1 : Int32)) Sz4 ⟨by decide, by decide⟩
  refine own_f T3 (mkF m 49 #[.val (.ref a1), .val (.int (1 : Int32))] [(.int ((c0 >>> ((8 : Int32) &&& 31)).toInt8.toInt32)), (.int ((((c0 >>> ((0 : Int32) &&& 31)).toInt8.toInt32) &&& (255 : Int32)) <<< ((0 : Int32) &&& 31)))]) (fun t k => X3.baloadBytes hx (j := (1 : Int32)) (v := (.int ((c0 >>> ((8 : Int32) &&& 31)).toInt8.toInt32))) (by rw [e3]; exact Ar4.1) (State.isArrayOf_alike hZ.alike Ar4.2.1) Ar4.2.2 hi4 (Has.at Hs4 hi4 rfl) (g := (mkF m 48 #[.val (.ref a1), .val (.int (1 : Int32))] [(.int (1 : Int32)), (.ref a1), (.int ((((c0 >>> ((0 : Int32) &&& 31)).toInt8.toInt32) &&& (255 : Int32)) <<< ((0 : Int32) &&& 31)))])) rfl rfl (hb hby dgc1_0_48) t k) ?_
  refine own_step (fun t k => XT.sipushV X3.here hx rfl (255 : Int32) (hb hby dgc1_0_49) (by decide) k) ?_
  refine own_f T3 (mkF m 53 #[.val (.ref a1), .val (.int (1 : Int32))] [(.int (((c0 >>> ((8 : Int32) &&& 31)).toInt8.toInt32) &&& (255 : Int32))), (.int ((((c0 >>> ((0 : Int32) &&& 31)).toInt8.toInt32) &&& (255 : Int32)) <<< ((0 : Int32) &&& 31)))]) (fun t k => XS.iand X3.here hx rfl (hb hby dgc1_0_52) rfl k) ?_
  have S5 : Sta Z h0 "java/lang/StringUTF16" "LO_BYTE_SHIFT" "I" (.int (8 : Int32)) := SL.ext F0.2
  obtain ⟨T5, X5, e5, st5⟩ := getS X3 hx hZ (host := "") hown (own_w hw 88 rfl) Via.refl e3 S5 (g := (mkF m 53 #[.val (.ref a1), .val (.int (1 : Int32))] [(.int (((c0 >>> ((8 : Int32) &&& 31)).toInt8.toInt32) &&& (255 : Int32))), (.int ((((c0 >>> ((0 : Int32) &&& 31)).toInt8.toInt32) &&& (255 : Int32)) <<< ((0 : Int32) &&& 31)))])) rfl (hb hby dgc1_0_53)
  refine own_f T5 (mkF m 56 #[.val (.ref a1), .val (.int (1 : Int32))] [(.int (8 : Int32)), (.int (((c0 >>> ((8 : Int32) &&& 31)).toInt8.toInt32) &&& (255 : Int32))), (.int ((((c0 >>> ((0 : Int32) &&& 31)).toInt8.toInt32) &&& (255 : Int32)) <<< ((0 : Int32) &&& 31)))]) st5 ?_
  refine own_f T5 (mkF m 57 #[.val (.ref a1), .val (.int (1 : Int32))] [(.int ((((c0 >>> ((8 : Int32) &&& 31)).toInt8.toInt32) &&& (255 : Int32)) <<< ((8 : Int32) &&& 31))), (.int ((((c0 >>> ((0 : Int32) &&& 31)).toInt8.toInt32) &&& (255 : Int32)) <<< ((0 : Int32) &&& 31)))]) (fun t k => XS.ishl X5.here hx rfl (hb hby dgc1_0_56) rfl k) ?_
  refine own_f T5 (mkF m 58 #[.val (.ref a1), .val (.int (1 : Int32))] [(.int (((((c0 >>> ((0 : Int32) &&& 31)).toInt8.toInt32) &&& (255 : Int32)) <<< ((0 : Int32) &&& 31)) ||| ((((c0 >>> ((8 : Int32) &&& 31)).toInt8.toInt32) &&& (255 : Int32)) <<< ((8 : Int32) &&& 31))))]) (fun t k => XS.ior X5.here hx rfl (hb hby dgc1_0_57) rfl k) ?_
  refine own_f T5 (mkF m 59 #[.val (.ref a1), .val (.int (1 : Int32))] [(.int ((((((c0 >>> ((0 : Int32) &&& 31)).toInt8.toInt32) &&& (255 : Int32)) <<< ((0 : Int32) &&& 31)) ||| ((((c0 >>> ((8 : Int32) &&& 31)).toInt8.toInt32) &&& (255 : Int32)) <<< ((8 : Int32) &&& 31))).toUInt32.toUInt16.toUInt32.toInt32))]) (fun t k => XS.i2c X5.here hx rfl (hb hby dgc1_0_58) rfl k) ?_
  obtain ⟨fs, hr, hrun, hended, hW, hsame⟩ := X5.leave (v := some (.int ((((((c0 >>> ((0 : Int32) &&& 31)).toInt8.toInt32) &&& (255 : Int32)) <<< ((0 : Int32) &&& 31)) ||| ((((c0 >>> ((8 : Int32) &&& 31)).toInt8.toInt32) &&& (255 : Int32)) <<< ((8 : Int32) &&& 31))).toUInt32.toUInt16.toUInt32.toInt32))) (fun h => by rw [Bd.returns] at h; cases h)
  refine ⟨_, _, own_retB X5 hx (t := .char) Bd.returns (by simp) (own_narC _) (hb hby dgc1_0_59) hr, hrun, hended, _, _, rfl, ?_, ⟨_, rfl⟩, hW, hsame.mono (by decide) (by decide)⟩
  show Qgc1_0 Z a1 k1 c0 h0 n0 _ T5.heap _
  rw [e5]
  exact ⟨by rw [own_gc hw_c0], N0, rfl⟩
theorem dcb1_0_0 : decode jdk_52_method_16_code 0 = .ok (.iload_n 2, 1) := by decide +kernel
theorem dcb1_0_1 : decode jdk_52_method_16_code 1 = .ok (.newarray .byte, 2) := by decide +kernel
theorem dcb1_0_3 : decode jdk_52_method_16_code 3 = .ok (.astore_n 3, 1) := by decide +kernel
theorem dcb1_0_4 : decode jdk_52_method_16_code 4 = .ok (.aload_n 0, 1) := by decide +kernel
theorem dcb1_0_5 : decode jdk_52_method_16_code 5 = .ok (.iload_n 1, 1) := by decide +kernel
theorem dcb1_0_6 : decode jdk_52_method_16_code 6 = .ok (.aload_n 3, 1) := by decide +kernel
theorem dcb1_0_7 : decode jdk_52_method_16_code 7 = .ok (.iconst 0, 1) := by decide +kernel
theorem dcb1_0_8 : decode jdk_52_method_16_code 8 = .ok (.iload_n 2, 1) := by decide +kernel
theorem dcb1_0_9 : decode jdk_52_method_16_code 9 = .ok (.invokestatic 115, 3) := by decide +kernel
theorem dcb1_0_12 : decode jdk_52_method_16_code 12 = .ok (.istore 4, 2) := by decide +kernel
theorem dcb1_0_14 : decode jdk_52_method_16_code 14 = .ok (.iload 4, 2) := by decide +kernel
theorem dcb1_0_16 : decode jdk_52_method_16_code 16 = .ok (.iload_n 2, 1) := by decide +kernel
theorem dcb1_0_17 : decode jdk_52_method_16_code 17 = .ok (.if_icmp .eq 40, 3) := by decide +kernel
theorem dcb1_0_20 : decode jdk_52_method_16_code 20 = .ok (.aload_n 0, 1) := by decide +kernel
theorem dcb1_0_21 : decode jdk_52_method_16_code 21 = .ok (.iload_n 1, 1) := by decide +kernel
theorem dcb1_0_22 : decode jdk_52_method_16_code 22 = .ok (.iload_n 2, 1) := by decide +kernel
theorem dcb1_0_23 : decode jdk_52_method_16_code 23 = .ok (.invokestatic 119, 3) := by decide +kernel
theorem dcb1_0_26 : decode jdk_52_method_16_code 26 = .ok (.astore 5, 2) := by decide +kernel
theorem dcb1_0_28 : decode jdk_52_method_16_code 28 = .ok (.aload 5, 2) := by decide +kernel
theorem dcb1_0_30 : decode jdk_52_method_16_code 30 = .ok (.iload 4, 2) := by decide +kernel
theorem dcb1_0_32 : decode jdk_52_method_16_code 32 = .ok (.invokestatic 71, 3) := by decide +kernel
theorem dcb1_0_35 : decode jdk_52_method_16_code 35 = .ok (.sipush 255, 3) := by decide +kernel
theorem dcb1_0_38 : decode jdk_52_method_16_code 38 = .ok (.if_icmp .gt 16, 3) := by decide +kernel
theorem dcb1_0_54 : decode jdk_52_method_16_code 54 = .ok (.aload 5, 2) := by decide +kernel
theorem dcb1_0_56 : decode jdk_52_method_16_code 56 = .ok (.areturn, 1) := by decide +kernel
theorem pn_cb1_0 : plainName "java/lang/StringUTF16" = true := by first | (simp [plainName, overriddenIn]; done) | decide +kernel
theorem ef_cb1_0 (m : MethodId) (x0 : Addr) (x1 : Int32) (x2 : Int32) : entryFrame m #[(.ref x0), (.int x1), (.int x2)] 6 = mkF m 0 #[.val (.ref x0), .val (.int x1), .val (.int x2), .unset, .unset, .unset] [] := by first | (simp [entryFrame, mkF, argsToLocals, Value.category]; done) | rfl
def Qcb1_0 (Z : State) (a1 : Addr) (k1 : ClassId) (c0 : Int32) (h0 : Heap) (n0 : Nat) (v : Option Value) (h : Heap) (L : List Loc) : Prop := ∃ (b : Addr) (kb : ClassId), v = some (.ref b) ∧ Fr n0 L ∧ Keep h0 h [] ∧ Arv Z h b kb .byte (2 : Int32) [.int ((c0 >>> ((0 : Int32) &&& 31)).toInt8.toInt32), .int ((c0 >>> ((8 : Int32) &&& 31)).toInt8.toInt32)] (.int 0) ∧ h0.size ≤ b
set_option maxRecDepth 65536 in
set_option maxHeartbeats 40000000 in
theorem rmcb1_0 (l : Launch) (Z : State) (a0 : Array Value) (hw : ∀ d ∈ tables_1, d.before a0 Z = true) (ws : List Jvm.Cond) (a1 : Addr) (k1 : ClassId) (c0 : Int32) (h0 : Heap) (n0 : Nat) (Z0 : n0 ≤ h0.size) (F0 : Old Z n0 h0) (F1 : Arv Z h0 a1 k1 .char (1 : Int32) [.int c0] (.int 0)) (hc_c0 : (255 : Int32) < c0) (SH : Sta Z Z.heap "java/lang/StringUTF16" "HI_BYTE_SHIFT" "I" (.int (0 : Int32))) (SL : Sta Z Z.heap "java/lang/StringUTF16" "LO_BYTE_SHIFT" "I" (.int (8 : Int32))) (SA : Sta Z Z.heap "java/lang/StringUTF16" "$assertionsDisabled" "Z" (.int (1 : Int32))) (hw_c0 : own_W c0) :
    MetFree l (⟨"java/lang/StringUTF16", "compress", "([CII)[B"⟩ : MethodName) (head1 (Jvm.Cond.code (⟨"java/lang/StringUTF16", "compress", "([CII)[B"⟩ : MethodName) jdk_52_method_16_code 6 (some (.array .byte)) :: ws) ({ frames := 3, cells := 2, slots := 3, locals := 40 } : Room)) (fun a U => a = #[(.ref a1), (.int (0 : Int32)), (.int (1 : Int32))] ∧ Z.Warmed39 U.vm ∧ U.heap = h0) (fun _ _ _ _ _ => True) (fun _ U o U' => ∃ v L, o = .returned v ∧ Qcb1_0 Z a1 k1 c0 h0 n0 v U'.heap L ∧ FrameEnd U o U' L ({ frames := 3, cells := 2, slots := 3, locals := 40 } : Room).cells ({ frames := 3, cells := 2, slots := 3, locals := 40 } : Room).slots) := by
  refine MetFree.of_bodySF (plainFor_of_name pn_cb1_0) hisR ?_
  intro p e s m args below meth c s₁ Bd hml0 hP hK
  obtain ⟨rfl, hZ, hh⟩ := hP
  have hx := Bd.exec
  have hby := Bd.bytes
  have hml : c.maxLocals = 6 := hml0
  have hown : s.vm.findClass "java/lang/StringUTF16" = some m.cls := findClass_of_methodNamed Bd.named
  have hnm := (name_of_methodNamed Bd.named Bd.method).1
  have X0 : Stand p l e ({ frames := 3, cells := 2, slots := 3, locals := 40 } : Room) s m #[(.ref a1), (.int (0 : Int32)), (.int (1 : Int32))] below meth c s₁ [] 0 0 := Stand.of_body Bd
  have e0 : s₁.heap = h0 := by rw [← hh, Bd.state]; rfl
  have N0 := Fr.nil n0
  show own_R p.tables e below (own_P s (Qcb1_0 Z a1 k1 c0 h0 n0) ({ frames := 3, cells := 2, slots := 3, locals := 40 } : Room).cells ({ frames := 3, cells := 2, slots := 3, locals := 40 } : Room).slots) (s₁.setTop (entryFrame m #[(.ref a1), (.int (0 : Int32)), (.int (1 : Int32))] 6))
  refine own_f s₁ (mkF m 0 #[.val (.ref a1), .val (.int (0 : Int32)), .val (.int (1 : Int32)), .unset, .unset, .unset] []) (fun t k => castTop (ef_cb1_0 m a1 (0 : Int32) (1 : Int32)) k) ?_
  refine own_f s₁ (mkF m 1 #[.val (.ref a1), .val (.int (0 : Int32)), .val (.int (1 : Int32)), .unset, .unset, .unset] [(.int (1 : Int32))]) (fun t k => XS.iloadN X0.here hx rfl (hb hby dcb1_0_0) rfl k) ?_
  obtain ⟨T1, h1, kA1, X1, e1, E1, A1, st1⟩ := newP X0 hx hZ (own_w hw 21 rfl) e0 (g := (mkF m 1 #[.val (.ref a1), .val (.int (0 : Int32)), .val (.int (1 : Int32)), .unset, .unset, .unset] [(.int (1 : Int32))])) rfl (hb hby dcb1_0_1) rfl (by decide) (cap := 1) (by decide) (by decide) (by decide) (by decide)
  obtain ⟨b1, g1⟩ : ∃ z, z = h0.size := ⟨_, rfl⟩
  rw [← g1] at A1 st1
  have ne1_a1 : a1 ≠ b1 := by rw [g1]; exact Nat.ne_of_lt F1.lt
  have ge1 : n0 ≤ b1 := by rw [g1]; exact Z0
  have gf1 : h0.size ≤ b1 := by rw [g1]; exact (Keep.refl h0 []).1
  have Zs1 : n0 ≤ h1.size := Nat.le_trans Z0 E1.1
  have F_2 := F0.ext E1
  have F_3 := F1.ext E1
  have K1 : Keep h0 h1 [] := (Keep.refl h0 []).ext E1
  have F_4 : Arv Z h1 b1 kA1 .byte (1 : Int32) [.int 0] (.int 0) := own_arvnew 1 A1 (by decide)
  refine own_f T1 (mkF m 3 #[.val (.ref a1), .val (.int (0 : Int32)), .val (.int (1 : Int32)), .unset, .unset, .unset] [(.ref b1)]) st1 ?_
  refine own_f T1 (mkF m 4 #[.val (.ref a1), .val (.int (0 : Int32)), .val (.int (1 : Int32)), .val (.ref b1), .unset, .unset] []) (fun t k => XS.astoreN X1.here hx rfl (hb hby dcb1_0_3) rfl rfl (l' := #[.val (.ref a1), .val (.int (0 : Int32)), .val (.int (1 : Int32)), .val (.ref b1), .unset, .unset]) rfl k) ?_
  refine own_step (fun t k => XS.aloadN X1.here hx rfl (hb hby dcb1_0_4) rfl rfl k) ?_
  refine own_step (fun t k => XS.iloadN X1.here hx rfl (hb hby dcb1_0_5) rfl k) ?_
  refine own_step (fun t k => XS.aloadN X1.here hx rfl (hb hby dcb1_0_6) rfl rfl k) ?_
  refine own_step (fun t k => XT.iconstV X1.here hx rfl (0 : Int32) (hb hby dcb1_0_7) (by decide) k) ?_
  refine own_f T1 (mkF m 9 #[.val (.ref a1), .val (.int (0 : Int32)), .val (.int (1 : Int32)), .val (.ref b1), .unset, .unset] [(.int (1 : Int32)), (.int (0 : Int32)), (.ref b1), (.int (0 : Int32)), (.ref a1)]) (fun t k => XS.iloadN X1.here hx rfl (hb hby dcb1_0_8) rfl k) ?_
  obtain ⟨_, _, ⟨T5, Lq5, kq_5, nq_5⟩, -, X5, ⟨Lc5, hQ5, lq5, yq5, zq5⟩, st5⟩ := Jvm.LawKit.callS X1 hx (y := (⟨"java/lang/StringUTF16", "compress", "([CI[BII)I"⟩ : MethodName)) hown (mvT hZ (own_w hw 22 rfl)) (mvT hZ (own_w hw 23 rfl)) (mvT hZ (own_w hw 19 rfl)) (mvT hZ (own_w hw 24 rfl)) (by decide) (backOf (W := 0) (rmci1_0 l Z a0 hw [] a1 b1 _ _ _ h1 n0 Zs1 F_3 F_4 ge1 ne1_a1 hc_c0) hZ (own_w hw 24 rfl) (own_w hw 19 rfl) (by decide) (by decide)) (g := (mkF m 9 #[.val (.ref a1), .val (.int (0 : Int32)), .val (.int (1 : Int32)), .val (.ref b1), .unset, .unset] [(.int (1 : Int32)), (.int (0 : Int32)), (.ref b1), (.int (0 : Int32)), (.ref a1)])) rfl (by rw [hml]; rfl) (argsL := [(.ref a1), (.int (0 : Int32)), (.ref b1), (.int (0 : Int32)), (.int (1 : Int32))]) (rest := []) (lenOf pd__CI_BII_I rfl) rfl (by show 2 * 0 + _ ≤ _; exact Nat.le_of_eq rfl) (hb hby dcb1_0_9) (fun _ _ => ⟨rfl, e1, (by decide : 0 + 1 + 0 ≤ _), (by decide : 0 + 1 + 0 ≤ _)⟩)
  dsimp only [Pt.U, Pt.locs, Pt.cells, Pt.slots] at X5 lq5 yq5 zq5 st5 hQ5
  subst lq5 yq5 zq5
  obtain ⟨h5, e5⟩ : ∃ z, T5.heap = z := ⟨_, rfl⟩
  rw [e5] at hQ5
  unfold Qci1_0 at hQ5
  obtain ⟨rfl, Nq5, qh5, G5_0⟩ := hQ5
  have N5 := Fr.app N0 Nq5
  have Zs5 : n0 ≤ h5.size := Nat.le_trans Zs1 qh5.1
  have F_6 := F_2.keep qh5 (allS ge1 all0)
  have F_7 := F_3.keep qh5 (ninS ne1_a1 nin0)
  have K5 : Keep h0 h5 [] := K1.trans qh5 (allS (Or.inr gf1) all0)
  refine own_f T5 (mkF m 12 #[.val (.ref a1), .val (.int (0 : Int32)), .val (.int (1 : Int32)), .val (.ref b1), .unset, .unset] [(.int (0 : Int32))]) st5 ?_
  refine own_f T5 (mkF m 14 #[.val (.ref a1), .val (.int (0 : Int32)), .val (.int (1 : Int32)), .val (.ref b1), .val (.int (0 : Int32)), .unset] []) (fun t k => XS.istore X5.here hx rfl (hb hby dcb1_0_12) rfl (l' := #[.val (.ref a1), .val (.int (0 : Int32)), .val (.int (1 : Int32)), .val (.ref b1), .val (.int (0 : Int32)), .unset]) rfl k) ?_
  refine own_step (fun t k => XS.iload X5.here hx rfl (hb hby dcb1_0_14) rfl k) ?_
  refine own_step (fun t k => XS.iloadN X5.here hx rfl (hb hby dcb1_0_16) rfl k) ?_
  refine own_f T5 (mkF m 20 #[.val (.ref a1), .val (.int (0 : Int32)), .val (.int (1 : Int32)), .val (.ref b1), .val (.int (0 : Int32)), .unset] []) (fun t k => XS.icmpNo X5.here hx rfl (hb hby dcb1_0_17) rfl (XT.ii_eq_f (by decide)) k) ?_
  refine own_step (fun t k => XS.aloadN X5.here hx rfl (hb hby dcb1_0_20) rfl rfl k) ?_
  refine own_step (fun t k => XS.iloadN X5.here hx rfl (hb hby dcb1_0_21) rfl k) ?_
  refine own_f T5 (mkF m 23 #[.val (.ref a1), .val (.int (0 : Int32)), .val (.int (1 : Int32)), .val (.ref b1), .val (.int (0 : Int32)), .unset] [(.int (1 : Int32)), (.int (0 : Int32)), (.ref a1)]) (fun t k => XS.iloadN X5.here hx rfl (hb hby dcb1_0_22) rfl k) ?_
  obtain ⟨_, _, ⟨T8, Lq8, kq_8, nq_8⟩, -, X8, ⟨Lc8, hQ8, lq8, yq8, zq8⟩, st8⟩ := Jvm.LawKit.callS X5 hx (y := (⟨"java/lang/StringUTF16", "toBytes", "([CII)[B"⟩ : MethodName)) hown (mvT hZ (own_w hw 73 rfl)) (mvT hZ (own_w hw 74 rfl)) (mvT hZ (own_w hw 19 rfl)) (mvT hZ (own_w hw 75 rfl)) (by decide) (backOf (W := 0) (rmtb1 l Z a0 hw [] a1 _ _ h5 n0 Zs5 F_6 F_7 SH SL SA) hZ (own_w hw 75 rfl) (own_w hw 19 rfl) (by decide) (by decide)) (g := (mkF m 23 #[.val (.ref a1), .val (.int (0 : Int32)), .val (.int (1 : Int32)), .val (.ref b1), .val (.int (0 : Int32)), .unset] [(.int (1 : Int32)), (.int (0 : Int32)), (.ref a1)])) rfl (by rw [hml]; rfl) (argsL := [(.ref a1), (.int (0 : Int32)), (.int (1 : Int32))]) (rest := []) (lenOf pd__CII_B rfl) rfl (by show 2 * 0 + _ ≤ _; exact Nat.le_of_eq rfl) (hb hby dcb1_0_23) (fun _ _ => ⟨rfl, e5, (by decide : 0 + 1 + 0 + 1 ≤ _), (by decide : 0 + 1 + 0 + 2 ≤ _)⟩)
  dsimp only [Pt.U, Pt.locs, Pt.cells, Pt.slots] at X8 lq8 yq8 zq8 st8 hQ8
  subst lq8 yq8 zq8
  obtain ⟨h8, e8⟩ : ∃ z, T8.heap = z := ⟨_, rfl⟩
  rw [e8] at hQ8
  unfold Qtb1 at hQ8
  obtain ⟨b8, kb8, rfl, Nq8, qh8, G8_0, H8_0⟩ := hQ8
  have N8 := Fr.app N5 Nq8
  have Zs8 : n0 ≤ h8.size := Nat.le_trans Zs5 qh8.1
  have F_9 := F_6.keep qh8 all0
  have F_10 := F_7.keep qh8 nin0
  have F_11 := G5_0.keep qh8 nin0
  have K8 : Keep h0 h8 [] := K5.trans qh8 all0
  have ne8_a1 : a1 ≠ b8 := Nat.ne_of_lt (Nat.lt_of_lt_of_le F_7.lt H8_0)
  have ne8_b1 : b1 ≠ b8 := Nat.ne_of_lt (Nat.lt_of_lt_of_le G5_0.lt H8_0)
  have ge8 : n0 ≤ b8 := Nat.le_trans Zs5 H8_0
  have gf8 : h0.size ≤ b8 := Nat.le_trans K5.1 H8_0
  refine own_f T8 (mkF m 26 #[.val (.ref a1), .val (.int (0 : Int32)), .val (.int (1 : Int32)), .val (.ref b1), .val (.int (0 : Int32)), .unset] [(.ref b8)]) st8 ?_
  refine own_f T8 (mkF m 28 #[.val (.ref a1), .val (.int (0 : Int32)), .val (.int (1 : Int32)), .val (.ref b1), .val (.int (0 : Int32)), .val (.ref b8)] []) (fun t k => XS.astore X8.here hx rfl (hb hby dcb1_0_26) rfl rfl (l' := #[.val (.ref a1), .val (.int (0 : Int32)), .val (.int (1 : Int32)), .val (.ref b1), .val (.int (0 : Int32)), .val (.ref b8)]) rfl k) ?_
  refine own_step (fun t k => XS.aload X8.here hx rfl (hb hby dcb1_0_28) rfl rfl k) ?_
  refine own_f T8 (mkF m 32 #[.val (.ref a1), .val (.int (0 : Int32)), .val (.int (1 : Int32)), .val (.ref b1), .val (.int (0 : Int32)), .val (.ref b8)] [(.int (0 : Int32)), (.ref b8)]) (fun t k => XS.iload X8.here hx rfl (hb hby dcb1_0_30) rfl k) ?_
  obtain ⟨_, _, ⟨T12, Lq12, kq_12, nq_12⟩, -, X12, ⟨Lc12, hQ12, lq12, yq12, zq12⟩, st12⟩ := Jvm.LawKit.callS X8 hx (y := (⟨"java/lang/StringUTF16", "getChar", "([BI)C"⟩ : MethodName)) hown (mvT hZ (own_w hw 89 rfl)) (mvT hZ (own_w hw 90 rfl)) (mvT hZ (own_w hw 19 rfl)) (mvT hZ (own_w hw 91 rfl)) (by decide) (backOf (W := 0) (rmgc1_0 l Z a0 hw [] b8 _ _ h8 n0 Zs8 F_9 G8_0 SH SL SA hw_c0) hZ (own_w hw 91 rfl) (own_w hw 19 rfl) (by decide) (by decide)) (g := (mkF m 32 #[.val (.ref a1), .val (.int (0 : Int32)), .val (.int (1 : Int32)), .val (.ref b1), .val (.int (0 : Int32)), .val (.ref b8)] [(.int (0 : Int32)), (.ref b8)])) rfl (by rw [hml]; rfl) (argsL := [(.ref b8), (.int (0 : Int32))]) (rest := []) (lenOf pd__BI_C rfl) rfl (by show 2 * 0 + _ ≤ _; exact Nat.le_of_eq rfl) (hb hby dcb1_0_32) (fun _ _ => ⟨rfl, e8, (by decide : 0 + 1 + 0 + 1 + 0 ≤ _), (by decide : 0 + 1 + 0 + 2 + 0 ≤ _)⟩)
  dsimp only [Pt.U, Pt.locs, Pt.cells, Pt.slots] at X12 lq12 yq12 zq12 st12 hQ12
  subst lq12 yq12 zq12
  obtain ⟨h12, e12⟩ : ∃ z, T12.heap = z := ⟨_, rfl⟩
  rw [e12] at hQ12
  unfold Qgc1_0 at hQ12
  obtain ⟨rfl, Nq12, qh12⟩ := hQ12
  have N12 := Fr.app N8 Nq12
  rw [qh12] at e12
  refine own_f T12 (mkF m 35 #[.val (.ref a1), .val (.int (0 : Int32)), .val (.int (1 : Int32)), .val (.ref b1), .val (.int (0 : Int32)), .val (.ref b8)] [(.int c0)]) st12 ?_
  refine own_step (fun t k => XT.sipushV X12.here hx rfl (255 : Int32) (hb hby dcb1_0_35) (by decide) k) ?_
  refine own_f T12 (mkF m 54 #[.val (.ref a1), .val (.int (0 : Int32)), .val (.int (1 : Int32)), .val (.ref b1), .val (.int (0 : Int32)), .val (.ref b8)] []) (fun t k => XS.icmpYes X12.here hx rfl (pc0 := 38) (pc' := 54) rfl (hb hby dcb1_0_38) rfl (XT.ii_gt_t hc_c0) (by decide) (by decide) k) ?_
  refine own_f T12 (mkF m 56 #[.val (.ref a1), .val (.int (0 : Int32)), .val (.int (1 : Int32)), .val (.ref b1), .val (.int (0 : Int32)), .val (.ref b8)] [(.ref b8)]) (fun t k => XS.aload X12.here hx rfl (hb hby dcb1_0_54) rfl rfl k) ?_
  obtain ⟨fs, hr, hrun, hended, hW, hsame⟩ := X12.leave (v := some (.ref b8)) (fun h => by rw [Bd.returns] at h; cases h)
  refine ⟨_, _, retOut X12 hx Bd.returns (by rfl) (Or.inr (Or.inr (Or.inr (Or.inr ⟨rfl, rfl, rfl⟩)))) (hb hby dcb1_0_56) hr, hrun, hended, _, _, rfl, ?_, ⟨_, rfl⟩, hW, hsame.mono (by decide) (by decide)⟩
  show Qcb1_0 Z a1 k1 c0 h0 n0 _ T12.heap _
  rw [e12]
  exact ⟨b8, kb8, rfl, N12, K8, G8_0, gf8⟩
theorem ds41_0_0 : decode jdk_42_method_149_code 0 = .ok (.aload_n 0, 1) := by decide +kernel
theorem ds41_0_1 : decode jdk_42_method_149_code 1 = .ok (.invokespecial 1, 3) := by decide +kernel
theorem ds41_0_4 : decode jdk_42_method_149_code 4 = .ok (.iload_n 3, 1) := by decide +kernel
theorem ds41_0_5 : decode jdk_42_method_149_code 5 = .ok (.ifCond .ne 22, 3) := by decide +kernel
theorem ds41_0_27 : decode jdk_42_method_149_code 27 = .ok (.getstatic 38, 3) := by decide +kernel
theorem ds41_0_30 : decode jdk_42_method_149_code 30 = .ok (.ifCond .eq 28, 3) := by decide +kernel
theorem ds41_0_33 : decode jdk_42_method_149_code 33 = .ok (.aload_n 1, 1) := by decide +kernel
theorem ds41_0_34 : decode jdk_42_method_149_code 34 = .ok (.iload_n 2, 1) := by decide +kernel
theorem ds41_0_35 : decode jdk_42_method_149_code 35 = .ok (.iload_n 3, 1) := by decide +kernel
theorem ds41_0_36 : decode jdk_42_method_149_code 36 = .ok (.invokestatic 177, 3) := by decide +kernel
theorem ds41_0_39 : decode jdk_42_method_149_code 39 = .ok (.astore 5, 2) := by decide +kernel
theorem ds41_0_41 : decode jdk_42_method_149_code 41 = .ok (.aload_n 0, 1) := by decide +kernel
theorem ds41_0_42 : decode jdk_42_method_149_code 42 = .ok (.aload 5, 2) := by decide +kernel
theorem ds41_0_44 : decode jdk_42_method_149_code 44 = .ok (.iload_n 3, 1) := by decide +kernel
theorem ds41_0_45 : decode jdk_42_method_149_code 45 = .ok (.invokestatic 47, 3) := by decide +kernel
theorem ds41_0_48 : decode jdk_42_method_149_code 48 = .ok (.putfield 15, 3) := by decide +kernel
theorem ds41_0_51 : decode jdk_42_method_149_code 51 = .ok (.aload_n 0, 1) := by decide +kernel
theorem ds41_0_52 : decode jdk_42_method_149_code 52 = .ok (.aload 5, 2) := by decide +kernel
theorem ds41_0_54 : decode jdk_42_method_149_code 54 = .ok (.putfield 9, 3) := by decide +kernel
theorem ds41_0_57 : decode jdk_42_method_149_code 57 = .ok (.return_, 1) := by decide +kernel
theorem pn_s41_0 : plainName "java/lang/String" = true := by first | (simp [plainName, overriddenIn]; done) | decide +kernel
theorem ef_s41_0 (m : MethodId) (x0 : Addr) (x1 : Addr) (x2 : Int32) (x3 : Int32) : entryFrame m #[(.ref x0), (.ref x1), (.int x2), (.int x3), .null] 6 = mkF m 0 #[.val (.ref x0), .val (.ref x1), .val (.int x2), .val (.int x3), .val .null, .unset] [] := by first | (simp [entryFrame, mkF, argsToLocals, Value.category]; done) | rfl
def Qs41_0 (Z : State) (a1 : Addr) (a2 : Addr) (k2 : ClassId) (c0 : Int32) (u0 : Value) (u1 : Value) (wc : Int32) (h0 : Heap) (n0 : Nat) (v : Option Value) (h : Heap) (L : List Loc) : Prop := ∃ (b : Addr) (kb : ClassId), v = none ∧ Fr n0 L ∧ Keep h0 h [a1] ∧ Exa Z h a1 "java/lang/String" ∧ Fld Z h a1 "java/lang/String" "coder" "B" (.int (1 : Int32)) ∧ Fld Z h a1 "java/lang/String" "value" "[B" (.ref b) ∧ Arv Z h b kb .byte (2 : Int32) [.int ((c0 >>> ((0 : Int32) &&& 31)).toInt8.toInt32), .int ((c0 >>> ((8 : Int32) &&& 31)).toInt8.toInt32)] (.int 0) ∧ h0.size ≤ b
set_option maxRecDepth 65536 in
set_option maxHeartbeats 40000000 in
theorem rms41_0 (l : Launch) (Z : State) (a0 : Array Value) (hw : ∀ d ∈ tables_1, d.before a0 Z = true) (ws : List Jvm.Cond) (a1 : Addr) (a2 : Addr) (k2 : ClassId) (c0 : Int32) (u0 : Value) (u1 : Value) (wc : Int32) (h0 : Heap) (n0 : Nat) (Z0 : n0 ≤ h0.size) (F0 : Old Z n0 h0) (F1 : Exa Z h0 a1 "java/lang/String") (F2 : Fld Z h0 a1 "java/lang/String" "value" "[B" u0) (F3 : Fld Z h0 a1 "java/lang/String" "coder" "B" u1) (F4 : Arv Z h0 a2 k2 .char (1 : Int32) [.int c0] (.int 0)) (ge_a1 : n0 ≤ a1) (SC : Sta Z Z.heap "java/lang/String" "COMPACT_STRINGS" "Z" (.int wc)) (HWC : ¬ (wc = 0)) (SH : Sta Z Z.heap "java/lang/StringUTF16" "HI_BYTE_SHIFT" "I" (.int (0 : Int32))) (SL : Sta Z Z.heap "java/lang/StringUTF16" "LO_BYTE_SHIFT" "I" (.int (8 : Int32))) (SA : Sta Z Z.heap "java/lang/StringUTF16" "$assertionsDisabled" "Z" (.int (1 : Int32))) (hne : a2 ≠ a1) (hc_c0 : (255 : Int32) < c0) (hw_c0 : own_W c0) :
    MetFree l (⟨"java/lang/String", "<init>", "([CIILjava/lang/Void;)V"⟩ : MethodName) (head1 (Jvm.Cond.code (⟨"java/lang/String", "<init>", "([CIILjava/lang/Void;)V"⟩ : MethodName) jdk_42_method_149_code 6 none :: ws) ({ frames := 4, cells := 2, slots := 3, locals := 57 } : Room)) (fun a U => a = #[(.ref a1), (.ref a2), (.int (0 : Int32)), (.int (1 : Int32)), .null] ∧ Z.Warmed39 U.vm ∧ U.heap = h0) (fun _ _ _ _ _ => True) (fun _ U o U' => ∃ v L, o = .returned v ∧ Qs41_0 Z a1 a2 k2 c0 u0 u1 wc h0 n0 v U'.heap L ∧ FrameEnd U o U' L ({ frames := 4, cells := 2, slots := 3, locals := 57 } : Room).cells ({ frames := 4, cells := 2, slots := 3, locals := 57 } : Room).slots) := by
  refine MetFree.of_bodySF (plainFor_of_name pn_s41_0) hisR ?_
  intro p e s m args below meth c s₁ Bd hml0 hP hK
  obtain ⟨rfl, hZ, hh⟩ := hP
  have hx := Bd.exec
  have hby := Bd.bytes
  have hml : c.maxLocals = 6 := hml0
  have hown : s.vm.findClass "java/lang/String" = some m.cls := findClass_of_methodNamed Bd.named
  have hnm := (name_of_methodNamed Bd.named Bd.method).1
  have X0 : Stand p l e ({ frames := 4, cells := 2, slots := 3, locals := 57 } : Room) s m #[(.ref a1), (.ref a2), (.int (0 : Int32)), (.int (1 : Int32)), .null] below meth c s₁ [] 0 0 := Stand.of_body Bd
  have e0 : s₁.heap = h0 := by rw [← hh, Bd.state]; rfl
  have N0 := Fr.nil n0
  show own_R p.tables e below (own_P s (Qs41_0 Z a1 a2 k2 c0 u0 u1 wc h0 n0) ({ frames := 4, cells := 2, slots := 3, locals := 57 } : Room).cells ({ frames := 4, cells := 2, slots := 3, locals := 57 } : Room).slots) (s₁.setTop (entryFrame m #[(.ref a1), (.ref a2), (.int (0 : Int32)), (.int (1 : Int32)), .null] 6))
  refine own_f s₁ (mkF m 0 #[.val (.ref a1), .val (.ref a2), .val (.int (0 : Int32)), .val (.int (1 : Int32)), .val .null, .unset] []) (fun t k => castTop (ef_s41_0 m a1 a2 (0 : Int32) (1 : Int32)) k) ?_
  refine own_f s₁ (mkF m 1 #[.val (.ref a1), .val (.ref a2), .val (.int (0 : Int32)), .val (.int (1 : Int32)), .val .null, .unset] [(.ref a1)]) (fun t k => XS.aloadN X0.here hx rfl (hb hby ds41_0_0) rfl rfl k) ?_
  obtain ⟨T1, X1, e1, st1⟩ := initO X0 hx hZ hown (own_w hw 13 rfl) (own_w hw 14 rfl) (own_w hw 15 rfl) e0 (g := (mkF m 1 #[.val (.ref a1), .val (.ref a2), .val (.int (0 : Int32)), .val (.int (1 : Int32)), .val .null, .unset] [(.ref a1)])) rfl (by rw [hml]; rfl) rfl (hb hby ds41_0_1) (by decide) (W := 0) (by show 2 * 0 + _ ≤ _; exact Nat.le_of_eq rfl) (by decide)
  refine own_f T1 (mkF m 4 #[.val (.ref a1), .val (.ref a2), .val (.int (0 : Int32)), .val (.int (1 : Int32)), .val .null, .unset] []) st1 ?_
  refine own_step (fun t k => XS.iloadN X1.here hx rfl (hb hby ds41_0_4) rfl k) ?_
  refine own_f T1 (mkF m 27 #[.val (.ref a1), .val (.ref a2), .val (.int (0 : Int32)), .val (.int (1 : Int32)), .val .null, .unset] []) (fun t k => XS.ifYes X1.here hx rfl (pc0 := 5) (pc' := 27) rfl (hb hby ds41_0_5) rfl (XT.i0_ne_t (by decide)) (by decide) (by decide) k) ?_
  have S2 : Sta Z h0 "java/lang/String" "COMPACT_STRINGS" "Z" (.int wc) := SC.ext F0.2
  obtain ⟨T2, X2, e2, st2⟩ := getS X1 hx hZ (host := "") hown (own_w hw 16 rfl) Via.refl e1 S2 (g := (mkF m 27 #[.val (.ref a1), .val (.ref a2), .val (.int (0 : Int32)), .val (.int (1 : Int32)), .val .null, .unset] [])) rfl (hb hby ds41_0_27)
  refine own_f T2 (mkF m 30 #[.val (.ref a1), .val (.ref a2), .val (.int (0 : Int32)), .val (.int (1 : Int32)), .val .null, .unset] [(.int wc)]) st2 ?_
  refine own_f T2 (mkF m 33 #[.val (.ref a1), .val (.ref a2), .val (.int (0 : Int32)), .val (.int (1 : Int32)), .val .null, .unset] []) (fun t k => XS.ifNo X2.here hx rfl (hb hby ds41_0_30) rfl (XT.i0_eq_f HWC) k) ?_
  refine own_step (fun t k => XS.aloadN X2.here hx rfl (hb hby ds41_0_33) rfl rfl k) ?_
  refine own_step (fun t k => XS.iloadN X2.here hx rfl (hb hby ds41_0_34) rfl k) ?_
  refine own_f T2 (mkF m 36 #[.val (.ref a1), .val (.ref a2), .val (.int (0 : Int32)), .val (.int (1 : Int32)), .val .null, .unset] [(.int (1 : Int32)), (.int (0 : Int32)), (.ref a2)]) (fun t k => XS.iloadN X2.here hx rfl (hb hby ds41_0_35) rfl k) ?_
  obtain ⟨_, _, ⟨T3, Lq3, kq_3, nq_3⟩, -, X3, ⟨Lc3, hQ3, lq3, yq3, zq3⟩, st3⟩ := Jvm.LawKit.callS X2 hx (y := (⟨"java/lang/StringUTF16", "compress", "([CII)[B"⟩ : MethodName)) hown (mvT hZ (own_w hw 17 rfl)) (mvT hZ (own_w hw 18 rfl)) (mvT hZ (own_w hw 19 rfl)) (mvT hZ (own_w hw 20 rfl)) (by decide) (backOf (W := 0) (rmcb1_0 l Z a0 hw [] a2 _ _ h0 n0 Z0 F0 F4 hc_c0 SH SL SA hw_c0) hZ (own_w hw 20 rfl) (own_w hw 19 rfl) (by decide) (by decide)) (g := (mkF m 36 #[.val (.ref a1), .val (.ref a2), .val (.int (0 : Int32)), .val (.int (1 : Int32)), .val .null, .unset] [(.int (1 : Int32)), (.int (0 : Int32)), (.ref a2)])) rfl (by rw [hml]; rfl) (argsL := [(.ref a2), (.int (0 : Int32)), (.int (1 : Int32))]) (rest := []) (lenOf pd__CII_B rfl) rfl (by show 2 * 0 + _ ≤ _; exact Nat.le_of_eq rfl) (hb hby ds41_0_36) (fun _ _ => ⟨rfl, e2, (by decide : 0 + 2 ≤ _), (by decide : 0 + 3 ≤ _)⟩)
  dsimp only [Pt.U, Pt.locs, Pt.cells, Pt.slots] at X3 lq3 yq3 zq3 st3 hQ3
  subst lq3 yq3 zq3
  obtain ⟨h3, e3⟩ : ∃ z, T3.heap = z := ⟨_, rfl⟩
  rw [e3] at hQ3
  unfold Qcb1_0 at hQ3
  obtain ⟨b3, kb3, rfl, Nq3, qh3, G3_0, H3_0⟩ := hQ3
  have N3 := Fr.app N0 Nq3
  have Zs3 : n0 ≤ h3.size := Nat.le_trans Z0 qh3.1
  have F_4 := F0.keep qh3 all0
  have F_5 := F1.keep qh3
  have F_6 := F2.keep qh3 nin0
  have F_7 := F3.keep qh3 nin0
  have F_8 := F4.keep qh3 nin0
  have K3 : Keep h0 h3 [a1] := (Keep.refl h0 [a1]).trans qh3 all0
  have ne3_a1 : a1 ≠ b3 := Nat.ne_of_lt (Nat.lt_of_lt_of_le F1.lt H3_0)
  have ne3_a2 : a2 ≠ b3 := Nat.ne_of_lt (Nat.lt_of_lt_of_le F4.lt H3_0)
  have ge3 : n0 ≤ b3 := Nat.le_trans Z0 H3_0
  have gf3 : h0.size ≤ b3 := Nat.le_trans (Keep.refl h0 [a1]).1 H3_0
  refine own_f T3 (mkF m 39 #[.val (.ref a1), .val (.ref a2), .val (.int (0 : Int32)), .val (.int (1 : Int32)), .val .null, .unset] [(.ref b3)]) st3 ?_
  refine own_f T3 (mkF m 41 #[.val (.ref a1), .val (.ref a2), .val (.int (0 : Int32)), .val (.int (1 : Int32)), .val .null, .val (.ref b3)] []) (fun t k => XS.astore X3.here hx rfl (hb hby ds41_0_39) rfl rfl (l' := #[.val (.ref a1), .val (.ref a2), .val (.int (0 : Int32)), .val (.int (1 : Int32)), .val .null, .val (.ref b3)]) rfl k) ?_
  refine own_step (fun t k => XS.aloadN X3.here hx rfl (hb hby ds41_0_41) rfl rfl k) ?_
  refine own_step (fun t k => XS.aload X3.here hx rfl (hb hby ds41_0_42) rfl rfl k) ?_
  refine own_f T3 (mkF m 45 #[.val (.ref a1), .val (.ref a2), .val (.int (0 : Int32)), .val (.int (1 : Int32)), .val .null, .val (.ref b3)] [(.int (1 : Int32)), (.ref b3), (.ref a1)]) (fun t k => XS.iloadN X3.here hx rfl (hb hby ds41_0_44) rfl k) ?_
  obtain ⟨_, _, ⟨T9, Lq9, kq_9, nq_9⟩, -, X9, ⟨Lc9, hQ9, lq9, yq9, zq9⟩, st9⟩ := Jvm.LawKit.callS X3 hx (y := (⟨"java/lang/StringUTF16", "coderFromArrayLen", "([BI)B"⟩ : MethodName)) hown (mvT hZ (own_w hw 25 rfl)) (mvT hZ (own_w hw 26 rfl)) (mvT hZ (own_w hw 19 rfl)) (mvT hZ (own_w hw 27 rfl)) (by decide) (backOf (W := 1) (rmco1_2 l Z a0 hw [] b3 _ _ h3 n0 Zs3 G3_0) hZ (own_w hw 27 rfl) (own_w hw 19 rfl) (by decide) (by decide)) (g := (mkF m 45 #[.val (.ref a1), .val (.ref a2), .val (.int (0 : Int32)), .val (.int (1 : Int32)), .val .null, .val (.ref b3)] [(.int (1 : Int32)), (.ref b3), (.ref a1)])) rfl (by rw [hml]; rfl) (argsL := [(.ref b3), (.int (1 : Int32))]) (rest := [(.ref a1)]) (lenOf pd__BI_B rfl) rfl (by show 2 * 0 + _ ≤ _; exact Nat.le_of_eq rfl) (hb hby ds41_0_45) (fun _ _ => ⟨rfl, e3, (by decide : 0 + 2 + 0 ≤ _), (by decide : 0 + 3 + 0 ≤ _)⟩)
  dsimp only [Pt.U, Pt.locs, Pt.cells, Pt.slots] at X9 lq9 yq9 zq9 st9 hQ9
  subst lq9 yq9 zq9
  obtain ⟨h9, e9⟩ : ∃ z, T9.heap = z := ⟨_, rfl⟩
  rw [e9] at hQ9
  unfold Qco1_2 at hQ9
  obtain ⟨rfl, Nq9, qh9⟩ := hQ9
  have N9 := Fr.app N3 Nq9
  rw [qh9] at e9
  refine own_f T9 (mkF m 48 #[.val (.ref a1), .val (.ref a2), .val (.int (0 : Int32)), .val (.int (1 : Int32)), .val .null, .val (.ref b3)] [(.int (1 : Int32)), (.ref a1)]) st9 ?_
  obtain ⟨T10, h10, X10, e10, W10, st10⟩ := putF X9 hx hZ hown (host := "") (Or.inl (own_w hw 28 rfl)) Via.refl e9 F_7 F_5 (Or.inr ⟨(own_w hw 29 rfl), rfl, hnm⟩) (own_w hw 3 rfl) (ty := .byte) (by decide) rfl rfl (g := (mkF m 48 #[.val (.ref a1), .val (.ref a2), .val (.int (0 : Int32)), .val (.int (1 : Int32)), .val .null, .val (.ref b3)] [(.int (1 : Int32)), (.ref a1)])) rfl rfl (hb hby ds41_0_48)
  have N10 := Fr.snoc X10 N9 ge_a1
  have Zs10 : n0 ≤ h10.size := by rw [W10.size]; exact Zs3
  have K10 : Keep h0 h10 [a1] := K3.wr W10 (Or.inl (by simp))
  have F_11 := F_4.wr W10 ge_a1
  have F_12 := F_5.wr W10
  have F_13 := F_6.other W10 (Or.inr (slot_ne (Or.inr (own_w hw 31 rfl)) (Or.inr (own_w hw 29 rfl)) (by decide) (t := (.array .byte)) (t' := .byte) (by decide) (by decide)))
  have F_14 := F_7.same W10
  have F_15 := F_8.other W10 hne
  have F_16 := G3_0.other W10 (Ne.symm ne3_a1)
  refine own_f T10 (mkF m 51 #[.val (.ref a1), .val (.ref a2), .val (.int (0 : Int32)), .val (.int (1 : Int32)), .val .null, .val (.ref b3)] []) st10 ?_
  refine own_step (fun t k => XS.aloadN X10.here hx rfl (hb hby ds41_0_51) rfl rfl k) ?_
  refine own_f T10 (mkF m 54 #[.val (.ref a1), .val (.ref a2), .val (.int (0 : Int32)), .val (.int (1 : Int32)), .val .null, .val (.ref b3)] [(.ref b3), (.ref a1)]) (fun t k => XS.aload X10.here hx rfl (hb hby ds41_0_52) rfl rfl k) ?_
  obtain ⟨T17, h17, X17, e17, W17, st17⟩ := putF X10 hx hZ hown (host := "") (Or.inl (own_w hw 30 rfl)) Via.refl e10 F_13 F_12 (Or.inr ⟨(own_w hw 31 rfl), rfl, hnm⟩) (own_w hw 3 rfl) (ty := (.array .byte)) (by decide) rfl rfl (g := (mkF m 54 #[.val (.ref a1), .val (.ref a2), .val (.int (0 : Int32)), .val (.int (1 : Int32)), .val .null, .val (.ref b3)] [(.ref b3), (.ref a1)])) rfl rfl (hb hby ds41_0_54)
  have N17 := Fr.snoc X17 N10 ge_a1
  have Zs17 : n0 ≤ h17.size := by rw [W17.size]; exact Zs10
  have K17 : Keep h0 h17 [a1] := K10.wr W17 (Or.inl (by simp))
  have F_18 := F_11.wr W17 ge_a1
  have F_19 := F_12.wr W17
  have F_20 := F_13.same W17
  have F_21 := F_14.other W17 (Or.inr (slot_ne (Or.inr (own_w hw 29 rfl)) (Or.inr (own_w hw 31 rfl)) (by decide) (t := .byte) (t' := (.array .byte)) (by decide) (by decide)))
  have F_22 := F_15.other W17 hne
  have F_23 := F_16.other W17 (Ne.symm ne3_a1)
  refine own_f T17 (mkF m 57 #[.val (.ref a1), .val (.ref a2), .val (.int (0 : Int32)), .val (.int (1 : Int32)), .val .null, .val (.ref b3)] []) st17 ?_
  obtain ⟨fs, hr, hrun, hended, hW, hsame⟩ := X17.leave (v := none) (fun _ => rfl)
  refine ⟨_, _, X17.returnOut hx Bd.returns (hb hby ds41_0_57) hr, hrun, hended, _, _, rfl, ?_, ⟨_, rfl⟩, hW, hsame.mono (by decide) (by decide)⟩
  show Qs41_0 Z a1 a2 k2 c0 u0 u1 wc h0 n0 _ T17.heap _
  rw [e17]
  exact ⟨b3, kb3, rfl, N17, K17, F_19, F_21, F_20, F_23, gf3⟩
theorem dci1_1_0 : decode jdk_52_method_21_code 0 = .ok (.iconst 0, 1) := by decide +kernel
theorem dci1_1_1 : decode jdk_52_method_21_code 1 = .ok (.istore 5, 2) := by decide +kernel
theorem dci1_1_3 : decode jdk_52_method_21_code 3 = .ok (.iload 5, 2) := by decide +kernel
theorem dci1_1_5 : decode jdk_52_method_21_code 5 = .ok (.iload 4, 2) := by decide +kernel
theorem dci1_1_7 : decode jdk_52_method_21_code 7 = .ok (.if_icmp .ge 37, 3) := by decide +kernel
theorem dci1_1_10 : decode jdk_52_method_21_code 10 = .ok (.aload_n 0, 1) := by decide +kernel
theorem dci1_1_11 : decode jdk_52_method_21_code 11 = .ok (.iload_n 1, 1) := by decide +kernel
theorem dci1_1_12 : decode jdk_52_method_21_code 12 = .ok (.caload, 1) := by decide +kernel
theorem dci1_1_13 : decode jdk_52_method_21_code 13 = .ok (.istore 6, 2) := by decide +kernel
theorem dci1_1_15 : decode jdk_52_method_21_code 15 = .ok (.iload 6, 2) := by decide +kernel
theorem dci1_1_17 : decode jdk_52_method_21_code 17 = .ok (.sipush 255, 3) := by decide +kernel
theorem dci1_1_20 : decode jdk_52_method_21_code 20 = .ok (.if_icmp .le 6, 3) := by decide +kernel
theorem dci1_1_26 : decode jdk_52_method_21_code 26 = .ok (.aload_n 2, 1) := by decide +kernel
theorem dci1_1_27 : decode jdk_52_method_21_code 27 = .ok (.iload_n 3, 1) := by decide +kernel
theorem dci1_1_28 : decode jdk_52_method_21_code 28 = .ok (.iload 6, 2) := by decide +kernel
theorem dci1_1_30 : decode jdk_52_method_21_code 30 = .ok (.i2b, 1) := by decide +kernel
theorem dci1_1_31 : decode jdk_52_method_21_code 31 = .ok (.bastore, 1) := by decide +kernel
theorem dci1_1_32 : decode jdk_52_method_21_code 32 = .ok (.iinc 1 1, 3) := by decide +kernel
theorem dci1_1_35 : decode jdk_52_method_21_code 35 = .ok (.iinc 3 1, 3) := by decide +kernel
theorem dci1_1_38 : decode jdk_52_method_21_code 38 = .ok (.iinc 5 1, 3) := by decide +kernel
theorem dci1_1_41 : decode jdk_52_method_21_code 41 = .ok (.goto (-38), 3) := by decide +kernel
theorem dci1_1_44 : decode jdk_52_method_21_code 44 = .ok (.iload 4, 2) := by decide +kernel
theorem dci1_1_46 : decode jdk_52_method_21_code 46 = .ok (.ireturn, 1) := by decide +kernel
theorem pn_ci1_1 : plainName "java/lang/StringUTF16" = true := by first | (simp [plainName, overriddenIn]; done) | decide +kernel
theorem ef_ci1_1 (m : MethodId) (x0 : Addr) (x1 : Int32) (x2 : Addr) (x3 : Int32) (x4 : Int32) : entryFrame m #[(.ref x0), (.int x1), (.ref x2), (.int x3), (.int x4)] 7 = mkF m 0 #[.val (.ref x0), .val (.int x1), .val (.ref x2), .val (.int x3), .val (.int x4), .unset, .unset] [] := by first | (simp [entryFrame, mkF, argsToLocals, Value.category]; done) | rfl
def Qci1_1 (Z : State) (a1 : Addr) (a2 : Addr) (k1 : ClassId) (k2 : ClassId) (c0 : Int32) (h0 : Heap) (n0 : Nat) (v : Option Value) (h : Heap) (L : List Loc) : Prop := v = some (.int (1 : Int32)) ∧ Fr n0 L ∧ Keep h0 h [a2] ∧ Arv Z h a2 k2 .byte (1 : Int32) [.int (c0.toInt8.toInt32)] (.int 0)
set_option maxRecDepth 65536 in
set_option maxHeartbeats 40000000 in
theorem rmci1_1 (l : Launch) (Z : State) (a0 : Array Value) (hw : ∀ d ∈ tables_1, d.before a0 Z = true) (ws : List Jvm.Cond) (a1 : Addr) (a2 : Addr) (k1 : ClassId) (k2 : ClassId) (c0 : Int32) (h0 : Heap) (n0 : Nat) (Z0 : n0 ≤ h0.size) (F0 : Arv Z h0 a1 k1 .char (1 : Int32) [.int c0] (.int 0)) (F1 : Arv Z h0 a2 k2 .byte (1 : Int32) [.int 0] (.int 0)) (ge_a2 : n0 ≤ a2) (hne : a1 ≠ a2) (hc_c0 : ¬ ((255 : Int32) < c0)) :
    MetFree l (⟨"java/lang/StringUTF16", "compress", "([CI[BII)I"⟩ : MethodName) (head1 (Jvm.Cond.code (⟨"java/lang/StringUTF16", "compress", "([CI[BII)I"⟩ : MethodName) jdk_52_method_21_code 7 (some .int) :: ws) ({ frames := 0, cells := 0, slots := 0, locals := 0 } : Room)) (fun a U => a = #[(.ref a1), (.int (0 : Int32)), (.ref a2), (.int (0 : Int32)), (.int (1 : Int32))] ∧ Z.Warmed39 U.vm ∧ U.heap = h0) (fun _ _ _ _ _ => True) (fun _ U o U' => ∃ v L, o = .returned v ∧ Qci1_1 Z a1 a2 k1 k2 c0 h0 n0 v U'.heap L ∧ FrameEnd U o U' L ({ frames := 0, cells := 0, slots := 0, locals := 0 } : Room).cells ({ frames := 0, cells := 0, slots := 0, locals := 0 } : Room).slots) := by
  refine MetFree.of_bodySF (plainFor_of_name pn_ci1_1) hisR ?_
  intro p e s m args below meth c s₁ Bd hml0 hP hK
  obtain ⟨rfl, hZ, hh⟩ := hP
  have hx := Bd.exec
  have hby := Bd.bytes
  have hml : c.maxLocals = 7 := hml0
  have hown : s.vm.findClass "java/lang/StringUTF16" = some m.cls := findClass_of_methodNamed Bd.named
  have hnm := (name_of_methodNamed Bd.named Bd.method).1
  have X0 : Stand p l e ({ frames := 0, cells := 0, slots := 0, locals := 0 } : Room) s m #[(.ref a1), (.int (0 : Int32)), (.ref a2), (.int (0 : Int32)), (.int (1 : Int32))] below meth c s₁ [] 0 0 := Stand.of_body Bd
  have e0 : s₁.heap = h0 := by rw [← hh, Bd.state]; rfl
  have N0 := Fr.nil n0
  show own_R p.tables e below (own_P s (Qci1_1 Z a1 a2 k1 k2 c0 h0 n0) ({ frames := 0, cells := 0, slots := 0, locals := 0 } : Room).cells ({ frames := 0, cells := 0, slots := 0, locals := 0 } : Room).slots) (s₁.setTop (entryFrame m #[(.ref a1), (.int (0 : Int32)), (.ref a2), (.int (0 : Int32)), (.int (1 : Int32))] 7))
  refine own_f s₁ (mkF m 0 #[.val (.ref a1), .val (.int (0 : Int32)), .val (.ref a2), .val (.int (0 : Int32)), .val (.int (1 : Int32)), .unset, .unset] []) (fun t k => castTop (ef_ci1_1 m a1 (0 : Int32) a2 (0 : Int32) (1 : Int32)) k) ?_
  refine own_step (fun t k => XT.iconstV X0.here hx rfl (0 : Int32) (hb hby dci1_1_0) (by decide) k) ?_
  refine own_f s₁ (mkF m 3 #[.val (.ref a1), .val (.int (0 : Int32)), .val (.ref a2), .val (.int (0 : Int32)), .val (.int (1 : Int32)), .val (.int (0 : Int32)), .unset] []) (fun t k => XS.istore X0.here hx rfl (hb hby dci1_1_1) rfl (l' := #[.val (.ref a1), .val (.int (0 : Int32)), .val (.ref a2), .val (.int (0 : Int32)), .val (.int (1 : Int32)), .val (.int (0 : Int32)), .unset]) rfl k) ?_
  refine own_step (fun t k => XS.iload X0.here hx rfl (hb hby dci1_1_3) rfl k) ?_
  refine own_step (fun t k => XS.iload X0.here hx rfl (hb hby dci1_1_5) rfl k) ?_
  refine own_f s₁ (mkF m 10 #[.val (.ref a1), .val (.int (0 : Int32)), .val (.ref a2), .val (.int (0 : Int32)), .val (.int (1 : Int32)), .val (.int (0 : Int32)), .unset] []) (fun t k => XS.icmpNo X0.here hx rfl (hb hby dci1_1_7) rfl (XT.ii_ge_f (by decide)) k) ?_
  refine own_step (fun t k => XS.aloadN X0.here hx rfl (hb hby dci1_1_10) rfl rfl k) ?_
  refine own_f s₁ (mkF m 12 #[.val (.ref a1), .val (.int (0 : Int32)), .val (.ref a2), .val (.int (0 : Int32)), .val (.int (1 : Int32)), .val (.int (0 : Int32)), .unset] [(.int (0 : Int32)), (.ref a1)]) (fun t k => XS.iloadN X0.here hx rfl (hb hby dci1_1_11) rfl k) ?_
  obtain ⟨cl1, Ar1, q11, Sz1, q31, Hs1, Gs1⟩ := id F0
  have hi1 := inb_of (j := (0 : Int32)) Sz1 ⟨by decide, by decide⟩
  refine own_f s₁ (mkF m 13 #[.val (.ref a1), .val (.int (0 : Int32)), .val (.ref a2), .val (.int (0 : Int32)), .val (.int (1 : Int32)), .val (.int (0 : Int32)), .unset] [(.int c0)]) (fun t k => X0.caload hx (j := (0 : Int32)) (v := (.int c0)) (by rw [e0]; exact Ar1.1) (State.isArrayOf_alike hZ.alike Ar1.2.1) Ar1.2.2 hi1 (Has.at Hs1 hi1 rfl) (g := (mkF m 12 #[.val (.ref a1), .val (.int (0 : Int32)), .val (.ref a2), .val (.int (0 : Int32)), .val (.int (1 : Int32)), .val (.int (0 : Int32)), .unset] [(.int (0 : Int32)), (.ref a1)])) rfl rfl (hb hby dci1_1_12) t k) ?_
  refine own_f s₁ (mkF m 15 #[.val (.ref a1), .val (.int (0 : Int32)), .val (.ref a2), .val (.int (0 : Int32)), .val (.int (1 : Int32)), .val (.int (0 : Int32)), .val (.int c0)] []) (fun t k => XS.istore X0.here hx rfl (hb hby dci1_1_13) rfl (l' := #[.val (.ref a1), .val (.int (0 : Int32)), .val (.ref a2), .val (.int (0 : Int32)), .val (.int (1 : Int32)), .val (.int (0 : Int32)), .val (.int c0)]) rfl k) ?_
  refine own_step (fun t k => XS.iload X0.here hx rfl (hb hby dci1_1_15) rfl k) ?_
  refine own_step (fun t k => XT.sipushV X0.here hx rfl (255 : Int32) (hb hby dci1_1_17) (by decide) k) ?_
  refine own_f s₁ (mkF m 26 #[.val (.ref a1), .val (.int (0 : Int32)), .val (.ref a2), .val (.int (0 : Int32)), .val (.int (1 : Int32)), .val (.int (0 : Int32)), .val (.int c0)] []) (fun t k => XS.icmpYes X0.here hx rfl (pc0 := 20) (pc' := 26) rfl (hb hby dci1_1_20) rfl (XT.ii_le_t hc_c0) (by decide) (by decide) k) ?_
  refine own_step (fun t k => XS.aloadN X0.here hx rfl (hb hby dci1_1_26) rfl rfl k) ?_
  refine own_step (fun t k => XS.iloadN X0.here hx rfl (hb hby dci1_1_27) rfl k) ?_
  refine own_step (fun t k => XS.iload X0.here hx rfl (hb hby dci1_1_28) rfl k) ?_
  refine own_f s₁ (mkF m 31 #[.val (.ref a1), .val (.int (0 : Int32)), .val (.ref a2), .val (.int (0 : Int32)), .val (.int (1 : Int32)), .val (.int (0 : Int32)), .val (.int c0)] [(.int (c0.toInt8.toInt32)), (.int (0 : Int32)), (.ref a2)]) (fun t k => XS.i2b X0.here hx rfl (hb hby dci1_1_30) rfl k) ?_
  obtain ⟨cl2, Ar2, q12, Sz2, q32, Hs2, Gs2⟩ := id F1
  obtain ⟨T2, h2, X2, e2, W2, st2⟩ := stB X0 hx hZ e0 Ar2 (j := (0 : Int32)) (inb_of Sz2 ⟨by decide, by decide⟩) (g := (mkF m 31 #[.val (.ref a1), .val (.int (0 : Int32)), .val (.ref a2), .val (.int (0 : Int32)), .val (.int (1 : Int32)), .val (.int (0 : Int32)), .val (.int c0)] [(.int (c0.toInt8.toInt32)), (.int (0 : Int32)), (.ref a2)])) rfl rfl (hb hby dci1_1_31)
  have N2 := Fr.snoc X2 N0 ge_a2
  have Zs2 : n0 ≤ h2.size := by rw [W2.size]; exact Z0
  have K2 : Keep h0 h2 [a2] := (Keep.refl h0 [a2]).wr W2 (Or.inl (by simp))
  have F_3 := F0.other W2 hne
  have F_4 : Arv Z h2 a2 k2 .byte (1 : Int32) [.int (c0.toInt8.toInt32)] (.int 0) := Arv.set Ar2 q12 Sz2 q32 Hs2 Gs2 (by rw [← ((own_narB _) : nar .byte (c0.toInt8.toInt32) = (c0.toInt8.toInt32))]; exact own_fitB _) (by rw [((own_narB _) : nar .byte (c0.toInt8.toInt32) = (c0.toInt8.toInt32))] at W2; exact W2) 0 (by decide) (by simp)
  refine own_f T2 (mkF m 32 #[.val (.ref a1), .val (.int (0 : Int32)), .val (.ref a2), .val (.int (0 : Int32)), .val (.int (1 : Int32)), .val (.int (0 : Int32)), .val (.int c0)] []) st2 ?_
  refine own_f T2 (mkF m 35 #[.val (.ref a1), .val (.int ((0 : Int32) + (1 : Int32))), .val (.ref a2), .val (.int (0 : Int32)), .val (.int (1 : Int32)), .val (.int (0 : Int32)), .val (.int c0)] []) (fun t k => XT.iincV X2.here hx rfl (l' := #[.val (.ref a1), .val (.int ((0 : Int32) + (1 : Int32))), .val (.ref a2), .val (.int (0 : Int32)), .val (.int (1 : Int32)), .val (.int (0 : Int32)), .val (.int c0)]) (1 : Int32) (hb hby dci1_1_32) (by decide) rfl rfl k) ?_
  rw [show ((0 : Int32) + (1 : Int32)) = (1 : Int32) from by decide]
  refine own_f T2 (mkF m 38 #[.val (.ref a1), .val (.int (1 : Int32)), .val (.ref a2), .val (.int ((0 : Int32) + (1 : Int32))), .val (.int (1 : Int32)), .val (.int (0 : Int32)), .val (.int c0)] []) (fun t k => XT.iincV X2.here hx rfl (l' := #[.val (.ref a1), .val (.int (1 : Int32)), .val (.ref a2), .val (.int ((0 : Int32) + (1 : Int32))), .val (.int (1 : Int32)), .val (.int (0 : Int32)), .val (.int c0)]) (1 : Int32) (hb hby dci1_1_35) (by decide) rfl rfl k) ?_
  rw [show ((0 : Int32) + (1 : Int32)) = (1 : Int32) from by decide]
  refine own_f T2 (mkF m 41 #[.val (.ref a1), .val (.int (1 : Int32)), .val (.ref a2), .val (.int (1 : Int32)), .val (.int (1 : Int32)), .val (.int ((0 : Int32) + (1 : Int32))), .val (.int c0)] []) (fun t k => XT.iincV X2.here hx rfl (l' := #[.val (.ref a1), .val (.int (1 : Int32)), .val (.ref a2), .val (.int (1 : Int32)), .val (.int (1 : Int32)), .val (.int ((0 : Int32) + (1 : Int32))), .val (.int c0)]) (1 : Int32) (hb hby dci1_1_38) (by decide) rfl rfl k) ?_
  rw [show ((0 : Int32) + (1 : Int32)) = (1 : Int32) from by decide]
  refine own_step (fun t k => XS.goto X2.here hx rfl (pc0 := 41) (pc' := 3) rfl (hb hby dci1_1_41) (by decide) (by decide) k) ?_
  refine own_step (fun t k => XS.iload X2.here hx rfl (hb hby dci1_1_3) rfl k) ?_
  refine own_step (fun t k => XS.iload X2.here hx rfl (hb hby dci1_1_5) rfl k) ?_
  refine own_f T2 (mkF m 44 #[.val (.ref a1), .val (.int (1 : Int32)), .val (.ref a2), .val (.int (1 : Int32)), .val (.int (1 : Int32)), .val (.int (1 : Int32)), .val (.int c0)] []) (fun t k => XS.icmpYes X2.here hx rfl (pc0 := 7) (pc' := 44) rfl (hb hby dci1_1_7) rfl (XT.ii_ge_t (by decide)) (by decide) (by decide) k) ?_
  refine own_f T2 (mkF m 46 #[.val (.ref a1), .val (.int (1 : Int32)), .val (.ref a2), .val (.int (1 : Int32)), .val (.int (1 : Int32)), .val (.int (1 : Int32)), .val (.int c0)] [(.int (1 : Int32))]) (fun t k => XS.iload X2.here hx rfl (hb hby dci1_1_44) rfl k) ?_
  obtain ⟨fs, hr, hrun, hended, hW, hsame⟩ := X2.leave (v := some (.int (1 : Int32))) (fun h => by rw [Bd.returns] at h; cases h)
  refine ⟨_, _, retI X2 hx Bd.returns (hb hby dci1_1_46) hr, hrun, hended, _, _, rfl, ?_, ⟨_, rfl⟩, hW, hsame.mono (by decide) (by decide)⟩
  show Qci1_1 Z a1 a2 k1 k2 c0 h0 n0 _ T2.heap _
  rw [e2]
  exact ⟨rfl, N2, K2, F_4⟩
theorem dcb1_1_0 : decode jdk_52_method_16_code 0 = .ok (.iload_n 2, 1) := by decide +kernel
theorem dcb1_1_1 : decode jdk_52_method_16_code 1 = .ok (.newarray .byte, 2) := by decide +kernel
theorem dcb1_1_3 : decode jdk_52_method_16_code 3 = .ok (.astore_n 3, 1) := by decide +kernel
theorem dcb1_1_4 : decode jdk_52_method_16_code 4 = .ok (.aload_n 0, 1) := by decide +kernel
theorem dcb1_1_5 : decode jdk_52_method_16_code 5 = .ok (.iload_n 1, 1) := by decide +kernel
theorem dcb1_1_6 : decode jdk_52_method_16_code 6 = .ok (.aload_n 3, 1) := by decide +kernel
theorem dcb1_1_7 : decode jdk_52_method_16_code 7 = .ok (.iconst 0, 1) := by decide +kernel
theorem dcb1_1_8 : decode jdk_52_method_16_code 8 = .ok (.iload_n 2, 1) := by decide +kernel
theorem dcb1_1_9 : decode jdk_52_method_16_code 9 = .ok (.invokestatic 115, 3) := by decide +kernel
theorem dcb1_1_12 : decode jdk_52_method_16_code 12 = .ok (.istore 4, 2) := by decide +kernel
theorem dcb1_1_14 : decode jdk_52_method_16_code 14 = .ok (.iload 4, 2) := by decide +kernel
theorem dcb1_1_16 : decode jdk_52_method_16_code 16 = .ok (.iload_n 2, 1) := by decide +kernel
theorem dcb1_1_17 : decode jdk_52_method_16_code 17 = .ok (.if_icmp .eq 40, 3) := by decide +kernel
theorem dcb1_1_57 : decode jdk_52_method_16_code 57 = .ok (.aload_n 3, 1) := by decide +kernel
theorem dcb1_1_58 : decode jdk_52_method_16_code 58 = .ok (.areturn, 1) := by decide +kernel
theorem pn_cb1_1 : plainName "java/lang/StringUTF16" = true := by first | (simp [plainName, overriddenIn]; done) | decide +kernel
theorem ef_cb1_1 (m : MethodId) (x0 : Addr) (x1 : Int32) (x2 : Int32) : entryFrame m #[(.ref x0), (.int x1), (.int x2)] 6 = mkF m 0 #[.val (.ref x0), .val (.int x1), .val (.int x2), .unset, .unset, .unset] [] := by first | (simp [entryFrame, mkF, argsToLocals, Value.category]; done) | rfl
def Qcb1_1 (Z : State) (a1 : Addr) (k1 : ClassId) (c0 : Int32) (h0 : Heap) (n0 : Nat) (v : Option Value) (h : Heap) (L : List Loc) : Prop := ∃ (b : Addr) (kb : ClassId), v = some (.ref b) ∧ Fr n0 L ∧ Keep h0 h [] ∧ Arv Z h b kb .byte (1 : Int32) [.int (c0.toInt8.toInt32)] (.int 0) ∧ h0.size ≤ b
set_option maxRecDepth 65536 in
set_option maxHeartbeats 40000000 in
theorem rmcb1_1 (l : Launch) (Z : State) (a0 : Array Value) (hw : ∀ d ∈ tables_1, d.before a0 Z = true) (ws : List Jvm.Cond) (a1 : Addr) (k1 : ClassId) (c0 : Int32) (h0 : Heap) (n0 : Nat) (Z0 : n0 ≤ h0.size) (F0 : Old Z n0 h0) (F1 : Arv Z h0 a1 k1 .char (1 : Int32) [.int c0] (.int 0)) (hc_c0 : ¬ ((255 : Int32) < c0)) :
    MetFree l (⟨"java/lang/StringUTF16", "compress", "([CII)[B"⟩ : MethodName) (head1 (Jvm.Cond.code (⟨"java/lang/StringUTF16", "compress", "([CII)[B"⟩ : MethodName) jdk_52_method_16_code 6 (some (.array .byte)) :: ws) ({ frames := 3, cells := 2, slots := 3, locals := 40 } : Room)) (fun a U => a = #[(.ref a1), (.int (0 : Int32)), (.int (1 : Int32))] ∧ Z.Warmed39 U.vm ∧ U.heap = h0) (fun _ _ _ _ _ => True) (fun _ U o U' => ∃ v L, o = .returned v ∧ Qcb1_1 Z a1 k1 c0 h0 n0 v U'.heap L ∧ FrameEnd U o U' L ({ frames := 3, cells := 2, slots := 3, locals := 40 } : Room).cells ({ frames := 3, cells := 2, slots := 3, locals := 40 } : Room).slots) := by
  refine MetFree.of_bodySF (plainFor_of_name pn_cb1_1) hisR ?_
  intro p e s m args below meth c s₁ Bd hml0 hP hK
  obtain ⟨rfl, hZ, hh⟩ := hP
  have hx := Bd.exec
  have hby := Bd.bytes
  have hml : c.maxLocals = 6 := hml0
  have hown : s.vm.findClass "java/lang/StringUTF16" = some m.cls := findClass_of_methodNamed Bd.named
  have hnm := (name_of_methodNamed Bd.named Bd.method).1
  have X0 : Stand p l e ({ frames := 3, cells := 2, slots := 3, locals := 40 } : Room) s m #[(.ref a1), (.int (0 : Int32)), (.int (1 : Int32))] below meth c s₁ [] 0 0 := Stand.of_body Bd
  have e0 : s₁.heap = h0 := by rw [← hh, Bd.state]; rfl
  have N0 := Fr.nil n0
  show own_R p.tables e below (own_P s (Qcb1_1 Z a1 k1 c0 h0 n0) ({ frames := 3, cells := 2, slots := 3, locals := 40 } : Room).cells ({ frames := 3, cells := 2, slots := 3, locals := 40 } : Room).slots) (s₁.setTop (entryFrame m #[(.ref a1), (.int (0 : Int32)), (.int (1 : Int32))] 6))
  refine own_f s₁ (mkF m 0 #[.val (.ref a1), .val (.int (0 : Int32)), .val (.int (1 : Int32)), .unset, .unset, .unset] []) (fun t k => castTop (ef_cb1_1 m a1 (0 : Int32) (1 : Int32)) k) ?_
  refine own_f s₁ (mkF m 1 #[.val (.ref a1), .val (.int (0 : Int32)), .val (.int (1 : Int32)), .unset, .unset, .unset] [(.int (1 : Int32))]) (fun t k => XS.iloadN X0.here hx rfl (hb hby dcb1_1_0) rfl k) ?_
  obtain ⟨T1, h1, kA1, X1, e1, E1, A1, st1⟩ := newP X0 hx hZ (own_w hw 21 rfl) e0 (g := (mkF m 1 #[.val (.ref a1), .val (.int (0 : Int32)), .val (.int (1 : Int32)), .unset, .unset, .unset] [(.int (1 : Int32))])) rfl (hb hby dcb1_1_1) rfl (by decide) (cap := 1) (by decide) (by decide) (by decide) (by decide)
  obtain ⟨b1, g1⟩ : ∃ z, z = h0.size := ⟨_, rfl⟩
  rw [← g1] at A1 st1
  have ne1_a1 : a1 ≠ b1 := by rw [g1]; exact Nat.ne_of_lt F1.lt
  have ge1 : n0 ≤ b1 := by rw [g1]; exact Z0
  have gf1 : h0.size ≤ b1 := by rw [g1]; exact (Keep.refl h0 []).1
  have Zs1 : n0 ≤ h1.size := Nat.le_trans Z0 E1.1
  have F_2 := F0.ext E1
  have F_3 := F1.ext E1
  have K1 : Keep h0 h1 [] := (Keep.refl h0 []).ext E1
  have F_4 : Arv Z h1 b1 kA1 .byte (1 : Int32) [.int 0] (.int 0) := own_arvnew 1 A1 (by decide)
  refine own_f T1 (mkF m 3 #[.val (.ref a1), .val (.int (0 : Int32)), .val (.int (1 : Int32)), .unset, .unset, .unset] [(.ref b1)]) st1 ?_
  refine own_f T1 (mkF m 4 #[.val (.ref a1), .val (.int (0 : Int32)), .val (.int (1 : Int32)), .val (.ref b1), .unset, .unset] []) (fun t k => XS.astoreN X1.here hx rfl (hb hby dcb1_1_3) rfl rfl (l' := #[.val (.ref a1), .val (.int (0 : Int32)), .val (.int (1 : Int32)), .val (.ref b1), .unset, .unset]) rfl k) ?_
  refine own_step (fun t k => XS.aloadN X1.here hx rfl (hb hby dcb1_1_4) rfl rfl k) ?_
  refine own_step (fun t k => XS.iloadN X1.here hx rfl (hb hby dcb1_1_5) rfl k) ?_
  refine own_step (fun t k => XS.aloadN X1.here hx rfl (hb hby dcb1_1_6) rfl rfl k) ?_
  refine own_step (fun t k => XT.iconstV X1.here hx rfl (0 : Int32) (hb hby dcb1_1_7) (by decide) k) ?_
  refine own_f T1 (mkF m 9 #[.val (.ref a1), .val (.int (0 : Int32)), .val (.int (1 : Int32)), .val (.ref b1), .unset, .unset] [(.int (1 : Int32)), (.int (0 : Int32)), (.ref b1), (.int (0 : Int32)), (.ref a1)]) (fun t k => XS.iloadN X1.here hx rfl (hb hby dcb1_1_8) rfl k) ?_
  obtain ⟨_, _, ⟨T5, Lq5, kq_5, nq_5⟩, -, X5, ⟨Lc5, hQ5, lq5, yq5, zq5⟩, st5⟩ := Jvm.LawKit.callS X1 hx (y := (⟨"java/lang/StringUTF16", "compress", "([CI[BII)I"⟩ : MethodName)) hown (mvT hZ (own_w hw 22 rfl)) (mvT hZ (own_w hw 23 rfl)) (mvT hZ (own_w hw 19 rfl)) (mvT hZ (own_w hw 24 rfl)) (by decide) (backOf (W := 0) (rmci1_1 l Z a0 hw [] a1 b1 _ _ _ h1 n0 Zs1 F_3 F_4 ge1 ne1_a1 hc_c0) hZ (own_w hw 24 rfl) (own_w hw 19 rfl) (by decide) (by decide)) (g := (mkF m 9 #[.val (.ref a1), .val (.int (0 : Int32)), .val (.int (1 : Int32)), .val (.ref b1), .unset, .unset] [(.int (1 : Int32)), (.int (0 : Int32)), (.ref b1), (.int (0 : Int32)), (.ref a1)])) rfl (by rw [hml]; rfl) (argsL := [(.ref a1), (.int (0 : Int32)), (.ref b1), (.int (0 : Int32)), (.int (1 : Int32))]) (rest := []) (lenOf pd__CI_BII_I rfl) rfl (by show 2 * 0 + _ ≤ _; exact Nat.le_of_eq rfl) (hb hby dcb1_1_9) (fun _ _ => ⟨rfl, e1, (by decide : 0 + 1 + 0 ≤ _), (by decide : 0 + 1 + 0 ≤ _)⟩)
  dsimp only [Pt.U, Pt.locs, Pt.cells, Pt.slots] at X5 lq5 yq5 zq5 st5 hQ5
  subst lq5 yq5 zq5
  obtain ⟨h5, e5⟩ : ∃ z, T5.heap = z := ⟨_, rfl⟩
  rw [e5] at hQ5
  unfold Qci1_1 at hQ5
  obtain ⟨rfl, Nq5, qh5, G5_0⟩ := hQ5
  have N5 := Fr.app N0 Nq5
  have Zs5 : n0 ≤ h5.size := Nat.le_trans Zs1 qh5.1
  have F_6 := F_2.keep qh5 (allS ge1 all0)
  have F_7 := F_3.keep qh5 (ninS ne1_a1 nin0)
  have K5 : Keep h0 h5 [] := K1.trans qh5 (allS (Or.inr gf1) all0)
  refine own_f T5 (mkF m 12 #[.val (.ref a1), .val (.int (0 : Int32)), .val (.int (1 : Int32)), .val (.ref b1), .unset, .unset] [(.int (1 : Int32))]) st5 ?_
  refine own_f T5 (mkF m 14 #[.val (.ref a1), .val (.int (0 : Int32)), .val (.int (1 : Int32)), .val (.ref b1), .val (.int (1 : Int32)), .unset] []) (fun t k => XS.istore X5.here hx rfl (hb hby dcb1_1_12) rfl (l' := #[.val (.ref a1), .val (.int (0 : Int32)), .val (.int (1 : Int32)), .val (.ref b1), .val (.int (1 : Int32)), .unset]) rfl k) ?_
  refine own_step (fun t k => XS.iload X5.here hx rfl (hb hby dcb1_1_14) rfl k) ?_
  refine own_step (fun t k => XS.iloadN X5.here hx rfl (hb hby dcb1_1_16) rfl k) ?_
  refine own_f T5 (mkF m 57 #[.val (.ref a1), .val (.int (0 : Int32)), .val (.int (1 : Int32)), .val (.ref b1), .val (.int (1 : Int32)), .unset] []) (fun t k => XS.icmpYes X5.here hx rfl (pc0 := 17) (pc' := 57) rfl (hb hby dcb1_1_17) rfl (XT.ii_eq_t (by decide)) (by decide) (by decide) k) ?_
  refine own_f T5 (mkF m 58 #[.val (.ref a1), .val (.int (0 : Int32)), .val (.int (1 : Int32)), .val (.ref b1), .val (.int (1 : Int32)), .unset] [(.ref b1)]) (fun t k => XS.aloadN X5.here hx rfl (hb hby dcb1_1_57) rfl rfl k) ?_
  obtain ⟨fs, hr, hrun, hended, hW, hsame⟩ := X5.leave (v := some (.ref b1)) (fun h => by rw [Bd.returns] at h; cases h)
  refine ⟨_, _, retOut X5 hx Bd.returns (by rfl) (Or.inr (Or.inr (Or.inr (Or.inr ⟨rfl, rfl, rfl⟩)))) (hb hby dcb1_1_58) hr, hrun, hended, _, _, rfl, ?_, ⟨_, rfl⟩, hW, hsame.mono (by decide) (by decide)⟩
  show Qcb1_1 Z a1 k1 c0 h0 n0 _ T5.heap _
  rw [e5]
  exact ⟨b1, kA1, rfl, N5, K5, G5_0, gf1⟩
theorem ds41_1_0 : decode jdk_42_method_149_code 0 = .ok (.aload_n 0, 1) := by decide +kernel
theorem ds41_1_1 : decode jdk_42_method_149_code 1 = .ok (.invokespecial 1, 3) := by decide +kernel
theorem ds41_1_4 : decode jdk_42_method_149_code 4 = .ok (.iload_n 3, 1) := by decide +kernel
theorem ds41_1_5 : decode jdk_42_method_149_code 5 = .ok (.ifCond .ne 22, 3) := by decide +kernel
theorem ds41_1_27 : decode jdk_42_method_149_code 27 = .ok (.getstatic 38, 3) := by decide +kernel
theorem ds41_1_30 : decode jdk_42_method_149_code 30 = .ok (.ifCond .eq 28, 3) := by decide +kernel
theorem ds41_1_33 : decode jdk_42_method_149_code 33 = .ok (.aload_n 1, 1) := by decide +kernel
theorem ds41_1_34 : decode jdk_42_method_149_code 34 = .ok (.iload_n 2, 1) := by decide +kernel
theorem ds41_1_35 : decode jdk_42_method_149_code 35 = .ok (.iload_n 3, 1) := by decide +kernel
theorem ds41_1_36 : decode jdk_42_method_149_code 36 = .ok (.invokestatic 177, 3) := by decide +kernel
theorem ds41_1_39 : decode jdk_42_method_149_code 39 = .ok (.astore 5, 2) := by decide +kernel
theorem ds41_1_41 : decode jdk_42_method_149_code 41 = .ok (.aload_n 0, 1) := by decide +kernel
theorem ds41_1_42 : decode jdk_42_method_149_code 42 = .ok (.aload 5, 2) := by decide +kernel
theorem ds41_1_44 : decode jdk_42_method_149_code 44 = .ok (.iload_n 3, 1) := by decide +kernel
theorem ds41_1_45 : decode jdk_42_method_149_code 45 = .ok (.invokestatic 47, 3) := by decide +kernel
theorem ds41_1_48 : decode jdk_42_method_149_code 48 = .ok (.putfield 15, 3) := by decide +kernel
theorem ds41_1_51 : decode jdk_42_method_149_code 51 = .ok (.aload_n 0, 1) := by decide +kernel
theorem ds41_1_52 : decode jdk_42_method_149_code 52 = .ok (.aload 5, 2) := by decide +kernel
theorem ds41_1_54 : decode jdk_42_method_149_code 54 = .ok (.putfield 9, 3) := by decide +kernel
theorem ds41_1_57 : decode jdk_42_method_149_code 57 = .ok (.return_, 1) := by decide +kernel
theorem pn_s41_1 : plainName "java/lang/String" = true := by first | (simp [plainName, overriddenIn]; done) | decide +kernel
theorem ef_s41_1 (m : MethodId) (x0 : Addr) (x1 : Addr) (x2 : Int32) (x3 : Int32) : entryFrame m #[(.ref x0), (.ref x1), (.int x2), (.int x3), .null] 6 = mkF m 0 #[.val (.ref x0), .val (.ref x1), .val (.int x2), .val (.int x3), .val .null, .unset] [] := by first | (simp [entryFrame, mkF, argsToLocals, Value.category]; done) | rfl
def Qs41_1 (Z : State) (a1 : Addr) (a2 : Addr) (k2 : ClassId) (c0 : Int32) (u0 : Value) (u1 : Value) (wc : Int32) (h0 : Heap) (n0 : Nat) (v : Option Value) (h : Heap) (L : List Loc) : Prop := ∃ (b : Addr) (kb : ClassId), v = none ∧ Fr n0 L ∧ Keep h0 h [a1] ∧ Exa Z h a1 "java/lang/String" ∧ Fld Z h a1 "java/lang/String" "coder" "B" (.int (0 : Int32)) ∧ Fld Z h a1 "java/lang/String" "value" "[B" (.ref b) ∧ Arv Z h b kb .byte (1 : Int32) [.int (c0.toInt8.toInt32)] (.int 0) ∧ h0.size ≤ b
set_option maxRecDepth 65536 in
set_option maxHeartbeats 40000000 in
theorem rms41_1 (l : Launch) (Z : State) (a0 : Array Value) (hw : ∀ d ∈ tables_1, d.before a0 Z = true) (ws : List Jvm.Cond) (a1 : Addr) (a2 : Addr) (k2 : ClassId) (c0 : Int32) (u0 : Value) (u1 : Value) (wc : Int32) (h0 : Heap) (n0 : Nat) (Z0 : n0 ≤ h0.size) (F0 : Old Z n0 h0) (F1 : Exa Z h0 a1 "java/lang/String") (F2 : Fld Z h0 a1 "java/lang/String" "value" "[B" u0) (F3 : Fld Z h0 a1 "java/lang/String" "coder" "B" u1) (F4 : Arv Z h0 a2 k2 .char (1 : Int32) [.int c0] (.int 0)) (ge_a1 : n0 ≤ a1) (SC : Sta Z Z.heap "java/lang/String" "COMPACT_STRINGS" "Z" (.int wc)) (HWC : ¬ (wc = 0)) (hne : a2 ≠ a1) (hc_c0 : ¬ ((255 : Int32) < c0)) :
    MetFree l (⟨"java/lang/String", "<init>", "([CIILjava/lang/Void;)V"⟩ : MethodName) (head1 (Jvm.Cond.code (⟨"java/lang/String", "<init>", "([CIILjava/lang/Void;)V"⟩ : MethodName) jdk_42_method_149_code 6 none :: ws) ({ frames := 4, cells := 2, slots := 3, locals := 57 } : Room)) (fun a U => a = #[(.ref a1), (.ref a2), (.int (0 : Int32)), (.int (1 : Int32)), .null] ∧ Z.Warmed39 U.vm ∧ U.heap = h0) (fun _ _ _ _ _ => True) (fun _ U o U' => ∃ v L, o = .returned v ∧ Qs41_1 Z a1 a2 k2 c0 u0 u1 wc h0 n0 v U'.heap L ∧ FrameEnd U o U' L ({ frames := 4, cells := 2, slots := 3, locals := 57 } : Room).cells ({ frames := 4, cells := 2, slots := 3, locals := 57 } : Room).slots) := by
  refine MetFree.of_bodySF (plainFor_of_name pn_s41_1) hisR ?_
  intro p e s m args below meth c s₁ Bd hml0 hP hK
  obtain ⟨rfl, hZ, hh⟩ := hP
  have hx := Bd.exec
  have hby := Bd.bytes
  have hml : c.maxLocals = 6 := hml0
  have hown : s.vm.findClass "java/lang/String" = some m.cls := findClass_of_methodNamed Bd.named
  have hnm := (name_of_methodNamed Bd.named Bd.method).1
  have X0 : Stand p l e ({ frames := 4, cells := 2, slots := 3, locals := 57 } : Room) s m #[(.ref a1), (.ref a2), (.int (0 : Int32)), (.int (1 : Int32)), .null] below meth c s₁ [] 0 0 := Stand.of_body Bd
  have e0 : s₁.heap = h0 := by rw [← hh, Bd.state]; rfl
  have N0 := Fr.nil n0
  show own_R p.tables e below (own_P s (Qs41_1 Z a1 a2 k2 c0 u0 u1 wc h0 n0) ({ frames := 4, cells := 2, slots := 3, locals := 57 } : Room).cells ({ frames := 4, cells := 2, slots := 3, locals := 57 } : Room).slots) (s₁.setTop (entryFrame m #[(.ref a1), (.ref a2), (.int (0 : Int32)), (.int (1 : Int32)), .null] 6))
  refine own_f s₁ (mkF m 0 #[.val (.ref a1), .val (.ref a2), .val (.int (0 : Int32)), .val (.int (1 : Int32)), .val .null, .unset] []) (fun t k => castTop (ef_s41_1 m a1 a2 (0 : Int32) (1 : Int32)) k) ?_
  refine own_f s₁ (mkF m 1 #[.val (.ref a1), .val (.ref a2), .val (.int (0 : Int32)), .val (.int (1 : Int32)), .val .null, .unset] [(.ref a1)]) (fun t k => XS.aloadN X0.here hx rfl (hb hby ds41_1_0) rfl rfl k) ?_
  obtain ⟨T1, X1, e1, st1⟩ := initO X0 hx hZ hown (own_w hw 13 rfl) (own_w hw 14 rfl) (own_w hw 15 rfl) e0 (g := (mkF m 1 #[.val (.ref a1), .val (.ref a2), .val (.int (0 : Int32)), .val (.int (1 : Int32)), .val .null, .unset] [(.ref a1)])) rfl (by rw [hml]; rfl) rfl (hb hby ds41_1_1) (by decide) (W := 0) (by show 2 * 0 + _ ≤ _; exact Nat.le_of_eq rfl) (by decide)
  refine own_f T1 (mkF m 4 #[.val (.ref a1), .val (.ref a2), .val (.int (0 : Int32)), .val (.int (1 : Int32)), .val .null, .unset] []) st1 ?_
  refine own_step (fun t k => XS.iloadN X1.here hx rfl (hb hby ds41_1_4) rfl k) ?_
  refine own_f T1 (mkF m 27 #[.val (.ref a1), .val (.ref a2), .val (.int (0 : Int32)), .val (.int (1 : Int32)), .val .null, .unset] []) (fun t k => XS.ifYes X1.here hx rfl (pc0 := 5) (pc' := 27) rfl (hb hby ds41_1_5) rfl (XT.i0_ne_t (by decide)) (by decide) (by decide) k) ?_
  have S2 : Sta Z h0 "java/lang/String" "COMPACT_STRINGS" "Z" (.int wc) := SC.ext F0.2
  obtain ⟨T2, X2, e2, st2⟩ := getS X1 hx hZ (host := "") hown (own_w hw 16 rfl) Via.refl e1 S2 (g := (mkF m 27 #[.val (.ref a1), .val (.ref a2), .val (.int (0 : Int32)), .val (.int (1 : Int32)), .val .null, .unset] [])) rfl (hb hby ds41_1_27)
  refine own_f T2 (mkF m 30 #[.val (.ref a1), .val (.ref a2), .val (.int (0 : Int32)), .val (.int (1 : Int32)), .val .null, .unset] [(.int wc)]) st2 ?_
  refine own_f T2 (mkF m 33 #[.val (.ref a1), .val (.ref a2), .val (.int (0 : Int32)), .val (.int (1 : Int32)), .val .null, .unset] []) (fun t k => XS.ifNo X2.here hx rfl (hb hby ds41_1_30) rfl (XT.i0_eq_f HWC) k) ?_
  refine own_step (fun t k => XS.aloadN X2.here hx rfl (hb hby ds41_1_33) rfl rfl k) ?_
  refine own_step (fun t k => XS.iloadN X2.here hx rfl (hb hby ds41_1_34) rfl k) ?_
  refine own_f T2 (mkF m 36 #[.val (.ref a1), .val (.ref a2), .val (.int (0 : Int32)), .val (.int (1 : Int32)), .val .null, .unset] [(.int (1 : Int32)), (.int (0 : Int32)), (.ref a2)]) (fun t k => XS.iloadN X2.here hx rfl (hb hby ds41_1_35) rfl k) ?_
  obtain ⟨_, _, ⟨T3, Lq3, kq_3, nq_3⟩, -, X3, ⟨Lc3, hQ3, lq3, yq3, zq3⟩, st3⟩ := Jvm.LawKit.callS X2 hx (y := (⟨"java/lang/StringUTF16", "compress", "([CII)[B"⟩ : MethodName)) hown (mvT hZ (own_w hw 17 rfl)) (mvT hZ (own_w hw 18 rfl)) (mvT hZ (own_w hw 19 rfl)) (mvT hZ (own_w hw 20 rfl)) (by decide) (backOf (W := 0) (rmcb1_1 l Z a0 hw [] a2 _ _ h0 n0 Z0 F0 F4 hc_c0) hZ (own_w hw 20 rfl) (own_w hw 19 rfl) (by decide) (by decide)) (g := (mkF m 36 #[.val (.ref a1), .val (.ref a2), .val (.int (0 : Int32)), .val (.int (1 : Int32)), .val .null, .unset] [(.int (1 : Int32)), (.int (0 : Int32)), (.ref a2)])) rfl (by rw [hml]; rfl) (argsL := [(.ref a2), (.int (0 : Int32)), (.int (1 : Int32))]) (rest := []) (lenOf pd__CII_B rfl) rfl (by show 2 * 0 + _ ≤ _; exact Nat.le_of_eq rfl) (hb hby ds41_1_36) (fun _ _ => ⟨rfl, e2, (by decide : 0 + 2 ≤ _), (by decide : 0 + 3 ≤ _)⟩)
  dsimp only [Pt.U, Pt.locs, Pt.cells, Pt.slots] at X3 lq3 yq3 zq3 st3 hQ3
  subst lq3 yq3 zq3
  obtain ⟨h3, e3⟩ : ∃ z, T3.heap = z := ⟨_, rfl⟩
  rw [e3] at hQ3
  unfold Qcb1_1 at hQ3
  obtain ⟨b3, kb3, rfl, Nq3, qh3, G3_0, H3_0⟩ := hQ3
  have N3 := Fr.app N0 Nq3
  have Zs3 : n0 ≤ h3.size := Nat.le_trans Z0 qh3.1
  have F_4 := F0.keep qh3 all0
  have F_5 := F1.keep qh3
  have F_6 := F2.keep qh3 nin0
  have F_7 := F3.keep qh3 nin0
  have F_8 := F4.keep qh3 nin0
  have K3 : Keep h0 h3 [a1] := (Keep.refl h0 [a1]).trans qh3 all0
  have ne3_a1 : a1 ≠ b3 := Nat.ne_of_lt (Nat.lt_of_lt_of_le F1.lt H3_0)
  have ne3_a2 : a2 ≠ b3 := Nat.ne_of_lt (Nat.lt_of_lt_of_le F4.lt H3_0)
  have ge3 : n0 ≤ b3 := Nat.le_trans Z0 H3_0
  have gf3 : h0.size ≤ b3 := Nat.le_trans (Keep.refl h0 [a1]).1 H3_0
  refine own_f T3 (mkF m 39 #[.val (.ref a1), .val (.ref a2), .val (.int (0 : Int32)), .val (.int (1 : Int32)), .val .null, .unset] [(.ref b3)]) st3 ?_
  refine own_f T3 (mkF m 41 #[.val (.ref a1), .val (.ref a2), .val (.int (0 : Int32)), .val (.int (1 : Int32)), .val .null, .val (.ref b3)] []) (fun t k => XS.astore X3.here hx rfl (hb hby ds41_1_39) rfl rfl (l' := #[.val (.ref a1), .val (.ref a2), .val (.int (0 : Int32)), .val (.int (1 : Int32)), .val .null, .val (.ref b3)]) rfl k) ?_
  refine own_step (fun t k => XS.aloadN X3.here hx rfl (hb hby ds41_1_41) rfl rfl k) ?_
  refine own_step (fun t k => XS.aload X3.here hx rfl (hb hby ds41_1_42) rfl rfl k) ?_
  refine own_f T3 (mkF m 45 #[.val (.ref a1), .val (.ref a2), .val (.int (0 : Int32)), .val (.int (1 : Int32)), .val .null, .val (.ref b3)] [(.int (1 : Int32)), (.ref b3), (.ref a1)]) (fun t k => XS.iloadN X3.here hx rfl (hb hby ds41_1_44) rfl k) ?_
  obtain ⟨_, _, ⟨T9, Lq9, kq_9, nq_9⟩, -, X9, ⟨Lc9, hQ9, lq9, yq9, zq9⟩, st9⟩ := Jvm.LawKit.callS X3 hx (y := (⟨"java/lang/StringUTF16", "coderFromArrayLen", "([BI)B"⟩ : MethodName)) hown (mvT hZ (own_w hw 25 rfl)) (mvT hZ (own_w hw 26 rfl)) (mvT hZ (own_w hw 19 rfl)) (mvT hZ (own_w hw 27 rfl)) (by decide) (backOf (W := 1) (rmco1_1 l Z a0 hw [] b3 _ _ h3 n0 Zs3 G3_0) hZ (own_w hw 27 rfl) (own_w hw 19 rfl) (by decide) (by decide)) (g := (mkF m 45 #[.val (.ref a1), .val (.ref a2), .val (.int (0 : Int32)), .val (.int (1 : Int32)), .val .null, .val (.ref b3)] [(.int (1 : Int32)), (.ref b3), (.ref a1)])) rfl (by rw [hml]; rfl) (argsL := [(.ref b3), (.int (1 : Int32))]) (rest := [(.ref a1)]) (lenOf pd__BI_B rfl) rfl (by show 2 * 0 + _ ≤ _; exact Nat.le_of_eq rfl) (hb hby ds41_1_45) (fun _ _ => ⟨rfl, e3, (by decide : 0 + 2 + 0 ≤ _), (by decide : 0 + 3 + 0 ≤ _)⟩)
  dsimp only [Pt.U, Pt.locs, Pt.cells, Pt.slots] at X9 lq9 yq9 zq9 st9 hQ9
  subst lq9 yq9 zq9
  obtain ⟨h9, e9⟩ : ∃ z, T9.heap = z := ⟨_, rfl⟩
  rw [e9] at hQ9
  unfold Qco1_1 at hQ9
  obtain ⟨rfl, Nq9, qh9⟩ := hQ9
  have N9 := Fr.app N3 Nq9
  rw [qh9] at e9
  refine own_f T9 (mkF m 48 #[.val (.ref a1), .val (.ref a2), .val (.int (0 : Int32)), .val (.int (1 : Int32)), .val .null, .val (.ref b3)] [(.int (0 : Int32)), (.ref a1)]) st9 ?_
  obtain ⟨T10, h10, X10, e10, W10, st10⟩ := putF X9 hx hZ hown (host := "") (Or.inl (own_w hw 28 rfl)) Via.refl e9 F_7 F_5 (Or.inr ⟨(own_w hw 29 rfl), rfl, hnm⟩) (own_w hw 3 rfl) (ty := .byte) (by decide) rfl rfl (g := (mkF m 48 #[.val (.ref a1), .val (.ref a2), .val (.int (0 : Int32)), .val (.int (1 : Int32)), .val .null, .val (.ref b3)] [(.int (0 : Int32)), (.ref a1)])) rfl rfl (hb hby ds41_1_48)
  have N10 := Fr.snoc X10 N9 ge_a1
  have Zs10 : n0 ≤ h10.size := by rw [W10.size]; exact Zs3
  have K10 : Keep h0 h10 [a1] := K3.wr W10 (Or.inl (by simp))
  have F_11 := F_4.wr W10 ge_a1
  have F_12 := F_5.wr W10
  have F_13 := F_6.other W10 (Or.inr (slot_ne (Or.inr (own_w hw 31 rfl)) (Or.inr (own_w hw 29 rfl)) (by decide) (t := (.array .byte)) (t' := .byte) (by decide) (by decide)))
  have F_14 := F_7.same W10
  have F_15 := F_8.other W10 hne
  have F_16 := G3_0.other W10 (Ne.symm ne3_a1)
  refine own_f T10 (mkF m 51 #[.val (.ref a1), .val (.ref a2), .val (.int (0 : Int32)), .val (.int (1 : Int32)), .val .null, .val (.ref b3)] []) st10 ?_
  refine own_step (fun t k => XS.aloadN X10.here hx rfl (hb hby ds41_1_51) rfl rfl k) ?_
  refine own_f T10 (mkF m 54 #[.val (.ref a1), .val (.ref a2), .val (.int (0 : Int32)), .val (.int (1 : Int32)), .val .null, .val (.ref b3)] [(.ref b3), (.ref a1)]) (fun t k => XS.aload X10.here hx rfl (hb hby ds41_1_52) rfl rfl k) ?_
  obtain ⟨T17, h17, X17, e17, W17, st17⟩ := putF X10 hx hZ hown (host := "") (Or.inl (own_w hw 30 rfl)) Via.refl e10 F_13 F_12 (Or.inr ⟨(own_w hw 31 rfl), rfl, hnm⟩) (own_w hw 3 rfl) (ty := (.array .byte)) (by decide) rfl rfl (g := (mkF m 54 #[.val (.ref a1), .val (.ref a2), .val (.int (0 : Int32)), .val (.int (1 : Int32)), .val .null, .val (.ref b3)] [(.ref b3), (.ref a1)])) rfl rfl (hb hby ds41_1_54)
  have N17 := Fr.snoc X17 N10 ge_a1
  have Zs17 : n0 ≤ h17.size := by rw [W17.size]; exact Zs10
  have K17 : Keep h0 h17 [a1] := K10.wr W17 (Or.inl (by simp))
  have F_18 := F_11.wr W17 ge_a1
  have F_19 := F_12.wr W17
  have F_20 := F_13.same W17
  have F_21 := F_14.other W17 (Or.inr (slot_ne (Or.inr (own_w hw 29 rfl)) (Or.inr (own_w hw 31 rfl)) (by decide) (t := .byte) (t' := (.array .byte)) (by decide) (by decide)))
  have F_22 := F_15.other W17 hne
  have F_23 := F_16.other W17 (Ne.symm ne3_a1)
  refine own_f T17 (mkF m 57 #[.val (.ref a1), .val (.ref a2), .val (.int (0 : Int32)), .val (.int (1 : Int32)), .val .null, .val (.ref b3)] []) st17 ?_
  obtain ⟨fs, hr, hrun, hended, hW, hsame⟩ := X17.leave (v := none) (fun _ => rfl)
  refine ⟨_, _, X17.returnOut hx Bd.returns (hb hby ds41_1_57) hr, hrun, hended, _, _, rfl, ?_, ⟨_, rfl⟩, hW, hsame.mono (by decide) (by decide)⟩
  show Qs41_1 Z a1 a2 k2 c0 u0 u1 wc h0 n0 _ T17.heap _
  rw [e17]
  exact ⟨b3, kb3, rfl, N17, K17, F_19, F_21, F_20, F_23, gf3⟩
theorem dnl2_0 : decode jdk_52_method_3_code 0 = .ok (.iload_n 0, 1) := by decide +kernel
theorem dnl2_1 : decode jdk_52_method_3_code 1 = .ok (.ifCond .ge 11, 3) := by decide +kernel
theorem dnl2_12 : decode jdk_52_method_3_code 12 = .ok (.iload_n 0, 1) := by decide +kernel
theorem dnl2_13 : decode jdk_52_method_3_code 13 = .ok (.ldc 20, 2) := by decide +kernel
theorem dnl2_15 : decode jdk_52_method_3_code 15 = .ok (.if_icmp .lt 40, 3) := by decide +kernel
theorem dnl2_55 : decode jdk_52_method_3_code 55 = .ok (.iload_n 0, 1) := by decide +kernel
theorem dnl2_56 : decode jdk_52_method_3_code 56 = .ok (.iconst 1, 1) := by decide +kernel
theorem dnl2_57 : decode jdk_52_method_3_code 57 = .ok (.ishl, 1) := by decide +kernel
theorem dnl2_58 : decode jdk_52_method_3_code 58 = .ok (.ireturn, 1) := by decide +kernel
theorem pn_nl2 : plainName "java/lang/StringUTF16" = true := by first | (simp [plainName, overriddenIn]; done) | decide +kernel
theorem ef_nl2 (m : MethodId) (x0 : Int32) : entryFrame m #[(.int x0)] 1 = mkF m 0 #[.val (.int x0)] [] := by first | (simp [entryFrame, mkF, argsToLocals, Value.category]; done) | rfl
def Qnl2 (Z : State) (h0 : Heap) (n0 : Nat) (v : Option Value) (h : Heap) (L : List Loc) : Prop := v = some (.int (4 : Int32)) ∧ Fr n0 L ∧ h = h0
set_option maxRecDepth 65536 in
set_option maxHeartbeats 40000000 in
theorem rmnl2 (l : Launch) (Z : State) (a0 : Array Value) (hw : ∀ d ∈ tables_1, d.before a0 Z = true) (ws : List Jvm.Cond) (h0 : Heap) (n0 : Nat) (Z0 : n0 ≤ h0.size) :
    MetFree l (⟨"java/lang/StringUTF16", "newBytesLength", "(I)I"⟩ : MethodName) (head1 (Jvm.Cond.code (⟨"java/lang/StringUTF16", "newBytesLength", "(I)I"⟩ : MethodName) jdk_52_method_3_code 1 (some .int) :: ws) ({ frames := 0, cells := 0, slots := 0, locals := 0 } : Room)) (fun a U => a = #[(.int (2 : Int32))] ∧ Z.Warmed39 U.vm ∧ U.heap = h0) (fun _ _ _ _ _ => True) (fun _ U o U' => ∃ v L, o = .returned v ∧ Qnl2 Z h0 n0 v U'.heap L ∧ FrameEnd U o U' L ({ frames := 0, cells := 0, slots := 0, locals := 0 } : Room).cells ({ frames := 0, cells := 0, slots := 0, locals := 0 } : Room).slots) := by
  refine MetFree.of_bodySF (plainFor_of_name pn_nl2) hisR ?_
  intro p e s m args below meth c s₁ Bd hml0 hP hK
  obtain ⟨rfl, hZ, hh⟩ := hP
  have hx := Bd.exec
  have hby := Bd.bytes
  have hml : c.maxLocals = 1 := hml0
  have hown : s.vm.findClass "java/lang/StringUTF16" = some m.cls := findClass_of_methodNamed Bd.named
  have hnm := (name_of_methodNamed Bd.named Bd.method).1
  have X0 : Stand p l e ({ frames := 0, cells := 0, slots := 0, locals := 0 } : Room) s m #[(.int (2 : Int32))] below meth c s₁ [] 0 0 := Stand.of_body Bd
  have e0 : s₁.heap = h0 := by rw [← hh, Bd.state]; rfl
  have N0 := Fr.nil n0
  show own_R p.tables e below (own_P s (Qnl2 Z h0 n0) ({ frames := 0, cells := 0, slots := 0, locals := 0 } : Room).cells ({ frames := 0, cells := 0, slots := 0, locals := 0 } : Room).slots) (s₁.setTop (entryFrame m #[(.int (2 : Int32))] 1))
  refine own_f s₁ (mkF m 0 #[.val (.int (2 : Int32))] []) (fun t k => castTop (ef_nl2 m (2 : Int32)) k) ?_
  refine own_step (fun t k => XS.iloadN X0.here hx rfl (hb hby dnl2_0) rfl k) ?_
  refine own_f s₁ (mkF m 12 #[.val (.int (2 : Int32))] []) (fun t k => XS.ifYes X0.here hx rfl (pc0 := 1) (pc' := 12) rfl (hb hby dnl2_1) rfl (XT.i0_ge_t (by decide)) (by decide) (by decide) k) ?_
  refine own_f s₁ (mkF m 13 #[.val (.int (2 : Int32))] [(.int (2 : Int32))]) (fun t k => XS.iloadN X0.here hx rfl (hb hby dnl2_12) rfl k) ?_
  refine own_f s₁ (mkF m 15 #[.val (.int (2 : Int32))] [(.int (1073741823 : Int32)), (.int (2 : Int32))]) (fun t k => X0.ldcI hx hown (mvT hZ (own_w hw 82 rfl)) rfl (hb hby dnl2_13) k) ?_
  refine own_f s₁ (mkF m 55 #[.val (.int (2 : Int32))] []) (fun t k => XS.icmpYes X0.here hx rfl (pc0 := 15) (pc' := 55) rfl (hb hby dnl2_15) rfl (XT.ii_lt_t (by decide)) (by decide) (by decide) k) ?_
  refine own_step (fun t k => XS.iloadN X0.here hx rfl (hb hby dnl2_55) rfl k) ?_
  refine own_step (fun t k => XT.iconstV X0.here hx rfl (1 : Int32) (hb hby dnl2_56) (by decide) k) ?_
  refine own_f s₁ (mkF m 58 #[.val (.int (2 : Int32))] [(.int ((2 : Int32) <<< ((1 : Int32) &&& 31)))]) (fun t k => XS.ishl X0.here hx rfl (hb hby dnl2_57) rfl k) ?_
  rw [show ((2 : Int32) <<< ((1 : Int32) &&& 31)) = (4 : Int32) from by decide]
  obtain ⟨fs, hr, hrun, hended, hW, hsame⟩ := X0.leave (v := some (.int (4 : Int32))) (fun h => by rw [Bd.returns] at h; cases h)
  refine ⟨_, _, retI X0 hx Bd.returns (hb hby dnl2_58) hr, hrun, hended, _, _, rfl, ?_, ⟨_, rfl⟩, hW, hsame.mono (by decide) (by decide)⟩
  show Qnl2 Z h0 n0 _ s₁.heap _
  rw [e0]
  exact ⟨rfl, N0, rfl⟩
theorem dnf2_0 : decode jdk_52_method_2_code 0 = .ok (.iload_n 0, 1) := by decide +kernel
theorem dnf2_1 : decode jdk_52_method_2_code 1 = .ok (.invokestatic 11, 3) := by decide +kernel
theorem dnf2_4 : decode jdk_52_method_2_code 4 = .ok (.newarray .byte, 2) := by decide +kernel
theorem dnf2_6 : decode jdk_52_method_2_code 6 = .ok (.areturn, 1) := by decide +kernel
theorem pn_nf2 : plainName "java/lang/StringUTF16" = true := by first | (simp [plainName, overriddenIn]; done) | decide +kernel
theorem ef_nf2 (m : MethodId) (x0 : Int32) : entryFrame m #[(.int x0)] 1 = mkF m 0 #[.val (.int x0)] [] := by first | (simp [entryFrame, mkF, argsToLocals, Value.category]; done) | rfl
def Qnf2 (Z : State) (h0 : Heap) (n0 : Nat) (v : Option Value) (h : Heap) (L : List Loc) : Prop := ∃ (b : Addr) (kb : ClassId), v = some (.ref b) ∧ Fr n0 L ∧ Keep h0 h [] ∧ Arv Z h b kb .byte (4 : Int32) [.int 0, .int 0, .int 0, .int 0] (.int 0) ∧ h0.size ≤ b
set_option maxRecDepth 65536 in
set_option maxHeartbeats 40000000 in
theorem rmnf2 (l : Launch) (Z : State) (a0 : Array Value) (hw : ∀ d ∈ tables_1, d.before a0 Z = true) (ws : List Jvm.Cond) (h0 : Heap) (n0 : Nat) (Z0 : n0 ≤ h0.size) :
    MetFree l (⟨"java/lang/StringUTF16", "newBytesFor", "(I)[B"⟩ : MethodName) (head1 (Jvm.Cond.code (⟨"java/lang/StringUTF16", "newBytesFor", "(I)[B"⟩ : MethodName) jdk_52_method_2_code 1 (some (.array .byte)) :: ws) ({ frames := 1, cells := 1, slots := 4, locals := 12 } : Room)) (fun a U => a = #[(.int (2 : Int32))] ∧ Z.Warmed39 U.vm ∧ U.heap = h0) (fun _ _ _ _ _ => True) (fun _ U o U' => ∃ v L, o = .returned v ∧ Qnf2 Z h0 n0 v U'.heap L ∧ FrameEnd U o U' L ({ frames := 1, cells := 1, slots := 4, locals := 12 } : Room).cells ({ frames := 1, cells := 1, slots := 4, locals := 12 } : Room).slots) := by
  refine MetFree.of_bodySF (plainFor_of_name pn_nf2) hisR ?_
  intro p e s m args below meth c s₁ Bd hml0 hP hK
  obtain ⟨rfl, hZ, hh⟩ := hP
  have hx := Bd.exec
  have hby := Bd.bytes
  have hml : c.maxLocals = 1 := hml0
  have hown : s.vm.findClass "java/lang/StringUTF16" = some m.cls := findClass_of_methodNamed Bd.named
  have hnm := (name_of_methodNamed Bd.named Bd.method).1
  have X0 : Stand p l e ({ frames := 1, cells := 1, slots := 4, locals := 12 } : Room) s m #[(.int (2 : Int32))] below meth c s₁ [] 0 0 := Stand.of_body Bd
  have e0 : s₁.heap = h0 := by rw [← hh, Bd.state]; rfl
  have N0 := Fr.nil n0
  show own_R p.tables e below (own_P s (Qnf2 Z h0 n0) ({ frames := 1, cells := 1, slots := 4, locals := 12 } : Room).cells ({ frames := 1, cells := 1, slots := 4, locals := 12 } : Room).slots) (s₁.setTop (entryFrame m #[(.int (2 : Int32))] 1))
  refine own_f s₁ (mkF m 0 #[.val (.int (2 : Int32))] []) (fun t k => castTop (ef_nf2 m (2 : Int32)) k) ?_
  refine own_f s₁ (mkF m 1 #[.val (.int (2 : Int32))] [(.int (2 : Int32))]) (fun t k => XS.iloadN X0.here hx rfl (hb hby dnf2_0) rfl k) ?_
  obtain ⟨_, _, ⟨T1, Lq1, kq_1, nq_1⟩, -, X1, ⟨Lc1, hQ1, lq1, yq1, zq1⟩, st1⟩ := Jvm.LawKit.callS X0 hx (y := (⟨"java/lang/StringUTF16", "newBytesLength", "(I)I"⟩ : MethodName)) hown (mvT hZ (own_w hw 79 rfl)) (mvT hZ (own_w hw 80 rfl)) (mvT hZ (own_w hw 19 rfl)) (mvT hZ (own_w hw 81 rfl)) (by decide) (backOf (W := 0) (rmnl2 l Z a0 hw []  h0 n0 Z0 ) hZ (own_w hw 81 rfl) (own_w hw 19 rfl) (by decide) (by decide)) (g := (mkF m 1 #[.val (.int (2 : Int32))] [(.int (2 : Int32))])) rfl (by rw [hml]; rfl) (argsL := [(.int (2 : Int32))]) (rest := []) (lenOf pd__I_I rfl) rfl (by show 2 * 0 + _ ≤ _; exact Nat.le_of_eq rfl) (hb hby dnf2_1) (fun _ _ => ⟨rfl, e0, (by decide : 0 + 0 ≤ _), (by decide : 0 + 0 ≤ _)⟩)
  dsimp only [Pt.U, Pt.locs, Pt.cells, Pt.slots] at X1 lq1 yq1 zq1 st1 hQ1
  subst lq1 yq1 zq1
  obtain ⟨h1, e1⟩ : ∃ z, T1.heap = z := ⟨_, rfl⟩
  rw [e1] at hQ1
  unfold Qnl2 at hQ1
  obtain ⟨rfl, Nq1, qh1⟩ := hQ1
  have N1 := Fr.app N0 Nq1
  rw [qh1] at e1
  refine own_f T1 (mkF m 4 #[.val (.int (2 : Int32))] [(.int (4 : Int32))]) st1 ?_
  obtain ⟨T2, h2, kA2, X2, e2, E2, A2, st2⟩ := newP X1 hx hZ (own_w hw 21 rfl) e1 (g := (mkF m 4 #[.val (.int (2 : Int32))] [(.int (4 : Int32))])) rfl (hb hby dnf2_4) rfl (by decide) (cap := 4) (by decide) (by decide) (by decide) (by decide)
  obtain ⟨b2, g2⟩ : ∃ z, z = h0.size := ⟨_, rfl⟩
  rw [← g2] at A2 st2
  have ge2 : n0 ≤ b2 := by rw [g2]; exact Z0
  have gf2 : h0.size ≤ b2 := by rw [g2]; exact (Keep.refl h0 []).1
  have Zs2 : n0 ≤ h2.size := Nat.le_trans Z0 E2.1
  have K2 : Keep h0 h2 [] := (Keep.refl h0 []).ext E2
  have F_3 : Arv Z h2 b2 kA2 .byte (4 : Int32) [.int 0, .int 0, .int 0, .int 0] (.int 0) := own_arvnew 4 A2 (by decide)
  refine own_f T2 (mkF m 6 #[.val (.int (2 : Int32))] [(.ref b2)]) st2 ?_
  obtain ⟨fs, hr, hrun, hended, hW, hsame⟩ := X2.leave (v := some (.ref b2)) (fun h => by rw [Bd.returns] at h; cases h)
  refine ⟨_, _, retOut X2 hx Bd.returns (by rfl) (Or.inr (Or.inr (Or.inr (Or.inr ⟨rfl, rfl, rfl⟩)))) (hb hby dnf2_6) hr, hrun, hended, _, _, rfl, ?_, ⟨_, rfl⟩, hW, hsame.mono (by decide) (by decide)⟩
  show Qnf2 Z h0 n0 _ T2.heap _
  rw [e2]
  exact ⟨b2, kA2, rfl, N1, K2, F_3, gf2⟩
theorem dpc2_0_0 : decode jdk_52_method_4_code 0 = .ok (.getstatic 44, 3) := by decide +kernel
theorem dpc2_0_3 : decode jdk_52_method_4_code 3 = .ok (.ifCond .ne 25, 3) := by decide +kernel
theorem dpc2_0_28 : decode jdk_52_method_4_code 28 = .ok (.iload_n 1, 1) := by decide +kernel
theorem dpc2_0_29 : decode jdk_52_method_4_code 29 = .ok (.iconst 1, 1) := by decide +kernel
theorem dpc2_0_30 : decode jdk_52_method_4_code 30 = .ok (.ishl, 1) := by decide +kernel
theorem dpc2_0_31 : decode jdk_52_method_4_code 31 = .ok (.istore_n 1, 1) := by decide +kernel
theorem dpc2_0_32 : decode jdk_52_method_4_code 32 = .ok (.aload_n 0, 1) := by decide +kernel
theorem dpc2_0_33 : decode jdk_52_method_4_code 33 = .ok (.iload_n 1, 1) := by decide +kernel
theorem dpc2_0_34 : decode jdk_52_method_4_code 34 = .ok (.iinc 1 1, 3) := by decide +kernel
theorem dpc2_0_37 : decode jdk_52_method_4_code 37 = .ok (.iload_n 2, 1) := by decide +kernel
theorem dpc2_0_38 : decode jdk_52_method_4_code 38 = .ok (.getstatic 59, 3) := by decide +kernel
theorem dpc2_0_41 : decode jdk_52_method_4_code 41 = .ok (.ishr, 1) := by decide +kernel
theorem dpc2_0_42 : decode jdk_52_method_4_code 42 = .ok (.i2b, 1) := by decide +kernel
theorem dpc2_0_43 : decode jdk_52_method_4_code 43 = .ok (.bastore, 1) := by decide +kernel
theorem dpc2_0_44 : decode jdk_52_method_4_code 44 = .ok (.aload_n 0, 1) := by decide +kernel
theorem dpc2_0_45 : decode jdk_52_method_4_code 45 = .ok (.iload_n 1, 1) := by decide +kernel
theorem dpc2_0_46 : decode jdk_52_method_4_code 46 = .ok (.iload_n 2, 1) := by decide +kernel
theorem dpc2_0_47 : decode jdk_52_method_4_code 47 = .ok (.getstatic 63, 3) := by decide +kernel
theorem dpc2_0_50 : decode jdk_52_method_4_code 50 = .ok (.ishr, 1) := by decide +kernel
theorem dpc2_0_51 : decode jdk_52_method_4_code 51 = .ok (.i2b, 1) := by decide +kernel
theorem dpc2_0_52 : decode jdk_52_method_4_code 52 = .ok (.bastore, 1) := by decide +kernel
theorem dpc2_0_53 : decode jdk_52_method_4_code 53 = .ok (.return_, 1) := by decide +kernel
theorem pn_pc2_0 : plainName "java/lang/StringUTF16" = true := by first | (simp [plainName, overriddenIn]; done) | decide +kernel
theorem ef_pc2_0 (m : MethodId) (x0 : Addr) (x1 : Int32) (x2 : Int32) : entryFrame m #[(.ref x0), (.int x1), (.int x2)] 3 = mkF m 0 #[.val (.ref x0), .val (.int x1), .val (.int x2)] [] := by first | (simp [entryFrame, mkF, argsToLocals, Value.category]; done) | rfl
def Qpc2_0 (Z : State) (a1 : Addr) (k1 : ClassId) (cc : Int32) (e0_ : Int32) (e1_ : Int32) (e2_ : Int32) (e3_ : Int32) (h0 : Heap) (n0 : Nat) (v : Option Value) (h : Heap) (L : List Loc) : Prop := v = none ∧ Fr n0 L ∧ Keep h0 h [a1] ∧ Arv Z h a1 k1 .byte (4 : Int32) [.int ((cc >>> ((0 : Int32) &&& 31)).toInt8.toInt32), .int ((cc >>> ((8 : Int32) &&& 31)).toInt8.toInt32), .int e2_, .int e3_] (.int 0)
set_option maxRecDepth 65536 in
set_option maxHeartbeats 40000000 in
theorem rmpc2_0 (l : Launch) (Z : State) (a0 : Array Value) (hw : ∀ d ∈ tables_1, d.before a0 Z = true) (ws : List Jvm.Cond) (a1 : Addr) (k1 : ClassId) (cc : Int32) (e0_ : Int32) (e1_ : Int32) (e2_ : Int32) (e3_ : Int32) (h0 : Heap) (n0 : Nat) (Z0 : n0 ≤ h0.size) (F0 : Old Z n0 h0) (F1 : Arv Z h0 a1 k1 .byte (4 : Int32) [.int e0_, .int e1_, .int e2_, .int e3_] (.int 0)) (ge_a1 : n0 ≤ a1) (SH : Sta Z Z.heap "java/lang/StringUTF16" "HI_BYTE_SHIFT" "I" (.int (0 : Int32))) (SL : Sta Z Z.heap "java/lang/StringUTF16" "LO_BYTE_SHIFT" "I" (.int (8 : Int32))) (SA : Sta Z Z.heap "java/lang/StringUTF16" "$assertionsDisabled" "Z" (.int (1 : Int32))) :
    MetFree l (⟨"java/lang/StringUTF16", "putChar", "([BII)V"⟩ : MethodName) (head1 (Jvm.Cond.code (⟨"java/lang/StringUTF16", "putChar", "([BII)V"⟩ : MethodName) jdk_52_method_4_code 3 none :: ws) ({ frames := 0, cells := 0, slots := 0, locals := 0 } : Room)) (fun a U => a = #[(.ref a1), (.int (0 : Int32)), (.int cc)] ∧ Z.Warmed39 U.vm ∧ U.heap = h0) (fun _ _ _ _ _ => True) (fun _ U o U' => ∃ v L, o = .returned v ∧ Qpc2_0 Z a1 k1 cc e0_ e1_ e2_ e3_ h0 n0 v U'.heap L ∧ FrameEnd U o U' L ({ frames := 0, cells := 0, slots := 0, locals := 0 } : Room).cells ({ frames := 0, cells := 0, slots := 0, locals := 0 } : Room).slots) := by
  refine MetFree.of_bodySF (plainFor_of_name pn_pc2_0) hisR ?_
  intro p e s m args below meth c s₁ Bd hml0 hP hK
  obtain ⟨rfl, hZ, hh⟩ := hP
  have hx := Bd.exec
  have hby := Bd.bytes
  have hml : c.maxLocals = 3 := hml0
  have hown : s.vm.findClass "java/lang/StringUTF16" = some m.cls := findClass_of_methodNamed Bd.named
  have hnm := (name_of_methodNamed Bd.named Bd.method).1
  have X0 : Stand p l e ({ frames := 0, cells := 0, slots := 0, locals := 0 } : Room) s m #[(.ref a1), (.int (0 : Int32)), (.int cc)] below meth c s₁ [] 0 0 := Stand.of_body Bd
  have e0 : s₁.heap = h0 := by rw [← hh, Bd.state]; rfl
  have N0 := Fr.nil n0
  show own_R p.tables e below (own_P s (Qpc2_0 Z a1 k1 cc e0_ e1_ e2_ e3_ h0 n0) ({ frames := 0, cells := 0, slots := 0, locals := 0 } : Room).cells ({ frames := 0, cells := 0, slots := 0, locals := 0 } : Room).slots) (s₁.setTop (entryFrame m #[(.ref a1), (.int (0 : Int32)), (.int cc)] 3))
  refine own_f s₁ (mkF m 0 #[.val (.ref a1), .val (.int (0 : Int32)), .val (.int cc)] []) (fun t k => castTop (ef_pc2_0 m a1 (0 : Int32) cc) k) ?_
  have S1 : Sta Z h0 "java/lang/StringUTF16" "$assertionsDisabled" "Z" (.int (1 : Int32)) := SA.ext F0.2
  obtain ⟨T1, X1, e1, st1⟩ := getS X0 hx hZ (host := "") hown (own_w hw 86 rfl) Via.refl e0 S1 (g := (mkF m 0 #[.val (.ref a1), .val (.int (0 : Int32)), .val (.int cc)] [])) rfl (hb hby dpc2_0_0)
  refine own_f T1 (mkF m 3 #[.val (.ref a1), .val (.int (0 : Int32)), .val (.int cc)] [(.int (1 : Int32))]) st1 ?_
  refine own_f T1 (mkF m 28 #[.val (.ref a1), .val (.int (0 : Int32)), .val (.int cc)] []) (fun t k => XS.ifYes X1.here hx rfl (pc0 := 3) (pc' := 28) rfl (hb hby dpc2_0_3) rfl (XT.i0_ne_t (by decide)) (by decide) (by decide) k) ?_
  refine own_step (fun t k => XS.iloadN X1.here hx rfl (hb hby dpc2_0_28) rfl k) ?_
  refine own_step (fun t k => XT.iconstV X1.here hx rfl (1 : Int32) (hb hby dpc2_0_29) (by decide) k) ?_
  refine own_f T1 (mkF m 31 #[.val (.ref a1), .val (.int (0 : Int32)), .val (.int cc)] [(.int ((0 : Int32) <<< ((1 : Int32) &&& 31)))]) (fun t k => XS.ishl X1.here hx rfl (hb hby dpc2_0_30) rfl k) ?_
  rw [show ((0 : Int32) <<< ((1 : Int32) &&& 31)) = (0 : Int32) from by decide]
  refine own_f T1 (mkF m 32 #[.val (.ref a1), .val (.int (0 : Int32)), .val (.int cc)] []) (fun t k => XS.istoreN X1.here hx rfl (hb hby dpc2_0_31) rfl (l' := #[.val (.ref a1), .val (.int (0 : Int32)), .val (.int cc)]) rfl k) ?_
  refine own_step (fun t k => XS.aloadN X1.here hx rfl (hb hby dpc2_0_32) rfl rfl k) ?_
  refine own_f T1 (mkF m 34 #[.val (.ref a1), .val (.int (0 : Int32)), .val (.int cc)] [(.int (0 : Int32)), (.ref a1)]) (fun t k => XS.iloadN X1.here hx rfl (hb hby dpc2_0_33) rfl k) ?_
  refine own_f T1 (mkF m 37 #[.val (.ref a1), .val (.int ((0 : Int32) + (1 : Int32))), .val (.int cc)] [(.int (0 : Int32)), (.ref a1)]) (fun t k => XT.iincV X1.here hx rfl (l' := #[.val (.ref a1), .val (.int ((0 : Int32) + (1 : Int32))), .val (.int cc)]) (1 : Int32) (hb hby dpc2_0_34) (by decide) rfl rfl k) ?_
  rw [show ((0 : Int32) + (1 : Int32)) = (1 : Int32) from by decide]
  refine own_f T1 (mkF m 38 #[.val (.ref a1), .val (.int (1 : Int32)), .val (.int cc)] [(.int cc), (.int (0 : Int32)), (.ref a1)]) (fun t k => XS.iloadN X1.here hx rfl (hb hby dpc2_0_37) rfl k) ?_
  have S2 : Sta Z h0 "java/lang/StringUTF16" "HI_BYTE_SHIFT" "I" (.int (0 : Int32)) := SH.ext F0.2
  obtain ⟨T2, X2, e2, st2⟩ := getS X1 hx hZ (host := "") hown (own_w hw 87 rfl) Via.refl e1 S2 (g := (mkF m 38 #[.val (.ref a1), .val (.int (1 : Int32)), .val (.int cc)] [(.int cc), (.int (0 : Int32)), (.ref a1)])) rfl (hb hby dpc2_0_38)
  refine own_f T2 (mkF m 41 #[.val (.ref a1), .val (.int (1 : Int32)), .val (.int cc)] [(.int (0 : Int32)), (.int cc), (.int (0 : Int32)), (.ref a1)]) st2 ?_
  refine own_f T2 (mkF m 42 #[.val (.ref a1), .val (.int (1 : Int32)), .val (.int cc)] [(.int (cc >>> ((0 : Int32) &&& 31))), (.int (0 : Int32)), (.ref a1)]) (fun t k => XS.ishr X2.here hx rfl (hb hby dpc2_0_41) rfl k) ?_
  refine own_f T2 (mkF m 43 #[.val (.ref a1), .val (.int (1 : Int32)), .val (.int cc)] [(.int ((cc >>> ((0 : Int32) &&& 31)).toInt8.toInt32)), (.int (0 : Int32)), (.ref a1)]) (fun t k => XS.i2b X2.here hx rfl (hb hby dpc2_0_42) rfl k) ?_
  obtain ⟨cl3, Ar3, q13, Sz3, q33, Hs3, Gs3⟩ := id F1
  obtain ⟨T3, h3, X3, e3, W3, st3⟩ := stB X2 hx hZ e2 Ar3 (j := (0 : Int32)) (inb_of Sz3 ⟨by decide, by decide⟩) (g := (mkF m 43 #[.val (.ref a1), .val (.int (1 : Int32)), .val (.int cc)] [(.int ((cc >>> ((0 : Int32) &&& 31)).toInt8.toInt32)), (.int (0 : Int32)), (.ref a1)])) rfl rfl (hb hby dpc2_0_43)
  have N3 := Fr.snoc X3 N0 ge_a1
  have Zs3 : n0 ≤ h3.size := by rw [W3.size]; exact Z0
  have K3 : Keep h0 h3 [a1] := (Keep.refl h0 [a1]).wr W3 (Or.inl (by simp))
  have F_4 := F0.wr W3 ge_a1
  have F_5 : Arv Z h3 a1 k1 .byte (4 : Int32) [.int ((cc >>> ((0 : Int32) &&& 31)).toInt8.toInt32), .int e1_, .int e2_, .int e3_] (.int 0) := Arv.set Ar3 q13 Sz3 q33 Hs3 Gs3 (by rw [← ((own_narB _) : nar .byte ((cc >>> ((0 : Int32) &&& 31)).toInt8.toInt32) = ((cc >>> ((0 : Int32) &&& 31)).toInt8.toInt32))]; exact own_fitB _) (by rw [((own_narB _) : nar .byte ((cc >>> ((0 : Int32) &&& 31)).toInt8.toInt32) = ((cc >>> ((0 : Int32) &&& 31)).toInt8.toInt32))] at W3; exact W3) 0 (by decide) (by simp)
  refine own_f T3 (mkF m 44 #[.val (.ref a1), .val (.int (1 : Int32)), .val (.int cc)] []) st3 ?_
  refine own_step (fun t k => XS.aloadN X3.here hx rfl (hb hby dpc2_0_44) rfl rfl k) ?_
  refine own_step (fun t k => XS.iloadN X3.here hx rfl (hb hby dpc2_0_45) rfl k) ?_
  refine own_f T3 (mkF m 47 #[.val (.ref a1), .val (.int (1 : Int32)), .val (.int cc)] [(.int cc), (.int (1 : Int32)), (.ref a1)]) (fun t k => XS.iloadN X3.here hx rfl (hb hby dpc2_0_46) rfl k) ?_
  have S6 : Sta Z h3 "java/lang/StringUTF16" "LO_BYTE_SHIFT" "I" (.int (8 : Int32)) := SL.ext F_4.2
  obtain ⟨T6, X6, e6, st6⟩ := getS X3 hx hZ (host := "") hown (own_w hw 88 rfl) Via.refl e3 S6 (g := (mkF m 47 #[.val (.ref a1), .val (.int (1 : Int32)), .val (.int cc)] [(.int cc), (.int (1 : Int32)), (.ref a1)])) rfl (hb hby dpc2_0_47)
  refine own_f T6 (mkF m 50 #[.val (.ref a1), .val (.int (1 : Int32)), .val (.int cc)] [(.int (8 : Int32)), (.int cc), (.int (1 : Int32)), (.ref a1)]) st6 ?_
  refine own_f T6 (mkF m 51 #[.val (.ref a1), .val (.int (1 : Int32)), .val (.int cc)] [(.int (cc >>> ((8 : Int32) &&& 31))), (.int (1 : Int32)), (.ref a1)]) (fun t k => XS.ishr X6.here hx rfl (hb hby dpc2_0_50) rfl k) ?_
  refine own_f T6 (mkF m 52 #[.val (.ref a1), .val (.int (1 : Int32)), .val (.int cc)] [(.int ((cc >>> ((8 : Int32) &&& 31)).toInt8.toInt32)), (.int (1 : Int32)), (.ref a1)]) (fun t k => XS.i2b X6.here hx rfl (hb hby dpc2_0_51) rfl k) ?_
  obtain ⟨cl7, Ar7, q17, Sz7, q37, Hs7, Gs7⟩ := id F_5
  obtain ⟨T7, h7, X7, e7, W7, st7⟩ := stB X6 hx hZ e6 Ar7 (j := (1 : Int32)) (inb_of Sz7 ⟨by decide, by decide⟩) (g := (mkF m 52 #[.val (.ref a1), .val (.int (1 : Int32)), .val (.int cc)] [(.int ((cc >>> ((8 : Int32) &&& 31)).toInt8.toInt32)), (.int (1 : Int32)), (.ref a1)])) rfl rfl (hb hby dpc2_0_52)
  have N7 := Fr.snoc X7 N3 ge_a1
  have Zs7 : n0 ≤ h7.size := by rw [W7.size]; exact Zs3
  have K7 : Keep h0 h7 [a1] := K3.wr W7 (Or.inl (by simp))
  have F_8 := F_4.wr W7 ge_a1
  have F_9 : Arv Z h7 a1 k1 .byte (4 : Int32) [.int ((cc >>> ((0 : Int32) &&& 31)).toInt8.toInt32), .int ((cc >>> ((8 : Int32) &&& 31)).toInt8.toInt32), .int e2_, .int e3_] (.int 0) := Arv.set Ar7 q17 Sz7 q37 Hs7 Gs7 (by rw [← ((own_narB _) : nar .byte ((cc >>> ((8 : Int32) &&& 31)).toInt8.toInt32) = ((cc >>> ((8 : Int32) &&& 31)).toInt8.toInt32))]; exact own_fitB _) (by rw [((own_narB _) : nar .byte ((cc >>> ((8 : Int32) &&& 31)).toInt8.toInt32) = ((cc >>> ((8 : Int32) &&& 31)).toInt8.toInt32))] at W7; exact W7) 1 (by decide) (by simp)
  refine own_f T7 (mkF m 53 #[.val (.ref a1), .val (.int (1 : Int32)), .val (.int cc)] []) st7 ?_
  obtain ⟨fs, hr, hrun, hended, hW, hsame⟩ := X7.leave (v := none) (fun _ => rfl)
  refine ⟨_, _, X7.returnOut hx Bd.returns (hb hby dpc2_0_53) hr, hrun, hended, _, _, rfl, ?_, ⟨_, rfl⟩, hW, hsame.mono (by decide) (by decide)⟩
  show Qpc2_0 Z a1 k1 cc e0_ e1_ e2_ e3_ h0 n0 _ T7.heap _
  rw [e7]
  exact ⟨rfl, N7, K7, F_9⟩
theorem dpc2_1_0 : decode jdk_52_method_4_code 0 = .ok (.getstatic 44, 3) := by decide +kernel
theorem dpc2_1_3 : decode jdk_52_method_4_code 3 = .ok (.ifCond .ne 25, 3) := by decide +kernel
theorem dpc2_1_28 : decode jdk_52_method_4_code 28 = .ok (.iload_n 1, 1) := by decide +kernel
theorem dpc2_1_29 : decode jdk_52_method_4_code 29 = .ok (.iconst 1, 1) := by decide +kernel
theorem dpc2_1_30 : decode jdk_52_method_4_code 30 = .ok (.ishl, 1) := by decide +kernel
theorem dpc2_1_31 : decode jdk_52_method_4_code 31 = .ok (.istore_n 1, 1) := by decide +kernel
theorem dpc2_1_32 : decode jdk_52_method_4_code 32 = .ok (.aload_n 0, 1) := by decide +kernel
theorem dpc2_1_33 : decode jdk_52_method_4_code 33 = .ok (.iload_n 1, 1) := by decide +kernel
theorem dpc2_1_34 : decode jdk_52_method_4_code 34 = .ok (.iinc 1 1, 3) := by decide +kernel
theorem dpc2_1_37 : decode jdk_52_method_4_code 37 = .ok (.iload_n 2, 1) := by decide +kernel
theorem dpc2_1_38 : decode jdk_52_method_4_code 38 = .ok (.getstatic 59, 3) := by decide +kernel
theorem dpc2_1_41 : decode jdk_52_method_4_code 41 = .ok (.ishr, 1) := by decide +kernel
theorem dpc2_1_42 : decode jdk_52_method_4_code 42 = .ok (.i2b, 1) := by decide +kernel
theorem dpc2_1_43 : decode jdk_52_method_4_code 43 = .ok (.bastore, 1) := by decide +kernel
theorem dpc2_1_44 : decode jdk_52_method_4_code 44 = .ok (.aload_n 0, 1) := by decide +kernel
theorem dpc2_1_45 : decode jdk_52_method_4_code 45 = .ok (.iload_n 1, 1) := by decide +kernel
theorem dpc2_1_46 : decode jdk_52_method_4_code 46 = .ok (.iload_n 2, 1) := by decide +kernel
theorem dpc2_1_47 : decode jdk_52_method_4_code 47 = .ok (.getstatic 63, 3) := by decide +kernel
theorem dpc2_1_50 : decode jdk_52_method_4_code 50 = .ok (.ishr, 1) := by decide +kernel
theorem dpc2_1_51 : decode jdk_52_method_4_code 51 = .ok (.i2b, 1) := by decide +kernel
theorem dpc2_1_52 : decode jdk_52_method_4_code 52 = .ok (.bastore, 1) := by decide +kernel
theorem dpc2_1_53 : decode jdk_52_method_4_code 53 = .ok (.return_, 1) := by decide +kernel
theorem pn_pc2_1 : plainName "java/lang/StringUTF16" = true := by first | (simp [plainName, overriddenIn]; done) | decide +kernel
theorem ef_pc2_1 (m : MethodId) (x0 : Addr) (x1 : Int32) (x2 : Int32) : entryFrame m #[(.ref x0), (.int x1), (.int x2)] 3 = mkF m 0 #[.val (.ref x0), .val (.int x1), .val (.int x2)] [] := by first | (simp [entryFrame, mkF, argsToLocals, Value.category]; done) | rfl
def Qpc2_1 (Z : State) (a1 : Addr) (k1 : ClassId) (cc : Int32) (e0_ : Int32) (e1_ : Int32) (e2_ : Int32) (e3_ : Int32) (h0 : Heap) (n0 : Nat) (v : Option Value) (h : Heap) (L : List Loc) : Prop := v = none ∧ Fr n0 L ∧ Keep h0 h [a1] ∧ Arv Z h a1 k1 .byte (4 : Int32) [.int e0_, .int e1_, .int ((cc >>> ((0 : Int32) &&& 31)).toInt8.toInt32), .int ((cc >>> ((8 : Int32) &&& 31)).toInt8.toInt32)] (.int 0)
set_option maxRecDepth 65536 in
set_option maxHeartbeats 40000000 in
theorem rmpc2_1 (l : Launch) (Z : State) (a0 : Array Value) (hw : ∀ d ∈ tables_1, d.before a0 Z = true) (ws : List Jvm.Cond) (a1 : Addr) (k1 : ClassId) (cc : Int32) (e0_ : Int32) (e1_ : Int32) (e2_ : Int32) (e3_ : Int32) (h0 : Heap) (n0 : Nat) (Z0 : n0 ≤ h0.size) (F0 : Old Z n0 h0) (F1 : Arv Z h0 a1 k1 .byte (4 : Int32) [.int e0_, .int e1_, .int e2_, .int e3_] (.int 0)) (ge_a1 : n0 ≤ a1) (SH : Sta Z Z.heap "java/lang/StringUTF16" "HI_BYTE_SHIFT" "I" (.int (0 : Int32))) (SL : Sta Z Z.heap "java/lang/StringUTF16" "LO_BYTE_SHIFT" "I" (.int (8 : Int32))) (SA : Sta Z Z.heap "java/lang/StringUTF16" "$assertionsDisabled" "Z" (.int (1 : Int32))) :
    MetFree l (⟨"java/lang/StringUTF16", "putChar", "([BII)V"⟩ : MethodName) (head1 (Jvm.Cond.code (⟨"java/lang/StringUTF16", "putChar", "([BII)V"⟩ : MethodName) jdk_52_method_4_code 3 none :: ws) ({ frames := 0, cells := 0, slots := 0, locals := 0 } : Room)) (fun a U => a = #[(.ref a1), (.int (1 : Int32)), (.int cc)] ∧ Z.Warmed39 U.vm ∧ U.heap = h0) (fun _ _ _ _ _ => True) (fun _ U o U' => ∃ v L, o = .returned v ∧ Qpc2_1 Z a1 k1 cc e0_ e1_ e2_ e3_ h0 n0 v U'.heap L ∧ FrameEnd U o U' L ({ frames := 0, cells := 0, slots := 0, locals := 0 } : Room).cells ({ frames := 0, cells := 0, slots := 0, locals := 0 } : Room).slots) := by
  refine MetFree.of_bodySF (plainFor_of_name pn_pc2_1) hisR ?_
  intro p e s m args below meth c s₁ Bd hml0 hP hK
  obtain ⟨rfl, hZ, hh⟩ := hP
  have hx := Bd.exec
  have hby := Bd.bytes
  have hml : c.maxLocals = 3 := hml0
  have hown : s.vm.findClass "java/lang/StringUTF16" = some m.cls := findClass_of_methodNamed Bd.named
  have hnm := (name_of_methodNamed Bd.named Bd.method).1
  have X0 : Stand p l e ({ frames := 0, cells := 0, slots := 0, locals := 0 } : Room) s m #[(.ref a1), (.int (1 : Int32)), (.int cc)] below meth c s₁ [] 0 0 := Stand.of_body Bd
  have e0 : s₁.heap = h0 := by rw [← hh, Bd.state]; rfl
  have N0 := Fr.nil n0
  show own_R p.tables e below (own_P s (Qpc2_1 Z a1 k1 cc e0_ e1_ e2_ e3_ h0 n0) ({ frames := 0, cells := 0, slots := 0, locals := 0 } : Room).cells ({ frames := 0, cells := 0, slots := 0, locals := 0 } : Room).slots) (s₁.setTop (entryFrame m #[(.ref a1), (.int (1 : Int32)), (.int cc)] 3))
  refine own_f s₁ (mkF m 0 #[.val (.ref a1), .val (.int (1 : Int32)), .val (.int cc)] []) (fun t k => castTop (ef_pc2_1 m a1 (1 : Int32) cc) k) ?_
  have S1 : Sta Z h0 "java/lang/StringUTF16" "$assertionsDisabled" "Z" (.int (1 : Int32)) := SA.ext F0.2
  obtain ⟨T1, X1, e1, st1⟩ := getS X0 hx hZ (host := "") hown (own_w hw 86 rfl) Via.refl e0 S1 (g := (mkF m 0 #[.val (.ref a1), .val (.int (1 : Int32)), .val (.int cc)] [])) rfl (hb hby dpc2_1_0)
  refine own_f T1 (mkF m 3 #[.val (.ref a1), .val (.int (1 : Int32)), .val (.int cc)] [(.int (1 : Int32))]) st1 ?_
  refine own_f T1 (mkF m 28 #[.val (.ref a1), .val (.int (1 : Int32)), .val (.int cc)] []) (fun t k => XS.ifYes X1.here hx rfl (pc0 := 3) (pc' := 28) rfl (hb hby dpc2_1_3) rfl (XT.i0_ne_t (by decide)) (by decide) (by decide) k) ?_
  refine own_step (fun t k => XS.iloadN X1.here hx rfl (hb hby dpc2_1_28) rfl k) ?_
  refine own_step (fun t k => XT.iconstV X1.here hx rfl (1 : Int32) (hb hby dpc2_1_29) (by decide) k) ?_
  refine own_f T1 (mkF m 31 #[.val (.ref a1), .val (.int (1 : Int32)), .val (.int cc)] [(.int ((1 : Int32) <<< ((1 : Int32) &&& 31)))]) (fun t k => XS.ishl X1.here hx rfl (hb hby dpc2_1_30) rfl k) ?_
  rw [show ((1 : Int32) <<< ((1 : Int32) &&& 31)) = (2 : Int32) from by decide]
  refine own_f T1 (mkF m 32 #[.val (.ref a1), .val (.int (2 : Int32)), .val (.int cc)] []) (fun t k => XS.istoreN X1.here hx rfl (hb hby dpc2_1_31) rfl (l' := #[.val (.ref a1), .val (.int (2 : Int32)), .val (.int cc)]) rfl k) ?_
  refine own_step (fun t k => XS.aloadN X1.here hx rfl (hb hby dpc2_1_32) rfl rfl k) ?_
  refine own_f T1 (mkF m 34 #[.val (.ref a1), .val (.int (2 : Int32)), .val (.int cc)] [(.int (2 : Int32)), (.ref a1)]) (fun t k => XS.iloadN X1.here hx rfl (hb hby dpc2_1_33) rfl k) ?_
  refine own_f T1 (mkF m 37 #[.val (.ref a1), .val (.int ((2 : Int32) + (1 : Int32))), .val (.int cc)] [(.int (2 : Int32)), (.ref a1)]) (fun t k => XT.iincV X1.here hx rfl (l' := #[.val (.ref a1), .val (.int ((2 : Int32) + (1 : Int32))), .val (.int cc)]) (1 : Int32) (hb hby dpc2_1_34) (by decide) rfl rfl k) ?_
  rw [show ((2 : Int32) + (1 : Int32)) = (3 : Int32) from by decide]
  refine own_f T1 (mkF m 38 #[.val (.ref a1), .val (.int (3 : Int32)), .val (.int cc)] [(.int cc), (.int (2 : Int32)), (.ref a1)]) (fun t k => XS.iloadN X1.here hx rfl (hb hby dpc2_1_37) rfl k) ?_
  have S2 : Sta Z h0 "java/lang/StringUTF16" "HI_BYTE_SHIFT" "I" (.int (0 : Int32)) := SH.ext F0.2
  obtain ⟨T2, X2, e2, st2⟩ := getS X1 hx hZ (host := "") hown (own_w hw 87 rfl) Via.refl e1 S2 (g := (mkF m 38 #[.val (.ref a1), .val (.int (3 : Int32)), .val (.int cc)] [(.int cc), (.int (2 : Int32)), (.ref a1)])) rfl (hb hby dpc2_1_38)
  refine own_f T2 (mkF m 41 #[.val (.ref a1), .val (.int (3 : Int32)), .val (.int cc)] [(.int (0 : Int32)), (.int cc), (.int (2 : Int32)), (.ref a1)]) st2 ?_
  refine own_f T2 (mkF m 42 #[.val (.ref a1), .val (.int (3 : Int32)), .val (.int cc)] [(.int (cc >>> ((0 : Int32) &&& 31))), (.int (2 : Int32)), (.ref a1)]) (fun t k => XS.ishr X2.here hx rfl (hb hby dpc2_1_41) rfl k) ?_
  refine own_f T2 (mkF m 43 #[.val (.ref a1), .val (.int (3 : Int32)), .val (.int cc)] [(.int ((cc >>> ((0 : Int32) &&& 31)).toInt8.toInt32)), (.int (2 : Int32)), (.ref a1)]) (fun t k => XS.i2b X2.here hx rfl (hb hby dpc2_1_42) rfl k) ?_
  obtain ⟨cl3, Ar3, q13, Sz3, q33, Hs3, Gs3⟩ := id F1
  obtain ⟨T3, h3, X3, e3, W3, st3⟩ := stB X2 hx hZ e2 Ar3 (j := (2 : Int32)) (inb_of Sz3 ⟨by decide, by decide⟩) (g := (mkF m 43 #[.val (.ref a1), .val (.int (3 : Int32)), .val (.int cc)] [(.int ((cc >>> ((0 : Int32) &&& 31)).toInt8.toInt32)), (.int (2 : Int32)), (.ref a1)])) rfl rfl (hb hby dpc2_1_43)
  have N3 := Fr.snoc X3 N0 ge_a1
  have Zs3 : n0 ≤ h3.size := by rw [W3.size]; exact Z0
  have K3 : Keep h0 h3 [a1] := (Keep.refl h0 [a1]).wr W3 (Or.inl (by simp))
  have F_4 := F0.wr W3 ge_a1
  have F_5 : Arv Z h3 a1 k1 .byte (4 : Int32) [.int e0_, .int e1_, .int ((cc >>> ((0 : Int32) &&& 31)).toInt8.toInt32), .int e3_] (.int 0) := Arv.set Ar3 q13 Sz3 q33 Hs3 Gs3 (by rw [← ((own_narB _) : nar .byte ((cc >>> ((0 : Int32) &&& 31)).toInt8.toInt32) = ((cc >>> ((0 : Int32) &&& 31)).toInt8.toInt32))]; exact own_fitB _) (by rw [((own_narB _) : nar .byte ((cc >>> ((0 : Int32) &&& 31)).toInt8.toInt32) = ((cc >>> ((0 : Int32) &&& 31)).toInt8.toInt32))] at W3; exact W3) 2 (by decide) (by simp)
  refine own_f T3 (mkF m 44 #[.val (.ref a1), .val (.int (3 : Int32)), .val (.int cc)] []) st3 ?_
  refine own_step (fun t k => XS.aloadN X3.here hx rfl (hb hby dpc2_1_44) rfl rfl k) ?_
  refine own_step (fun t k => XS.iloadN X3.here hx rfl (hb hby dpc2_1_45) rfl k) ?_
  refine own_f T3 (mkF m 47 #[.val (.ref a1), .val (.int (3 : Int32)), .val (.int cc)] [(.int cc), (.int (3 : Int32)), (.ref a1)]) (fun t k => XS.iloadN X3.here hx rfl (hb hby dpc2_1_46) rfl k) ?_
  have S6 : Sta Z h3 "java/lang/StringUTF16" "LO_BYTE_SHIFT" "I" (.int (8 : Int32)) := SL.ext F_4.2
  obtain ⟨T6, X6, e6, st6⟩ := getS X3 hx hZ (host := "") hown (own_w hw 88 rfl) Via.refl e3 S6 (g := (mkF m 47 #[.val (.ref a1), .val (.int (3 : Int32)), .val (.int cc)] [(.int cc), (.int (3 : Int32)), (.ref a1)])) rfl (hb hby dpc2_1_47)
  refine own_f T6 (mkF m 50 #[.val (.ref a1), .val (.int (3 : Int32)), .val (.int cc)] [(.int (8 : Int32)), (.int cc), (.int (3 : Int32)), (.ref a1)]) st6 ?_
  refine own_f T6 (mkF m 51 #[.val (.ref a1), .val (.int (3 : Int32)), .val (.int cc)] [(.int (cc >>> ((8 : Int32) &&& 31))), (.int (3 : Int32)), (.ref a1)]) (fun t k => XS.ishr X6.here hx rfl (hb hby dpc2_1_50) rfl k) ?_
  refine own_f T6 (mkF m 52 #[.val (.ref a1), .val (.int (3 : Int32)), .val (.int cc)] [(.int ((cc >>> ((8 : Int32) &&& 31)).toInt8.toInt32)), (.int (3 : Int32)), (.ref a1)]) (fun t k => XS.i2b X6.here hx rfl (hb hby dpc2_1_51) rfl k) ?_
  obtain ⟨cl7, Ar7, q17, Sz7, q37, Hs7, Gs7⟩ := id F_5
  obtain ⟨T7, h7, X7, e7, W7, st7⟩ := stB X6 hx hZ e6 Ar7 (j := (3 : Int32)) (inb_of Sz7 ⟨by decide, by decide⟩) (g := (mkF m 52 #[.val (.ref a1), .val (.int (3 : Int32)), .val (.int cc)] [(.int ((cc >>> ((8 : Int32) &&& 31)).toInt8.toInt32)), (.int (3 : Int32)), (.ref a1)])) rfl rfl (hb hby dpc2_1_52)
  have N7 := Fr.snoc X7 N3 ge_a1
  have Zs7 : n0 ≤ h7.size := by rw [W7.size]; exact Zs3
  have K7 : Keep h0 h7 [a1] := K3.wr W7 (Or.inl (by simp))
  have F_8 := F_4.wr W7 ge_a1
  have F_9 : Arv Z h7 a1 k1 .byte (4 : Int32) [.int e0_, .int e1_, .int ((cc >>> ((0 : Int32) &&& 31)).toInt8.toInt32), .int ((cc >>> ((8 : Int32) &&& 31)).toInt8.toInt32)] (.int 0) := Arv.set Ar7 q17 Sz7 q37 Hs7 Gs7 (by rw [← ((own_narB _) : nar .byte ((cc >>> ((8 : Int32) &&& 31)).toInt8.toInt32) = ((cc >>> ((8 : Int32) &&& 31)).toInt8.toInt32))]; exact own_fitB _) (by rw [((own_narB _) : nar .byte ((cc >>> ((8 : Int32) &&& 31)).toInt8.toInt32) = ((cc >>> ((8 : Int32) &&& 31)).toInt8.toInt32))] at W7; exact W7) 3 (by decide) (by simp)
  refine own_f T7 (mkF m 53 #[.val (.ref a1), .val (.int (3 : Int32)), .val (.int cc)] []) st7 ?_
  obtain ⟨fs, hr, hrun, hended, hW, hsame⟩ := X7.leave (v := none) (fun _ => rfl)
  refine ⟨_, _, X7.returnOut hx Bd.returns (hb hby dpc2_1_53) hr, hrun, hended, _, _, rfl, ?_, ⟨_, rfl⟩, hW, hsame.mono (by decide) (by decide)⟩
  show Qpc2_1 Z a1 k1 cc e0_ e1_ e2_ e3_ h0 n0 _ T7.heap _
  rw [e7]
  exact ⟨rfl, N7, K7, F_9⟩
theorem dtb2_0 : decode jdk_52_method_14_code 0 = .ok (.iload_n 2, 1) := by decide +kernel
theorem dtb2_1 : decode jdk_52_method_14_code 1 = .ok (.invokestatic 107, 3) := by decide +kernel
theorem dtb2_4 : decode jdk_52_method_14_code 4 = .ok (.astore_n 3, 1) := by decide +kernel
theorem dtb2_5 : decode jdk_52_method_14_code 5 = .ok (.iconst 0, 1) := by decide +kernel
theorem dtb2_6 : decode jdk_52_method_14_code 6 = .ok (.istore 4, 2) := by decide +kernel
theorem dtb2_8 : decode jdk_52_method_14_code 8 = .ok (.iload 4, 2) := by decide +kernel
theorem dtb2_10 : decode jdk_52_method_14_code 10 = .ok (.iload_n 2, 1) := by decide +kernel
theorem dtb2_11 : decode jdk_52_method_14_code 11 = .ok (.if_icmp .ge 21, 3) := by decide +kernel
theorem dtb2_14 : decode jdk_52_method_14_code 14 = .ok (.aload_n 3, 1) := by decide +kernel
theorem dtb2_15 : decode jdk_52_method_14_code 15 = .ok (.iload 4, 2) := by decide +kernel
theorem dtb2_17 : decode jdk_52_method_14_code 17 = .ok (.aload_n 0, 1) := by decide +kernel
theorem dtb2_18 : decode jdk_52_method_14_code 18 = .ok (.iload_n 1, 1) := by decide +kernel
theorem dtb2_19 : decode jdk_52_method_14_code 19 = .ok (.caload, 1) := by decide +kernel
theorem dtb2_20 : decode jdk_52_method_14_code 20 = .ok (.invokestatic 111, 3) := by decide +kernel
theorem dtb2_23 : decode jdk_52_method_14_code 23 = .ok (.iinc 1 1, 3) := by decide +kernel
theorem dtb2_26 : decode jdk_52_method_14_code 26 = .ok (.iinc 4 1, 3) := by decide +kernel
theorem dtb2_29 : decode jdk_52_method_14_code 29 = .ok (.goto (-21), 3) := by decide +kernel
theorem dtb2_32 : decode jdk_52_method_14_code 32 = .ok (.aload_n 3, 1) := by decide +kernel
theorem dtb2_33 : decode jdk_52_method_14_code 33 = .ok (.areturn, 1) := by decide +kernel
theorem pn_tb2 : plainName "java/lang/StringUTF16" = true := by first | (simp [plainName, overriddenIn]; done) | decide +kernel
theorem ef_tb2 (m : MethodId) (x0 : Addr) (x1 : Int32) (x2 : Int32) : entryFrame m #[(.ref x0), (.int x1), (.int x2)] 5 = mkF m 0 #[.val (.ref x0), .val (.int x1), .val (.int x2), .unset, .unset] [] := by first | (simp [entryFrame, mkF, argsToLocals, Value.category]; done) | rfl
def Qtb2 (Z : State) (a1 : Addr) (k1 : ClassId) (c0 : Int32) (c1 : Int32) (h0 : Heap) (n0 : Nat) (v : Option Value) (h : Heap) (L : List Loc) : Prop := ∃ (b : Addr) (kb : ClassId), v = some (.ref b) ∧ Fr n0 L ∧ Keep h0 h [] ∧ Arv Z h b kb .byte (4 : Int32) [.int ((c0 >>> ((0 : Int32) &&& 31)).toInt8.toInt32), .int ((c0 >>> ((8 : Int32) &&& 31)).toInt8.toInt32), .int ((c1 >>> ((0 : Int32) &&& 31)).toInt8.toInt32), .int ((c1 >>> ((8 : Int32) &&& 31)).toInt8.toInt32)] (.int 0) ∧ h0.size ≤ b
set_option maxRecDepth 65536 in
set_option maxHeartbeats 40000000 in
theorem rmtb2 (l : Launch) (Z : State) (a0 : Array Value) (hw : ∀ d ∈ tables_1, d.before a0 Z = true) (ws : List Jvm.Cond) (a1 : Addr) (k1 : ClassId) (c0 : Int32) (c1 : Int32) (h0 : Heap) (n0 : Nat) (Z0 : n0 ≤ h0.size) (F0 : Old Z n0 h0) (F1 : Arv Z h0 a1 k1 .char (2 : Int32) [.int c0, .int c1] (.int 0)) (SH : Sta Z Z.heap "java/lang/StringUTF16" "HI_BYTE_SHIFT" "I" (.int (0 : Int32))) (SL : Sta Z Z.heap "java/lang/StringUTF16" "LO_BYTE_SHIFT" "I" (.int (8 : Int32))) (SA : Sta Z Z.heap "java/lang/StringUTF16" "$assertionsDisabled" "Z" (.int (1 : Int32))) :
    MetFree l (⟨"java/lang/StringUTF16", "toBytes", "([CII)[B"⟩ : MethodName) (head1 (Jvm.Cond.code (⟨"java/lang/StringUTF16", "toBytes", "([CII)[B"⟩ : MethodName) jdk_52_method_14_code 5 (some (.array .byte)) :: ws) ({ frames := 2, cells := 1, slots := 4, locals := 24 } : Room)) (fun a U => a = #[(.ref a1), (.int (0 : Int32)), (.int (2 : Int32))] ∧ Z.Warmed39 U.vm ∧ U.heap = h0) (fun _ _ _ _ _ => True) (fun _ U o U' => ∃ v L, o = .returned v ∧ Qtb2 Z a1 k1 c0 c1 h0 n0 v U'.heap L ∧ FrameEnd U o U' L ({ frames := 2, cells := 1, slots := 4, locals := 24 } : Room).cells ({ frames := 2, cells := 1, slots := 4, locals := 24 } : Room).slots) := by
  refine MetFree.of_bodySF (plainFor_of_name pn_tb2) hisR ?_
  intro p e s m args below meth c s₁ Bd hml0 hP hK
  obtain ⟨rfl, hZ, hh⟩ := hP
  have hx := Bd.exec
  have hby := Bd.bytes
  have hml : c.maxLocals = 5 := hml0
  have hown : s.vm.findClass "java/lang/StringUTF16" = some m.cls := findClass_of_methodNamed Bd.named
  have hnm := (name_of_methodNamed Bd.named Bd.method).1
  have X0 : Stand p l e ({ frames := 2, cells := 1, slots := 4, locals := 24 } : Room) s m #[(.ref a1), (.int (0 : Int32)), (.int (2 : Int32))] below meth c s₁ [] 0 0 := Stand.of_body Bd
  have e0 : s₁.heap = h0 := by rw [← hh, Bd.state]; rfl
  have N0 := Fr.nil n0
  show own_R p.tables e below (own_P s (Qtb2 Z a1 k1 c0 c1 h0 n0) ({ frames := 2, cells := 1, slots := 4, locals := 24 } : Room).cells ({ frames := 2, cells := 1, slots := 4, locals := 24 } : Room).slots) (s₁.setTop (entryFrame m #[(.ref a1), (.int (0 : Int32)), (.int (2 : Int32))] 5))
  refine own_f s₁ (mkF m 0 #[.val (.ref a1), .val (.int (0 : Int32)), .val (.int (2 : Int32)), .unset, .unset] []) (fun t k => castTop (ef_tb2 m a1 (0 : Int32) (2 : Int32)) k) ?_
  refine own_f s₁ (mkF m 1 #[.val (.ref a1), .val (.int (0 : Int32)), .val (.int (2 : Int32)), .unset, .unset] [(.int (2 : Int32))]) (fun t k => XS.iloadN X0.here hx rfl (hb hby dtb2_0) rfl k) ?_
  obtain ⟨_, _, ⟨T1, Lq1, kq_1, nq_1⟩, -, X1, ⟨Lc1, hQ1, lq1, yq1, zq1⟩, st1⟩ := Jvm.LawKit.callS X0 hx (y := (⟨"java/lang/StringUTF16", "newBytesFor", "(I)[B"⟩ : MethodName)) hown (mvT hZ (own_w hw 76 rfl)) (mvT hZ (own_w hw 77 rfl)) (mvT hZ (own_w hw 19 rfl)) (mvT hZ (own_w hw 78 rfl)) (by decide) (backOf (W := 0) (rmnf2 l Z a0 hw []  h0 n0 Z0 ) hZ (own_w hw 78 rfl) (own_w hw 19 rfl) (by decide) (by decide)) (g := (mkF m 1 #[.val (.ref a1), .val (.int (0 : Int32)), .val (.int (2 : Int32)), .unset, .unset] [(.int (2 : Int32))])) rfl (by rw [hml]; rfl) (argsL := [(.int (2 : Int32))]) (rest := []) (lenOf pd__I_B rfl) rfl (by show 2 * 0 + _ ≤ _; exact Nat.le_of_eq rfl) (hb hby dtb2_1) (fun _ _ => ⟨rfl, e0, (by decide : 0 + 1 ≤ _), (by decide : 0 + 4 ≤ _)⟩)
  dsimp only [Pt.U, Pt.locs, Pt.cells, Pt.slots] at X1 lq1 yq1 zq1 st1 hQ1
  subst lq1 yq1 zq1
  obtain ⟨h1, e1⟩ : ∃ z, T1.heap = z := ⟨_, rfl⟩
  rw [e1] at hQ1
  unfold Qnf2 at hQ1
  obtain ⟨b1, kb1, rfl, Nq1, qh1, G1_0, H1_0⟩ := hQ1
  have N1 := Fr.app N0 Nq1
  have Zs1 : n0 ≤ h1.size := Nat.le_trans Z0 qh1.1
  have F_2 := F0.keep qh1 all0
  have F_3 := F1.keep qh1 nin0
  have K1 : Keep h0 h1 [] := (Keep.refl h0 []).trans qh1 all0
  have ne1_a1 : a1 ≠ b1 := Nat.ne_of_lt (Nat.lt_of_lt_of_le F1.lt H1_0)
  have ge1 : n0 ≤ b1 := Nat.le_trans Z0 H1_0
  have gf1 : h0.size ≤ b1 := Nat.le_trans (Keep.refl h0 []).1 H1_0
  refine own_f T1 (mkF m 4 #[.val (.ref a1), .val (.int (0 : Int32)), .val (.int (2 : Int32)), .unset, .unset] [(.ref b1)]) st1 ?_
  refine own_f T1 (mkF m 5 #[.val (.ref a1), .val (.int (0 : Int32)), .val (.int (2 : Int32)), .val (.ref b1), .unset] []) (fun t k => XS.astoreN X1.here hx rfl (hb hby dtb2_4) rfl rfl (l' := #[.val (.ref a1), .val (.int (0 : Int32)), .val (.int (2 : Int32)), .val (.ref b1), .unset]) rfl k) ?_
  refine own_step (fun t k => XT.iconstV X1.here hx rfl (0 : Int32) (hb hby dtb2_5) (by decide) k) ?_
  refine own_f T1 (mkF m 8 #[.val (.ref a1), .val (.int (0 : Int32)), .val (.int (2 : Int32)), .val (.ref b1), .val (.int (0 : Int32))] []) (fun t k => XS.istore X1.here hx rfl (hb hby dtb2_6) rfl (l' := #[.val (.ref a1), .val (.int (0 : Int32)), .val (.int (2 : Int32)), .val (.ref b1), .val (.int (0 : Int32))]) rfl k) ?_
  refine own_step (fun t k => XS.iload X1.here hx rfl (hb hby dtb2_8) rfl k) ?_
  refine own_step (fun t k => XS.iloadN X1.here hx rfl (hb hby dtb2_10) rfl k) ?_
  refine own_f T1 (mkF m 14 #[.val (.ref a1), .val (.int (0 : Int32)), .val (.int (2 : Int32)), .val (.ref b1), .val (.int (0 : Int32))] []) (fun t k => XS.icmpNo X1.here hx rfl (hb hby dtb2_11) rfl (XT.ii_ge_f (by decide)) k) ?_
  refine own_step (fun t k => XS.aloadN X1.here hx rfl (hb hby dtb2_14) rfl rfl k) ?_
  refine own_step (fun t k => XS.iload X1.here hx rfl (hb hby dtb2_15) rfl k) ?_
  refine own_step (fun t k => XS.aloadN X1.here hx rfl (hb hby dtb2_17) rfl rfl k) ?_
  refine own_f T1 (mkF m 19 #[.val (.ref a1), .val (.int (0 : Int32)), .val (.int (2 : Int32)), .val (.ref b1), .val (.int (0 : Int32))] [(.int (0 : Int32)), (.ref a1), (.int (0 : Int32)), (.ref b1)]) (fun t k => XS.iloadN X1.here hx rfl (hb hby dtb2_18) rfl k) ?_
  obtain ⟨cl4, Ar4, q14, Sz4, q34, Hs4, Gs4⟩ := id F_3
  have hi4 := inb_of (j := (0 : Int32)) Sz4 ⟨by decide, by decide⟩
  refine own_f T1 (mkF m 20 #[.val (.ref a1), .val (.int (0 : Int32)), .val (.int (2 : Int32)), .val (.ref b1), .val (.int (0 : Int32))] [(.int c0), (.int (0 : Int32)), (.ref b1)]) (fun t k => X1.caload hx (j := (0 : Int32)) (v := (.int c0)) (by rw [e1]; exact Ar4.1) (State.isArrayOf_alike hZ.alike Ar4.2.1) Ar4.2.2 hi4 (Has.at Hs4 hi4 rfl) (g := (mkF m 19 #[.val (.ref a1), .val (.int (0 : Int32)), .val (.int (2 : Int32)), .val (.ref b1), .val (.int (0 : Int32))] [(.int (0 : Int32)), (.ref a1), (.int (0 : Int32)), (.ref b1)])) rfl rfl (hb hby dtb2_19) t k) ?_
  obtain ⟨_, _, ⟨T5, Lq5, kq_5, nq_5⟩, -, X5, ⟨Lc5, hQ5, lq5, yq5, zq5⟩, st5⟩ := Jvm.LawKit.callS X1 hx (y := (⟨"java/lang/StringUTF16", "putChar", "([BII)V"⟩ : MethodName)) hown (mvT hZ (own_w hw 83 rfl)) (mvT hZ (own_w hw 84 rfl)) (mvT hZ (own_w hw 19 rfl)) (mvT hZ (own_w hw 85 rfl)) (by decide) (backOf (W := 0) (rmpc2_0 l Z a0 hw [] b1 _ c0 _ _ _ _ h1 n0 Zs1 F_2 G1_0 ge1 SH SL SA) hZ (own_w hw 85 rfl) (own_w hw 19 rfl) (by decide) (by decide)) (g := (mkF m 20 #[.val (.ref a1), .val (.int (0 : Int32)), .val (.int (2 : Int32)), .val (.ref b1), .val (.int (0 : Int32))] [(.int c0), (.int (0 : Int32)), (.ref b1)])) rfl (by rw [hml]; rfl) (argsL := [(.ref b1), (.int (0 : Int32)), (.int c0)]) (rest := []) (lenOf pd__BII_V rfl) rfl (by show 2 * 0 + _ ≤ _; exact Nat.le_of_eq rfl) (hb hby dtb2_20) (fun _ _ => ⟨rfl, e1, (by decide : 0 + 1 + 0 ≤ _), (by decide : 0 + 4 + 0 ≤ _)⟩)
  dsimp only [Pt.U, Pt.locs, Pt.cells, Pt.slots] at X5 lq5 yq5 zq5 st5 hQ5
  subst lq5 yq5 zq5
  obtain ⟨h5, e5⟩ : ∃ z, T5.heap = z := ⟨_, rfl⟩
  rw [e5] at hQ5
  unfold Qpc2_0 at hQ5
  obtain ⟨rfl, Nq5, qh5, G5_0⟩ := hQ5
  have N5 := Fr.app N1 Nq5
  have Zs5 : n0 ≤ h5.size := Nat.le_trans Zs1 qh5.1
  have F_6 := F_2.keep qh5 (allS ge1 all0)
  have F_7 := F_3.keep qh5 (ninS ne1_a1 nin0)
  have K5 : Keep h0 h5 [] := K1.trans qh5 (allS (Or.inr gf1) all0)
  refine own_f T5 (mkF m 23 #[.val (.ref a1), .val (.int (0 : Int32)), .val (.int (2 : Int32)), .val (.ref b1), .val (.int (0 : Int32))] []) st5 ?_
  refine own_f T5 (mkF m 26 #[.val (.ref a1), .val (.int ((0 : Int32) + (1 : Int32))), .val (.int (2 : Int32)), .val (.ref b1), .val (.int (0 : Int32))] []) (fun t k => XT.iincV X5.here hx rfl (l' := #[.val (.ref a1), .val (.int ((0 : Int32) + (1 : Int32))), .val (.int (2 : Int32)), .val (.ref b1), .val (.int (0 : Int32))]) (1 : Int32) (hb hby dtb2_23) (by decide) rfl rfl k) ?_
  rw [show ((0 : Int32) + (1 : Int32)) = (1 : Int32) from by decide]
  refine own_f T5 (mkF m 29 #[.val (.ref a1), .val (.int (1 : Int32)), .val (.int (2 : Int32)), .val (.ref b1), .val (.int ((0 : Int32) + (1 : Int32)))] []) (fun t k => XT.iincV X5.here hx rfl (l' := #[.val (.ref a1), .val (.int (1 : Int32)), .val (.int (2 : Int32)), .val (.ref b1), .val (.int ((0 : Int32) + (1 : Int32)))]) (1 : Int32) (hb hby dtb2_26) (by decide) rfl rfl k) ?_
  rw [show ((0 : Int32) + (1 : Int32)) = (1 : Int32) from by decide]
  refine own_step (fun t k => XS.goto X5.here hx rfl (pc0 := 29) (pc' := 8) rfl (hb hby dtb2_29) (by decide) (by decide) k) ?_
  refine own_step (fun t k => XS.iload X5.here hx rfl (hb hby dtb2_8) rfl k) ?_
  refine own_step (fun t k => XS.iloadN X5.here hx rfl (hb hby dtb2_10) rfl k) ?_
  refine own_f T5 (mkF m 14 #[.val (.ref a1), .val (.int (1 : Int32)), .val (.int (2 : Int32)), .val (.ref b1), .val (.int (1 : Int32))] []) (fun t k => XS.icmpNo X5.here hx rfl (hb hby dtb2_11) rfl (XT.ii_ge_f (by decide)) k) ?_
  refine own_step (fun t k => XS.aloadN X5.here hx rfl (hb hby dtb2_14) rfl rfl k) ?_
  refine own_step (fun t k => XS.iload X5.here hx rfl (hb hby dtb2_15) rfl k) ?_
  refine own_step (fun t k => XS.aloadN X5.here hx rfl (hb hby dtb2_17) rfl rfl k) ?_
  refine own_f T5 (mkF m 19 #[.val (.ref a1), .val (.int (1 : Int32)), .val (.int (2 : Int32)), .val (.ref b1), .val (.int (1 : Int32))] [(.int (1 : Int32)), (.ref a1), (.int (1 : Int32)), (.ref b1)]) (fun t k => XS.iloadN X5.here hx rfl (hb hby dtb2_18) rfl k) ?_
  obtain ⟨cl8, Ar8, q18, Sz8, q38, Hs8, Gs8⟩ := id F_7
  have hi8 := inb_of (j := (1 : Int32)) Sz8 ⟨by decide, by decide⟩
  refine own_f T5 (mkF m 20 #[.val (.ref a1), .val (.int (1 : Int32)), .val (.int (2 : Int32)), .val (.ref b1), .val (.int (1 : Int32))] [(.int c1), (.int (1 : Int32)), (.ref b1)]) (fun t k => X5.caload hx (j := (1 : Int32)) (v := (.int c1)) (by rw [e5]; exact Ar8.1) (State.isArrayOf_alike hZ.alike Ar8.2.1) Ar8.2.2 hi8 (Has.at Hs8 hi8 rfl) (g := (mkF m 19 #[.val (.ref a1), .val (.int (1 : Int32)), .val (.int (2 : Int32)), .val (.ref b1), .val (.int (1 : Int32))] [(.int (1 : Int32)), (.ref a1), (.int (1 : Int32)), (.ref b1)])) rfl rfl (hb hby dtb2_19) t k) ?_
  obtain ⟨_, _, ⟨T9, Lq9, kq_9, nq_9⟩, -, X9, ⟨Lc9, hQ9, lq9, yq9, zq9⟩, st9⟩ := Jvm.LawKit.callS X5 hx (y := (⟨"java/lang/StringUTF16", "putChar", "([BII)V"⟩ : MethodName)) hown (mvT hZ (own_w hw 83 rfl)) (mvT hZ (own_w hw 84 rfl)) (mvT hZ (own_w hw 19 rfl)) (mvT hZ (own_w hw 85 rfl)) (by decide) (backOf (W := 0) (rmpc2_1 l Z a0 hw [] b1 _ c1 _ _ _ _ h5 n0 Zs5 F_6 G5_0 ge1 SH SL SA) hZ (own_w hw 85 rfl) (own_w hw 19 rfl) (by decide) (by decide)) (g := (mkF m 20 #[.val (.ref a1), .val (.int (1 : Int32)), .val (.int (2 : Int32)), .val (.ref b1), .val (.int (1 : Int32))] [(.int c1), (.int (1 : Int32)), (.ref b1)])) rfl (by rw [hml]; rfl) (argsL := [(.ref b1), (.int (1 : Int32)), (.int c1)]) (rest := []) (lenOf pd__BII_V rfl) rfl (by show 2 * 0 + _ ≤ _; exact Nat.le_of_eq rfl) (hb hby dtb2_20) (fun _ _ => ⟨rfl, e5, (by decide : 0 + 1 + 0 + 0 ≤ _), (by decide : 0 + 4 + 0 + 0 ≤ _)⟩)
  dsimp only [Pt.U, Pt.locs, Pt.cells, Pt.slots] at X9 lq9 yq9 zq9 st9 hQ9
  subst lq9 yq9 zq9
  obtain ⟨h9, e9⟩ : ∃ z, T9.heap = z := ⟨_, rfl⟩
  rw [e9] at hQ9
  unfold Qpc2_1 at hQ9
  obtain ⟨rfl, Nq9, qh9, G9_0⟩ := hQ9
  have N9 := Fr.app N5 Nq9
  have Zs9 : n0 ≤ h9.size := Nat.le_trans Zs5 qh9.1
  have F_10 := F_6.keep qh9 (allS ge1 all0)
  have F_11 := F_7.keep qh9 (ninS ne1_a1 nin0)
  have K9 : Keep h0 h9 [] := K5.trans qh9 (allS (Or.inr gf1) all0)
  refine own_f T9 (mkF m 23 #[.val (.ref a1), .val (.int (1 : Int32)), .val (.int (2 : Int32)), .val (.ref b1), .val (.int (1 : Int32))] []) st9 ?_
  refine own_f T9 (mkF m 26 #[.val (.ref a1), .val (.int ((1 : Int32) + (1 : Int32))), .val (.int (2 : Int32)), .val (.ref b1), .val (.int (1 : Int32))] []) (fun t k => XT.iincV X9.here hx rfl (l' := #[.val (.ref a1), .val (.int ((1 : Int32) + (1 : Int32))), .val (.int (2 : Int32)), .val (.ref b1), .val (.int (1 : Int32))]) (1 : Int32) (hb hby dtb2_23) (by decide) rfl rfl k) ?_
  rw [show ((1 : Int32) + (1 : Int32)) = (2 : Int32) from by decide]
  refine own_f T9 (mkF m 29 #[.val (.ref a1), .val (.int (2 : Int32)), .val (.int (2 : Int32)), .val (.ref b1), .val (.int ((1 : Int32) + (1 : Int32)))] []) (fun t k => XT.iincV X9.here hx rfl (l' := #[.val (.ref a1), .val (.int (2 : Int32)), .val (.int (2 : Int32)), .val (.ref b1), .val (.int ((1 : Int32) + (1 : Int32)))]) (1 : Int32) (hb hby dtb2_26) (by decide) rfl rfl k) ?_
  rw [show ((1 : Int32) + (1 : Int32)) = (2 : Int32) from by decide]
  refine own_step (fun t k => XS.goto X9.here hx rfl (pc0 := 29) (pc' := 8) rfl (hb hby dtb2_29) (by decide) (by decide) k) ?_
  refine own_step (fun t k => XS.iload X9.here hx rfl (hb hby dtb2_8) rfl k) ?_
  refine own_step (fun t k => XS.iloadN X9.here hx rfl (hb hby dtb2_10) rfl k) ?_
  refine own_f T9 (mkF m 32 #[.val (.ref a1), .val (.int (2 : Int32)), .val (.int (2 : Int32)), .val (.ref b1), .val (.int (2 : Int32))] []) (fun t k => XS.icmpYes X9.here hx rfl (pc0 := 11) (pc' := 32) rfl (hb hby dtb2_11) rfl (XT.ii_ge_t (by decide)) (by decide) (by decide) k) ?_
  refine own_f T9 (mkF m 33 #[.val (.ref a1), .val (.int (2 : Int32)), .val (.int (2 : Int32)), .val (.ref b1), .val (.int (2 : Int32))] [(.ref b1)]) (fun t k => XS.aloadN X9.here hx rfl (hb hby dtb2_32) rfl rfl k) ?_
  obtain ⟨fs, hr, hrun, hended, hW, hsame⟩ := X9.leave (v := some (.ref b1)) (fun h => by rw [Bd.returns] at h; cases h)
  refine ⟨_, _, retOut X9 hx Bd.returns (by rfl) (Or.inr (Or.inr (Or.inr (Or.inr ⟨rfl, rfl, rfl⟩)))) (hb hby dtb2_33) hr, hrun, hended, _, _, rfl, ?_, ⟨_, rfl⟩, hW, hsame.mono (by decide) (by decide)⟩
  show Qtb2 Z a1 k1 c0 c1 h0 n0 _ T9.heap _
  rw [e9]
  exact ⟨b1, kb1, rfl, N9, K9, G9_0, gf1⟩
theorem dco2_2_0 : decode jdk_52_method_15_code 0 = .ok (.iload_n 1, 1) := by decide +kernel
theorem dco2_2_1 : decode jdk_52_method_15_code 1 = .ok (.aload_n 0, 1) := by decide +kernel
theorem dco2_2_2 : decode jdk_52_method_15_code 2 = .ok (.arraylength, 1) := by decide +kernel
theorem dco2_2_3 : decode jdk_52_method_15_code 3 = .ok (.isub, 1) := by decide +kernel
theorem dco2_2_4 : decode jdk_52_method_15_code 4 = .ok (.bipush 31, 2) := by decide +kernel
theorem dco2_2_6 : decode jdk_52_method_15_code 6 = .ok (.iushr, 1) := by decide +kernel
theorem dco2_2_7 : decode jdk_52_method_15_code 7 = .ok (.i2b, 1) := by decide +kernel
theorem dco2_2_8 : decode jdk_52_method_15_code 8 = .ok (.ireturn, 1) := by decide +kernel
theorem pn_co2_2 : plainName "java/lang/StringUTF16" = true := by first | (simp [plainName, overriddenIn]; done) | decide +kernel
theorem ef_co2_2 (m : MethodId) (x0 : Addr) (x1 : Int32) : entryFrame m #[(.ref x0), (.int x1)] 2 = mkF m 0 #[.val (.ref x0), .val (.int x1)] [] := by first | (simp [entryFrame, mkF, argsToLocals, Value.category]; done) | rfl
def Qco2_2 (Z : State) (a1 : Addr) (k1 : ClassId) (vv : List Value) (h0 : Heap) (n0 : Nat) (v : Option Value) (h : Heap) (L : List Loc) : Prop := v = some (.int (0 : Int32)) ∧ Fr n0 L ∧ h = h0
set_option maxRecDepth 65536 in
set_option maxHeartbeats 40000000 in
theorem rmco2_2 (l : Launch) (Z : State) (a0 : Array Value) (hw : ∀ d ∈ tables_1, d.before a0 Z = true) (ws : List Jvm.Cond) (a1 : Addr) (k1 : ClassId) (vv : List Value) (h0 : Heap) (n0 : Nat) (Z0 : n0 ≤ h0.size) (F0 : Arv Z h0 a1 k1 .byte (2 : Int32) vv (.int 0)) :
    MetFree l (⟨"java/lang/StringUTF16", "coderFromArrayLen", "([BI)B"⟩ : MethodName) (head1 (Jvm.Cond.code (⟨"java/lang/StringUTF16", "coderFromArrayLen", "([BI)B"⟩ : MethodName) jdk_52_method_15_code 2 (some .byte) :: ws) ({ frames := 0, cells := 0, slots := 0, locals := 0 } : Room)) (fun a U => a = #[(.ref a1), (.int (2 : Int32))] ∧ Z.Warmed39 U.vm ∧ U.heap = h0) (fun _ _ _ _ _ => True) (fun _ U o U' => ∃ v L, o = .returned v ∧ Qco2_2 Z a1 k1 vv h0 n0 v U'.heap L ∧ FrameEnd U o U' L ({ frames := 0, cells := 0, slots := 0, locals := 0 } : Room).cells ({ frames := 0, cells := 0, slots := 0, locals := 0 } : Room).slots) := by
  refine MetFree.of_bodySF (plainFor_of_name pn_co2_2) hisR ?_
  intro p e s m args below meth c s₁ Bd hml0 hP hK
  obtain ⟨rfl, hZ, hh⟩ := hP
  have hx := Bd.exec
  have hby := Bd.bytes
  have hml : c.maxLocals = 2 := hml0
  have hown : s.vm.findClass "java/lang/StringUTF16" = some m.cls := findClass_of_methodNamed Bd.named
  have hnm := (name_of_methodNamed Bd.named Bd.method).1
  have X0 : Stand p l e ({ frames := 0, cells := 0, slots := 0, locals := 0 } : Room) s m #[(.ref a1), (.int (2 : Int32))] below meth c s₁ [] 0 0 := Stand.of_body Bd
  have e0 : s₁.heap = h0 := by rw [← hh, Bd.state]; rfl
  have N0 := Fr.nil n0
  show own_R p.tables e below (own_P s (Qco2_2 Z a1 k1 vv h0 n0) ({ frames := 0, cells := 0, slots := 0, locals := 0 } : Room).cells ({ frames := 0, cells := 0, slots := 0, locals := 0 } : Room).slots) (s₁.setTop (entryFrame m #[(.ref a1), (.int (2 : Int32))] 2))
  refine own_f s₁ (mkF m 0 #[.val (.ref a1), .val (.int (2 : Int32))] []) (fun t k => castTop (ef_co2_2 m a1 (2 : Int32)) k) ?_
  refine own_step (fun t k => XS.iloadN X0.here hx rfl (hb hby dco2_2_0) rfl k) ?_
  refine own_f s₁ (mkF m 2 #[.val (.ref a1), .val (.int (2 : Int32))] [(.ref a1), (.int (2 : Int32))]) (fun t k => XS.aloadN X0.here hx rfl (hb hby dco2_2_1) rfl rfl k) ?_
  refine own_f s₁ (mkF m 3 #[.val (.ref a1), .val (.int (2 : Int32))] [(.int (2 : Int32)), (.int (2 : Int32))]) (fun t k => own_len X0 hx hZ e0 F0 (g := (mkF m 2 #[.val (.ref a1), .val (.int (2 : Int32))] [(.ref a1), (.int (2 : Int32))])) rfl rfl (hb hby dco2_2_2) k) ?_
  refine own_f s₁ (mkF m 4 #[.val (.ref a1), .val (.int (2 : Int32))] [(.int ((2 : Int32) - (2 : Int32)))]) (fun t k => XS.isub X0.here hx rfl (hb hby dco2_2_3) rfl k) ?_
  rw [show ((2 : Int32) - (2 : Int32)) = (0 : Int32) from by decide]
  refine own_step (fun t k => XT.bipushV X0.here hx rfl (31 : Int32) (hb hby dco2_2_4) (by decide) k) ?_
  refine own_f s₁ (mkF m 7 #[.val (.ref a1), .val (.int (2 : Int32))] [(.int (((0 : Int32).toUInt32 >>> ((31 : Int32) &&& 31).toUInt32).toInt32))]) (fun t k => XS.iushr X0.here hx rfl (hb hby dco2_2_6) rfl k) ?_
  rw [show (((0 : Int32).toUInt32 >>> ((31 : Int32) &&& 31).toUInt32).toInt32) = (0 : Int32) from by decide]
  refine own_f s₁ (mkF m 8 #[.val (.ref a1), .val (.int (2 : Int32))] [(.int ((0 : Int32).toInt8.toInt32))]) (fun t k => XS.i2b X0.here hx rfl (hb hby dco2_2_7) rfl k) ?_
  rw [show ((0 : Int32).toInt8.toInt32) = (0 : Int32) from by decide]
  obtain ⟨fs, hr, hrun, hended, hW, hsame⟩ := X0.leave (v := some (.int (0 : Int32))) (fun h => by rw [Bd.returns] at h; cases h)
  refine ⟨_, _, own_retB X0 hx (t := .byte) Bd.returns (by simp) (by decide) (hb hby dco2_2_8) hr, hrun, hended, _, _, rfl, ?_, ⟨_, rfl⟩, hW, hsame.mono (by decide) (by decide)⟩
  show Qco2_2 Z a1 k1 vv h0 n0 _ s₁.heap _
  rw [e0]
  exact ⟨rfl, N0, rfl⟩
theorem dco2_4_0 : decode jdk_52_method_15_code 0 = .ok (.iload_n 1, 1) := by decide +kernel
theorem dco2_4_1 : decode jdk_52_method_15_code 1 = .ok (.aload_n 0, 1) := by decide +kernel
theorem dco2_4_2 : decode jdk_52_method_15_code 2 = .ok (.arraylength, 1) := by decide +kernel
theorem dco2_4_3 : decode jdk_52_method_15_code 3 = .ok (.isub, 1) := by decide +kernel
theorem dco2_4_4 : decode jdk_52_method_15_code 4 = .ok (.bipush 31, 2) := by decide +kernel
theorem dco2_4_6 : decode jdk_52_method_15_code 6 = .ok (.iushr, 1) := by decide +kernel
theorem dco2_4_7 : decode jdk_52_method_15_code 7 = .ok (.i2b, 1) := by decide +kernel
theorem dco2_4_8 : decode jdk_52_method_15_code 8 = .ok (.ireturn, 1) := by decide +kernel
theorem pn_co2_4 : plainName "java/lang/StringUTF16" = true := by first | (simp [plainName, overriddenIn]; done) | decide +kernel
theorem ef_co2_4 (m : MethodId) (x0 : Addr) (x1 : Int32) : entryFrame m #[(.ref x0), (.int x1)] 2 = mkF m 0 #[.val (.ref x0), .val (.int x1)] [] := by first | (simp [entryFrame, mkF, argsToLocals, Value.category]; done) | rfl
def Qco2_4 (Z : State) (a1 : Addr) (k1 : ClassId) (vv : List Value) (h0 : Heap) (n0 : Nat) (v : Option Value) (h : Heap) (L : List Loc) : Prop := v = some (.int (1 : Int32)) ∧ Fr n0 L ∧ h = h0
set_option maxRecDepth 65536 in
set_option maxHeartbeats 40000000 in
theorem rmco2_4 (l : Launch) (Z : State) (a0 : Array Value) (hw : ∀ d ∈ tables_1, d.before a0 Z = true) (ws : List Jvm.Cond) (a1 : Addr) (k1 : ClassId) (vv : List Value) (h0 : Heap) (n0 : Nat) (Z0 : n0 ≤ h0.size) (F0 : Arv Z h0 a1 k1 .byte (4 : Int32) vv (.int 0)) :
    MetFree l (⟨"java/lang/StringUTF16", "coderFromArrayLen", "([BI)B"⟩ : MethodName) (head1 (Jvm.Cond.code (⟨"java/lang/StringUTF16", "coderFromArrayLen", "([BI)B"⟩ : MethodName) jdk_52_method_15_code 2 (some .byte) :: ws) ({ frames := 0, cells := 0, slots := 0, locals := 0 } : Room)) (fun a U => a = #[(.ref a1), (.int (2 : Int32))] ∧ Z.Warmed39 U.vm ∧ U.heap = h0) (fun _ _ _ _ _ => True) (fun _ U o U' => ∃ v L, o = .returned v ∧ Qco2_4 Z a1 k1 vv h0 n0 v U'.heap L ∧ FrameEnd U o U' L ({ frames := 0, cells := 0, slots := 0, locals := 0 } : Room).cells ({ frames := 0, cells := 0, slots := 0, locals := 0 } : Room).slots) := by
  refine MetFree.of_bodySF (plainFor_of_name pn_co2_4) hisR ?_
  intro p e s m args below meth c s₁ Bd hml0 hP hK
  obtain ⟨rfl, hZ, hh⟩ := hP
  have hx := Bd.exec
  have hby := Bd.bytes
  have hml : c.maxLocals = 2 := hml0
  have hown : s.vm.findClass "java/lang/StringUTF16" = some m.cls := findClass_of_methodNamed Bd.named
  have hnm := (name_of_methodNamed Bd.named Bd.method).1
  have X0 : Stand p l e ({ frames := 0, cells := 0, slots := 0, locals := 0 } : Room) s m #[(.ref a1), (.int (2 : Int32))] below meth c s₁ [] 0 0 := Stand.of_body Bd
  have e0 : s₁.heap = h0 := by rw [← hh, Bd.state]; rfl
  have N0 := Fr.nil n0
  show own_R p.tables e below (own_P s (Qco2_4 Z a1 k1 vv h0 n0) ({ frames := 0, cells := 0, slots := 0, locals := 0 } : Room).cells ({ frames := 0, cells := 0, slots := 0, locals := 0 } : Room).slots) (s₁.setTop (entryFrame m #[(.ref a1), (.int (2 : Int32))] 2))
  refine own_f s₁ (mkF m 0 #[.val (.ref a1), .val (.int (2 : Int32))] []) (fun t k => castTop (ef_co2_4 m a1 (2 : Int32)) k) ?_
  refine own_step (fun t k => XS.iloadN X0.here hx rfl (hb hby dco2_4_0) rfl k) ?_
  refine own_f s₁ (mkF m 2 #[.val (.ref a1), .val (.int (2 : Int32))] [(.ref a1), (.int (2 : Int32))]) (fun t k => XS.aloadN X0.here hx rfl (hb hby dco2_4_1) rfl rfl k) ?_
  refine own_f s₁ (mkF m 3 #[.val (.ref a1), .val (.int (2 : Int32))] [(.int (4 : Int32)), (.int (2 : Int32))]) (fun t k => own_len X0 hx hZ e0 F0 (g := (mkF m 2 #[.val (.ref a1), .val (.int (2 : Int32))] [(.ref a1), (.int (2 : Int32))])) rfl rfl (hb hby dco2_4_2) k) ?_
  refine own_f s₁ (mkF m 4 #[.val (.ref a1), .val (.int (2 : Int32))] [(.int ((2 : Int32) - (4 : Int32)))]) (fun t k => XS.isub X0.here hx rfl (hb hby dco2_4_3) rfl k) ?_
  rw [show ((2 : Int32) - (4 : Int32)) = (-2 : Int32) from by decide]
  refine own_step (fun t k => XT.bipushV X0.here hx rfl (31 : Int32) (hb hby dco2_4_4) (by decide) k) ?_
  refine own_f s₁ (mkF m 7 #[.val (.ref a1), .val (.int (2 : Int32))] [(.int (((-2 : Int32).toUInt32 >>> ((31 : Int32) &&& 31).toUInt32).toInt32))]) (fun t k => XS.iushr X0.here hx rfl (hb hby dco2_4_6) rfl k) ?_
  rw [show (((-2 : Int32).toUInt32 >>> ((31 : Int32) &&& 31).toUInt32).toInt32) = (1 : Int32) from by decide]
  refine own_f s₁ (mkF m 8 #[.val (.ref a1), .val (.int (2 : Int32))] [(.int ((1 : Int32).toInt8.toInt32))]) (fun t k => XS.i2b X0.here hx rfl (hb hby dco2_4_7) rfl k) ?_
  rw [show ((1 : Int32).toInt8.toInt32) = (1 : Int32) from by decide]
  obtain ⟨fs, hr, hrun, hended, hW, hsame⟩ := X0.leave (v := some (.int (1 : Int32))) (fun h => by rw [Bd.returns] at h; cases h)
  refine ⟨_, _, own_retB X0 hx (t := .byte) Bd.returns (by simp) (by decide) (hb hby dco2_4_8) hr, hrun, hended, _, _, rfl, ?_, ⟨_, rfl⟩, hW, hsame.mono (by decide) (by decide)⟩
  show Qco2_4 Z a1 k1 vv h0 n0 _ s₁.heap _
  rw [e0]
  exact ⟨rfl, N0, rfl⟩
theorem dci2_0_0 : decode jdk_52_method_21_code 0 = .ok (.iconst 0, 1) := by decide +kernel
theorem dci2_0_1 : decode jdk_52_method_21_code 1 = .ok (.istore 5, 2) := by decide +kernel
theorem dci2_0_3 : decode jdk_52_method_21_code 3 = .ok (.iload 5, 2) := by decide +kernel
theorem dci2_0_5 : decode jdk_52_method_21_code 5 = .ok (.iload 4, 2) := by decide +kernel
theorem dci2_0_7 : decode jdk_52_method_21_code 7 = .ok (.if_icmp .ge 37, 3) := by decide +kernel
theorem dci2_0_10 : decode jdk_52_method_21_code 10 = .ok (.aload_n 0, 1) := by decide +kernel
theorem dci2_0_11 : decode jdk_52_method_21_code 11 = .ok (.iload_n 1, 1) := by decide +kernel
theorem dci2_0_12 : decode jdk_52_method_21_code 12 = .ok (.caload, 1) := by decide +kernel
theorem dci2_0_13 : decode jdk_52_method_21_code 13 = .ok (.istore 6, 2) := by decide +kernel
theorem dci2_0_15 : decode jdk_52_method_21_code 15 = .ok (.iload 6, 2) := by decide +kernel
theorem dci2_0_17 : decode jdk_52_method_21_code 17 = .ok (.sipush 255, 3) := by decide +kernel
theorem dci2_0_20 : decode jdk_52_method_21_code 20 = .ok (.if_icmp .le 6, 3) := by decide +kernel
theorem dci2_0_23 : decode jdk_52_method_21_code 23 = .ok (.iload 5, 2) := by decide +kernel
theorem dci2_0_25 : decode jdk_52_method_21_code 25 = .ok (.ireturn, 1) := by decide +kernel
theorem pn_ci2_0 : plainName "java/lang/StringUTF16" = true := by first | (simp [plainName, overriddenIn]; done) | decide +kernel
theorem ef_ci2_0 (m : MethodId) (x0 : Addr) (x1 : Int32) (x2 : Addr) (x3 : Int32) (x4 : Int32) : entryFrame m #[(.ref x0), (.int x1), (.ref x2), (.int x3), (.int x4)] 7 = mkF m 0 #[.val (.ref x0), .val (.int x1), .val (.ref x2), .val (.int x3), .val (.int x4), .unset, .unset] [] := by first | (simp [entryFrame, mkF, argsToLocals, Value.category]; done) | rfl
def Qci2_0 (Z : State) (a1 : Addr) (a2 : Addr) (k1 : ClassId) (k2 : ClassId) (c0 : Int32) (c1 : Int32) (h0 : Heap) (n0 : Nat) (v : Option Value) (h : Heap) (L : List Loc) : Prop := v = some (.int (0 : Int32)) ∧ Fr n0 L ∧ Keep h0 h [a2] ∧ Arv Z h a2 k2 .byte (2 : Int32) [.int 0, .int 0] (.int 0)
set_option maxRecDepth 65536 in
set_option maxHeartbeats 40000000 in
theorem rmci2_0 (l : Launch) (Z : State) (a0 : Array Value) (hw : ∀ d ∈ tables_1, d.before a0 Z = true) (ws : List Jvm.Cond) (a1 : Addr) (a2 : Addr) (k1 : ClassId) (k2 : ClassId) (c0 : Int32) (c1 : Int32) (h0 : Heap) (n0 : Nat) (Z0 : n0 ≤ h0.size) (F0 : Arv Z h0 a1 k1 .char (2 : Int32) [.int c0, .int c1] (.int 0)) (F1 : Arv Z h0 a2 k2 .byte (2 : Int32) [.int 0, .int 0] (.int 0)) (ge_a2 : n0 ≤ a2) (hne : a1 ≠ a2) (hc_c0 : (255 : Int32) < c0) :
    MetFree l (⟨"java/lang/StringUTF16", "compress", "([CI[BII)I"⟩ : MethodName) (head1 (Jvm.Cond.code (⟨"java/lang/StringUTF16", "compress", "([CI[BII)I"⟩ : MethodName) jdk_52_method_21_code 7 (some .int) :: ws) ({ frames := 0, cells := 0, slots := 0, locals := 0 } : Room)) (fun a U => a = #[(.ref a1), (.int (0 : Int32)), (.ref a2), (.int (0 : Int32)), (.int (2 : Int32))] ∧ Z.Warmed39 U.vm ∧ U.heap = h0) (fun _ _ _ _ _ => True) (fun _ U o U' => ∃ v L, o = .returned v ∧ Qci2_0 Z a1 a2 k1 k2 c0 c1 h0 n0 v U'.heap L ∧ FrameEnd U o U' L ({ frames := 0, cells := 0, slots := 0, locals := 0 } : Room).cells ({ frames := 0, cells := 0, slots := 0, locals := 0 } : Room).slots) := by
  refine MetFree.of_bodySF (plainFor_of_name pn_ci2_0) hisR ?_
  intro p e s m args below meth c s₁ Bd hml0 hP hK
  obtain ⟨rfl, hZ, hh⟩ := hP
  have hx := Bd.exec
  have hby := Bd.bytes
  have hml : c.maxLocals = 7 := hml0
  have hown : s.vm.findClass "java/lang/StringUTF16" = some m.cls := findClass_of_methodNamed Bd.named
  have hnm := (name_of_methodNamed Bd.named Bd.method).1
  have X0 : Stand p l e ({ frames := 0, cells := 0, slots := 0, locals := 0 } : Room) s m #[(.ref a1), (.int (0 : Int32)), (.ref a2), (.int (0 : Int32)), (.int (2 : Int32))] below meth c s₁ [] 0 0 := Stand.of_body Bd
  have e0 : s₁.heap = h0 := by rw [← hh, Bd.state]; rfl
  have N0 := Fr.nil n0
  show own_R p.tables e below (own_P s (Qci2_0 Z a1 a2 k1 k2 c0 c1 h0 n0) ({ frames := 0, cells := 0, slots := 0, locals := 0 } : Room).cells ({ frames := 0, cells := 0, slots := 0, locals := 0 } : Room).slots) (s₁.setTop (entryFrame m #[(.ref a1), (.int (0 : Int32)), (.ref a2), (.int (0 : Int32)), (.int (2 : Int32))] 7))
  refine own_f s₁ (mkF m 0 #[.val (.ref a1), .val (.int (0 : Int32)), .val (.ref a2), .val (.int (0 : Int32)), .val (.int (2 : Int32)), .unset, .unset] []) (fun t k => castTop (ef_ci2_0 m a1 (0 : Int32) a2 (0 : Int32) (2 : Int32)) k) ?_
  refine own_step (fun t k => XT.iconstV X0.here hx rfl (0 : Int32) (hb hby dci2_0_0) (by decide) k) ?_
  refine own_f s₁ (mkF m 3 #[.val (.ref a1), .val (.int (0 : Int32)), .val (.ref a2), .val (.int (0 : Int32)), .val (.int (2 : Int32)), .val (.int (0 : Int32)), .unset] []) (fun t k => XS.istore X0.here hx rfl (hb hby dci2_0_1) rfl (l' := #[.val (.ref a1), .val (.int (0 : Int32)), .val (.ref a2), .val (.int (0 : Int32)), .val (.int (2 : Int32)), .val (.int (0 : Int32)), .unset]) rfl k) ?_
  refine own_step (fun t k => XS.iload X0.here hx rfl (hb hby dci2_0_3) rfl k) ?_
  refine own_step (fun t k => XS.iload X0.here hx rfl (hb hby dci2_0_5) rfl k) ?_
  refine own_f s₁ (mkF m 10 #[.val (.ref a1), .val (.int (0 : Int32)), .val (.ref a2), .val (.int (0 : Int32)), .val (.int (2 : Int32)), .val (.int (0 : Int32)), .unset] []) (fun t k => XS.icmpNo X0.here hx rfl (hb hby dci2_0_7) rfl (XT.ii_ge_f (by decide)) k) ?_
  refine own_step (fun t k => XS.aloadN X0.here hx rfl (hb hby dci2_0_10) rfl rfl k) ?_
  refine own_f s₁ (mkF m 12 #[.val (.ref a1), .val (.int (0 : Int32)), .val (.ref a2), .val (.int (0 : Int32)), .val (.int (2 : Int32)), .val (.int (0 : Int32)), .unset] [(.int (0 : Int32)), (.ref a1)]) (fun t k => XS.iloadN X0.here hx rfl (hb hby dci2_0_11) rfl k) ?_
  obtain ⟨cl1, Ar1, q11, Sz1, q31, Hs1, Gs1⟩ := id F0
  have hi1 := inb_of (j := (0 : Int32)) Sz1 ⟨by decide, by decide⟩
  refine own_f s₁ (mkF m 13 #[.val (.ref a1), .val (.int (0 : Int32)), .val (.ref a2), .val (.int (0 : Int32)), .val (.int (2 : Int32)), .val (.int (0 : Int32)), .unset] [(.int c0)]) (fun t k => X0.caload hx (j := (0 : Int32)) (v := (.int c0)) (by rw [e0]; exact Ar1.1) (State.isArrayOf_alike hZ.alike Ar1.2.1) Ar1.2.2 hi1 (Has.at Hs1 hi1 rfl) (g := (mkF m 12 #[.val (.ref a1), .val (.int (0 : Int32)), .val (.ref a2), .val (.int (0 : Int32)), .val (.int (2 : Int32)), .val (.int (0 : Int32)), .unset] [(.int (0 : Int32)), (.ref a1)])) rfl rfl (hb hby dci2_0_12) t k) ?_
  refine own_f s₁ (mkF m 15 #[.val (.ref a1), .val (.int (0 : Int32)), .val (.ref a2), .val (.int (0 : Int32)), .val (.int (2 : Int32)), .val (.int (0 : Int32)), .val (.int c0)] []) (fun t k => XS.istore X0.here hx rfl (hb hby dci2_0_13) rfl (l' := #[.val (.ref a1), .val (.int (0 : Int32)), .val (.ref a2), .val (.int (0 : Int32)), .val (.int (2 : Int32)), .val (.int (0 : Int32)), .val (.int c0)]) rfl k) ?_
  refine own_step (fun t k => XS.iload X0.here hx rfl (hb hby dci2_0_15) rfl k) ?_
  refine own_step (fun t k => XT.sipushV X0.here hx rfl (255 : Int32) (hb hby dci2_0_17) (by decide) k) ?_
  refine own_f s₁ (mkF m 23 #[.val (.ref a1), .val (.int (0 : Int32)), .val (.ref a2), .val (.int (0 : Int32)), .val (.int (2 : Int32)), .val (.int (0 : Int32)), .val (.int c0)] []) (fun t k => XS.icmpNo X0.here hx rfl (hb hby dci2_0_20) rfl (XT.ii_le_f hc_c0) k) ?_
  refine own_f s₁ (mkF m 25 #[.val (.ref a1), .val (.int (0 : Int32)), .val (.ref a2), .val (.int (0 : Int32)), .val (.int (2 : Int32)), .val (.int (0 : Int32)), .val (.int c0)] [(.int (0 : Int32))]) (fun t k => XS.iload X0.here hx rfl (hb hby dci2_0_23) rfl k) ?_
  obtain ⟨fs, hr, hrun, hended, hW, hsame⟩ := X0.leave (v := some (.int (0 : Int32))) (fun h => by rw [Bd.returns] at h; cases h)
  refine ⟨_, _, retI X0 hx Bd.returns (hb hby dci2_0_25) hr, hrun, hended, _, _, rfl, ?_, ⟨_, rfl⟩, hW, hsame.mono (by decide) (by decide)⟩
  show Qci2_0 Z a1 a2 k1 k2 c0 c1 h0 n0 _ s₁.heap _
  rw [e0]
  exact ⟨rfl, N0, (Keep.refl h0 [a2]), F1⟩
theorem dgc2_0_0 : decode jdk_52_method_5_code 0 = .ok (.getstatic 44, 3) := by decide +kernel
theorem dgc2_0_3 : decode jdk_52_method_5_code 3 = .ok (.ifCond .ne 25, 3) := by decide +kernel
theorem dgc2_0_28 : decode jdk_52_method_5_code 28 = .ok (.iload_n 1, 1) := by decide +kernel
theorem dgc2_0_29 : decode jdk_52_method_5_code 29 = .ok (.iconst 1, 1) := by decide +kernel
theorem dgc2_0_30 : decode jdk_52_method_5_code 30 = .ok (.ishl, 1) := by decide +kernel
theorem dgc2_0_31 : decode jdk_52_method_5_code 31 = .ok (.istore_n 1, 1) := by decide +kernel
theorem dgc2_0_32 : decode jdk_52_method_5_code 32 = .ok (.aload_n 0, 1) := by decide +kernel
theorem dgc2_0_33 : decode jdk_52_method_5_code 33 = .ok (.iload_n 1, 1) := by decide +kernel
theorem dgc2_0_34 : decode jdk_52_method_5_code 34 = .ok (.iinc 1 1, 3) := by decide +kernel
theorem dgc2_0_37 : decode jdk_52_method_5_code 37 = .ok (.baload, 1) := by decide +kernel
theorem dgc2_0_38 : decode jdk_52_method_5_code 38 = .ok (.sipush 255, 3) := by decide +kernel
theorem dgc2_0_41 : decode jdk_52_method_5_code 41 = .ok (.iand, 1) := by decide +kernel
theorem dgc2_0_42 : decode jdk_52_method_5_code 42 = .ok (.getstatic 59, 3) := by decide +kernel
theorem dgc2_0_45 : decode jdk_52_method_5_code 45 = .ok (.ishl, 1) := by decide +kernel
theorem dgc2_0_46 : decode jdk_52_method_5_code 46 = .ok (.aload_n 0, 1) := by decide +kernel
theorem dgc2_0_47 : decode jdk_52_method_5_code 47 = .ok (.iload_n 1, 1) := by decide +kernel
theorem dgc2_0_48 : decode jdk_52_method_5_code 48 = .ok (.baload, 1) := by decide +kernel
theorem dgc2_0_49 : decode jdk_52_method_5_code 49 = .ok (.sipush 255, 3) := by decide +kernel
theorem dgc2_0_52 : decode jdk_52_method_5_code 52 = .ok (.iand, 1) := by decide +kernel
theorem dgc2_0_53 : decode jdk_52_method_5_code 53 = .ok (.getstatic 63, 3) := by decide +kernel
theorem dgc2_0_56 : decode jdk_52_method_5_code 56 = .ok (.ishl, 1) := by decide +kernel
theorem dgc2_0_57 : decode jdk_52_method_5_code 57 = .ok (.ior, 1) := by decide +kernel
theorem dgc2_0_58 : decode jdk_52_method_5_code 58 = .ok (.i2c, 1) := by decide +kernel
theorem dgc2_0_59 : decode jdk_52_method_5_code 59 = .ok (.ireturn, 1) := by decide +kernel
theorem pn_gc2_0 : plainName "java/lang/StringUTF16" = true := by first | (simp [plainName, overriddenIn]; done) | decide +kernel
theorem ef_gc2_0 (m : MethodId) (x0 : Addr) (x1 : Int32) : entryFrame m #[(.ref x0), (.int x1)] 2 = mkF m 0 #[.val (.ref x0), .val (.int x1)] [] := by first | (simp [entryFrame, mkF, argsToLocals, Value.category]; done) | rfl
def Qgc2_0 (Z : State) (a1 : Addr) (k1 : ClassId) (c0 : Int32) (c1 : Int32) (h0 : Heap) (n0 : Nat) (v : Option Value) (h : Heap) (L : List Loc) : Prop := v = some (.int c0) ∧ Fr n0 L ∧ h = h0
set_option maxRecDepth 65536 in
set_option maxHeartbeats 40000000 in
theorem rmgc2_0 (l : Launch) (Z : State) (a0 : Array Value) (hw : ∀ d ∈ tables_1, d.before a0 Z = true) (ws : List Jvm.Cond) (a1 : Addr) (k1 : ClassId) (c0 : Int32) (c1 : Int32) (h0 : Heap) (n0 : Nat) (Z0 : n0 ≤ h0.size) (F0 : Old Z n0 h0) (F1 : Arv Z h0 a1 k1 .byte (4 : Int32) [.int ((c0 >>> ((0 : Int32) &&& 31)).toInt8.toInt32), .int ((c0 >>> ((8 : Int32) &&& 31)).toInt8.toInt32), .int ((c1 >>> ((0 : Int32) &&& 31)).toInt8.toInt32), .int ((c1 >>> ((8 : Int32) &&& 31)).toInt8.toInt32)] (.int 0)) (SH : Sta Z Z.heap "java/lang/StringUTF16" "HI_BYTE_SHIFT" "I" (.int (0 : Int32))) (SL : Sta Z Z.heap "java/lang/StringUTF16" "LO_BYTE_SHIFT" "I" (.int (8 : Int32))) (SA : Sta Z Z.heap "java/lang/StringUTF16" "$assertionsDisabled" "Z" (.int (1 : Int32))) (hw_c0 : own_W c0) :
    MetFree l (⟨"java/lang/StringUTF16", "getChar", "([BI)C"⟩ : MethodName) (head1 (Jvm.Cond.code (⟨"java/lang/StringUTF16", "getChar", "([BI)C"⟩ : MethodName) jdk_52_method_5_code 2 (some .char) :: ws) ({ frames := 0, cells := 0, slots := 0, locals := 0 } : Room)) (fun a U => a = #[(.ref a1), (.int (0 : Int32))] ∧ Z.Warmed39 U.vm ∧ U.heap = h0) (fun _ _ _ _ _ => True) (fun _ U o U' => ∃ v L, o = .returned v ∧ Qgc2_0 Z a1 k1 c0 c1 h0 n0 v U'.heap L ∧ FrameEnd U o U' L ({ frames := 0, cells := 0, slots := 0, locals := 0 } : Room).cells ({ frames := 0, cells := 0, slots := 0, locals := 0 } : Room).slots) := by
  refine MetFree.of_bodySF (plainFor_of_name pn_gc2_0) hisR ?_
  intro p e s m args below meth c s₁ Bd hml0 hP hK
  obtain ⟨rfl, hZ, hh⟩ := hP
  have hx := Bd.exec
  have hby := Bd.bytes
  have hml : c.maxLocals = 2 := hml0
  have hown : s.vm.findClass "java/lang/StringUTF16" = some m.cls := findClass_of_methodNamed Bd.named
  have hnm := (name_of_methodNamed Bd.named Bd.method).1
  have X0 : Stand p l e ({ frames := 0, cells := 0, slots := 0, locals := 0 } : Room) s m #[(.ref a1), (.int (0 : Int32))] below meth c s₁ [] 0 0 := Stand.of_body Bd
  have e0 : s₁.heap = h0 := by rw [← hh, Bd.state]; rfl
  have N0 := Fr.nil n0
  show own_R p.tables e below (own_P s (Qgc2_0 Z a1 k1 c0 c1 h0 n0) ({ frames := 0, cells := 0, slots := 0, locals := 0 } : Room).cells ({ frames := 0, cells := 0, slots := 0, locals := 0 } : Room).slots) (s₁.setTop (entryFrame m #[(.ref a1), (.int (0 : Int32))] 2))
  refine own_f s₁ (mkF m 0 #[.val (.ref a1), .val (.int (0 : Int32))] []) (fun t k => castTop (ef_gc2_0 m a1 (0 : Int32)) k) ?_
  have S1 : Sta Z h0 "java/lang/StringUTF16" "$assertionsDisabled" "Z" (.int (1 : Int32)) := SA.ext F0.2
  obtain ⟨T1, X1, e1, st1⟩ := getS X0 hx hZ (host := "") hown (own_w hw 86 rfl) Via.refl e0 S1 (g := (mkF m 0 #[.val (.ref a1), .val (.int (0 : Int32))] [])) rfl (hb hby dgc2_0_0)
  refine own_f T1 (mkF m 3 #[.val (.ref a1), .val (.int (0 : Int32))] [(.int (1 : Int32))]) st1 ?_
  refine own_f T1 (mkF m 28 #[.val (.ref a1), .val (.int (0 : Int32))] []) (fun t k => XS.ifYes X1.here hx rfl (pc0 := 3) (pc' := 28) rfl (hb hby dgc2_0_3) rfl (XT.i0_ne_t (by decide)) (by decide) (by decide) k) ?_
  refine own_step (fun t k => XS.iloadN X1.here hx rfl (hb hby dgc2_0_28) rfl k) ?_
  refine own_step (fun t k => XT.iconstV X1.here hx rfl (1 : Int32) (hb hby dgc2_0_29) (by decide) k) ?_
  refine own_f T1 (mkF m 31 #[.val (.ref a1), .val (.int (0 : Int32))] [(.int ((0 : Int32) <<< ((1 : Int32) &&& 31)))]) (fun t k => XS.ishl X1.here hx rfl (hb hby dgc2_0_30) rfl k) ?_
  rw [show ((0 : Int32) <<< ((1 : Int32) &&& 31)) = (0 : Int32) from by decide]
  refine own_f T1 (mkF m 32 #[.val (.ref a1), .val (.int (0 : Int32))] []) (fun t k => XS.istoreN X1.here hx rfl (hb hby dgc2_0_31) rfl (l' := #[.val (.ref a1), .val (.int (0 : Int32))]) rfl k) ?_
  refine own_step (fun t k => XS.aloadN X1.here hx rfl (hb hby dgc2_0_32) rfl rfl k) ?_
  refine own_f T1 (mkF m 34 #[.val (.ref a1), .val (.int (0 : Int32))] [(.int (0 : Int32)), (.ref a1)]) (fun t k => XS.iloadN X1.here hx rfl (hb hby dgc2_0_33) rfl k) ?_
  refine own_f T1 (mkF m 37 #[.val (.ref a1), .val (.int ((0 : Int32) + (1 : Int32)))] [(.int (0 : Int32)), (.ref a1)]) (fun t k => XT.iincV X1.here hx rfl (l' := #[.val (.ref a1), .val (.int ((0 : Int32) + (1 : Int32)))]) (1 : Int32) (hb hby dgc2_0_34) (by decide) rfl rfl k) ?_
  rw [show ((0 : Int32) + (1 : Int32)) = (1 : Int32) from by decide]
  obtain ⟨cl2, Ar2, q12, Sz2, q32, Hs2, Gs2⟩ := id F1
  have hi2 := inb_of (j := (0 : Int32)) Sz2 ⟨by decide, by decide⟩
  refine own_f T1 (mkF m 38 #[.val (.ref a1), .val (.int (1 : Int32))] [(.int ((c0 >>> ((0 : Int32) &&& 31)).toInt8.toInt32))]) (fun t k => X1.baloadBytes hx (j := (0 : Int32)) (v := (.int ((c0 >>> ((0 : Int32) &&& 31)).toInt8.toInt32))) (by rw [e1]; exact Ar2.1) (State.isArrayOf_alike hZ.alike Ar2.2.1) Ar2.2.2 hi2 (Has.at Hs2 hi2 rfl) (g := (mkF m 37 #[.val (.ref a1), .val (.int (1 : Int32))] [(.int (0 : Int32)), (.ref a1)])) rfl rfl (hb hby dgc2_0_37) t k) ?_
  refine own_step (fun t k => XT.sipushV X1.here hx rfl (255 : Int32) (hb hby dgc2_0_38) (by decide) k) ?_
  refine own_f T1 (mkF m 42 #[.val (.ref a1), .val (.int (1 : Int32))] [(.int (((c0 >>> ((0 : Int32) &&& 31)).toInt8.toInt32) &&& (255 : Int32)))]) (fun t k => XS.iand X1.here hx rfl (hb hby dgc2_0_41) rfl k) ?_
  have S3 : Sta Z h0 "java/lang/StringUTF16" "HI_BYTE_SHIFT" "I" (.int (0 : Int32)) := SH.ext F0.2
  obtain ⟨T3, X3, e3, st3⟩ := getS X1 hx hZ (host := "") hown (own_w hw 87 rfl) Via.refl e1 S3 (g := (mkF m 42 #[.val (.ref a1), .val (.int (1 : Int32))] [(.int (((c0 >>> ((0 : Int32) &&& 31)).toInt8.toInt32) &&& (255 : Int32)))])) rfl (hb hby dgc2_0_42)
  refine own_f T3 (mkF m 45 #[.val (.ref a1), .val (.int (1 : Int32))] [(.int (0 : Int32)), (.int (((c0 >>> ((0 : Int32) &&& 31)).toInt8.toInt32) &&& (255 : Int32)))]) st3 ?_
  refine own_f T3 (mkF m 46 #[.val (.ref a1), .val (.int (1 : Int32))] [(.int ((((c0 >>> ((0 : Int32) &&& 31)).toInt8.toInt32) &&& (255 : Int32)) <<< ((0 : Int32) &&& 31)))]) (fun t k => XS.ishl X3.here hx rfl (hb hby dgc2_0_45) rfl k) ?_
  refine own_step (fun t k => XS.aloadN X3.here hx rfl (hb hby dgc2_0_46) rfl rfl k) ?_
  refine own_f T3 (mkF m 48 #[.val (.ref a1), .val (.int (1 : Int32))] [(.int (1 : Int32)), (.ref a1), (.int ((((c0 >>> ((0 : Int32) &&& 31)).toInt8.toInt32) &&& (255 : Int32)) <<< ((0 : Int32) &&& 31)))]) (fun t k => XS.iloadN X3.here hx rfl (hb hby dgc2_0_47) rfl k) ?_
  obtain ⟨cl4, Ar4, q14, Sz4, q34, Hs4, Gs4⟩ := id F1
  have hi4 := inb_of (j := (1 : Int32)) Sz4 ⟨by decide, by decide⟩
  refine own_f T3 (mkF m 49 #[.val (.ref a1), .val (.int (1 : Int32))] [(.int ((c0 >>> ((8 : Int32) &&& 31)).toInt8.toInt32)), (.int ((((c0 >>> ((0 : Int32) &&& 31)).toInt8.toInt32) &&& (255 : Int32)) <<< ((0 : Int32) &&& 31)))]) (fun t k => X3.baloadBytes hx (j := (1 : Int32)) (v := (.int ((c0 >>> ((8 : Int32) &&& 31)).toInt8.toInt32))) (by rw [e3]; exact Ar4.1) (State.isArrayOf_alike hZ.alike Ar4.2.1) Ar4.2.2 hi4 (Has.at Hs4 hi4 rfl) (g := (mkF m 48 #[.val (.ref a1), .val (.int (1 : Int32))] [(.int (1 : Int32)), (.ref a1), (.int ((((c0 >>> ((0 : Int32) &&& 31)).toInt8.toInt32) &&& (255 : Int32)) <<< ((0 : Int32) &&& 31)))])) rfl rfl (hb hby dgc2_0_48) t k) ?_
  refine own_step (fun t k => XT.sipushV X3.here hx rfl (255 : Int32) (hb hby dgc2_0_49) (by decide) k) ?_
  refine own_f T3 (mkF m 53 #[.val (.ref a1), .val (.int (1 : Int32))] [(.int (((c0 >>> ((8 : Int32) &&& 31)).toInt8.toInt32) &&& (255 : Int32))), (.int ((((c0 >>> ((0 : Int32) &&& 31)).toInt8.toInt32) &&& (255 : Int32)) <<< ((0 : Int32) &&& 31)))]) (fun t k => XS.iand X3.here hx rfl (hb hby dgc2_0_52) rfl k) ?_
  have S5 : Sta Z h0 "java/lang/StringUTF16" "LO_BYTE_SHIFT" "I" (.int (8 : Int32)) := SL.ext F0.2
  obtain ⟨T5, X5, e5, st5⟩ := getS X3 hx hZ (host := "") hown (own_w hw 88 rfl) Via.refl e3 S5 (g := (mkF m 53 #[.val (.ref a1), .val (.int (1 : Int32))] [(.int (((c0 >>> ((8 : Int32) &&& 31)).toInt8.toInt32) &&& (255 : Int32))), (.int ((((c0 >>> ((0 : Int32) &&& 31)).toInt8.toInt32) &&& (255 : Int32)) <<< ((0 : Int32) &&& 31)))])) rfl (hb hby dgc2_0_53)
  refine own_f T5 (mkF m 56 #[.val (.ref a1), .val (.int (1 : Int32))] [(.int (8 : Int32)), (.int (((c0 >>> ((8 : Int32) &&& 31)).toInt8.toInt32) &&& (255 : Int32))), (.int ((((c0 >>> ((0 : Int32) &&& 31)).toInt8.toInt32) &&& (255 : Int32)) <<< ((0 : Int32) &&& 31)))]) st5 ?_
  refine own_f T5 (mkF m 57 #[.val (.ref a1), .val (.int (1 : Int32))] [(.int ((((c0 >>> ((8 : Int32) &&& 31)).toInt8.toInt32) &&& (255 : Int32)) <<< ((8 : Int32) &&& 31))), (.int ((((c0 >>> ((0 : Int32) &&& 31)).toInt8.toInt32) &&& (255 : Int32)) <<< ((0 : Int32) &&& 31)))]) (fun t k => XS.ishl X5.here hx rfl (hb hby dgc2_0_56) rfl k) ?_
  refine own_f T5 (mkF m 58 #[.val (.ref a1), .val (.int (1 : Int32))] [(.int (((((c0 >>> ((0 : Int32) &&& 31)).toInt8.toInt32) &&& (255 : Int32)) <<< ((0 : Int32) &&& 31)) ||| ((((c0 >>> ((8 : Int32) &&& 31)).toInt8.toInt32) &&& (255 : Int32)) <<< ((8 : Int32) &&& 31))))]) (fun t k => XS.ior X5.here hx rfl (hb hby dgc2_0_57) rfl k) ?_
  refine own_f T5 (mkF m 59 #[.val (.ref a1), .val (.int (1 : Int32))] [(.int ((((((c0 >>> ((0 : Int32) &&& 31)).toInt8.toInt32) &&& (255 : Int32)) <<< ((0 : Int32) &&& 31)) ||| ((((c0 >>> ((8 : Int32) &&& 31)).toInt8.toInt32) &&& (255 : Int32)) <<< ((8 : Int32) &&& 31))).toUInt32.toUInt16.toUInt32.toInt32))]) (fun t k => XS.i2c X5.here hx rfl (hb hby dgc2_0_58) rfl k) ?_
  obtain ⟨fs, hr, hrun, hended, hW, hsame⟩ := X5.leave (v := some (.int ((((((c0 >>> ((0 : Int32) &&& 31)).toInt8.toInt32) &&& (255 : Int32)) <<< ((0 : Int32) &&& 31)) ||| ((((c0 >>> ((8 : Int32) &&& 31)).toInt8.toInt32) &&& (255 : Int32)) <<< ((8 : Int32) &&& 31))).toUInt32.toUInt16.toUInt32.toInt32))) (fun h => by rw [Bd.returns] at h; cases h)
  refine ⟨_, _, own_retB X5 hx (t := .char) Bd.returns (by simp) (own_narC _) (hb hby dgc2_0_59) hr, hrun, hended, _, _, rfl, ?_, ⟨_, rfl⟩, hW, hsame.mono (by decide) (by decide)⟩
  show Qgc2_0 Z a1 k1 c0 c1 h0 n0 _ T5.heap _
  rw [e5]
  exact ⟨by rw [own_gc hw_c0], N0, rfl⟩
theorem dcb2_0_0 : decode jdk_52_method_16_code 0 = .ok (.iload_n 2, 1) := by decide +kernel
theorem dcb2_0_1 : decode jdk_52_method_16_code 1 = .ok (.newarray .byte, 2) := by decide +kernel
theorem dcb2_0_3 : decode jdk_52_method_16_code 3 = .ok (.astore_n 3, 1) := by decide +kernel
theorem dcb2_0_4 : decode jdk_52_method_16_code 4 = .ok (.aload_n 0, 1) := by decide +kernel
theorem dcb2_0_5 : decode jdk_52_method_16_code 5 = .ok (.iload_n 1, 1) := by decide +kernel
theorem dcb2_0_6 : decode jdk_52_method_16_code 6 = .ok (.aload_n 3, 1) := by decide +kernel
theorem dcb2_0_7 : decode jdk_52_method_16_code 7 = .ok (.iconst 0, 1) := by decide +kernel
theorem dcb2_0_8 : decode jdk_52_method_16_code 8 = .ok (.iload_n 2, 1) := by decide +kernel
theorem dcb2_0_9 : decode jdk_52_method_16_code 9 = .ok (.invokestatic 115, 3) := by decide +kernel
theorem dcb2_0_12 : decode jdk_52_method_16_code 12 = .ok (.istore 4, 2) := by decide +kernel
theorem dcb2_0_14 : decode jdk_52_method_16_code 14 = .ok (.iload 4, 2) := by decide +kernel
theorem dcb2_0_16 : decode jdk_52_method_16_code 16 = .ok (.iload_n 2, 1) := by decide +kernel
theorem dcb2_0_17 : decode jdk_52_method_16_code 17 = .ok (.if_icmp .eq 40, 3) := by decide +kernel
theorem dcb2_0_20 : decode jdk_52_method_16_code 20 = .ok (.aload_n 0, 1) := by decide +kernel
theorem dcb2_0_21 : decode jdk_52_method_16_code 21 = .ok (.iload_n 1, 1) := by decide +kernel
theorem dcb2_0_22 : decode jdk_52_method_16_code 22 = .ok (.iload_n 2, 1) := by decide +kernel
theorem dcb2_0_23 : decode jdk_52_method_16_code 23 = .ok (.invokestatic 119, 3) := by decide +kernel
theorem dcb2_0_26 : decode jdk_52_method_16_code 26 = .ok (.astore 5, 2) := by decide +kernel
theorem dcb2_0_28 : decode jdk_52_method_16_code 28 = .ok (.aload 5, 2) := by decide +kernel
theorem dcb2_0_30 : decode jdk_52_method_16_code 30 = .ok (.iload 4, 2) := by decide +kernel
theorem dcb2_0_32 : decode jdk_52_method_16_code 32 = .ok (.invokestatic 71, 3) := by decide +kernel
theorem dcb2_0_35 : decode jdk_52_method_16_code 35 = .ok (.sipush 255, 3) := by decide +kernel
theorem dcb2_0_38 : decode jdk_52_method_16_code 38 = .ok (.if_icmp .gt 16, 3) := by decide +kernel
theorem dcb2_0_54 : decode jdk_52_method_16_code 54 = .ok (.aload 5, 2) := by decide +kernel
theorem dcb2_0_56 : decode jdk_52_method_16_code 56 = .ok (.areturn, 1) := by decide +kernel
theorem pn_cb2_0 : plainName "java/lang/StringUTF16" = true := by first | (simp [plainName, overriddenIn]; done) | decide +kernel
theorem ef_cb2_0 (m : MethodId) (x0 : Addr) (x1 : Int32) (x2 : Int32) : entryFrame m #[(.ref x0), (.int x1), (.int x2)] 6 = mkF m 0 #[.val (.ref x0), .val (.int x1), .val (.int x2), .unset, .unset, .unset] [] := by first | (simp [entryFrame, mkF, argsToLocals, Value.category]; done) | rfl
def Qcb2_0 (Z : State) (a1 : Addr) (k1 : ClassId) (c0 : Int32) (c1 : Int32) (h0 : Heap) (n0 : Nat) (v : Option Value) (h : Heap) (L : List Loc) : Prop := ∃ (b : Addr) (kb : ClassId), v = some (.ref b) ∧ Fr n0 L ∧ Keep h0 h [] ∧ Arv Z h b kb .byte (4 : Int32) [.int ((c0 >>> ((0 : Int32) &&& 31)).toInt8.toInt32), .int ((c0 >>> ((8 : Int32) &&& 31)).toInt8.toInt32), .int ((c1 >>> ((0 : Int32) &&& 31)).toInt8.toInt32), .int ((c1 >>> ((8 : Int32) &&& 31)).toInt8.toInt32)] (.int 0) ∧ h0.size ≤ b
set_option maxRecDepth 65536 in
set_option maxHeartbeats 40000000 in
theorem rmcb2_0 (l : Launch) (Z : State) (a0 : Array Value) (hw : ∀ d ∈ tables_1, d.before a0 Z = true) (ws : List Jvm.Cond) (a1 : Addr) (k1 : ClassId) (c0 : Int32) (c1 : Int32) (h0 : Heap) (n0 : Nat) (Z0 : n0 ≤ h0.size) (F0 : Old Z n0 h0) (F1 : Arv Z h0 a1 k1 .char (2 : Int32) [.int c0, .int c1] (.int 0)) (hc_c0 : (255 : Int32) < c0) (SH : Sta Z Z.heap "java/lang/StringUTF16" "HI_BYTE_SHIFT" "I" (.int (0 : Int32))) (SL : Sta Z Z.heap "java/lang/StringUTF16" "LO_BYTE_SHIFT" "I" (.int (8 : Int32))) (SA : Sta Z Z.heap "java/lang/StringUTF16" "$assertionsDisabled" "Z" (.int (1 : Int32))) (hw_c0 : own_W c0) :
    MetFree l (⟨"java/lang/StringUTF16", "compress", "([CII)[B"⟩ : MethodName) (head1 (Jvm.Cond.code (⟨"java/lang/StringUTF16", "compress", "([CII)[B"⟩ : MethodName) jdk_52_method_16_code 6 (some (.array .byte)) :: ws) ({ frames := 3, cells := 2, slots := 6, locals := 40 } : Room)) (fun a U => a = #[(.ref a1), (.int (0 : Int32)), (.int (2 : Int32))] ∧ Z.Warmed39 U.vm ∧ U.heap = h0) (fun _ _ _ _ _ => True) (fun _ U o U' => ∃ v L, o = .returned v ∧ Qcb2_0 Z a1 k1 c0 c1 h0 n0 v U'.heap L ∧ FrameEnd U o U' L ({ frames := 3, cells := 2, slots := 6, locals := 40 } : Room).cells ({ frames := 3, cells := 2, slots := 6, locals := 40 } : Room).slots) := by
  refine MetFree.of_bodySF (plainFor_of_name pn_cb2_0) hisR ?_
  intro p e s m args below meth c s₁ Bd hml0 hP hK
  obtain ⟨rfl, hZ, hh⟩ := hP
  have hx := Bd.exec
  have hby := Bd.bytes
  have hml : c.maxLocals = 6 := hml0
  have hown : s.vm.findClass "java/lang/StringUTF16" = some m.cls := findClass_of_methodNamed Bd.named
  have hnm := (name_of_methodNamed Bd.named Bd.method).1
  have X0 : Stand p l e ({ frames := 3, cells := 2, slots := 6, locals := 40 } : Room) s m #[(.ref a1), (.int (0 : Int32)), (.int (2 : Int32))] below meth c s₁ [] 0 0 := Stand.of_body Bd
  have e0 : s₁.heap = h0 := by rw [← hh, Bd.state]; rfl
  have N0 := Fr.nil n0
  show own_R p.tables e below (own_P s (Qcb2_0 Z a1 k1 c0 c1 h0 n0) ({ frames := 3, cells := 2, slots := 6, locals := 40 } : Room).cells ({ frames := 3, cells := 2, slots := 6, locals := 40 } : Room).slots) (s₁.setTop (entryFrame m #[(.ref a1), (.int (0 : Int32)), (.int (2 : Int32))] 6))
  refine own_f s₁ (mkF m 0 #[.val (.ref a1), .val (.int (0 : Int32)), .val (.int (2 : Int32)), .unset, .unset, .unset] []) (fun t k => castTop (ef_cb2_0 m a1 (0 : Int32) (2 : Int32)) k) ?_
  refine own_f s₁ (mkF m 1 #[.val (.ref a1), .val (.int (0 : Int32)), .val (.int (2 : Int32)), .unset, .unset, .unset] [(.int (2 : Int32))]) (fun t k => XS.iloadN X0.here hx rfl (hb hby dcb2_0_0) rfl k) ?_
  obtain ⟨T1, h1, kA1, X1, e1, E1, A1, st1⟩ := newP X0 hx hZ (own_w hw 21 rfl) e0 (g := (mkF m 1 #[.val (.ref a1), .val (.int (0 : Int32)), .val (.int (2 : Int32)), .unset, .unset, .unset] [(.int (2 : Int32))])) rfl (hb hby dcb2_0_1) rfl (by decide) (cap := 2) (by decide) (by decide) (by decide) (by decide)
  obtain ⟨b1, g1⟩ : ∃ z, z = h0.size := ⟨_, rfl⟩
  rw [← g1] at A1 st1
  have ne1_a1 : a1 ≠ b1 := by rw [g1]; exact Nat.ne_of_lt F1.lt
  have ge1 : n0 ≤ b1 := by rw [g1]; exact Z0
  have gf1 : h0.size ≤ b1 := by rw [g1]; exact (Keep.refl h0 []).1
  have Zs1 : n0 ≤ h1.size := Nat.le_trans Z0 E1.1
  have F_2 := F0.ext E1
  have F_3 := F1.ext E1
  have K1 : Keep h0 h1 [] := (Keep.refl h0 []).ext E1
  have F_4 : Arv Z h1 b1 kA1 .byte (2 : Int32) [.int 0, .int 0] (.int 0) := own_arvnew 2 A1 (by decide)
  refine own_f T1 (mkF m 3 #[.val (.ref a1), .val (.int (0 : Int32)), .val (.int (2 : Int32)), .unset, .unset, .unset] [(.ref b1)]) st1 ?_
  refine own_f T1 (mkF m 4 #[.val (.ref a1), .val (.int (0 : Int32)), .val (.int (2 : Int32)), .val (.ref b1), .unset, .unset] []) (fun t k => XS.astoreN X1.here hx rfl (hb hby dcb2_0_3) rfl rfl (l' := #[.val (.ref a1), .val (.int (0 : Int32)), .val (.int (2 : Int32)), .val (.ref b1), .unset, .unset]) rfl k) ?_
  refine own_step (fun t k => XS.aloadN X1.here hx rfl (hb hby dcb2_0_4) rfl rfl k) ?_
  refine own_step (fun t k => XS.iloadN X1.here hx rfl (hb hby dcb2_0_5) rfl k) ?_
  refine own_step (fun t k => XS.aloadN X1.here hx rfl (hb hby dcb2_0_6) rfl rfl k) ?_
  refine own_step (fun t k => XT.iconstV X1.here hx rfl (0 : Int32) (hb hby dcb2_0_7) (by decide) k) ?_
  refine own_f T1 (mkF m 9 #[.val (.ref a1), .val (.int (0 : Int32)), .val (.int (2 : Int32)), .val (.ref b1), .unset, .unset] [(.int (2 : Int32)), (.int (0 : Int32)), (.ref b1), (.int (0 : Int32)), (.ref a1)]) (fun t k => XS.iloadN X1.here hx rfl (hb hby dcb2_0_8) rfl k) ?_
  obtain ⟨_, _, ⟨T5, Lq5, kq_5, nq_5⟩, -, X5, ⟨Lc5, hQ5, lq5, yq5, zq5⟩, st5⟩ := Jvm.LawKit.callS X1 hx (y := (⟨"java/lang/StringUTF16", "compress", "([CI[BII)I"⟩ : MethodName)) hown (mvT hZ (own_w hw 22 rfl)) (mvT hZ (own_w hw 23 rfl)) (mvT hZ (own_w hw 19 rfl)) (mvT hZ (own_w hw 24 rfl)) (by decide) (backOf (W := 0) (rmci2_0 l Z a0 hw [] a1 b1 _ _ _ _ h1 n0 Zs1 F_3 F_4 ge1 ne1_a1 hc_c0) hZ (own_w hw 24 rfl) (own_w hw 19 rfl) (by decide) (by decide)) (g := (mkF m 9 #[.val (.ref a1), .val (.int (0 : Int32)), .val (.int (2 : Int32)), .val (.ref b1), .unset, .unset] [(.int (2 : Int32)), (.int (0 : Int32)), (.ref b1), (.int (0 : Int32)), (.ref a1)])) rfl (by rw [hml]; rfl) (argsL := [(.ref a1), (.int (0 : Int32)), (.ref b1), (.int (0 : Int32)), (.int (2 : Int32))]) (rest := []) (lenOf pd__CI_BII_I rfl) rfl (by show 2 * 0 + _ ≤ _; exact Nat.le_of_eq rfl) (hb hby dcb2_0_9) (fun _ _ => ⟨rfl, e1, (by decide : 0 + 1 + 0 ≤ _), (by decide : 0 + 2 + 0 ≤ _)⟩)
  dsimp only [Pt.U, Pt.locs, Pt.cells, Pt.slots] at X5 lq5 yq5 zq5 st5 hQ5
  subst lq5 yq5 zq5
  obtain ⟨h5, e5⟩ : ∃ z, T5.heap = z := ⟨_, rfl⟩
  rw [e5] at hQ5
  unfold Qci2_0 at hQ5
  obtain ⟨rfl, Nq5, qh5, G5_0⟩ := hQ5
  have N5 := Fr.app N0 Nq5
  have Zs5 : n0 ≤ h5.size := Nat.le_trans Zs1 qh5.1
  have F_6 := F_2.keep qh5 (allS ge1 all0)
  have F_7 := F_3.keep qh5 (ninS ne1_a1 nin0)
  have K5 : Keep h0 h5 [] := K1.trans qh5 (allS (Or.inr gf1) all0)
  refine own_f T5 (mkF m 12 #[.val (.ref a1), .val (.int (0 : Int32)), .val (.int (2 : Int32)), .val (.ref b1), .unset, .unset] [(.int (0 : Int32))]) st5 ?_
  refine own_f T5 (mkF m 14 #[.val (.ref a1), .val (.int (0 : Int32)), .val (.int (2 : Int32)), .val (.ref b1), .val (.int (0 : Int32)), .unset] []) (fun t k => XS.istore X5.here hx rfl (hb hby dcb2_0_12) rfl (l' := #[.val (.ref a1), .val (.int (0 : Int32)), .val (.int (2 : Int32)), .val (.ref b1), .val (.int (0 : Int32)), .unset]) rfl k) ?_
  refine own_step (fun t k => XS.iload X5.here hx rfl (hb hby dcb2_0_14) rfl k) ?_
  refine own_step (fun t k => XS.iloadN X5.here hx rfl (hb hby dcb2_0_16) rfl k) ?_
  refine own_f T5 (mkF m 20 #[.val (.ref a1), .val (.int (0 : Int32)), .val (.int (2 : Int32)), .val (.ref b1), .val (.int (0 : Int32)), .unset] []) (fun t k => XS.icmpNo X5.here hx rfl (hb hby dcb2_0_17) rfl (XT.ii_eq_f (by decide)) k) ?_
  refine own_step (fun t k => XS.aloadN X5.here hx rfl (hb hby dcb2_0_20) rfl rfl k) ?_
  refine own_step (fun t k => XS.iloadN X5.here hx rfl (hb hby dcb2_0_21) rfl k) ?_
  refine own_f T5 (mkF m 23 #[.val (.ref a1), .val (.int (0 : Int32)), .val (.int (2 : Int32)), .val (.ref b1), .val (.int (0 : Int32)), .unset] [(.int (2 : Int32)), (.int (0 : Int32)), (.ref a1)]) (fun t k => XS.iloadN X5.here hx rfl (hb hby dcb2_0_22) rfl k) ?_
  obtain ⟨_, _, ⟨T8, Lq8, kq_8, nq_8⟩, -, X8, ⟨Lc8, hQ8, lq8, yq8, zq8⟩, st8⟩ := Jvm.LawKit.callS X5 hx (y := (⟨"java/lang/StringUTF16", "toBytes", "([CII)[B"⟩ : MethodName)) hown (mvT hZ (own_w hw 73 rfl)) (mvT hZ (own_w hw 74 rfl)) (mvT hZ (own_w hw 19 rfl)) (mvT hZ (own_w hw 75 rfl)) (by decide) (backOf (W := 0) (rmtb2 l Z a0 hw [] a1 _ _ _ h5 n0 Zs5 F_6 F_7 SH SL SA) hZ (own_w hw 75 rfl) (own_w hw 19 rfl) (by decide) (by decide)) (g := (mkF m 23 #[.val (.ref a1), .val (.int (0 : Int32)), .val (.int (2 : Int32)), .val (.ref b1), .val (.int (0 : Int32)), .unset] [(.int (2 : Int32)), (.int (0 : Int32)), (.ref a1)])) rfl (by rw [hml]; rfl) (argsL := [(.ref a1), (.int (0 : Int32)), (.int (2 : Int32))]) (rest := []) (lenOf pd__CII_B rfl) rfl (by show 2 * 0 + _ ≤ _; exact Nat.le_of_eq rfl) (hb hby dcb2_0_23) (fun _ _ => ⟨rfl, e5, (by decide : 0 + 1 + 0 + 1 ≤ _), (by decide : 0 + 2 + 0 + 4 ≤ _)⟩)
  dsimp only [Pt.U, Pt.locs, Pt.cells, Pt.slots] at X8 lq8 yq8 zq8 st8 hQ8
  subst lq8 yq8 zq8
  obtain ⟨h8, e8⟩ : ∃ z, T8.heap = z := ⟨_, rfl⟩
  rw [e8] at hQ8
  unfold Qtb2 at hQ8
  obtain ⟨b8, kb8, rfl, Nq8, qh8, G8_0, H8_0⟩ := hQ8
  have N8 := Fr.app N5 Nq8
  have Zs8 : n0 ≤ h8.size := Nat.le_trans Zs5 qh8.1
  have F_9 := F_6.keep qh8 all0
  have F_10 := F_7.keep qh8 nin0
  have F_11 := G5_0.keep qh8 nin0
  have K8 : Keep h0 h8 [] := K5.trans qh8 all0
  have ne8_a1 : a1 ≠ b8 := Nat.ne_of_lt (Nat.lt_of_lt_of_le F_7.lt H8_0)
  have ne8_b1 : b1 ≠ b8 := Nat.ne_of_lt (Nat.lt_of_lt_of_le G5_0.lt H8_0)
  have ge8 : n0 ≤ b8 := Nat.le_trans Zs5 H8_0
  have gf8 : h0.size ≤ b8 := Nat.le_trans K5.1 H8_0
  refine own_f T8 (mkF m 26 #[.val (.ref a1), .val (.int (0 : Int32)), .val (.int (2 : Int32)), .val (.ref b1), .val (.int (0 : Int32)), .unset] [(.ref b8)]) st8 ?_
  refine own_f T8 (mkF m 28 #[.val (.ref a1), .val (.int (0 : Int32)), .val (.int (2 : Int32)), .val (.ref b1), .val (.int (0 : Int32)), .val (.ref b8)] []) (fun t k => XS.astore X8.here hx rfl (hb hby dcb2_0_26) rfl rfl (l' := #[.val (.ref a1), .val (.int (0 : Int32)), .val (.int (2 : Int32)), .val (.ref b1), .val (.int (0 : Int32)), .val (.ref b8)]) rfl k) ?_
  refine own_step (fun t k => XS.aload X8.here hx rfl (hb hby dcb2_0_28) rfl rfl k) ?_
  refine own_f T8 (mkF m 32 #[.val (.ref a1), .val (.int (0 : Int32)), .val (.int (2 : Int32)), .val (.ref b1), .val (.int (0 : Int32)), .val (.ref b8)] [(.int (0 : Int32)), (.ref b8)]) (fun t k => XS.iload X8.here hx rfl (hb hby dcb2_0_30) rfl k) ?_
  obtain ⟨_, _, ⟨T12, Lq12, kq_12, nq_12⟩, -, X12, ⟨Lc12, hQ12, lq12, yq12, zq12⟩, st12⟩ := Jvm.LawKit.callS X8 hx (y := (⟨"java/lang/StringUTF16", "getChar", "([BI)C"⟩ : MethodName)) hown (mvT hZ (own_w hw 89 rfl)) (mvT hZ (own_w hw 90 rfl)) (mvT hZ (own_w hw 19 rfl)) (mvT hZ (own_w hw 91 rfl)) (by decide) (backOf (W := 0) (rmgc2_0 l Z a0 hw [] b8 _ _ _ h8 n0 Zs8 F_9 G8_0 SH SL SA hw_c0) hZ (own_w hw 91 rfl) (own_w hw 19 rfl) (by decide) (by decide)) (g := (mkF m 32 #[.val (.ref a1), .val (.int (0 : Int32)), .val (.int (2 : Int32)), .val (.ref b1), .val (.int (0 : Int32)), .val (.ref b8)] [(.int (0 : Int32)), (.ref b8)])) rfl (by rw [hml]; rfl) (argsL := [(.ref b8), (.int (0 : Int32))]) (rest := []) (lenOf pd__BI_C rfl) rfl (by show 2 * 0 + _ ≤ _; exact Nat.le_of_eq rfl) (hb hby dcb2_0_32) (fun _ _ => ⟨rfl, e8, (by decide : 0 + 1 + 0 + 1 + 0 ≤ _), (by decide : 0 + 2 + 0 + 4 + 0 ≤ _)⟩)
  dsimp only [Pt.U, Pt.locs, Pt.cells, Pt.slots] at X12 lq12 yq12 zq12 st12 hQ12
  subst lq12 yq12 zq12
  obtain ⟨h12, e12⟩ : ∃ z, T12.heap = z := ⟨_, rfl⟩
  rw [e12] at hQ12
  unfold Qgc2_0 at hQ12
  obtain ⟨rfl, Nq12, qh12⟩ := hQ12
  have N12 := Fr.app N8 Nq12
  rw [qh12] at e12
  refine own_f T12 (mkF m 35 #[.val (.ref a1), .val (.int (0 : Int32)), .val (.int (2 : Int32)), .val (.ref b1), .val (.int (0 : Int32)), .val (.ref b8)] [(.int c0)]) st12 ?_
  refine own_step (fun t k => XT.sipushV X12.here hx rfl (255 : Int32) (hb hby dcb2_0_35) (by decide) k) ?_
  refine own_f T12 (mkF m 54 #[.val (.ref a1), .val (.int (0 : Int32)), .val (.int (2 : Int32)), .val (.ref b1), .val (.int (0 : Int32)), .val (.ref b8)] []) (fun t k => XS.icmpYes X12.here hx rfl (pc0 := 38) (pc' := 54) rfl (hb hby dcb2_0_38) rfl (XT.ii_gt_t hc_c0) (by decide) (by decide) k) ?_
  refine own_f T12 (mkF m 56 #[.val (.ref a1), .val (.int (0 : Int32)), .val (.int (2 : Int32)), .val (.ref b1), .val (.int (0 : Int32)), .val (.ref b8)] [(.ref b8)]) (fun t k => XS.aload X12.here hx rfl (hb hby dcb2_0_54) rfl rfl k) ?_
  obtain ⟨fs, hr, hrun, hended, hW, hsame⟩ := X12.leave (v := some (.ref b8)) (fun h => by rw [Bd.returns] at h; cases h)
  refine ⟨_, _, retOut X12 hx Bd.returns (by rfl) (Or.inr (Or.inr (Or.inr (Or.inr ⟨rfl, rfl, rfl⟩)))) (hb hby dcb2_0_56) hr, hrun, hended, _, _, rfl, ?_, ⟨_, rfl⟩, hW, hsame.mono (by decide) (by decide)⟩
  show Qcb2_0 Z a1 k1 c0 c1 h0 n0 _ T12.heap _
  rw [e12]
  exact ⟨b8, kb8, rfl, N12, K8, G8_0, gf8⟩
theorem ds42_0_0 : decode jdk_42_method_149_code 0 = .ok (.aload_n 0, 1) := by decide +kernel
theorem ds42_0_1 : decode jdk_42_method_149_code 1 = .ok (.invokespecial 1, 3) := by decide +kernel
theorem ds42_0_4 : decode jdk_42_method_149_code 4 = .ok (.iload_n 3, 1) := by decide +kernel
theorem ds42_0_5 : decode jdk_42_method_149_code 5 = .ok (.ifCond .ne 22, 3) := by decide +kernel
theorem ds42_0_27 : decode jdk_42_method_149_code 27 = .ok (.getstatic 38, 3) := by decide +kernel
theorem ds42_0_30 : decode jdk_42_method_149_code 30 = .ok (.ifCond .eq 28, 3) := by decide +kernel
theorem ds42_0_33 : decode jdk_42_method_149_code 33 = .ok (.aload_n 1, 1) := by decide +kernel
theorem ds42_0_34 : decode jdk_42_method_149_code 34 = .ok (.iload_n 2, 1) := by decide +kernel
theorem ds42_0_35 : decode jdk_42_method_149_code 35 = .ok (.iload_n 3, 1) := by decide +kernel
theorem ds42_0_36 : decode jdk_42_method_149_code 36 = .ok (.invokestatic 177, 3) := by decide +kernel
theorem ds42_0_39 : decode jdk_42_method_149_code 39 = .ok (.astore 5, 2) := by decide +kernel
theorem ds42_0_41 : decode jdk_42_method_149_code 41 = .ok (.aload_n 0, 1) := by decide +kernel
theorem ds42_0_42 : decode jdk_42_method_149_code 42 = .ok (.aload 5, 2) := by decide +kernel
theorem ds42_0_44 : decode jdk_42_method_149_code 44 = .ok (.iload_n 3, 1) := by decide +kernel
theorem ds42_0_45 : decode jdk_42_method_149_code 45 = .ok (.invokestatic 47, 3) := by decide +kernel
theorem ds42_0_48 : decode jdk_42_method_149_code 48 = .ok (.putfield 15, 3) := by decide +kernel
theorem ds42_0_51 : decode jdk_42_method_149_code 51 = .ok (.aload_n 0, 1) := by decide +kernel
theorem ds42_0_52 : decode jdk_42_method_149_code 52 = .ok (.aload 5, 2) := by decide +kernel
theorem ds42_0_54 : decode jdk_42_method_149_code 54 = .ok (.putfield 9, 3) := by decide +kernel
theorem ds42_0_57 : decode jdk_42_method_149_code 57 = .ok (.return_, 1) := by decide +kernel
theorem pn_s42_0 : plainName "java/lang/String" = true := by first | (simp [plainName, overriddenIn]; done) | decide +kernel
theorem ef_s42_0 (m : MethodId) (x0 : Addr) (x1 : Addr) (x2 : Int32) (x3 : Int32) : entryFrame m #[(.ref x0), (.ref x1), (.int x2), (.int x3), .null] 6 = mkF m 0 #[.val (.ref x0), .val (.ref x1), .val (.int x2), .val (.int x3), .val .null, .unset] [] := by first | (simp [entryFrame, mkF, argsToLocals, Value.category]; done) | rfl
def Qs42_0 (Z : State) (a1 : Addr) (a2 : Addr) (k2 : ClassId) (c0 : Int32) (c1 : Int32) (u0 : Value) (u1 : Value) (wc : Int32) (h0 : Heap) (n0 : Nat) (v : Option Value) (h : Heap) (L : List Loc) : Prop := ∃ (b : Addr) (kb : ClassId), v = none ∧ Fr n0 L ∧ Keep h0 h [a1] ∧ Exa Z h a1 "java/lang/String" ∧ Fld Z h a1 "java/lang/String" "coder" "B" (.int (1 : Int32)) ∧ Fld Z h a1 "java/lang/String" "value" "[B" (.ref b) ∧ Arv Z h b kb .byte (4 : Int32) [.int ((c0 >>> ((0 : Int32) &&& 31)).toInt8.toInt32), .int ((c0 >>> ((8 : Int32) &&& 31)).toInt8.toInt32), .int ((c1 >>> ((0 : Int32) &&& 31)).toInt8.toInt32), .int ((c1 >>> ((8 : Int32) &&& 31)).toInt8.toInt32)] (.int 0) ∧ h0.size ≤ b
set_option maxRecDepth 65536 in
set_option maxHeartbeats 40000000 in
theorem rms42_0 (l : Launch) (Z : State) (a0 : Array Value) (hw : ∀ d ∈ tables_1, d.before a0 Z = true) (ws : List Jvm.Cond) (a1 : Addr) (a2 : Addr) (k2 : ClassId) (c0 : Int32) (c1 : Int32) (u0 : Value) (u1 : Value) (wc : Int32) (h0 : Heap) (n0 : Nat) (Z0 : n0 ≤ h0.size) (F0 : Old Z n0 h0) (F1 : Exa Z h0 a1 "java/lang/String") (F2 : Fld Z h0 a1 "java/lang/String" "value" "[B" u0) (F3 : Fld Z h0 a1 "java/lang/String" "coder" "B" u1) (F4 : Arv Z h0 a2 k2 .char (2 : Int32) [.int c0, .int c1] (.int 0)) (ge_a1 : n0 ≤ a1) (SC : Sta Z Z.heap "java/lang/String" "COMPACT_STRINGS" "Z" (.int wc)) (HWC : ¬ (wc = 0)) (SH : Sta Z Z.heap "java/lang/StringUTF16" "HI_BYTE_SHIFT" "I" (.int (0 : Int32))) (SL : Sta Z Z.heap "java/lang/StringUTF16" "LO_BYTE_SHIFT" "I" (.int (8 : Int32))) (SA : Sta Z Z.heap "java/lang/StringUTF16" "$assertionsDisabled" "Z" (.int (1 : Int32))) (hne : a2 ≠ a1) (hc_c0 : (255 : Int32) < c0) (hw_c0 : own_W c0) :
    MetFree l (⟨"java/lang/String", "<init>", "([CIILjava/lang/Void;)V"⟩ : MethodName) (head1 (Jvm.Cond.code (⟨"java/lang/String", "<init>", "([CIILjava/lang/Void;)V"⟩ : MethodName) jdk_42_method_149_code 6 none :: ws) ({ frames := 4, cells := 2, slots := 6, locals := 57 } : Room)) (fun a U => a = #[(.ref a1), (.ref a2), (.int (0 : Int32)), (.int (2 : Int32)), .null] ∧ Z.Warmed39 U.vm ∧ U.heap = h0) (fun _ _ _ _ _ => True) (fun _ U o U' => ∃ v L, o = .returned v ∧ Qs42_0 Z a1 a2 k2 c0 c1 u0 u1 wc h0 n0 v U'.heap L ∧ FrameEnd U o U' L ({ frames := 4, cells := 2, slots := 6, locals := 57 } : Room).cells ({ frames := 4, cells := 2, slots := 6, locals := 57 } : Room).slots) := by
  refine MetFree.of_bodySF (plainFor_of_name pn_s42_0) hisR ?_
  intro p e s m args below meth c s₁ Bd hml0 hP hK
  obtain ⟨rfl, hZ, hh⟩ := hP
  have hx := Bd.exec
  have hby := Bd.bytes
  have hml : c.maxLocals = 6 := hml0
  have hown : s.vm.findClass "java/lang/String" = some m.cls := findClass_of_methodNamed Bd.named
  have hnm := (name_of_methodNamed Bd.named Bd.method).1
  have X0 : Stand p l e ({ frames := 4, cells := 2, slots := 6, locals := 57 } : Room) s m #[(.ref a1), (.ref a2), (.int (0 : Int32)), (.int (2 : Int32)), .null] below meth c s₁ [] 0 0 := Stand.of_body Bd
  have e0 : s₁.heap = h0 := by rw [← hh, Bd.state]; rfl
  have N0 := Fr.nil n0
  show own_R p.tables e below (own_P s (Qs42_0 Z a1 a2 k2 c0 c1 u0 u1 wc h0 n0) ({ frames := 4, cells := 2, slots := 6, locals := 57 } : Room).cells ({ frames := 4, cells := 2, slots := 6, locals := 57 } : Room).slots) (s₁.setTop (entryFrame m #[(.ref a1), (.ref a2), (.int (0 : Int32)), (.int (2 : Int32)), .null] 6))
  refine own_f s₁ (mkF m 0 #[.val (.ref a1), .val (.ref a2), .val (.int (0 : Int32)), .val (.int (2 : Int32)), .val .null, .unset] []) (fun t k => castTop (ef_s42_0 m a1 a2 (0 : Int32) (2 : Int32)) k) ?_
  refine own_f s₁ (mkF m 1 #[.val (.ref a1), .val (.ref a2), .val (.int (0 : Int32)), .val (.int (2 : Int32)), .val .null, .unset] [(.ref a1)]) (fun t k => XS.aloadN X0.here hx rfl (hb hby ds42_0_0) rfl rfl k) ?_
  obtain ⟨T1, X1, e1, st1⟩ := initO X0 hx hZ hown (own_w hw 13 rfl) (own_w hw 14 rfl) (own_w hw 15 rfl) e0 (g := (mkF m 1 #[.val (.ref a1), .val (.ref a2), .val (.int (0 : Int32)), .val (.int (2 : Int32)), .val .null, .unset] [(.ref a1)])) rfl (by rw [hml]; rfl) rfl (hb hby ds42_0_1) (by decide) (W := 0) (by show 2 * 0 + _ ≤ _; exact Nat.le_of_eq rfl) (by decide)
  refine own_f T1 (mkF m 4 #[.val (.ref a1), .val (.ref a2), .val (.int (0 : Int32)), .val (.int (2 : Int32)), .val .null, .unset] []) st1 ?_
  refine own_step (fun t k => XS.iloadN X1.here hx rfl (hb hby ds42_0_4) rfl k) ?_
  refine own_f T1 (mkF m 27 #[.val (.ref a1), .val (.ref a2), .val (.int (0 : Int32)), .val (.int (2 : Int32)), .val .null, .unset] []) (fun t k => XS.ifYes X1.here hx rfl (pc0 := 5) (pc' := 27) rfl (hb hby ds42_0_5) rfl (XT.i0_ne_t (by decide)) (by decide) (by decide) k) ?_
  have S2 : Sta Z h0 "java/lang/String" "COMPACT_STRINGS" "Z" (.int wc) := SC.ext F0.2
  obtain ⟨T2, X2, e2, st2⟩ := getS X1 hx hZ (host := "") hown (own_w hw 16 rfl) Via.refl e1 S2 (g := (mkF m 27 #[.val (.ref a1), .val (.ref a2), .val (.int (0 : Int32)), .val (.int (2 : Int32)), .val .null, .unset] [])) rfl (hb hby ds42_0_27)
  refine own_f T2 (mkF m 30 #[.val (.ref a1), .val (.ref a2), .val (.int (0 : Int32)), .val (.int (2 : Int32)), .val .null, .unset] [(.int wc)]) st2 ?_
  refine own_f T2 (mkF m 33 #[.val (.ref a1), .val (.ref a2), .val (.int (0 : Int32)), .val (.int (2 : Int32)), .val .null, .unset] []) (fun t k => XS.ifNo X2.here hx rfl (hb hby ds42_0_30) rfl (XT.i0_eq_f HWC) k) ?_
  refine own_step (fun t k => XS.aloadN X2.here hx rfl (hb hby ds42_0_33) rfl rfl k) ?_
  refine own_step (fun t k => XS.iloadN X2.here hx rfl (hb hby ds42_0_34) rfl k) ?_
  refine own_f T2 (mkF m 36 #[.val (.ref a1), .val (.ref a2), .val (.int (0 : Int32)), .val (.int (2 : Int32)), .val .null, .unset] [(.int (2 : Int32)), (.int (0 : Int32)), (.ref a2)]) (fun t k => XS.iloadN X2.here hx rfl (hb hby ds42_0_35) rfl k) ?_
  obtain ⟨_, _, ⟨T3, Lq3, kq_3, nq_3⟩, -, X3, ⟨Lc3, hQ3, lq3, yq3, zq3⟩, st3⟩ := Jvm.LawKit.callS X2 hx (y := (⟨"java/lang/StringUTF16", "compress", "([CII)[B"⟩ : MethodName)) hown (mvT hZ (own_w hw 17 rfl)) (mvT hZ (own_w hw 18 rfl)) (mvT hZ (own_w hw 19 rfl)) (mvT hZ (own_w hw 20 rfl)) (by decide) (backOf (W := 0) (rmcb2_0 l Z a0 hw [] a2 _ _ _ h0 n0 Z0 F0 F4 hc_c0 SH SL SA hw_c0) hZ (own_w hw 20 rfl) (own_w hw 19 rfl) (by decide) (by decide)) (g := (mkF m 36 #[.val (.ref a1), .val (.ref a2), .val (.int (0 : Int32)), .val (.int (2 : Int32)), .val .null, .unset] [(.int (2 : Int32)), (.int (0 : Int32)), (.ref a2)])) rfl (by rw [hml]; rfl) (argsL := [(.ref a2), (.int (0 : Int32)), (.int (2 : Int32))]) (rest := []) (lenOf pd__CII_B rfl) rfl (by show 2 * 0 + _ ≤ _; exact Nat.le_of_eq rfl) (hb hby ds42_0_36) (fun _ _ => ⟨rfl, e2, (by decide : 0 + 2 ≤ _), (by decide : 0 + 6 ≤ _)⟩)
  dsimp only [Pt.U, Pt.locs, Pt.cells, Pt.slots] at X3 lq3 yq3 zq3 st3 hQ3
  subst lq3 yq3 zq3
  obtain ⟨h3, e3⟩ : ∃ z, T3.heap = z := ⟨_, rfl⟩
  rw [e3] at hQ3
  unfold Qcb2_0 at hQ3
  obtain ⟨b3, kb3, rfl, Nq3, qh3, G3_0, H3_0⟩ := hQ3
  have N3 := Fr.app N0 Nq3
  have Zs3 : n0 ≤ h3.size := Nat.le_trans Z0 qh3.1
  have F_4 := F0.keep qh3 all0
  have F_5 := F1.keep qh3
  have F_6 := F2.keep qh3 nin0
  have F_7 := F3.keep qh3 nin0
  have F_8 := F4.keep qh3 nin0
  have K3 : Keep h0 h3 [a1] := (Keep.refl h0 [a1]).trans qh3 all0
  have ne3_a1 : a1 ≠ b3 := Nat.ne_of_lt (Nat.lt_of_lt_of_le F1.lt H3_0)
  have ne3_a2 : a2 ≠ b3 := Nat.ne_of_lt (Nat.lt_of_lt_of_le F4.lt H3_0)
  have ge3 : n0 ≤ b3 := Nat.le_trans Z0 H3_0
  have gf3 : h0.size ≤ b3 := Nat.le_trans (Keep.refl h0 [a1]).1 H3_0
  refine own_f T3 (mkF m 39 #[.val (.ref a1), .val (.ref a2), .val (.int (0 : Int32)), .val (.int (2 : Int32)), .val .null, .unset] [(.ref b3)]) st3 ?_
  refine own_f T3 (mkF m 41 #[.val (.ref a1), .val (.ref a2), .val (.int (0 : Int32)), .val (.int (2 : Int32)), .val .null, .val (.ref b3)] []) (fun t k => XS.astore X3.here hx rfl (hb hby ds42_0_39) rfl rfl (l' := #[.val (.ref a1), .val (.ref a2), .val (.int (0 : Int32)), .val (.int (2 : Int32)), .val .null, .val (.ref b3)]) rfl k) ?_
  refine own_step (fun t k => XS.aloadN X3.here hx rfl (hb hby ds42_0_41) rfl rfl k) ?_
  refine own_step (fun t k => XS.aload X3.here hx rfl (hb hby ds42_0_42) rfl rfl k) ?_
  refine own_f T3 (mkF m 45 #[.val (.ref a1), .val (.ref a2), .val (.int (0 : Int32)), .val (.int (2 : Int32)), .val .null, .val (.ref b3)] [(.int (2 : Int32)), (.ref b3), (.ref a1)]) (fun t k => XS.iloadN X3.here hx rfl (hb hby ds42_0_44) rfl k) ?_
  obtain ⟨_, _, ⟨T9, Lq9, kq_9, nq_9⟩, -, X9, ⟨Lc9, hQ9, lq9, yq9, zq9⟩, st9⟩ := Jvm.LawKit.callS X3 hx (y := (⟨"java/lang/StringUTF16", "coderFromArrayLen", "([BI)B"⟩ : MethodName)) hown (mvT hZ (own_w hw 25 rfl)) (mvT hZ (own_w hw 26 rfl)) (mvT hZ (own_w hw 19 rfl)) (mvT hZ (own_w hw 27 rfl)) (by decide) (backOf (W := 1) (rmco2_4 l Z a0 hw [] b3 _ _ h3 n0 Zs3 G3_0) hZ (own_w hw 27 rfl) (own_w hw 19 rfl) (by decide) (by decide)) (g := (mkF m 45 #[.val (.ref a1), .val (.ref a2), .val (.int (0 : Int32)), .val (.int (2 : Int32)), .val .null, .val (.ref b3)] [(.int (2 : Int32)), (.ref b3), (.ref a1)])) rfl (by rw [hml]; rfl) (argsL := [(.ref b3), (.int (2 : Int32))]) (rest := [(.ref a1)]) (lenOf pd__BI_B rfl) rfl (by show 2 * 0 + _ ≤ _; exact Nat.le_of_eq rfl) (hb hby ds42_0_45) (fun _ _ => ⟨rfl, e3, (by decide : 0 + 2 + 0 ≤ _), (by decide : 0 + 6 + 0 ≤ _)⟩)
  dsimp only [Pt.U, Pt.locs, Pt.cells, Pt.slots] at X9 lq9 yq9 zq9 st9 hQ9
  subst lq9 yq9 zq9
  obtain ⟨h9, e9⟩ : ∃ z, T9.heap = z := ⟨_, rfl⟩
  rw [e9] at hQ9
  unfold Qco2_4 at hQ9
  obtain ⟨rfl, Nq9, qh9⟩ := hQ9
  have N9 := Fr.app N3 Nq9
  rw [qh9] at e9
  refine own_f T9 (mkF m 48 #[.val (.ref a1), .val (.ref a2), .val (.int (0 : Int32)), .val (.int (2 : Int32)), .val .null, .val (.ref b3)] [(.int (1 : Int32)), (.ref a1)]) st9 ?_
  obtain ⟨T10, h10, X10, e10, W10, st10⟩ := putF X9 hx hZ hown (host := "") (Or.inl (own_w hw 28 rfl)) Via.refl e9 F_7 F_5 (Or.inr ⟨(own_w hw 29 rfl), rfl, hnm⟩) (own_w hw 3 rfl) (ty := .byte) (by decide) rfl rfl (g := (mkF m 48 #[.val (.ref a1), .val (.ref a2), .val (.int (0 : Int32)), .val (.int (2 : Int32)), .val .null, .val (.ref b3)] [(.int (1 : Int32)), (.ref a1)])) rfl rfl (hb hby ds42_0_48)
  have N10 := Fr.snoc X10 N9 ge_a1
  have Zs10 : n0 ≤ h10.size := by rw [W10.size]; exact Zs3
  have K10 : Keep h0 h10 [a1] := K3.wr W10 (Or.inl (by simp))
  have F_11 := F_4.wr W10 ge_a1
  have F_12 := F_5.wr W10
  have F_13 := F_6.other W10 (Or.inr (slot_ne (Or.inr (own_w hw 31 rfl)) (Or.inr (own_w hw 29 rfl)) (by decide) (t := (.array .byte)) (t' := .byte) (by decide) (by decide)))
  have F_14 := F_7.same W10
  have F_15 := F_8.other W10 hne
  have F_16 := G3_0.other W10 (Ne.symm ne3_a1)
  refine own_f T10 (mkF m 51 #[.val (.ref a1), .val (.ref a2), .val (.int (0 : Int32)), .val (.int (2 : Int32)), .val .null, .val (.ref b3)] []) st10 ?_
  refine own_step (fun t k => XS.aloadN X10.here hx rfl (hb hby ds42_0_51) rfl rfl k) ?_
  refine own_f T10 (mkF m 54 #[.val (.ref a1), .val (.ref a2), .val (.int (0 : Int32)), .val (.int (2 : Int32)), .val .null, .val (.ref b3)] [(.ref b3), (.ref a1)]) (fun t k => XS.aload X10.here hx rfl (hb hby ds42_0_52) rfl rfl k) ?_
  obtain ⟨T17, h17, X17, e17, W17, st17⟩ := putF X10 hx hZ hown (host := "") (Or.inl (own_w hw 30 rfl)) Via.refl e10 F_13 F_12 (Or.inr ⟨(own_w hw 31 rfl), rfl, hnm⟩) (own_w hw 3 rfl) (ty := (.array .byte)) (by decide) rfl rfl (g := (mkF m 54 #[.val (.ref a1), .val (.ref a2), .val (.int (0 : Int32)), .val (.int (2 : Int32)), .val .null, .val (.ref b3)] [(.ref b3), (.ref a1)])) rfl rfl (hb hby ds42_0_54)
  have N17 := Fr.snoc X17 N10 ge_a1
  have Zs17 : n0 ≤ h17.size := by rw [W17.size]; exact Zs10
  have K17 : Keep h0 h17 [a1] := K10.wr W17 (Or.inl (by simp))
  have F_18 := F_11.wr W17 ge_a1
  have F_19 := F_12.wr W17
  have F_20 := F_13.same W17
  have F_21 := F_14.other W17 (Or.inr (slot_ne (Or.inr (own_w hw 29 rfl)) (Or.inr (own_w hw 31 rfl)) (by decide) (t := .byte) (t' := (.array .byte)) (by decide) (by decide)))
  have F_22 := F_15.other W17 hne
  have F_23 := F_16.other W17 (Ne.symm ne3_a1)
  refine own_f T17 (mkF m 57 #[.val (.ref a1), .val (.ref a2), .val (.int (0 : Int32)), .val (.int (2 : Int32)), .val .null, .val (.ref b3)] []) st17 ?_
  obtain ⟨fs, hr, hrun, hended, hW, hsame⟩ := X17.leave (v := none) (fun _ => rfl)
  refine ⟨_, _, X17.returnOut hx Bd.returns (hb hby ds42_0_57) hr, hrun, hended, _, _, rfl, ?_, ⟨_, rfl⟩, hW, hsame.mono (by decide) (by decide)⟩
  show Qs42_0 Z a1 a2 k2 c0 c1 u0 u1 wc h0 n0 _ T17.heap _
  rw [e17]
  exact ⟨b3, kb3, rfl, N17, K17, F_19, F_21, F_20, F_23, gf3⟩
theorem dci2_1_0 : decode jdk_52_method_21_code 0 = .ok (.iconst 0, 1) := by decide +kernel
theorem dci2_1_1 : decode jdk_52_method_21_code 1 = .ok (.istore 5, 2) := by decide +kernel
theorem dci2_1_3 : decode jdk_52_method_21_code 3 = .ok (.iload 5, 2) := by decide +kernel
theorem dci2_1_5 : decode jdk_52_method_21_code 5 = .ok (.iload 4, 2) := by decide +kernel
theorem dci2_1_7 : decode jdk_52_method_21_code 7 = .ok (.if_icmp .ge 37, 3) := by decide +kernel
theorem dci2_1_10 : decode jdk_52_method_21_code 10 = .ok (.aload_n 0, 1) := by decide +kernel
theorem dci2_1_11 : decode jdk_52_method_21_code 11 = .ok (.iload_n 1, 1) := by decide +kernel
theorem dci2_1_12 : decode jdk_52_method_21_code 12 = .ok (.caload, 1) := by decide +kernel
theorem dci2_1_13 : decode jdk_52_method_21_code 13 = .ok (.istore 6, 2) := by decide +kernel
theorem dci2_1_15 : decode jdk_52_method_21_code 15 = .ok (.iload 6, 2) := by decide +kernel
theorem dci2_1_17 : decode jdk_52_method_21_code 17 = .ok (.sipush 255, 3) := by decide +kernel
theorem dci2_1_20 : decode jdk_52_method_21_code 20 = .ok (.if_icmp .le 6, 3) := by decide +kernel
theorem dci2_1_23 : decode jdk_52_method_21_code 23 = .ok (.iload 5, 2) := by decide +kernel
theorem dci2_1_25 : decode jdk_52_method_21_code 25 = .ok (.ireturn, 1) := by decide +kernel
theorem dci2_1_26 : decode jdk_52_method_21_code 26 = .ok (.aload_n 2, 1) := by decide +kernel
theorem dci2_1_27 : decode jdk_52_method_21_code 27 = .ok (.iload_n 3, 1) := by decide +kernel
theorem dci2_1_28 : decode jdk_52_method_21_code 28 = .ok (.iload 6, 2) := by decide +kernel
theorem dci2_1_30 : decode jdk_52_method_21_code 30 = .ok (.i2b, 1) := by decide +kernel
theorem dci2_1_31 : decode jdk_52_method_21_code 31 = .ok (.bastore, 1) := by decide +kernel
theorem dci2_1_32 : decode jdk_52_method_21_code 32 = .ok (.iinc 1 1, 3) := by decide +kernel
theorem dci2_1_35 : decode jdk_52_method_21_code 35 = .ok (.iinc 3 1, 3) := by decide +kernel
theorem dci2_1_38 : decode jdk_52_method_21_code 38 = .ok (.iinc 5 1, 3) := by decide +kernel
theorem dci2_1_41 : decode jdk_52_method_21_code 41 = .ok (.goto (-38), 3) := by decide +kernel
theorem pn_ci2_1 : plainName "java/lang/StringUTF16" = true := by first | (simp [plainName, overriddenIn]; done) | decide +kernel
theorem ef_ci2_1 (m : MethodId) (x0 : Addr) (x1 : Int32) (x2 : Addr) (x3 : Int32) (x4 : Int32) : entryFrame m #[(.ref x0), (.int x1), (.ref x2), (.int x3), (.int x4)] 7 = mkF m 0 #[.val (.ref x0), .val (.int x1), .val (.ref x2), .val (.int x3), .val (.int x4), .unset, .unset] [] := by first | (simp [entryFrame, mkF, argsToLocals, Value.category]; done) | rfl
def Qci2_1 (Z : State) (a1 : Addr) (a2 : Addr) (k1 : ClassId) (k2 : ClassId) (c0 : Int32) (c1 : Int32) (h0 : Heap) (n0 : Nat) (v : Option Value) (h : Heap) (L : List Loc) : Prop := v = some (.int (1 : Int32)) ∧ Fr n0 L ∧ Keep h0 h [a2] ∧ Arv Z h a2 k2 .byte (2 : Int32) [.int (c0.toInt8.toInt32), .int 0] (.int 0)
set_option maxRecDepth 65536 in
set_option maxHeartbeats 40000000 in
theorem rmci2_1 (l : Launch) (Z : State) (a0 : Array Value) (hw : ∀ d ∈ tables_1, d.before a0 Z = true) (ws : List Jvm.Cond) (a1 : Addr) (a2 : Addr) (k1 : ClassId) (k2 : ClassId) (c0 : Int32) (c1 : Int32) (h0 : Heap) (n0 : Nat) (Z0 : n0 ≤ h0.size) (F0 : Arv Z h0 a1 k1 .char (2 : Int32) [.int c0, .int c1] (.int 0)) (F1 : Arv Z h0 a2 k2 .byte (2 : Int32) [.int 0, .int 0] (.int 0)) (ge_a2 : n0 ≤ a2) (hne : a1 ≠ a2) (hc_c0 : ¬ ((255 : Int32) < c0)) (hc_c1 : (255 : Int32) < c1) :
    MetFree l (⟨"java/lang/StringUTF16", "compress", "([CI[BII)I"⟩ : MethodName) (head1 (Jvm.Cond.code (⟨"java/lang/StringUTF16", "compress", "([CI[BII)I"⟩ : MethodName) jdk_52_method_21_code 7 (some .int) :: ws) ({ frames := 0, cells := 0, slots := 0, locals := 0 } : Room)) (fun a U => a = #[(.ref a1), (.int (0 : Int32)), (.ref a2), (.int (0 : Int32)), (.int (2 : Int32))] ∧ Z.Warmed39 U.vm ∧ U.heap = h0) (fun _ _ _ _ _ => True) (fun _ U o U' => ∃ v L, o = .returned v ∧ Qci2_1 Z a1 a2 k1 k2 c0 c1 h0 n0 v U'.heap L ∧ FrameEnd U o U' L ({ frames := 0, cells := 0, slots := 0, locals := 0 } : Room).cells ({ frames := 0, cells := 0, slots := 0, locals := 0 } : Room).slots) := by
  refine MetFree.of_bodySF (plainFor_of_name pn_ci2_1) hisR ?_
  intro p e s m args below meth c s₁ Bd hml0 hP hK
  obtain ⟨rfl, hZ, hh⟩ := hP
  have hx := Bd.exec
  have hby := Bd.bytes
  have hml : c.maxLocals = 7 := hml0
  have hown : s.vm.findClass "java/lang/StringUTF16" = some m.cls := findClass_of_methodNamed Bd.named
  have hnm := (name_of_methodNamed Bd.named Bd.method).1
  have X0 : Stand p l e ({ frames := 0, cells := 0, slots := 0, locals := 0 } : Room) s m #[(.ref a1), (.int (0 : Int32)), (.ref a2), (.int (0 : Int32)), (.int (2 : Int32))] below meth c s₁ [] 0 0 := Stand.of_body Bd
  have e0 : s₁.heap = h0 := by rw [← hh, Bd.state]; rfl
  have N0 := Fr.nil n0
  show own_R p.tables e below (own_P s (Qci2_1 Z a1 a2 k1 k2 c0 c1 h0 n0) ({ frames := 0, cells := 0, slots := 0, locals := 0 } : Room).cells ({ frames := 0, cells := 0, slots := 0, locals := 0 } : Room).slots) (s₁.setTop (entryFrame m #[(.ref a1), (.int (0 : Int32)), (.ref a2), (.int (0 : Int32)), (.int (2 : Int32))] 7))
  refine own_f s₁ (mkF m 0 #[.val (.ref a1), .val (.int (0 : Int32)), .val (.ref a2), .val (.int (0 : Int32)), .val (.int (2 : Int32)), .unset, .unset] []) (fun t k => castTop (ef_ci2_1 m a1 (0 : Int32) a2 (0 : Int32) (2 : Int32)) k) ?_
  refine own_step (fun t k => XT.iconstV X0.here hx rfl (0 : Int32) (hb hby dci2_1_0) (by decide) k) ?_
  refine own_f s₁ (mkF m 3 #[.val (.ref a1), .val (.int (0 : Int32)), .val (.ref a2), .val (.int (0 : Int32)), .val (.int (2 : Int32)), .val (.int (0 : Int32)), .unset] []) (fun t k => XS.istore X0.here hx rfl (hb hby dci2_1_1) rfl (l' := #[.val (.ref a1), .val (.int (0 : Int32)), .val (.ref a2), .val (.int (0 : Int32)), .val (.int (2 : Int32)), .val (.int (0 : Int32)), .unset]) rfl k) ?_
  refine own_step (fun t k => XS.iload X0.here hx rfl (hb hby dci2_1_3) rfl k) ?_
  refine own_step (fun t k => XS.iload X0.here hx rfl (hb hby dci2_1_5) rfl k) ?_
  refine own_f s₁ (mkF m 10 #[.val (.ref a1), .val (.int (0 : Int32)), .val (.ref a2), .val (.int (0 : Int32)), .val (.int (2 : Int32)), .val (.int (0 : Int32)), .unset] []) (fun t k => XS.icmpNo X0.here hx rfl (hb hby dci2_1_7) rfl (XT.ii_ge_f (by decide)) k) ?_
  refine own_step (fun t k => XS.aloadN X0.here hx rfl (hb hby dci2_1_10) rfl rfl k) ?_
  refine own_f s₁ (mkF m 12 #[.val (.ref a1), .val (.int (0 : Int32)), .val (.ref a2), .val (.int (0 : Int32)), .val (.int (2 : Int32)), .val (.int (0 : Int32)), .unset] [(.int (0 : Int32)), (.ref a1)]) (fun t k => XS.iloadN X0.here hx rfl (hb hby dci2_1_11) rfl k) ?_
  obtain ⟨cl1, Ar1, q11, Sz1, q31, Hs1, Gs1⟩ := id F0
  have hi1 := inb_of (j := (0 : Int32)) Sz1 ⟨by decide, by decide⟩
  refine own_f s₁ (mkF m 13 #[.val (.ref a1), .val (.int (0 : Int32)), .val (.ref a2), .val (.int (0 : Int32)), .val (.int (2 : Int32)), .val (.int (0 : Int32)), .unset] [(.int c0)]) (fun t k => X0.caload hx (j := (0 : Int32)) (v := (.int c0)) (by rw [e0]; exact Ar1.1) (State.isArrayOf_alike hZ.alike Ar1.2.1) Ar1.2.2 hi1 (Has.at Hs1 hi1 rfl) (g := (mkF m 12 #[.val (.ref a1), .val (.int (0 : Int32)), .val (.ref a2), .val (.int (0 : Int32)), .val (.int (2 : Int32)), .val (.int (0 : Int32)), .unset] [(.int (0 : Int32)), (.ref a1)])) rfl rfl (hb hby dci2_1_12) t k) ?_
  refine own_f s₁ (mkF m 15 #[.val (.ref a1), .val (.int (0 : Int32)), .val (.ref a2), .val (.int (0 : Int32)), .val (.int (2 : Int32)), .val (.int (0 : Int32)), .val (.int c0)] []) (fun t k => XS.istore X0.here hx rfl (hb hby dci2_1_13) rfl (l' := #[.val (.ref a1), .val (.int (0 : Int32)), .val (.ref a2), .val (.int (0 : Int32)), .val (.int (2 : Int32)), .val (.int (0 : Int32)), .val (.int c0)]) rfl k) ?_
  refine own_step (fun t k => XS.iload X0.here hx rfl (hb hby dci2_1_15) rfl k) ?_
  refine own_step (fun t k => XT.sipushV X0.here hx rfl (255 : Int32) (hb hby dci2_1_17) (by decide) k) ?_
  refine own_f s₁ (mkF m 26 #[.val (.ref a1), .val (.int (0 : Int32)), .val (.ref a2), .val (.int (0 : Int32)), .val (.int (2 : Int32)), .val (.int (0 : Int32)), .val (.int c0)] []) (fun t k => XS.icmpYes X0.here hx rfl (pc0 := 20) (pc' := 26) rfl (hb hby dci2_1_20) rfl (XT.ii_le_t hc_c0) (by decide) (by decide) k) ?_
  refine own_step (fun t k => XS.aloadN X0.here hx rfl (hb hby dci2_1_26) rfl rfl k) ?_
  refine own_step (fun t k => XS.iloadN X0.here hx rfl (hb hby dci2_1_27) rfl k) ?_
  refine own_step (fun t k => XS.iload X0.here hx rfl (hb hby dci2_1_28) rfl k) ?_
  refine own_f s₁ (mkF m 31 #[.val (.ref a1), .val (.int (0 : Int32)), .val (.ref a2), .val (.int (0 : Int32)), .val (.int (2 : Int32)), .val (.int (0 : Int32)), .val (.int c0)] [(.int (c0.toInt8.toInt32)), (.int (0 : Int32)), (.ref a2)]) (fun t k => XS.i2b X0.here hx rfl (hb hby dci2_1_30) rfl k) ?_
  obtain ⟨cl2, Ar2, q12, Sz2, q32, Hs2, Gs2⟩ := id F1
  obtain ⟨T2, h2, X2, e2, W2, st2⟩ := stB X0 hx hZ e0 Ar2 (j := (0 : Int32)) (inb_of Sz2 ⟨by decide, by decide⟩) (g := (mkF m 31 #[.val (.ref a1), .val (.int (0 : Int32)), .val (.ref a2), .val (.int (0 : Int32)), .val (.int (2 : Int32)), .val (.int (0 : Int32)), .val (.int c0)] [(.int (c0.toInt8.toInt32)), (.int (0 : Int32)), (.ref a2)])) rfl rfl (hb hby dci2_1_31)
  have N2 := Fr.snoc X2 N0 ge_a2
  have Zs2 : n0 ≤ h2.size := by rw [W2.size]; exact Z0
  have K2 : Keep h0 h2 [a2] := (Keep.refl h0 [a2]).wr W2 (Or.inl (by simp))
  have F_3 := F0.other W2 hne
  have F_4 : Arv Z h2 a2 k2 .byte (2 : Int32) [.int (c0.toInt8.toInt32), .int 0] (.int 0) := Arv.set Ar2 q12 Sz2 q32 Hs2 Gs2 (by rw [← ((own_narB _) : nar .byte (c0.toInt8.toInt32) = (c0.toInt8.toInt32))]; exact own_fitB _) (by rw [((own_narB _) : nar .byte (c0.toInt8.toInt32) = (c0.toInt8.toInt32))] at W2; exact W2) 0 (by decide) (by simp)
  refine own_f T2 (mkF m 32 #[.val (.ref a1), .val (.int (0 : Int32)), .val (.ref a2), .val (.int (0 : Int32)), .val (.int (2 : Int32)), .val (.int (0 : Int32)), .val (.int c0)] []) st2 ?_
  refine own_f T2 (mkF m 35 #[.val (.ref a1), .val (.int ((0 : Int32) + (1 : Int32))), .val (.ref a2), .val (.int (0 : Int32)), .val (.int (2 : Int32)), .val (.int (0 : Int32)), .val (.int c0)] []) (fun t k => XT.iincV X2.here hx rfl (l' := #[.val (.ref a1), .val (.int ((0 : Int32) + (1 : Int32))), .val (.ref a2), .val (.int (0 : Int32)), .val (.int (2 : Int32)), .val (.int (0 : Int32)), .val (.int c0)]) (1 : Int32) (hb hby dci2_1_32) (by decide) rfl rfl k) ?_
  rw [show ((0 : Int32) + (1 : Int32)) = (1 : Int32) from by decide]
  refine own_f T2 (mkF m 38 #[.val (.ref a1), .val (.int (1 : Int32)), .val (.ref a2), .val (.int ((0 : Int32) + (1 : Int32))), .val (.int (2 : Int32)), .val (.int (0 : Int32)), .val (.int c0)] []) (fun t k => XT.iincV X2.here hx rfl (l' := #[.val (.ref a1), .val (.int (1 : Int32)), .val (.ref a2), .val (.int ((0 : Int32) + (1 : Int32))), .val (.int (2 : Int32)), .val (.int (0 : Int32)), .val (.int c0)]) (1 : Int32) (hb hby dci2_1_35) (by decide) rfl rfl k) ?_
  rw [show ((0 : Int32) + (1 : Int32)) = (1 : Int32) from by decide]
  refine own_f T2 (mkF m 41 #[.val (.ref a1), .val (.int (1 : Int32)), .val (.ref a2), .val (.int (1 : Int32)), .val (.int (2 : Int32)), .val (.int ((0 : Int32) + (1 : Int32))), .val (.int c0)] []) (fun t k => XT.iincV X2.here hx rfl (l' := #[.val (.ref a1), .val (.int (1 : Int32)), .val (.ref a2), .val (.int (1 : Int32)), .val (.int (2 : Int32)), .val (.int ((0 : Int32) + (1 : Int32))), .val (.int c0)]) (1 : Int32) (hb hby dci2_1_38) (by decide) rfl rfl k) ?_
  rw [show ((0 : Int32) + (1 : Int32)) = (1 : Int32) from by decide]
  refine own_step (fun t k => XS.goto X2.here hx rfl (pc0 := 41) (pc' := 3) rfl (hb hby dci2_1_41) (by decide) (by decide) k) ?_
  refine own_step (fun t k => XS.iload X2.here hx rfl (hb hby dci2_1_3) rfl k) ?_
  refine own_step (fun t k => XS.iload X2.here hx rfl (hb hby dci2_1_5) rfl k) ?_
  refine own_f T2 (mkF m 10 #[.val (.ref a1), .val (.int (1 : Int32)), .val (.ref a2), .val (.int (1 : Int32)), .val (.int (2 : Int32)), .val (.int (1 : Int32)), .val (.int c0)] []) (fun t k => XS.icmpNo X2.here hx rfl (hb hby dci2_1_7) rfl (XT.ii_ge_f (by decide)) k) ?_
  refine own_step (fun t k => XS.aloadN X2.here hx rfl (hb hby dci2_1_10) rfl rfl k) ?_
  refine own_f T2 (mkF m 12 #[.val (.ref a1), .val (.int (1 : Int32)), .val (.ref a2), .val (.int (1 : Int32)), .val (.int (2 : Int32)), .val (.int (1 : Int32)), .val (.int c0)] [(.int (1 : Int32)), (.ref a1)]) (fun t k => XS.iloadN X2.here hx rfl (hb hby dci2_1_11) rfl k) ?_
  obtain ⟨cl5, Ar5, q15, Sz5, q35, Hs5, Gs5⟩ := id F_3
  have hi5 := inb_of (j := (1 : Int32)) Sz5 ⟨by decide, by decide⟩
  refine own_f T2 (mkF m 13 #[.val (.ref a1), .val (.int (1 : Int32)), .val (.ref a2), .val (.int (1 : Int32)), .val (.int (2 : Int32)), .val (.int (1 : Int32)), .val (.int c0)] [(.int c1)]) (fun t k => X2.caload hx (j := (1 : Int32)) (v := (.int c1)) (by rw [e2]; exact Ar5.1) (State.isArrayOf_alike hZ.alike Ar5.2.1) Ar5.2.2 hi5 (Has.at Hs5 hi5 rfl) (g := (mkF m 12 #[.val (.ref a1), .val (.int (1 : Int32)), .val (.ref a2), .val (.int (1 : Int32)), .val (.int (2 : Int32)), .val (.int (1 : Int32)), .val (.int c0)] [(.int (1 : Int32)), (.ref a1)])) rfl rfl (hb hby dci2_1_12) t k) ?_
  refine own_f T2 (mkF m 15 #[.val (.ref a1), .val (.int (1 : Int32)), .val (.ref a2), .val (.int (1 : Int32)), .val (.int (2 : Int32)), .val (.int (1 : Int32)), .val (.int c1)] []) (fun t k => XS.istore X2.here hx rfl (hb hby dci2_1_13) rfl (l' := #[.val (.ref a1), .val (.int (1 : Int32)), .val (.ref a2), .val (.int (1 : Int32)), .val (.int (2 : Int32)), .val (.int (1 : Int32)), .val (.int c1)]) rfl k) ?_
  refine own_step (fun t k => XS.iload X2.here hx rfl (hb hby dci2_1_15) rfl k) ?_
  refine own_step (fun t k => XT.sipushV X2.here hx rfl (255 : Int32) (hb hby dci2_1_17) (by decide) k) ?_
  refine own_f T2 (mkF m 23 #[.val (.ref a1), .val (.int (1 : Int32)), .val (.ref a2), .val (.int (1 : Int32)), .val (.int (2 : Int32)), .val (.int (1 : Int32)), .val (.int c1)] []) (fun t k => XS.icmpNo X2.here hx rfl (hb hby dci2_1_20) rfl (XT.ii_le_f hc_c1) k) ?_
  refine own_f T2 (mkF m 25 #[.val (.ref a1), .val (.int (1 : Int32)), .val (.ref a2), .val (.int (1 : Int32)), .val (.int (2 : Int32)), .val (.int (1 : Int32)), .val (.int c1)] [(.int (1 : Int32))]) (fun t k => XS.iload X2.here hx rfl (hb hby dci2_1_23) rfl k) ?_
  obtain ⟨fs, hr, hrun, hended, hW, hsame⟩ := X2.leave (v := some (.int (1 : Int32))) (fun h => by rw [Bd.returns] at h; cases h)
  refine ⟨_, _, retI X2 hx Bd.returns (hb hby dci2_1_25) hr, hrun, hended, _, _, rfl, ?_, ⟨_, rfl⟩, hW, hsame.mono (by decide) (by decide)⟩
  show Qci2_1 Z a1 a2 k1 k2 c0 c1 h0 n0 _ T2.heap _
  rw [e2]
  exact ⟨rfl, N2, K2, F_4⟩
theorem dgc2_1_0 : decode jdk_52_method_5_code 0 = .ok (.getstatic 44, 3) := by decide +kernel
theorem dgc2_1_3 : decode jdk_52_method_5_code 3 = .ok (.ifCond .ne 25, 3) := by decide +kernel
theorem dgc2_1_28 : decode jdk_52_method_5_code 28 = .ok (.iload_n 1, 1) := by decide +kernel
theorem dgc2_1_29 : decode jdk_52_method_5_code 29 = .ok (.iconst 1, 1) := by decide +kernel
theorem dgc2_1_30 : decode jdk_52_method_5_code 30 = .ok (.ishl, 1) := by decide +kernel
theorem dgc2_1_31 : decode jdk_52_method_5_code 31 = .ok (.istore_n 1, 1) := by decide +kernel
theorem dgc2_1_32 : decode jdk_52_method_5_code 32 = .ok (.aload_n 0, 1) := by decide +kernel
theorem dgc2_1_33 : decode jdk_52_method_5_code 33 = .ok (.iload_n 1, 1) := by decide +kernel
theorem dgc2_1_34 : decode jdk_52_method_5_code 34 = .ok (.iinc 1 1, 3) := by decide +kernel
theorem dgc2_1_37 : decode jdk_52_method_5_code 37 = .ok (.baload, 1) := by decide +kernel
theorem dgc2_1_38 : decode jdk_52_method_5_code 38 = .ok (.sipush 255, 3) := by decide +kernel
theorem dgc2_1_41 : decode jdk_52_method_5_code 41 = .ok (.iand, 1) := by decide +kernel
theorem dgc2_1_42 : decode jdk_52_method_5_code 42 = .ok (.getstatic 59, 3) := by decide +kernel
theorem dgc2_1_45 : decode jdk_52_method_5_code 45 = .ok (.ishl, 1) := by decide +kernel
theorem dgc2_1_46 : decode jdk_52_method_5_code 46 = .ok (.aload_n 0, 1) := by decide +kernel
theorem dgc2_1_47 : decode jdk_52_method_5_code 47 = .ok (.iload_n 1, 1) := by decide +kernel
theorem dgc2_1_48 : decode jdk_52_method_5_code 48 = .ok (.baload, 1) := by decide +kernel
theorem dgc2_1_49 : decode jdk_52_method_5_code 49 = .ok (.sipush 255, 3) := by decide +kernel
theorem dgc2_1_52 : decode jdk_52_method_5_code 52 = .ok (.iand, 1) := by decide +kernel
theorem dgc2_1_53 : decode jdk_52_method_5_code 53 = .ok (.getstatic 63, 3) := by decide +kernel
theorem dgc2_1_56 : decode jdk_52_method_5_code 56 = .ok (.ishl, 1) := by decide +kernel
theorem dgc2_1_57 : decode jdk_52_method_5_code 57 = .ok (.ior, 1) := by decide +kernel
theorem dgc2_1_58 : decode jdk_52_method_5_code 58 = .ok (.i2c, 1) := by decide +kernel
theorem dgc2_1_59 : decode jdk_52_method_5_code 59 = .ok (.ireturn, 1) := by decide +kernel
theorem pn_gc2_1 : plainName "java/lang/StringUTF16" = true := by first | (simp [plainName, overriddenIn]; done) | decide +kernel
theorem ef_gc2_1 (m : MethodId) (x0 : Addr) (x1 : Int32) : entryFrame m #[(.ref x0), (.int x1)] 2 = mkF m 0 #[.val (.ref x0), .val (.int x1)] [] := by first | (simp [entryFrame, mkF, argsToLocals, Value.category]; done) | rfl
def Qgc2_1 (Z : State) (a1 : Addr) (k1 : ClassId) (c0 : Int32) (c1 : Int32) (h0 : Heap) (n0 : Nat) (v : Option Value) (h : Heap) (L : List Loc) : Prop := v = some (.int c1) ∧ Fr n0 L ∧ h = h0
set_option maxRecDepth 65536 in
set_option maxHeartbeats 40000000 in
theorem rmgc2_1 (l : Launch) (Z : State) (a0 : Array Value) (hw : ∀ d ∈ tables_1, d.before a0 Z = true) (ws : List Jvm.Cond) (a1 : Addr) (k1 : ClassId) (c0 : Int32) (c1 : Int32) (h0 : Heap) (n0 : Nat) (Z0 : n0 ≤ h0.size) (F0 : Old Z n0 h0) (F1 : Arv Z h0 a1 k1 .byte (4 : Int32) [.int ((c0 >>> ((0 : Int32) &&& 31)).toInt8.toInt32), .int ((c0 >>> ((8 : Int32) &&& 31)).toInt8.toInt32), .int ((c1 >>> ((0 : Int32) &&& 31)).toInt8.toInt32), .int ((c1 >>> ((8 : Int32) &&& 31)).toInt8.toInt32)] (.int 0)) (SH : Sta Z Z.heap "java/lang/StringUTF16" "HI_BYTE_SHIFT" "I" (.int (0 : Int32))) (SL : Sta Z Z.heap "java/lang/StringUTF16" "LO_BYTE_SHIFT" "I" (.int (8 : Int32))) (SA : Sta Z Z.heap "java/lang/StringUTF16" "$assertionsDisabled" "Z" (.int (1 : Int32))) (hw_c1 : own_W c1) :
    MetFree l (⟨"java/lang/StringUTF16", "getChar", "([BI)C"⟩ : MethodName) (head1 (Jvm.Cond.code (⟨"java/lang/StringUTF16", "getChar", "([BI)C"⟩ : MethodName) jdk_52_method_5_code 2 (some .char) :: ws) ({ frames := 0, cells := 0, slots := 0, locals := 0 } : Room)) (fun a U => a = #[(.ref a1), (.int (1 : Int32))] ∧ Z.Warmed39 U.vm ∧ U.heap = h0) (fun _ _ _ _ _ => True) (fun _ U o U' => ∃ v L, o = .returned v ∧ Qgc2_1 Z a1 k1 c0 c1 h0 n0 v U'.heap L ∧ FrameEnd U o U' L ({ frames := 0, cells := 0, slots := 0, locals := 0 } : Room).cells ({ frames := 0, cells := 0, slots := 0, locals := 0 } : Room).slots) := by
  refine MetFree.of_bodySF (plainFor_of_name pn_gc2_1) hisR ?_
  intro p e s m args below meth c s₁ Bd hml0 hP hK
  obtain ⟨rfl, hZ, hh⟩ := hP
  have hx := Bd.exec
  have hby := Bd.bytes
  have hml : c.maxLocals = 2 := hml0
  have hown : s.vm.findClass "java/lang/StringUTF16" = some m.cls := findClass_of_methodNamed Bd.named
  have hnm := (name_of_methodNamed Bd.named Bd.method).1
  have X0 : Stand p l e ({ frames := 0, cells := 0, slots := 0, locals := 0 } : Room) s m #[(.ref a1), (.int (1 : Int32))] below meth c s₁ [] 0 0 := Stand.of_body Bd
  have e0 : s₁.heap = h0 := by rw [← hh, Bd.state]; rfl
  have N0 := Fr.nil n0
  show own_R p.tables e below (own_P s (Qgc2_1 Z a1 k1 c0 c1 h0 n0) ({ frames := 0, cells := 0, slots := 0, locals := 0 } : Room).cells ({ frames := 0, cells := 0, slots := 0, locals := 0 } : Room).slots) (s₁.setTop (entryFrame m #[(.ref a1), (.int (1 : Int32))] 2))
  refine own_f s₁ (mkF m 0 #[.val (.ref a1), .val (.int (1 : Int32))] []) (fun t k => castTop (ef_gc2_1 m a1 (1 : Int32)) k) ?_
  have S1 : Sta Z h0 "java/lang/StringUTF16" "$assertionsDisabled" "Z" (.int (1 : Int32)) := SA.ext F0.2
  obtain ⟨T1, X1, e1, st1⟩ := getS X0 hx hZ (host := "") hown (own_w hw 86 rfl) Via.refl e0 S1 (g := (mkF m 0 #[.val (.ref a1), .val (.int (1 : Int32))] [])) rfl (hb hby dgc2_1_0)
  refine own_f T1 (mkF m 3 #[.val (.ref a1), .val (.int (1 : Int32))] [(.int (1 : Int32))]) st1 ?_
  refine own_f T1 (mkF m 28 #[.val (.ref a1), .val (.int (1 : Int32))] []) (fun t k => XS.ifYes X1.here hx rfl (pc0 := 3) (pc' := 28) rfl (hb hby dgc2_1_3) rfl (XT.i0_ne_t (by decide)) (by decide) (by decide) k) ?_
  refine own_step (fun t k => XS.iloadN X1.here hx rfl (hb hby dgc2_1_28) rfl k) ?_
  refine own_step (fun t k => XT.iconstV X1.here hx rfl (1 : Int32) (hb hby dgc2_1_29) (by decide) k) ?_
  refine own_f T1 (mkF m 31 #[.val (.ref a1), .val (.int (1 : Int32))] [(.int ((1 : Int32) <<< ((1 : Int32) &&& 31)))]) (fun t k => XS.ishl X1.here hx rfl (hb hby dgc2_1_30) rfl k) ?_
  rw [show ((1 : Int32) <<< ((1 : Int32) &&& 31)) = (2 : Int32) from by decide]
  refine own_f T1 (mkF m 32 #[.val (.ref a1), .val (.int (2 : Int32))] []) (fun t k => XS.istoreN X1.here hx rfl (hb hby dgc2_1_31) rfl (l' := #[.val (.ref a1), .val (.int (2 : Int32))]) rfl k) ?_
  refine own_step (fun t k => XS.aloadN X1.here hx rfl (hb hby dgc2_1_32) rfl rfl k) ?_
  refine own_f T1 (mkF m 34 #[.val (.ref a1), .val (.int (2 : Int32))] [(.int (2 : Int32)), (.ref a1)]) (fun t k => XS.iloadN X1.here hx rfl (hb hby dgc2_1_33) rfl k) ?_
  refine own_f T1 (mkF m 37 #[.val (.ref a1), .val (.int ((2 : Int32) + (1 : Int32)))] [(.int (2 : Int32)), (.ref a1)]) (fun t k => XT.iincV X1.here hx rfl (l' := #[.val (.ref a1), .val (.int ((2 : Int32) + (1 : Int32)))]) (1 : Int32) (hb hby dgc2_1_34) (by decide) rfl rfl k) ?_
  rw [show ((2 : Int32) + (1 : Int32)) = (3 : Int32) from by decide]
  obtain ⟨cl2, Ar2, q12, Sz2, q32, Hs2, Gs2⟩ := id F1
  have hi2 := inb_of (j := (2 : Int32)) Sz2 ⟨by decide, by decide⟩
  refine own_f T1 (mkF m 38 #[.val (.ref a1), .val (.int (3 : Int32))] [(.int ((c1 >>> ((0 : Int32) &&& 31)).toInt8.toInt32))]) (fun t k => X1.baloadBytes hx (j := (2 : Int32)) (v := (.int ((c1 >>> ((0 : Int32) &&& 31)).toInt8.toInt32))) (by rw [e1]; exact Ar2.1) (State.isArrayOf_alike hZ.alike Ar2.2.1) Ar2.2.2 hi2 (Has.at Hs2 hi2 rfl) (g := (mkF m 37 #[.val (.ref a1), .val (.int (3 : Int32))] [(.int (2 : Int32)), (.ref a1)])) rfl rfl (hb hby dgc2_1_37) t k) ?_
  refine own_step (fun t k => XT.sipushV X1.here hx rfl (255 : Int32) (hb hby dgc2_1_38) (by decide) k) ?_
  refine own_f T1 (mkF m 42 #[.val (.ref a1), .val (.int (3 : Int32))] [(.int (((c1 >>> ((0 : Int32) &&& 31)).toInt8.toInt32) &&& (255 : Int32)))]) (fun t k => XS.iand X1.here hx rfl (hb hby dgc2_1_41) rfl k) ?_
  have S3 : Sta Z h0 "java/lang/StringUTF16" "HI_BYTE_SHIFT" "I" (.int (0 : Int32)) := SH.ext F0.2
  obtain ⟨T3, X3, e3, st3⟩ := getS X1 hx hZ (host := "") hown (own_w hw 87 rfl) Via.refl e1 S3 (g := (mkF m 42 #[.val (.ref a1), .val (.int (3 : Int32))] [(.int (((c1 >>> ((0 : Int32) &&& 31)).toInt8.toInt32) &&& (255 : Int32)))])) rfl (hb hby dgc2_1_42)
  refine own_f T3 (mkF m 45 #[.val (.ref a1), .val (.int (3 : Int32))] [(.int (0 : Int32)), (.int (((c1 >>> ((0 : Int32) &&& 31)).toInt8.toInt32) &&& (255 : Int32)))]) st3 ?_
  refine own_f T3 (mkF m 46 #[.val (.ref a1), .val (.int (3 : Int32))] [(.int ((((c1 >>> ((0 : Int32) &&& 31)).toInt8.toInt32) &&& (255 : Int32)) <<< ((0 : Int32) &&& 31)))]) (fun t k => XS.ishl X3.here hx rfl (hb hby dgc2_1_45) rfl k) ?_
  refine own_step (fun t k => XS.aloadN X3.here hx rfl (hb hby dgc2_1_46) rfl rfl k) ?_
  refine own_f T3 (mkF m 48 #[.val (.ref a1), .val (.int (3 : Int32))] [(.int (3 : Int32)), (.ref a1), (.int ((((c1 >>> ((0 : Int32) &&& 31)).toInt8.toInt32) &&& (255 : Int32)) <<< ((0 : Int32) &&& 31)))]) (fun t k => XS.iloadN X3.here hx rfl (hb hby dgc2_1_47) rfl k) ?_
  obtain ⟨cl4, Ar4, q14, Sz4, q34, Hs4, Gs4⟩ := id F1
  have hi4 := inb_of (j := (3 : Int32)) Sz4 ⟨by decide, by decide⟩
  refine own_f T3 (mkF m 49 #[.val (.ref a1), .val (.int (3 : Int32))] [(.int ((c1 >>> ((8 : Int32) &&& 31)).toInt8.toInt32)), (.int ((((c1 >>> ((0 : Int32) &&& 31)).toInt8.toInt32) &&& (255 : Int32)) <<< ((0 : Int32) &&& 31)))]) (fun t k => X3.baloadBytes hx (j := (3 : Int32)) (v := (.int ((c1 >>> ((8 : Int32) &&& 31)).toInt8.toInt32))) (by rw [e3]; exact Ar4.1) (State.isArrayOf_alike hZ.alike Ar4.2.1) Ar4.2.2 hi4 (Has.at Hs4 hi4 rfl) (g := (mkF m 48 #[.val (.ref a1), .val (.int (3 : Int32))] [(.int (3 : Int32)), (.ref a1), (.int ((((c1 >>> ((0 : Int32) &&& 31)).toInt8.toInt32) &&& (255 : Int32)) <<< ((0 : Int32) &&& 31)))])) rfl rfl (hb hby dgc2_1_48) t k) ?_
  refine own_step (fun t k => XT.sipushV X3.here hx rfl (255 : Int32) (hb hby dgc2_1_49) (by decide) k) ?_
  refine own_f T3 (mkF m 53 #[.val (.ref a1), .val (.int (3 : Int32))] [(.int (((c1 >>> ((8 : Int32) &&& 31)).toInt8.toInt32) &&& (255 : Int32))), (.int ((((c1 >>> ((0 : Int32) &&& 31)).toInt8.toInt32) &&& (255 : Int32)) <<< ((0 : Int32) &&& 31)))]) (fun t k => XS.iand X3.here hx rfl (hb hby dgc2_1_52) rfl k) ?_
  have S5 : Sta Z h0 "java/lang/StringUTF16" "LO_BYTE_SHIFT" "I" (.int (8 : Int32)) := SL.ext F0.2
  obtain ⟨T5, X5, e5, st5⟩ := getS X3 hx hZ (host := "") hown (own_w hw 88 rfl) Via.refl e3 S5 (g := (mkF m 53 #[.val (.ref a1), .val (.int (3 : Int32))] [(.int (((c1 >>> ((8 : Int32) &&& 31)).toInt8.toInt32) &&& (255 : Int32))), (.int ((((c1 >>> ((0 : Int32) &&& 31)).toInt8.toInt32) &&& (255 : Int32)) <<< ((0 : Int32) &&& 31)))])) rfl (hb hby dgc2_1_53)
  refine own_f T5 (mkF m 56 #[.val (.ref a1), .val (.int (3 : Int32))] [(.int (8 : Int32)), (.int (((c1 >>> ((8 : Int32) &&& 31)).toInt8.toInt32) &&& (255 : Int32))), (.int ((((c1 >>> ((0 : Int32) &&& 31)).toInt8.toInt32) &&& (255 : Int32)) <<< ((0 : Int32) &&& 31)))]) st5 ?_
  refine own_f T5 (mkF m 57 #[.val (.ref a1), .val (.int (3 : Int32))] [(.int ((((c1 >>> ((8 : Int32) &&& 31)).toInt8.toInt32) &&& (255 : Int32)) <<< ((8 : Int32) &&& 31))), (.int ((((c1 >>> ((0 : Int32) &&& 31)).toInt8.toInt32) &&& (255 : Int32)) <<< ((0 : Int32) &&& 31)))]) (fun t k => XS.ishl X5.here hx rfl (hb hby dgc2_1_56) rfl k) ?_
  refine own_f T5 (mkF m 58 #[.val (.ref a1), .val (.int (3 : Int32))] [(.int (((((c1 >>> ((0 : Int32) &&& 31)).toInt8.toInt32) &&& (255 : Int32)) <<< ((0 : Int32) &&& 31)) ||| ((((c1 >>> ((8 : Int32) &&& 31)).toInt8.toInt32) &&& (255 : Int32)) <<< ((8 : Int32) &&& 31))))]) (fun t k => XS.ior X5.here hx rfl (hb hby dgc2_1_57) rfl k) ?_
  refine own_f T5 (mkF m 59 #[.val (.ref a1), .val (.int (3 : Int32))] [(.int ((((((c1 >>> ((0 : Int32) &&& 31)).toInt8.toInt32) &&& (255 : Int32)) <<< ((0 : Int32) &&& 31)) ||| ((((c1 >>> ((8 : Int32) &&& 31)).toInt8.toInt32) &&& (255 : Int32)) <<< ((8 : Int32) &&& 31))).toUInt32.toUInt16.toUInt32.toInt32))]) (fun t k => XS.i2c X5.here hx rfl (hb hby dgc2_1_58) rfl k) ?_
  obtain ⟨fs, hr, hrun, hended, hW, hsame⟩ := X5.leave (v := some (.int ((((((c1 >>> ((0 : Int32) &&& 31)).toInt8.toInt32) &&& (255 : Int32)) <<< ((0 : Int32) &&& 31)) ||| ((((c1 >>> ((8 : Int32) &&& 31)).toInt8.toInt32) &&& (255 : Int32)) <<< ((8 : Int32) &&& 31))).toUInt32.toUInt16.toUInt32.toInt32))) (fun h => by rw [Bd.returns] at h; cases h)
  refine ⟨_, _, own_retB X5 hx (t := .char) Bd.returns (by simp) (own_narC _) (hb hby dgc2_1_59) hr, hrun, hended, _, _, rfl, ?_, ⟨_, rfl⟩, hW, hsame.mono (by decide) (by decide)⟩
  show Qgc2_1 Z a1 k1 c0 c1 h0 n0 _ T5.heap _
  rw [e5]
  exact ⟨by rw [own_gc hw_c1], N0, rfl⟩
theorem dcb2_1_0 : decode jdk_52_method_16_code 0 = .ok (.iload_n 2, 1) := by decide +kernel
theorem dcb2_1_1 : decode jdk_52_method_16_code 1 = .ok (.newarray .byte, 2) := by decide +kernel
theorem dcb2_1_3 : decode jdk_52_method_16_code 3 = .ok (.astore_n 3, 1) := by decide +kernel
theorem dcb2_1_4 : decode jdk_52_method_16_code 4 = .ok (.aload_n 0, 1) := by decide +kernel
theorem dcb2_1_5 : decode jdk_52_method_16_code 5 = .ok (.iload_n 1, 1) := by decide +kernel
theorem dcb2_1_6 : decode jdk_52_method_16_code 6 = .ok (.aload_n 3, 1) := by decide +kernel
theorem dcb2_1_7 : decode jdk_52_method_16_code 7 = .ok (.iconst 0, 1) := by decide +kernel
theorem dcb2_1_8 : decode jdk_52_method_16_code 8 = .ok (.iload_n 2, 1) := by decide +kernel
theorem dcb2_1_9 : decode jdk_52_method_16_code 9 = .ok (.invokestatic 115, 3) := by decide +kernel
theorem dcb2_1_12 : decode jdk_52_method_16_code 12 = .ok (.istore 4, 2) := by decide +kernel
theorem dcb2_1_14 : decode jdk_52_method_16_code 14 = .ok (.iload 4, 2) := by decide +kernel
theorem dcb2_1_16 : decode jdk_52_method_16_code 16 = .ok (.iload_n 2, 1) := by decide +kernel
theorem dcb2_1_17 : decode jdk_52_method_16_code 17 = .ok (.if_icmp .eq 40, 3) := by decide +kernel
theorem dcb2_1_20 : decode jdk_52_method_16_code 20 = .ok (.aload_n 0, 1) := by decide +kernel
theorem dcb2_1_21 : decode jdk_52_method_16_code 21 = .ok (.iload_n 1, 1) := by decide +kernel
theorem dcb2_1_22 : decode jdk_52_method_16_code 22 = .ok (.iload_n 2, 1) := by decide +kernel
theorem dcb2_1_23 : decode jdk_52_method_16_code 23 = .ok (.invokestatic 119, 3) := by decide +kernel
theorem dcb2_1_26 : decode jdk_52_method_16_code 26 = .ok (.astore 5, 2) := by decide +kernel
theorem dcb2_1_28 : decode jdk_52_method_16_code 28 = .ok (.aload 5, 2) := by decide +kernel
theorem dcb2_1_30 : decode jdk_52_method_16_code 30 = .ok (.iload 4, 2) := by decide +kernel
theorem dcb2_1_32 : decode jdk_52_method_16_code 32 = .ok (.invokestatic 71, 3) := by decide +kernel
theorem dcb2_1_35 : decode jdk_52_method_16_code 35 = .ok (.sipush 255, 3) := by decide +kernel
theorem dcb2_1_38 : decode jdk_52_method_16_code 38 = .ok (.if_icmp .gt 16, 3) := by decide +kernel
theorem dcb2_1_54 : decode jdk_52_method_16_code 54 = .ok (.aload 5, 2) := by decide +kernel
theorem dcb2_1_56 : decode jdk_52_method_16_code 56 = .ok (.areturn, 1) := by decide +kernel
theorem pn_cb2_1 : plainName "java/lang/StringUTF16" = true := by first | (simp [plainName, overriddenIn]; done) | decide +kernel
theorem ef_cb2_1 (m : MethodId) (x0 : Addr) (x1 : Int32) (x2 : Int32) : entryFrame m #[(.ref x0), (.int x1), (.int x2)] 6 = mkF m 0 #[.val (.ref x0), .val (.int x1), .val (.int x2), .unset, .unset, .unset] [] := by first | (simp [entryFrame, mkF, argsToLocals, Value.category]; done) | rfl
def Qcb2_1 (Z : State) (a1 : Addr) (k1 : ClassId) (c0 : Int32) (c1 : Int32) (h0 : Heap) (n0 : Nat) (v : Option Value) (h : Heap) (L : List Loc) : Prop := ∃ (b : Addr) (kb : ClassId), v = some (.ref b) ∧ Fr n0 L ∧ Keep h0 h [] ∧ Arv Z h b kb .byte (4 : Int32) [.int ((c0 >>> ((0 : Int32) &&& 31)).toInt8.toInt32), .int ((c0 >>> ((8 : Int32) &&& 31)).toInt8.toInt32), .int ((c1 >>> ((0 : Int32) &&& 31)).toInt8.toInt32), .int ((c1 >>> ((8 : Int32) &&& 31)).toInt8.toInt32)] (.int 0) ∧ h0.size ≤ b
set_option maxRecDepth 65536 in
set_option maxHeartbeats 40000000 in
theorem rmcb2_1 (l : Launch) (Z : State) (a0 : Array Value) (hw : ∀ d ∈ tables_1, d.before a0 Z = true) (ws : List Jvm.Cond) (a1 : Addr) (k1 : ClassId) (c0 : Int32) (c1 : Int32) (h0 : Heap) (n0 : Nat) (Z0 : n0 ≤ h0.size) (F0 : Old Z n0 h0) (F1 : Arv Z h0 a1 k1 .char (2 : Int32) [.int c0, .int c1] (.int 0)) (hc_c0 : ¬ ((255 : Int32) < c0)) (hc_c1 : (255 : Int32) < c1) (SH : Sta Z Z.heap "java/lang/StringUTF16" "HI_BYTE_SHIFT" "I" (.int (0 : Int32))) (SL : Sta Z Z.heap "java/lang/StringUTF16" "LO_BYTE_SHIFT" "I" (.int (8 : Int32))) (SA : Sta Z Z.heap "java/lang/StringUTF16" "$assertionsDisabled" "Z" (.int (1 : Int32))) (hw_c1 : own_W c1) :
    MetFree l (⟨"java/lang/StringUTF16", "compress", "([CII)[B"⟩ : MethodName) (head1 (Jvm.Cond.code (⟨"java/lang/StringUTF16", "compress", "([CII)[B"⟩ : MethodName) jdk_52_method_16_code 6 (some (.array .byte)) :: ws) ({ frames := 3, cells := 2, slots := 6, locals := 40 } : Room)) (fun a U => a = #[(.ref a1), (.int (0 : Int32)), (.int (2 : Int32))] ∧ Z.Warmed39 U.vm ∧ U.heap = h0) (fun _ _ _ _ _ => True) (fun _ U o U' => ∃ v L, o = .returned v ∧ Qcb2_1 Z a1 k1 c0 c1 h0 n0 v U'.heap L ∧ FrameEnd U o U' L ({ frames := 3, cells := 2, slots := 6, locals := 40 } : Room).cells ({ frames := 3, cells := 2, slots := 6, locals := 40 } : Room).slots) := by
  refine MetFree.of_bodySF (plainFor_of_name pn_cb2_1) hisR ?_
  intro p e s m args below meth c s₁ Bd hml0 hP hK
  obtain ⟨rfl, hZ, hh⟩ := hP
  have hx := Bd.exec
  have hby := Bd.bytes
  have hml : c.maxLocals = 6 := hml0
  have hown : s.vm.findClass "java/lang/StringUTF16" = some m.cls := findClass_of_methodNamed Bd.named
  have hnm := (name_of_methodNamed Bd.named Bd.method).1
  have X0 : Stand p l e ({ frames := 3, cells := 2, slots := 6, locals := 40 } : Room) s m #[(.ref a1), (.int (0 : Int32)), (.int (2 : Int32))] below meth c s₁ [] 0 0 := Stand.of_body Bd
  have e0 : s₁.heap = h0 := by rw [← hh, Bd.state]; rfl
  have N0 := Fr.nil n0
  show own_R p.tables e below (own_P s (Qcb2_1 Z a1 k1 c0 c1 h0 n0) ({ frames := 3, cells := 2, slots := 6, locals := 40 } : Room).cells ({ frames := 3, cells := 2, slots := 6, locals := 40 } : Room).slots) (s₁.setTop (entryFrame m #[(.ref a1), (.int (0 : Int32)), (.int (2 : Int32))] 6))
  refine own_f s₁ (mkF m 0 #[.val (.ref a1), .val (.int (0 : Int32)), .val (.int (2 : Int32)), .unset, .unset, .unset] []) (fun t k => castTop (ef_cb2_1 m a1 (0 : Int32) (2 : Int32)) k) ?_
  refine own_f s₁ (mkF m 1 #[.val (.ref a1), .val (.int (0 : Int32)), .val (.int (2 : Int32)), .unset, .unset, .unset] [(.int (2 : Int32))]) (fun t k => XS.iloadN X0.here hx rfl (hb hby dcb2_1_0) rfl k) ?_
  obtain ⟨T1, h1, kA1, X1, e1, E1, A1, st1⟩ := newP X0 hx hZ (own_w hw 21 rfl) e0 (g := (mkF m 1 #[.val (.ref a1), .val (.int (0 : Int32)), .val (.int (2 : Int32)), .unset, .unset, .unset] [(.int (2 : Int32))])) rfl (hb hby dcb2_1_1) rfl (by decide) (cap := 2) (by decide) (by decide) (by decide) (by decide)
  obtain ⟨b1, g1⟩ : ∃ z, z = h0.size := ⟨_, rfl⟩
  rw [← g1] at A1 st1
  have ne1_a1 : a1 ≠ b1 := by rw [g1]; exact Nat.ne_of_lt F1.lt
  have ge1 : n0 ≤ b1 := by rw [g1]; exact Z0
  have gf1 : h0.size ≤ b1 := by rw [g1]; exact (Keep.refl h0 []).1
  have Zs1 : n0 ≤ h1.size := Nat.le_trans Z0 E1.1
  have F_2 := F0.ext E1
  have F_3 := F1.ext E1
  have K1 : Keep h0 h1 [] := (Keep.refl h0 []).ext E1
  have F_4 : Arv Z h1 b1 kA1 .byte (2 : Int32) [.int 0, .int 0] (.int 0) := own_arvnew 2 A1 (by decide)
  refine own_f T1 (mkF m 3 #[.val (.ref a1), .val (.int (0 : Int32)), .val (.int (2 : Int32)), .unset, .unset, .unset] [(.ref b1)]) st1 ?_
  refine own_f T1 (mkF m 4 #[.val (.ref a1), .val (.int (0 : Int32)), .val (.int (2 : Int32)), .val (.ref b1), .unset, .unset] []) (fun t k => XS.astoreN X1.here hx rfl (hb hby dcb2_1_3) rfl rfl (l' := #[.val (.ref a1), .val (.int (0 : Int32)), .val (.int (2 : Int32)), .val (.ref b1), .unset, .unset]) rfl k) ?_
  refine own_step (fun t k => XS.aloadN X1.here hx rfl (hb hby dcb2_1_4) rfl rfl k) ?_
  refine own_step (fun t k => XS.iloadN X1.here hx rfl (hb hby dcb2_1_5) rfl k) ?_
  refine own_step (fun t k => XS.aloadN X1.here hx rfl (hb hby dcb2_1_6) rfl rfl k) ?_
  refine own_step (fun t k => XT.iconstV X1.here hx rfl (0 : Int32) (hb hby dcb2_1_7) (by decide) k) ?_
  refine own_f T1 (mkF m 9 #[.val (.ref a1), .val (.int (0 : Int32)), .val (.int (2 : Int32)), .val (.ref b1), .unset, .unset] [(.int (2 : Int32)), (.int (0 : Int32)), (.ref b1), (.int (0 : Int32)), (.ref a1)]) (fun t k => XS.iloadN X1.here hx rfl (hb hby dcb2_1_8) rfl k) ?_
  obtain ⟨_, _, ⟨T5, Lq5, kq_5, nq_5⟩, -, X5, ⟨Lc5, hQ5, lq5, yq5, zq5⟩, st5⟩ := Jvm.LawKit.callS X1 hx (y := (⟨"java/lang/StringUTF16", "compress", "([CI[BII)I"⟩ : MethodName)) hown (mvT hZ (own_w hw 22 rfl)) (mvT hZ (own_w hw 23 rfl)) (mvT hZ (own_w hw 19 rfl)) (mvT hZ (own_w hw 24 rfl)) (by decide) (backOf (W := 0) (rmci2_1 l Z a0 hw [] a1 b1 _ _ _ _ h1 n0 Zs1 F_3 F_4 ge1 ne1_a1 hc_c0 hc_c1) hZ (own_w hw 24 rfl) (own_w hw 19 rfl) (by decide) (by decide)) (g := (mkF m 9 #[.val (.ref a1), .val (.int (0 : Int32)), .val (.int (2 : Int32)), .val (.ref b1), .unset, .unset] [(.int (2 : Int32)), (.int (0 : Int32)), (.ref b1), (.int (0 : Int32)), (.ref a1)])) rfl (by rw [hml]; rfl) (argsL := [(.ref a1), (.int (0 : Int32)), (.ref b1), (.int (0 : Int32)), (.int (2 : Int32))]) (rest := []) (lenOf pd__CI_BII_I rfl) rfl (by show 2 * 0 + _ ≤ _; exact Nat.le_of_eq rfl) (hb hby dcb2_1_9) (fun _ _ => ⟨rfl, e1, (by decide : 0 + 1 + 0 ≤ _), (by decide : 0 + 2 + 0 ≤ _)⟩)
  dsimp only [Pt.U, Pt.locs, Pt.cells, Pt.slots] at X5 lq5 yq5 zq5 st5 hQ5
  subst lq5 yq5 zq5
  obtain ⟨h5, e5⟩ : ∃ z, T5.heap = z := ⟨_, rfl⟩
  rw [e5] at hQ5
  unfold Qci2_1 at hQ5
  obtain ⟨rfl, Nq5, qh5, G5_0⟩ := hQ5
  have N5 := Fr.app N0 Nq5
  have Zs5 : n0 ≤ h5.size := Nat.le_trans Zs1 qh5.1
  have F_6 := F_2.keep qh5 (allS ge1 all0)
  have F_7 := F_3.keep qh5 (ninS ne1_a1 nin0)
  have K5 : Keep h0 h5 [] := K1.trans qh5 (allS (Or.inr gf1) all0)
  refine own_f T5 (mkF m 12 #[.val (.ref a1), .val (.int (0 : Int32)), .val (.int (2 : Int32)), .val (.ref b1), .unset, .unset] [(.int (1 : Int32))]) st5 ?_
  refine own_f T5 (mkF m 14 #[.val (.ref a1), .val (.int (0 : Int32)), .val (.int (2 : Int32)), .val (.ref b1), .val (.int (1 : Int32)), .unset] []) (fun t k => XS.istore X5.here hx rfl (hb hby dcb2_1_12) rfl (l' := #[.val (.ref a1), .val (.int (0 : Int32)), .val (.int (2 : Int32)), .val (.ref b1), .val (.int (1 : Int32)), .unset]) rfl k) ?_
  refine own_step (fun t k => XS.iload X5.here hx rfl (hb hby dcb2_1_14) rfl k) ?_
  refine own_step (fun t k => XS.iloadN X5.here hx rfl (hb hby dcb2_1_16) rfl k) ?_
  refine own_f T5 (mkF m 20 #[.val (.ref a1), .val (.int (0 : Int32)), .val (.int (2 : Int32)), .val (.ref b1), .val (.int (1 : Int32)), .unset] []) (fun t k => XS.icmpNo X5.here hx rfl (hb hby dcb2_1_17) rfl (XT.ii_eq_f (by decide)) k) ?_
  refine own_step (fun t k => XS.aloadN X5.here hx rfl (hb hby dcb2_1_20) rfl rfl k) ?_
  refine own_step (fun t k => XS.iloadN X5.here hx rfl (hb hby dcb2_1_21) rfl k) ?_
  refine own_f T5 (mkF m 23 #[.val (.ref a1), .val (.int (0 : Int32)), .val (.int (2 : Int32)), .val (.ref b1), .val (.int (1 : Int32)), .unset] [(.int (2 : Int32)), (.int (0 : Int32)), (.ref a1)]) (fun t k => XS.iloadN X5.here hx rfl (hb hby dcb2_1_22) rfl k) ?_
  obtain ⟨_, _, ⟨T8, Lq8, kq_8, nq_8⟩, -, X8, ⟨Lc8, hQ8, lq8, yq8, zq8⟩, st8⟩ := Jvm.LawKit.callS X5 hx (y := (⟨"java/lang/StringUTF16", "toBytes", "([CII)[B"⟩ : MethodName)) hown (mvT hZ (own_w hw 73 rfl)) (mvT hZ (own_w hw 74 rfl)) (mvT hZ (own_w hw 19 rfl)) (mvT hZ (own_w hw 75 rfl)) (by decide) (backOf (W := 0) (rmtb2 l Z a0 hw [] a1 _ _ _ h5 n0 Zs5 F_6 F_7 SH SL SA) hZ (own_w hw 75 rfl) (own_w hw 19 rfl) (by decide) (by decide)) (g := (mkF m 23 #[.val (.ref a1), .val (.int (0 : Int32)), .val (.int (2 : Int32)), .val (.ref b1), .val (.int (1 : Int32)), .unset] [(.int (2 : Int32)), (.int (0 : Int32)), (.ref a1)])) rfl (by rw [hml]; rfl) (argsL := [(.ref a1), (.int (0 : Int32)), (.int (2 : Int32))]) (rest := []) (lenOf pd__CII_B rfl) rfl (by show 2 * 0 + _ ≤ _; exact Nat.le_of_eq rfl) (hb hby dcb2_1_23) (fun _ _ => ⟨rfl, e5, (by decide : 0 + 1 + 0 + 1 ≤ _), (by decide : 0 + 2 + 0 + 4 ≤ _)⟩)
  dsimp only [Pt.U, Pt.locs, Pt.cells, Pt.slots] at X8 lq8 yq8 zq8 st8 hQ8
  subst lq8 yq8 zq8
  obtain ⟨h8, e8⟩ : ∃ z, T8.heap = z := ⟨_, rfl⟩
  rw [e8] at hQ8
  unfold Qtb2 at hQ8
  obtain ⟨b8, kb8, rfl, Nq8, qh8, G8_0, H8_0⟩ := hQ8
  have N8 := Fr.app N5 Nq8
  have Zs8 : n0 ≤ h8.size := Nat.le_trans Zs5 qh8.1
  have F_9 := F_6.keep qh8 all0
  have F_10 := F_7.keep qh8 nin0
  have F_11 := G5_0.keep qh8 nin0
  have K8 : Keep h0 h8 [] := K5.trans qh8 all0
  have ne8_a1 : a1 ≠ b8 := Nat.ne_of_lt (Nat.lt_of_lt_of_le F_7.lt H8_0)
  have ne8_b1 : b1 ≠ b8 := Nat.ne_of_lt (Nat.lt_of_lt_of_le G5_0.lt H8_0)
  have ge8 : n0 ≤ b8 := Nat.le_trans Zs5 H8_0
  have gf8 : h0.size ≤ b8 := Nat.le_trans K5.1 H8_0
  refine own_f T8 (mkF m 26 #[.val (.ref a1), .val (.int (0 : Int32)), .val (.int (2 : Int32)), .val (.ref b1), .val (.int (1 : Int32)), .unset] [(.ref b8)]) st8 ?_
  refine own_f T8 (mkF m 28 #[.val (.ref a1), .val (.int (0 : Int32)), .val (.int (2 : Int32)), .val (.ref b1), .val (.int (1 : Int32)), .val (.ref b8)] []) (fun t k => XS.astore X8.here hx rfl (hb hby dcb2_1_26) rfl rfl (l' := #[.val (.ref a1), .val (.int (0 : Int32)), .val (.int (2 : Int32)), .val (.ref b1), .val (.int (1 : Int32)), .val (.ref b8)]) rfl k) ?_
  refine own_step (fun t k => XS.aload X8.here hx rfl (hb hby dcb2_1_28) rfl rfl k) ?_
  refine own_f T8 (mkF m 32 #[.val (.ref a1), .val (.int (0 : Int32)), .val (.int (2 : Int32)), .val (.ref b1), .val (.int (1 : Int32)), .val (.ref b8)] [(.int (1 : Int32)), (.ref b8)]) (fun t k => XS.iload X8.here hx rfl (hb hby dcb2_1_30) rfl k) ?_
  obtain ⟨_, _, ⟨T12, Lq12, kq_12, nq_12⟩, -, X12, ⟨Lc12, hQ12, lq12, yq12, zq12⟩, st12⟩ := Jvm.LawKit.callS X8 hx (y := (⟨"java/lang/StringUTF16", "getChar", "([BI)C"⟩ : MethodName)) hown (mvT hZ (own_w hw 89 rfl)) (mvT hZ (own_w hw 90 rfl)) (mvT hZ (own_w hw 19 rfl)) (mvT hZ (own_w hw 91 rfl)) (by decide) (backOf (W := 0) (rmgc2_1 l Z a0 hw [] b8 _ _ _ h8 n0 Zs8 F_9 G8_0 SH SL SA hw_c1) hZ (own_w hw 91 rfl) (own_w hw 19 rfl) (by decide) (by decide)) (g := (mkF m 32 #[.val (.ref a1), .val (.int (0 : Int32)), .val (.int (2 : Int32)), .val (.ref b1), .val (.int (1 : Int32)), .val (.ref b8)] [(.int (1 : Int32)), (.ref b8)])) rfl (by rw [hml]; rfl) (argsL := [(.ref b8), (.int (1 : Int32))]) (rest := []) (lenOf pd__BI_C rfl) rfl (by show 2 * 0 + _ ≤ _; exact Nat.le_of_eq rfl) (hb hby dcb2_1_32) (fun _ _ => ⟨rfl, e8, (by decide : 0 + 1 + 0 + 1 + 0 ≤ _), (by decide : 0 + 2 + 0 + 4 + 0 ≤ _)⟩)
  dsimp only [Pt.U, Pt.locs, Pt.cells, Pt.slots] at X12 lq12 yq12 zq12 st12 hQ12
  subst lq12 yq12 zq12
  obtain ⟨h12, e12⟩ : ∃ z, T12.heap = z := ⟨_, rfl⟩
  rw [e12] at hQ12
  unfold Qgc2_1 at hQ12
  obtain ⟨rfl, Nq12, qh12⟩ := hQ12
  have N12 := Fr.app N8 Nq12
  rw [qh12] at e12
  refine own_f T12 (mkF m 35 #[.val (.ref a1), .val (.int (0 : Int32)), .val (.int (2 : Int32)), .val (.ref b1), .val (.int (1 : Int32)), .val (.ref b8)] [(.int c1)]) st12 ?_
  refine own_step (fun t k => XT.sipushV X12.here hx rfl (255 : Int32) (hb hby dcb2_1_35) (by decide) k) ?_
  refine own_f T12 (mkF m 54 #[.val (.ref a1), .val (.int (0 : Int32)), .val (.int (2 : Int32)), .val (.ref b1), .val (.int (1 : Int32)), .val (.ref b8)] []) (fun t k => XS.icmpYes X12.here hx rfl (pc0 := 38) (pc' := 54) rfl (hb hby dcb2_1_38) rfl (XT.ii_gt_t hc_c1) (by decide) (by decide) k) ?_
  refine own_f T12 (mkF m 56 #[.val (.ref a1), .val (.int (0 : Int32)), .val (.int (2 : Int32)), .val (.ref b1), .val (.int (1 : Int32)), .val (.ref b8)] [(.ref b8)]) (fun t k => XS.aload X12.here hx rfl (hb hby dcb2_1_54) rfl rfl k) ?_
  obtain ⟨fs, hr, hrun, hended, hW, hsame⟩ := X12.leave (v := some (.ref b8)) (fun h => by rw [Bd.returns] at h; cases h)
  refine ⟨_, _, retOut X12 hx Bd.returns (by rfl) (Or.inr (Or.inr (Or.inr (Or.inr ⟨rfl, rfl, rfl⟩)))) (hb hby dcb2_1_56) hr, hrun, hended, _, _, rfl, ?_, ⟨_, rfl⟩, hW, hsame.mono (by decide) (by decide)⟩
  show Qcb2_1 Z a1 k1 c0 c1 h0 n0 _ T12.heap _
  rw [e12]
  exact ⟨b8, kb8, rfl, N12, K8, G8_0, gf8⟩
theorem ds42_1_0 : decode jdk_42_method_149_code 0 = .ok (.aload_n 0, 1) := by decide +kernel
theorem ds42_1_1 : decode jdk_42_method_149_code 1 = .ok (.invokespecial 1, 3) := by decide +kernel
theorem ds42_1_4 : decode jdk_42_method_149_code 4 = .ok (.iload_n 3, 1) := by decide +kernel
theorem ds42_1_5 : decode jdk_42_method_149_code 5 = .ok (.ifCond .ne 22, 3) := by decide +kernel
theorem ds42_1_27 : decode jdk_42_method_149_code 27 = .ok (.getstatic 38, 3) := by decide +kernel
theorem ds42_1_30 : decode jdk_42_method_149_code 30 = .ok (.ifCond .eq 28, 3) := by decide +kernel
theorem ds42_1_33 : decode jdk_42_method_149_code 33 = .ok (.aload_n 1, 1) := by decide +kernel
theorem ds42_1_34 : decode jdk_42_method_149_code 34 = .ok (.iload_n 2, 1) := by decide +kernel
theorem ds42_1_35 : decode jdk_42_method_149_code 35 = .ok (.iload_n 3, 1) := by decide +kernel
theorem ds42_1_36 : decode jdk_42_method_149_code 36 = .ok (.invokestatic 177, 3) := by decide +kernel
theorem ds42_1_39 : decode jdk_42_method_149_code 39 = .ok (.astore 5, 2) := by decide +kernel
theorem ds42_1_41 : decode jdk_42_method_149_code 41 = .ok (.aload_n 0, 1) := by decide +kernel
theorem ds42_1_42 : decode jdk_42_method_149_code 42 = .ok (.aload 5, 2) := by decide +kernel
theorem ds42_1_44 : decode jdk_42_method_149_code 44 = .ok (.iload_n 3, 1) := by decide +kernel
theorem ds42_1_45 : decode jdk_42_method_149_code 45 = .ok (.invokestatic 47, 3) := by decide +kernel
theorem ds42_1_48 : decode jdk_42_method_149_code 48 = .ok (.putfield 15, 3) := by decide +kernel
theorem ds42_1_51 : decode jdk_42_method_149_code 51 = .ok (.aload_n 0, 1) := by decide +kernel
theorem ds42_1_52 : decode jdk_42_method_149_code 52 = .ok (.aload 5, 2) := by decide +kernel
theorem ds42_1_54 : decode jdk_42_method_149_code 54 = .ok (.putfield 9, 3) := by decide +kernel
theorem ds42_1_57 : decode jdk_42_method_149_code 57 = .ok (.return_, 1) := by decide +kernel
theorem pn_s42_1 : plainName "java/lang/String" = true := by first | (simp [plainName, overriddenIn]; done) | decide +kernel
theorem ef_s42_1 (m : MethodId) (x0 : Addr) (x1 : Addr) (x2 : Int32) (x3 : Int32) : entryFrame m #[(.ref x0), (.ref x1), (.int x2), (.int x3), .null] 6 = mkF m 0 #[.val (.ref x0), .val (.ref x1), .val (.int x2), .val (.int x3), .val .null, .unset] [] := by first | (simp [entryFrame, mkF, argsToLocals, Value.category]; done) | rfl
def Qs42_1 (Z : State) (a1 : Addr) (a2 : Addr) (k2 : ClassId) (c0 : Int32) (c1 : Int32) (u0 : Value) (u1 : Value) (wc : Int32) (h0 : Heap) (n0 : Nat) (v : Option Value) (h : Heap) (L : List Loc) : Prop := ∃ (b : Addr) (kb : ClassId), v = none ∧ Fr n0 L ∧ Keep h0 h [a1] ∧ Exa Z h a1 "java/lang/String" ∧ Fld Z h a1 "java/lang/String" "coder" "B" (.int (1 : Int32)) ∧ Fld Z h a1 "java/lang/String" "value" "[B" (.ref b) ∧ Arv Z h b kb .byte (4 : Int32) [.int ((c0 >>> ((0 : Int32) &&& 31)).toInt8.toInt32), .int ((c0 >>> ((8 : Int32) &&& 31)).toInt8.toInt32), .int ((c1 >>> ((0 : Int32) &&& 31)).toInt8.toInt32), .int ((c1 >>> ((8 : Int32) &&& 31)).toInt8.toInt32)] (.int 0) ∧ h0.size ≤ b
set_option maxRecDepth 65536 in
set_option maxHeartbeats 40000000 in
theorem rms42_1 (l : Launch) (Z : State) (a0 : Array Value) (hw : ∀ d ∈ tables_1, d.before a0 Z = true) (ws : List Jvm.Cond) (a1 : Addr) (a2 : Addr) (k2 : ClassId) (c0 : Int32) (c1 : Int32) (u0 : Value) (u1 : Value) (wc : Int32) (h0 : Heap) (n0 : Nat) (Z0 : n0 ≤ h0.size) (F0 : Old Z n0 h0) (F1 : Exa Z h0 a1 "java/lang/String") (F2 : Fld Z h0 a1 "java/lang/String" "value" "[B" u0) (F3 : Fld Z h0 a1 "java/lang/String" "coder" "B" u1) (F4 : Arv Z h0 a2 k2 .char (2 : Int32) [.int c0, .int c1] (.int 0)) (ge_a1 : n0 ≤ a1) (SC : Sta Z Z.heap "java/lang/String" "COMPACT_STRINGS" "Z" (.int wc)) (HWC : ¬ (wc = 0)) (SH : Sta Z Z.heap "java/lang/StringUTF16" "HI_BYTE_SHIFT" "I" (.int (0 : Int32))) (SL : Sta Z Z.heap "java/lang/StringUTF16" "LO_BYTE_SHIFT" "I" (.int (8 : Int32))) (SA : Sta Z Z.heap "java/lang/StringUTF16" "$assertionsDisabled" "Z" (.int (1 : Int32))) (hne : a2 ≠ a1) (hc_c0 : ¬ ((255 : Int32) < c0)) (hc_c1 : (255 : Int32) < c1) (hw_c1 : own_W c1) :
    MetFree l (⟨"java/lang/String", "<init>", "([CIILjava/lang/Void;)V"⟩ : MethodName) (head1 (Jvm.Cond.code (⟨"java/lang/String", "<init>", "([CIILjava/lang/Void;)V"⟩ : MethodName) jdk_42_method_149_code 6 none :: ws) ({ frames := 4, cells := 2, slots := 6, locals := 57 } : Room)) (fun a U => a = #[(.ref a1), (.ref a2), (.int (0 : Int32)), (.int (2 : Int32)), .null] ∧ Z.Warmed39 U.vm ∧ U.heap = h0) (fun _ _ _ _ _ => True) (fun _ U o U' => ∃ v L, o = .returned v ∧ Qs42_1 Z a1 a2 k2 c0 c1 u0 u1 wc h0 n0 v U'.heap L ∧ FrameEnd U o U' L ({ frames := 4, cells := 2, slots := 6, locals := 57 } : Room).cells ({ frames := 4, cells := 2, slots := 6, locals := 57 } : Room).slots) := by
  refine MetFree.of_bodySF (plainFor_of_name pn_s42_1) hisR ?_
  intro p e s m args below meth c s₁ Bd hml0 hP hK
  obtain ⟨rfl, hZ, hh⟩ := hP
  have hx := Bd.exec
  have hby := Bd.bytes
  have hml : c.maxLocals = 6 := hml0
  have hown : s.vm.findClass "java/lang/String" = some m.cls := findClass_of_methodNamed Bd.named
  have hnm := (name_of_methodNamed Bd.named Bd.method).1
  have X0 : Stand p l e ({ frames := 4, cells := 2, slots := 6, locals := 57 } : Room) s m #[(.ref a1), (.ref a2), (.int (0 : Int32)), (.int (2 : Int32)), .null] below meth c s₁ [] 0 0 := Stand.of_body Bd
  have e0 : s₁.heap = h0 := by rw [← hh, Bd.state]; rfl
  have N0 := Fr.nil n0
  show own_R p.tables e below (own_P s (Qs42_1 Z a1 a2 k2 c0 c1 u0 u1 wc h0 n0) ({ frames := 4, cells := 2, slots := 6, locals := 57 } : Room).cells ({ frames := 4, cells := 2, slots := 6, locals := 57 } : Room).slots) (s₁.setTop (entryFrame m #[(.ref a1), (.ref a2), (.int (0 : Int32)), (.int (2 : Int32)), .null] 6))
  refine own_f s₁ (mkF m 0 #[.val (.ref a1), .val (.ref a2), .val (.int (0 : Int32)), .val (.int (2 : Int32)), .val .null, .unset] []) (fun t k => castTop (ef_s42_1 m a1 a2 (0 : Int32) (2 : Int32)) k) ?_
  refine own_f s₁ (mkF m 1 #[.val (.ref a1), .val (.ref a2), .val (.int (0 : Int32)), .val (.int (2 : Int32)), .val .null, .unset] [(.ref a1)]) (fun t k => XS.aloadN X0.here hx rfl (hb hby ds42_1_0) rfl rfl k) ?_
  obtain ⟨T1, X1, e1, st1⟩ := initO X0 hx hZ hown (own_w hw 13 rfl) (own_w hw 14 rfl) (own_w hw 15 rfl) e0 (g := (mkF m 1 #[.val (.ref a1), .val (.ref a2), .val (.int (0 : Int32)), .val (.int (2 : Int32)), .val .null, .unset] [(.ref a1)])) rfl (by rw [hml]; rfl) rfl (hb hby ds42_1_1) (by decide) (W := 0) (by show 2 * 0 + _ ≤ _; exact Nat.le_of_eq rfl) (by decide)
  refine own_f T1 (mkF m 4 #[.val (.ref a1), .val (.ref a2), .val (.int (0 : Int32)), .val (.int (2 : Int32)), .val .null, .unset] []) st1 ?_
  refine own_step (fun t k => XS.iloadN X1.here hx rfl (hb hby ds42_1_4) rfl k) ?_
  refine own_f T1 (mkF m 27 #[.val (.ref a1), .val (.ref a2), .val (.int (0 : Int32)), .val (.int (2 : Int32)), .val .null, .unset] []) (fun t k => XS.ifYes X1.here hx rfl (pc0 := 5) (pc' := 27) rfl (hb hby ds42_1_5) rfl (XT.i0_ne_t (by decide)) (by decide) (by decide) k) ?_
  have S2 : Sta Z h0 "java/lang/String" "COMPACT_STRINGS" "Z" (.int wc) := SC.ext F0.2
  obtain ⟨T2, X2, e2, st2⟩ := getS X1 hx hZ (host := "") hown (own_w hw 16 rfl) Via.refl e1 S2 (g := (mkF m 27 #[.val (.ref a1), .val (.ref a2), .val (.int (0 : Int32)), .val (.int (2 : Int32)), .val .null, .unset] [])) rfl (hb hby ds42_1_27)
  refine own_f T2 (mkF m 30 #[.val (.ref a1), .val (.ref a2), .val (.int (0 : Int32)), .val (.int (2 : Int32)), .val .null, .unset] [(.int wc)]) st2 ?_
  refine own_f T2 (mkF m 33 #[.val (.ref a1), .val (.ref a2), .val (.int (0 : Int32)), .val (.int (2 : Int32)), .val .null, .unset] []) (fun t k => XS.ifNo X2.here hx rfl (hb hby ds42_1_30) rfl (XT.i0_eq_f HWC) k) ?_
  refine own_step (fun t k => XS.aloadN X2.here hx rfl (hb hby ds42_1_33) rfl rfl k) ?_
  refine own_step (fun t k => XS.iloadN X2.here hx rfl (hb hby ds42_1_34) rfl k) ?_
  refine own_f T2 (mkF m 36 #[.val (.ref a1), .val (.ref a2), .val (.int (0 : Int32)), .val (.int (2 : Int32)), .val .null, .unset] [(.int (2 : Int32)), (.int (0 : Int32)), (.ref a2)]) (fun t k => XS.iloadN X2.here hx rfl (hb hby ds42_1_35) rfl k) ?_
  obtain ⟨_, _, ⟨T3, Lq3, kq_3, nq_3⟩, -, X3, ⟨Lc3, hQ3, lq3, yq3, zq3⟩, st3⟩ := Jvm.LawKit.callS X2 hx (y := (⟨"java/lang/StringUTF16", "compress", "([CII)[B"⟩ : MethodName)) hown (mvT hZ (own_w hw 17 rfl)) (mvT hZ (own_w hw 18 rfl)) (mvT hZ (own_w hw 19 rfl)) (mvT hZ (own_w hw 20 rfl)) (by decide) (backOf (W := 0) (rmcb2_1 l Z a0 hw [] a2 _ _ _ h0 n0 Z0 F0 F4 hc_c0 hc_c1 SH SL SA hw_c1) hZ (own_w hw 20 rfl) (own_w hw 19 rfl) (by decide) (by decide)) (g := (mkF m 36 #[.val (.ref a1), .val (.ref a2), .val (.int (0 : Int32)), .val (.int (2 : Int32)), .val .null, .unset] [(.int (2 : Int32)), (.int (0 : Int32)), (.ref a2)])) rfl (by rw [hml]; rfl) (argsL := [(.ref a2), (.int (0 : Int32)), (.int (2 : Int32))]) (rest := []) (lenOf pd__CII_B rfl) rfl (by show 2 * 0 + _ ≤ _; exact Nat.le_of_eq rfl) (hb hby ds42_1_36) (fun _ _ => ⟨rfl, e2, (by decide : 0 + 2 ≤ _), (by decide : 0 + 6 ≤ _)⟩)
  dsimp only [Pt.U, Pt.locs, Pt.cells, Pt.slots] at X3 lq3 yq3 zq3 st3 hQ3
  subst lq3 yq3 zq3
  obtain ⟨h3, e3⟩ : ∃ z, T3.heap = z := ⟨_, rfl⟩
  rw [e3] at hQ3
  unfold Qcb2_1 at hQ3
  obtain ⟨b3, kb3, rfl, Nq3, qh3, G3_0, H3_0⟩ := hQ3
  have N3 := Fr.app N0 Nq3
  have Zs3 : n0 ≤ h3.size := Nat.le_trans Z0 qh3.1
  have F_4 := F0.keep qh3 all0
  have F_5 := F1.keep qh3
  have F_6 := F2.keep qh3 nin0
  have F_7 := F3.keep qh3 nin0
  have F_8 := F4.keep qh3 nin0
  have K3 : Keep h0 h3 [a1] := (Keep.refl h0 [a1]).trans qh3 all0
  have ne3_a1 : a1 ≠ b3 := Nat.ne_of_lt (Nat.lt_of_lt_of_le F1.lt H3_0)
  have ne3_a2 : a2 ≠ b3 := Nat.ne_of_lt (Nat.lt_of_lt_of_le F4.lt H3_0)
  have ge3 : n0 ≤ b3 := Nat.le_trans Z0 H3_0
  have gf3 : h0.size ≤ b3 := Nat.le_trans (Keep.refl h0 [a1]).1 H3_0
  refine own_f T3 (mkF m 39 #[.val (.ref a1), .val (.ref a2), .val (.int (0 : Int32)), .val (.int (2 : Int32)), .val .null, .unset] [(.ref b3)]) st3 ?_
  refine own_f T3 (mkF m 41 #[.val (.ref a1), .val (.ref a2), .val (.int (0 : Int32)), .val (.int (2 : Int32)), .val .null, .val (.ref b3)] []) (fun t k => XS.astore X3.here hx rfl (hb hby ds42_1_39) rfl rfl (l' := #[.val (.ref a1), .val (.ref a2), .val (.int (0 : Int32)), .val (.int (2 : Int32)), .val .null, .val (.ref b3)]) rfl k) ?_
  refine own_step (fun t k => XS.aloadN X3.here hx rfl (hb hby ds42_1_41) rfl rfl k) ?_
  refine own_step (fun t k => XS.aload X3.here hx rfl (hb hby ds42_1_42) rfl rfl k) ?_
  refine own_f T3 (mkF m 45 #[.val (.ref a1), .val (.ref a2), .val (.int (0 : Int32)), .val (.int (2 : Int32)), .val .null, .val (.ref b3)] [(.int (2 : Int32)), (.ref b3), (.ref a1)]) (fun t k => XS.iloadN X3.here hx rfl (hb hby ds42_1_44) rfl k) ?_
  obtain ⟨_, _, ⟨T9, Lq9, kq_9, nq_9⟩, -, X9, ⟨Lc9, hQ9, lq9, yq9, zq9⟩, st9⟩ := Jvm.LawKit.callS X3 hx (y := (⟨"java/lang/StringUTF16", "coderFromArrayLen", "([BI)B"⟩ : MethodName)) hown (mvT hZ (own_w hw 25 rfl)) (mvT hZ (own_w hw 26 rfl)) (mvT hZ (own_w hw 19 rfl)) (mvT hZ (own_w hw 27 rfl)) (by decide) (backOf (W := 1) (rmco2_4 l Z a0 hw [] b3 _ _ h3 n0 Zs3 G3_0) hZ (own_w hw 27 rfl) (own_w hw 19 rfl) (by decide) (by decide)) (g := (mkF m 45 #[.val (.ref a1), .val (.ref a2), .val (.int (0 : Int32)), .val (.int (2 : Int32)), .val .null, .val (.ref b3)] [(.int (2 : Int32)), (.ref b3), (.ref a1)])) rfl (by rw [hml]; rfl) (argsL := [(.ref b3), (.int (2 : Int32))]) (rest := [(.ref a1)]) (lenOf pd__BI_B rfl) rfl (by show 2 * 0 + _ ≤ _; exact Nat.le_of_eq rfl) (hb hby ds42_1_45) (fun _ _ => ⟨rfl, e3, (by decide : 0 + 2 + 0 ≤ _), (by decide : 0 + 6 + 0 ≤ _)⟩)
  dsimp only [Pt.U, Pt.locs, Pt.cells, Pt.slots] at X9 lq9 yq9 zq9 st9 hQ9
  subst lq9 yq9 zq9
  obtain ⟨h9, e9⟩ : ∃ z, T9.heap = z := ⟨_, rfl⟩
  rw [e9] at hQ9
  unfold Qco2_4 at hQ9
  obtain ⟨rfl, Nq9, qh9⟩ := hQ9
  have N9 := Fr.app N3 Nq9
  rw [qh9] at e9
  refine own_f T9 (mkF m 48 #[.val (.ref a1), .val (.ref a2), .val (.int (0 : Int32)), .val (.int (2 : Int32)), .val .null, .val (.ref b3)] [(.int (1 : Int32)), (.ref a1)]) st9 ?_
  obtain ⟨T10, h10, X10, e10, W10, st10⟩ := putF X9 hx hZ hown (host := "") (Or.inl (own_w hw 28 rfl)) Via.refl e9 F_7 F_5 (Or.inr ⟨(own_w hw 29 rfl), rfl, hnm⟩) (own_w hw 3 rfl) (ty := .byte) (by decide) rfl rfl (g := (mkF m 48 #[.val (.ref a1), .val (.ref a2), .val (.int (0 : Int32)), .val (.int (2 : Int32)), .val .null, .val (.ref b3)] [(.int (1 : Int32)), (.ref a1)])) rfl rfl (hb hby ds42_1_48)
  have N10 := Fr.snoc X10 N9 ge_a1
  have Zs10 : n0 ≤ h10.size := by rw [W10.size]; exact Zs3
  have K10 : Keep h0 h10 [a1] := K3.wr W10 (Or.inl (by simp))
  have F_11 := F_4.wr W10 ge_a1
  have F_12 := F_5.wr W10
  have F_13 := F_6.other W10 (Or.inr (slot_ne (Or.inr (own_w hw 31 rfl)) (Or.inr (own_w hw 29 rfl)) (by decide) (t := (.array .byte)) (t' := .byte) (by decide) (by decide)))
  have F_14 := F_7.same W10
  have F_15 := F_8.other W10 hne
  have F_16 := G3_0.other W10 (Ne.symm ne3_a1)
  refine own_f T10 (mkF m 51 #[.val (.ref a1), .val (.ref a2), .val (.int (0 : Int32)), .val (.int (2 : Int32)), .val .null, .val (.ref b3)] []) st10 ?_
  refine own_step (fun t k => XS.aloadN X10.here hx rfl (hb hby ds42_1_51) rfl rfl k) ?_
  refine own_f T10 (mkF m 54 #[.val (.ref a1), .val (.ref a2), .val (.int (0 : Int32)), .val (.int (2 : Int32)), .val .null, .val (.ref b3)] [(.ref b3), (.ref a1)]) (fun t k => XS.aload X10.here hx rfl (hb hby ds42_1_52) rfl rfl k) ?_
  obtain ⟨T17, h17, X17, e17, W17, st17⟩ := putF X10 hx hZ hown (host := "") (Or.inl (own_w hw 30 rfl)) Via.refl e10 F_13 F_12 (Or.inr ⟨(own_w hw 31 rfl), rfl, hnm⟩) (own_w hw 3 rfl) (ty := (.array .byte)) (by decide) rfl rfl (g := (mkF m 54 #[.val (.ref a1), .val (.ref a2), .val (.int (0 : Int32)), .val (.int (2 : Int32)), .val .null, .val (.ref b3)] [(.ref b3), (.ref a1)])) rfl rfl (hb hby ds42_1_54)
  have N17 := Fr.snoc X17 N10 ge_a1
  have Zs17 : n0 ≤ h17.size := by rw [W17.size]; exact Zs10
  have K17 : Keep h0 h17 [a1] := K10.wr W17 (Or.inl (by simp))
  have F_18 := F_11.wr W17 ge_a1
  have F_19 := F_12.wr W17
  have F_20 := F_13.same W17
  have F_21 := F_14.other W17 (Or.inr (slot_ne (Or.inr (own_w hw 29 rfl)) (Or.inr (own_w hw 31 rfl)) (by decide) (t := .byte) (t' := (.array .byte)) (by decide) (by decide)))
  have F_22 := F_15.other W17 hne
  have F_23 := F_16.other W17 (Ne.symm ne3_a1)
  refine own_f T17 (mkF m 57 #[.val (.ref a1), .val (.ref a2), .val (.int (0 : Int32)), .val (.int (2 : Int32)), .val .null, .val (.ref b3)] []) st17 ?_
  obtain ⟨fs, hr, hrun, hended, hW, hsame⟩ := X17.leave (v := none) (fun _ => rfl)
  refine ⟨_, _, X17.returnOut hx Bd.returns (hb hby ds42_1_57) hr, hrun, hended, _, _, rfl, ?_, ⟨_, rfl⟩, hW, hsame.mono (by decide) (by decide)⟩
  show Qs42_1 Z a1 a2 k2 c0 c1 u0 u1 wc h0 n0 _ T17.heap _
  rw [e17]
  exact ⟨b3, kb3, rfl, N17, K17, F_19, F_21, F_20, F_23, gf3⟩
theorem dci2_2_0 : decode jdk_52_method_21_code 0 = .ok (.iconst 0, 1) := by decide +kernel
theorem dci2_2_1 : decode jdk_52_method_21_code 1 = .ok (.istore 5, 2) := by decide +kernel
theorem dci2_2_3 : decode jdk_52_method_21_code 3 = .ok (.iload 5, 2) := by decide +kernel
theorem dci2_2_5 : decode jdk_52_method_21_code 5 = .ok (.iload 4, 2) := by decide +kernel
theorem dci2_2_7 : decode jdk_52_method_21_code 7 = .ok (.if_icmp .ge 37, 3) := by decide +kernel
theorem dci2_2_10 : decode jdk_52_method_21_code 10 = .ok (.aload_n 0, 1) := by decide +kernel
theorem dci2_2_11 : decode jdk_52_method_21_code 11 = .ok (.iload_n 1, 1) := by decide +kernel
theorem dci2_2_12 : decode jdk_52_method_21_code 12 = .ok (.caload, 1) := by decide +kernel
theorem dci2_2_13 : decode jdk_52_method_21_code 13 = .ok (.istore 6, 2) := by decide +kernel
theorem dci2_2_15 : decode jdk_52_method_21_code 15 = .ok (.iload 6, 2) := by decide +kernel
theorem dci2_2_17 : decode jdk_52_method_21_code 17 = .ok (.sipush 255, 3) := by decide +kernel
theorem dci2_2_20 : decode jdk_52_method_21_code 20 = .ok (.if_icmp .le 6, 3) := by decide +kernel
theorem dci2_2_26 : decode jdk_52_method_21_code 26 = .ok (.aload_n 2, 1) := by decide +kernel
theorem dci2_2_27 : decode jdk_52_method_21_code 27 = .ok (.iload_n 3, 1) := by decide +kernel
theorem dci2_2_28 : decode jdk_52_method_21_code 28 = .ok (.iload 6, 2) := by decide +kernel
theorem dci2_2_30 : decode jdk_52_method_21_code 30 = .ok (.i2b, 1) := by decide +kernel
theorem dci2_2_31 : decode jdk_52_method_21_code 31 = .ok (.bastore, 1) := by decide +kernel
theorem dci2_2_32 : decode jdk_52_method_21_code 32 = .ok (.iinc 1 1, 3) := by decide +kernel
theorem dci2_2_35 : decode jdk_52_method_21_code 35 = .ok (.iinc 3 1, 3) := by decide +kernel
theorem dci2_2_38 : decode jdk_52_method_21_code 38 = .ok (.iinc 5 1, 3) := by decide +kernel
theorem dci2_2_41 : decode jdk_52_method_21_code 41 = .ok (.goto (-38), 3) := by decide +kernel
theorem dci2_2_44 : decode jdk_52_method_21_code 44 = .ok (.iload 4, 2) := by decide +kernel
theorem dci2_2_46 : decode jdk_52_method_21_code 46 = .ok (.ireturn, 1) := by decide +kernel
theorem pn_ci2_2 : plainName "java/lang/StringUTF16" = true := by first | (simp [plainName, overriddenIn]; done) | decide +kernel
theorem ef_ci2_2 (m : MethodId) (x0 : Addr) (x1 : Int32) (x2 : Addr) (x3 : Int32) (x4 : Int32) : entryFrame m #[(.ref x0), (.int x1), (.ref x2), (.int x3), (.int x4)] 7 = mkF m 0 #[.val (.ref x0), .val (.int x1), .val (.ref x2), .val (.int x3), .val (.int x4), .unset, .unset] [] := by first | (simp [entryFrame, mkF, argsToLocals, Value.category]; done) | rfl
def Qci2_2 (Z : State) (a1 : Addr) (a2 : Addr) (k1 : ClassId) (k2 : ClassId) (c0 : Int32) (c1 : Int32) (h0 : Heap) (n0 : Nat) (v : Option Value) (h : Heap) (L : List Loc) : Prop := v = some (.int (2 : Int32)) ∧ Fr n0 L ∧ Keep h0 h [a2] ∧ Arv Z h a2 k2 .byte (2 : Int32) [.int (c0.toInt8.toInt32), .int (c1.toInt8.toInt32)] (.int 0)
set_option maxRecDepth 65536 in
set_option maxHeartbeats 40000000 in
theorem rmci2_2 (l : Launch) (Z : State) (a0 : Array Value) (hw : ∀ d ∈ tables_1, d.before a0 Z = true) (ws : List Jvm.Cond) (a1 : Addr) (a2 : Addr) (k1 : ClassId) (k2 : ClassId) (c0 : Int32) (c1 : Int32) (h0 : Heap) (n0 : Nat) (Z0 : n0 ≤ h0.size) (F0 : Arv Z h0 a1 k1 .char (2 : Int32) [.int c0, .int c1] (.int 0)) (F1 : Arv Z h0 a2 k2 .byte (2 : Int32) [.int 0, .int 0] (.int 0)) (ge_a2 : n0 ≤ a2) (hne : a1 ≠ a2) (hc_c0 : ¬ ((255 : Int32) < c0)) (hc_c1 : ¬ ((255 : Int32) < c1)) :
    MetFree l (⟨"java/lang/StringUTF16", "compress", "([CI[BII)I"⟩ : MethodName) (head1 (Jvm.Cond.code (⟨"java/lang/StringUTF16", "compress", "([CI[BII)I"⟩ : MethodName) jdk_52_method_21_code 7 (some .int) :: ws) ({ frames := 0, cells := 0, slots := 0, locals := 0 } : Room)) (fun a U => a = #[(.ref a1), (.int (0 : Int32)), (.ref a2), (.int (0 : Int32)), (.int (2 : Int32))] ∧ Z.Warmed39 U.vm ∧ U.heap = h0) (fun _ _ _ _ _ => True) (fun _ U o U' => ∃ v L, o = .returned v ∧ Qci2_2 Z a1 a2 k1 k2 c0 c1 h0 n0 v U'.heap L ∧ FrameEnd U o U' L ({ frames := 0, cells := 0, slots := 0, locals := 0 } : Room).cells ({ frames := 0, cells := 0, slots := 0, locals := 0 } : Room).slots) := by
  refine MetFree.of_bodySF (plainFor_of_name pn_ci2_2) hisR ?_
  intro p e s m args below meth c s₁ Bd hml0 hP hK
  obtain ⟨rfl, hZ, hh⟩ := hP
  have hx := Bd.exec
  have hby := Bd.bytes
  have hml : c.maxLocals = 7 := hml0
  have hown : s.vm.findClass "java/lang/StringUTF16" = some m.cls := findClass_of_methodNamed Bd.named
  have hnm := (name_of_methodNamed Bd.named Bd.method).1
  have X0 : Stand p l e ({ frames := 0, cells := 0, slots := 0, locals := 0 } : Room) s m #[(.ref a1), (.int (0 : Int32)), (.ref a2), (.int (0 : Int32)), (.int (2 : Int32))] below meth c s₁ [] 0 0 := Stand.of_body Bd
  have e0 : s₁.heap = h0 := by rw [← hh, Bd.state]; rfl
  have N0 := Fr.nil n0
  show own_R p.tables e below (own_P s (Qci2_2 Z a1 a2 k1 k2 c0 c1 h0 n0) ({ frames := 0, cells := 0, slots := 0, locals := 0 } : Room).cells ({ frames := 0, cells := 0, slots := 0, locals := 0 } : Room).slots) (s₁.setTop (entryFrame m #[(.ref a1), (.int (0 : Int32)), (.ref a2), (.int (0 : Int32)), (.int (2 : Int32))] 7))
  refine own_f s₁ (mkF m 0 #[.val (.ref a1), .val (.int (0 : Int32)), .val (.ref a2), .val (.int (0 : Int32)), .val (.int (2 : Int32)), .unset, .unset] []) (fun t k => castTop (ef_ci2_2 m a1 (0 : Int32) a2 (0 : Int32) (2 : Int32)) k) ?_
  refine own_step (fun t k => XT.iconstV X0.here hx rfl (0 : Int32) (hb hby dci2_2_0) (by decide) k) ?_
  refine own_f s₁ (mkF m 3 #[.val (.ref a1), .val (.int (0 : Int32)), .val (.ref a2), .val (.int (0 : Int32)), .val (.int (2 : Int32)), .val (.int (0 : Int32)), .unset] []) (fun t k => XS.istore X0.here hx rfl (hb hby dci2_2_1) rfl (l' := #[.val (.ref a1), .val (.int (0 : Int32)), .val (.ref a2), .val (.int (0 : Int32)), .val (.int (2 : Int32)), .val (.int (0 : Int32)), .unset]) rfl k) ?_
  refine own_step (fun t k => XS.iload X0.here hx rfl (hb hby dci2_2_3) rfl k) ?_
  refine own_step (fun t k => XS.iload X0.here hx rfl (hb hby dci2_2_5) rfl k) ?_
  refine own_f s₁ (mkF m 10 #[.val (.ref a1), .val (.int (0 : Int32)), .val (.ref a2), .val (.int (0 : Int32)), .val (.int (2 : Int32)), .val (.int (0 : Int32)), .unset] []) (fun t k => XS.icmpNo X0.here hx rfl (hb hby dci2_2_7) rfl (XT.ii_ge_f (by decide)) k) ?_
  refine own_step (fun t k => XS.aloadN X0.here hx rfl (hb hby dci2_2_10) rfl rfl k) ?_
  refine own_f s₁ (mkF m 12 #[.val (.ref a1), .val (.int (0 : Int32)), .val (.ref a2), .val (.int (0 : Int32)), .val (.int (2 : Int32)), .val (.int (0 : Int32)), .unset] [(.int (0 : Int32)), (.ref a1)]) (fun t k => XS.iloadN X0.here hx rfl (hb hby dci2_2_11) rfl k) ?_
  obtain ⟨cl1, Ar1, q11, Sz1, q31, Hs1, Gs1⟩ := id F0
  have hi1 := inb_of (j := (0 : Int32)) Sz1 ⟨by decide, by decide⟩
  refine own_f s₁ (mkF m 13 #[.val (.ref a1), .val (.int (0 : Int32)), .val (.ref a2), .val (.int (0 : Int32)), .val (.int (2 : Int32)), .val (.int (0 : Int32)), .unset] [(.int c0)]) (fun t k => X0.caload hx (j := (0 : Int32)) (v := (.int c0)) (by rw [e0]; exact Ar1.1) (State.isArrayOf_alike hZ.alike Ar1.2.1) Ar1.2.2 hi1 (Has.at Hs1 hi1 rfl) (g := (mkF m 12 #[.val (.ref a1), .val (.int (0 : Int32)), .val (.ref a2), .val (.int (0 : Int32)), .val (.int (2 : Int32)), .val (.int (0 : Int32)), .unset] [(.int (0 : Int32)), (.ref a1)])) rfl rfl (hb hby dci2_2_12) t k) ?_
  refine own_f s₁ (mkF m 15 #[.val (.ref a1), .val (.int (0 : Int32)), .val (.ref a2), .val (.int (0 : Int32)), .val (.int (2 : Int32)), .val (.int (0 : Int32)), .val (.int c0)] []) (fun t k => XS.istore X0.here hx rfl (hb hby dci2_2_13) rfl (l' := #[.val (.ref a1), .val (.int (0 : Int32)), .val (.ref a2), .val (.int (0 : Int32)), .val (.int (2 : Int32)), .val (.int (0 : Int32)), .val (.int c0)]) rfl k) ?_
  refine own_step (fun t k => XS.iload X0.here hx rfl (hb hby dci2_2_15) rfl k) ?_
  refine own_step (fun t k => XT.sipushV X0.here hx rfl (255 : Int32) (hb hby dci2_2_17) (by decide) k) ?_
  refine own_f s₁ (mkF m 26 #[.val (.ref a1), .val (.int (0 : Int32)), .val (.ref a2), .val (.int (0 : Int32)), .val (.int (2 : Int32)), .val (.int (0 : Int32)), .val (.int c0)] []) (fun t k => XS.icmpYes X0.here hx rfl (pc0 := 20) (pc' := 26) rfl (hb hby dci2_2_20) rfl (XT.ii_le_t hc_c0) (by decide) (by decide) k) ?_
  refine own_step (fun t k => XS.aloadN X0.here hx rfl (hb hby dci2_2_26) rfl rfl k) ?_
  refine own_step (fun t k => XS.iloadN X0.here hx rfl (hb hby dci2_2_27) rfl k) ?_
  refine own_step (fun t k => XS.iload X0.here hx rfl (hb hby dci2_2_28) rfl k) ?_
  refine own_f s₁ (mkF m 31 #[.val (.ref a1), .val (.int (0 : Int32)), .val (.ref a2), .val (.int (0 : Int32)), .val (.int (2 : Int32)), .val (.int (0 : Int32)), .val (.int c0)] [(.int (c0.toInt8.toInt32)), (.int (0 : Int32)), (.ref a2)]) (fun t k => XS.i2b X0.here hx rfl (hb hby dci2_2_30) rfl k) ?_
  obtain ⟨cl2, Ar2, q12, Sz2, q32, Hs2, Gs2⟩ := id F1
  obtain ⟨T2, h2, X2, e2, W2, st2⟩ := stB X0 hx hZ e0 Ar2 (j := (0 : Int32)) (inb_of Sz2 ⟨by decide, by decide⟩) (g := (mkF m 31 #[.val (.ref a1), .val (.int (0 : Int32)), .val (.ref a2), .val (.int (0 : Int32)), .val (.int (2 : Int32)), .val (.int (0 : Int32)), .val (.int c0)] [(.int (c0.toInt8.toInt32)), (.int (0 : Int32)), (.ref a2)])) rfl rfl (hb hby dci2_2_31)
  have N2 := Fr.snoc X2 N0 ge_a2
  have Zs2 : n0 ≤ h2.size := by rw [W2.size]; exact Z0
  have K2 : Keep h0 h2 [a2] := (Keep.refl h0 [a2]).wr W2 (Or.inl (by simp))
  have F_3 := F0.other W2 hne
  have F_4 : Arv Z h2 a2 k2 .byte (2 : Int32) [.int (c0.toInt8.toInt32), .int 0] (.int 0) := Arv.set Ar2 q12 Sz2 q32 Hs2 Gs2 (by rw [← ((own_narB _) : nar .byte (c0.toInt8.toInt32) = (c0.toInt8.toInt32))]; exact own_fitB _) (by rw [((own_narB _) : nar .byte (c0.toInt8.toInt32) = (c0.toInt8.toInt32))] at W2; exact W2) 0 (by decide) (by simp)
  refine own_f T2 (mkF m 32 #[.val (.ref a1), .val (.int (0 : Int32)), .val (.ref a2), .val (.int (0 : Int32)), .val (.int (2 : Int32)), .val (.int (0 : Int32)), .val (.int c0)] []) st2 ?_
  refine own_f T2 (mkF m 35 #[.val (.ref a1), .val (.int ((0 : Int32) + (1 : Int32))), .val (.ref a2), .val (.int (0 : Int32)), .val (.int (2 : Int32)), .val (.int (0 : Int32)), .val (.int c0)] []) (fun t k => XT.iincV X2.here hx rfl (l' := #[.val (.ref a1), .val (.int ((0 : Int32) + (1 : Int32))), .val (.ref a2), .val (.int (0 : Int32)), .val (.int (2 : Int32)), .val (.int (0 : Int32)), .val (.int c0)]) (1 : Int32) (hb hby dci2_2_32) (by decide) rfl rfl k) ?_
  rw [show ((0 : Int32) + (1 : Int32)) = (1 : Int32) from by decide]
  refine own_f T2 (mkF m 38 #[.val (.ref a1), .val (.int (1 : Int32)), .val (.ref a2), .val (.int ((0 : Int32) + (1 : Int32))), .val (.int (2 : Int32)), .val (.int (0 : Int32)), .val (.int c0)] []) (fun t k => XT.iincV X2.here hx rfl (l' := #[.val (.ref a1), .val (.int (1 : Int32)), .val (.ref a2), .val (.int ((0 : Int32) + (1 : Int32))), .val (.int (2 : Int32)), .val (.int (0 : Int32)), .val (.int c0)]) (1 : Int32) (hb hby dci2_2_35) (by decide) rfl rfl k) ?_
  rw [show ((0 : Int32) + (1 : Int32)) = (1 : Int32) from by decide]
  refine own_f T2 (mkF m 41 #[.val (.ref a1), .val (.int (1 : Int32)), .val (.ref a2), .val (.int (1 : Int32)), .val (.int (2 : Int32)), .val (.int ((0 : Int32) + (1 : Int32))), .val (.int c0)] []) (fun t k => XT.iincV X2.here hx rfl (l' := #[.val (.ref a1), .val (.int (1 : Int32)), .val (.ref a2), .val (.int (1 : Int32)), .val (.int (2 : Int32)), .val (.int ((0 : Int32) + (1 : Int32))), .val (.int c0)]) (1 : Int32) (hb hby dci2_2_38) (by decide) rfl rfl k) ?_
  rw [show ((0 : Int32) + (1 : Int32)) = (1 : Int32) from by decide]
  refine own_step (fun t k => XS.goto X2.here hx rfl (pc0 := 41) (pc' := 3) rfl (hb hby dci2_2_41) (by decide) (by decide) k) ?_
  refine own_step (fun t k => XS.iload X2.here hx rfl (hb hby dci2_2_3) rfl k) ?_
  refine own_step (fun t k => XS.iload X2.here hx rfl (hb hby dci2_2_5) rfl k) ?_
  refine own_f T2 (mkF m 10 #[.val (.ref a1), .val (.int (1 : Int32)), .val (.ref a2), .val (.int (1 : Int32)), .val (.int (2 : Int32)), .val (.int (1 : Int32)), .val (.int c0)] []) (fun t k => XS.icmpNo X2.here hx rfl (hb hby dci2_2_7) rfl (XT.ii_ge_f (by decide)) k) ?_
  refine own_step (fun t k => XS.aloadN X2.here hx rfl (hb hby dci2_2_10) rfl rfl k) ?_
  refine own_f T2 (mkF m 12 #[.val (.ref a1), .val (.int (1 : Int32)), .val (.ref a2), .val (.int (1 : Int32)), .val (.int (2 : Int32)), .val (.int (1 : Int32)), .val (.int c0)] [(.int (1 : Int32)), (.ref a1)]) (fun t k => XS.iloadN X2.here hx rfl (hb hby dci2_2_11) rfl k) ?_
  obtain ⟨cl5, Ar5, q15, Sz5, q35, Hs5, Gs5⟩ := id F_3
  have hi5 := inb_of (j := (1 : Int32)) Sz5 ⟨by decide, by decide⟩
  refine own_f T2 (mkF m 13 #[.val (.ref a1), .val (.int (1 : Int32)), .val (.ref a2), .val (.int (1 : Int32)), .val (.int (2 : Int32)), .val (.int (1 : Int32)), .val (.int c0)] [(.int c1)]) (fun t k => X2.caload hx (j := (1 : Int32)) (v := (.int c1)) (by rw [e2]; exact Ar5.1) (State.isArrayOf_alike hZ.alike Ar5.2.1) Ar5.2.2 hi5 (Has.at Hs5 hi5 rfl) (g := (mkF m 12 #[.val (.ref a1), .val (.int (1 : Int32)), .val (.ref a2), .val (.int (1 : Int32)), .val (.int (2 : Int32)), .val (.int (1 : Int32)), .val (.int c0)] [(.int (1 : Int32)), (.ref a1)])) rfl rfl (hb hby dci2_2_12) t k) ?_
  refine own_f T2 (mkF m 15 #[.val (.ref a1), .val (.int (1 : Int32)), .val (.ref a2), .val (.int (1 : Int32)), .val (.int (2 : Int32)), .val (.int (1 : Int32)), .val (.int c1)] []) (fun t k => XS.istore X2.here hx rfl (hb hby dci2_2_13) rfl (l' := #[.val (.ref a1), .val (.int (1 : Int32)), .val (.ref a2), .val (.int (1 : Int32)), .val (.int (2 : Int32)), .val (.int (1 : Int32)), .val (.int c1)]) rfl k) ?_
  refine own_step (fun t k => XS.iload X2.here hx rfl (hb hby dci2_2_15) rfl k) ?_
  refine own_step (fun t k => XT.sipushV X2.here hx rfl (255 : Int32) (hb hby dci2_2_17) (by decide) k) ?_
  refine own_f T2 (mkF m 26 #[.val (.ref a1), .val (.int (1 : Int32)), .val (.ref a2), .val (.int (1 : Int32)), .val (.int (2 : Int32)), .val (.int (1 : Int32)), .val (.int c1)] []) (fun t k => XS.icmpYes X2.here hx rfl (pc0 := 20) (pc' := 26) rfl (hb hby dci2_2_20) rfl (XT.ii_le_t hc_c1) (by decide) (by decide) k) ?_
  refine own_step (fun t k => XS.aloadN X2.here hx rfl (hb hby dci2_2_26) rfl rfl k) ?_
  refine own_step (fun t k => XS.iloadN X2.here hx rfl (hb hby dci2_2_27) rfl k) ?_
  refine own_step (fun t k => XS.iload X2.here hx rfl (hb hby dci2_2_28) rfl k) ?_
  refine own_f T2 (mkF m 31 #[.val (.ref a1), .val (.int (1 : Int32)), .val (.ref a2), .val (.int (1 : Int32)), .val (.int (2 : Int32)), .val (.int (1 : Int32)), .val (.int c1)] [(.int (c1.toInt8.toInt32)), (.int (1 : Int32)), (.ref a2)]) (fun t k => XS.i2b X2.here hx rfl (hb hby dci2_2_30) rfl k) ?_
  obtain ⟨cl6, Ar6, q16, Sz6, q36, Hs6, Gs6⟩ := id F_4
  obtain ⟨T6, h6, X6, e6, W6, st6⟩ := stB X2 hx hZ e2 Ar6 (j := (1 : Int32)) (inb_of Sz6 ⟨by decide, by decide⟩) (g := (mkF m 31 #[.val (.ref a1), .val (.int (1 : Int32)), .val (.ref a2), .val (.int (1 : Int32)), .val (.int (2 : Int32)), .val (.int (1 : Int32)), .val (.int c1)] [(.int (c1.toInt8.toInt32)), (.int (1 : Int32)), (.ref a2)])) rfl rfl (hb hby dci2_2_31)
  have N6 := Fr.snoc X6 N2 ge_a2
  have Zs6 : n0 ≤ h6.size := by rw [W6.size]; exact Zs2
  have K6 : Keep h0 h6 [a2] := K2.wr W6 (Or.inl (by simp))
  have F_7 := F_3.other W6 hne
  have F_8 : Arv Z h6 a2 k2 .byte (2 : Int32) [.int (c0.toInt8.toInt32), .int (c1.toInt8.toInt32)] (.int 0) := Arv.set Ar6 q16 Sz6 q36 Hs6 Gs6 (by rw [← ((own_narB _) : nar .byte (c1.toInt8.toInt32) = (c1.toInt8.toInt32))]; exact own_fitB _) (by rw [((own_narB _) : nar .byte (c1.toInt8.toInt32) = (c1.toInt8.toInt32))] at W6; exact W6) 1 (by decide) (by simp)
  refine own_f T6 (mkF m 32 #[.val (.ref a1), .val (.int (1 : Int32)), .val (.ref a2), .val (.int (1 : Int32)), .val (.int (2 : Int32)), .val (.int (1 : Int32)), .val (.int c1)] []) st6 ?_
  refine own_f T6 (mkF m 35 #[.val (.ref a1), .val (.int ((1 : Int32) + (1 : Int32))), .val (.ref a2), .val (.int (1 : Int32)), .val (.int (2 : Int32)), .val (.int (1 : Int32)), .val (.int c1)] []) (fun t k => XT.iincV X6.here hx rfl (l' := #[.val (.ref a1), .val (.int ((1 : Int32) + (1 : Int32))), .val (.ref a2), .val (.int (1 : Int32)), .val (.int (2 : Int32)), .val (.int (1 : Int32)), .val (.int c1)]) (1 : Int32) (hb hby dci2_2_32) (by decide) rfl rfl k) ?_
  rw [show ((1 : Int32) + (1 : Int32)) = (2 : Int32) from by decide]
  refine own_f T6 (mkF m 38 #[.val (.ref a1), .val (.int (2 : Int32)), .val (.ref a2), .val (.int ((1 : Int32) + (1 : Int32))), .val (.int (2 : Int32)), .val (.int (1 : Int32)), .val (.int c1)] []) (fun t k => XT.iincV X6.here hx rfl (l' := #[.val (.ref a1), .val (.int (2 : Int32)), .val (.ref a2), .val (.int ((1 : Int32) + (1 : Int32))), .val (.int (2 : Int32)), .val (.int (1 : Int32)), .val (.int c1)]) (1 : Int32) (hb hby dci2_2_35) (by decide) rfl rfl k) ?_
  rw [show ((1 : Int32) + (1 : Int32)) = (2 : Int32) from by decide]
  refine own_f T6 (mkF m 41 #[.val (.ref a1), .val (.int (2 : Int32)), .val (.ref a2), .val (.int (2 : Int32)), .val (.int (2 : Int32)), .val (.int ((1 : Int32) + (1 : Int32))), .val (.int c1)] []) (fun t k => XT.iincV X6.here hx rfl (l' := #[.val (.ref a1), .val (.int (2 : Int32)), .val (.ref a2), .val (.int (2 : Int32)), .val (.int (2 : Int32)), .val (.int ((1 : Int32) + (1 : Int32))), .val (.int c1)]) (1 : Int32) (hb hby dci2_2_38) (by decide) rfl rfl k) ?_
  rw [show ((1 : Int32) + (1 : Int32)) = (2 : Int32) from by decide]
  refine own_step (fun t k => XS.goto X6.here hx rfl (pc0 := 41) (pc' := 3) rfl (hb hby dci2_2_41) (by decide) (by decide) k) ?_
  refine own_step (fun t k => XS.iload X6.here hx rfl (hb hby dci2_2_3) rfl k) ?_
  refine own_step (fun t k => XS.iload X6.here hx rfl (hb hby dci2_2_5) rfl k) ?_
  refine own_f T6 (mkF m 44 #[.val (.ref a1), .val (.int (2 : Int32)), .val (.ref a2), .val (.int (2 : Int32)), .val (.int (2 : Int32)), .val (.int (2 : Int32)), .val (.int c1)] []) (fun t k => XS.icmpYes X6.here hx rfl (pc0 := 7) (pc' := 44) rfl (hb hby dci2_2_7) rfl (XT.ii_ge_t (by decide)) (by decide) (by decide) k) ?_
  refine own_f T6 (mkF m 46 #[.val (.ref a1), .val (.int (2 : Int32)), .val (.ref a2), .val (.int (2 : Int32)), .val (.int (2 : Int32)), .val (.int (2 : Int32)), .val (.int c1)] [(.int (2 : Int32))]) (fun t k => XS.iload X6.here hx rfl (hb hby dci2_2_44) rfl k) ?_
  obtain ⟨fs, hr, hrun, hended, hW, hsame⟩ := X6.leave (v := some (.int (2 : Int32))) (fun h => by rw [Bd.returns] at h; cases h)
  refine ⟨_, _, retI X6 hx Bd.returns (hb hby dci2_2_46) hr, hrun, hended, _, _, rfl, ?_, ⟨_, rfl⟩, hW, hsame.mono (by decide) (by decide)⟩
  show Qci2_2 Z a1 a2 k1 k2 c0 c1 h0 n0 _ T6.heap _
  rw [e6]
  exact ⟨rfl, N6, K6, F_8⟩
theorem dcb2_2_0 : decode jdk_52_method_16_code 0 = .ok (.iload_n 2, 1) := by decide +kernel
theorem dcb2_2_1 : decode jdk_52_method_16_code 1 = .ok (.newarray .byte, 2) := by decide +kernel
theorem dcb2_2_3 : decode jdk_52_method_16_code 3 = .ok (.astore_n 3, 1) := by decide +kernel
theorem dcb2_2_4 : decode jdk_52_method_16_code 4 = .ok (.aload_n 0, 1) := by decide +kernel
theorem dcb2_2_5 : decode jdk_52_method_16_code 5 = .ok (.iload_n 1, 1) := by decide +kernel
theorem dcb2_2_6 : decode jdk_52_method_16_code 6 = .ok (.aload_n 3, 1) := by decide +kernel
theorem dcb2_2_7 : decode jdk_52_method_16_code 7 = .ok (.iconst 0, 1) := by decide +kernel
theorem dcb2_2_8 : decode jdk_52_method_16_code 8 = .ok (.iload_n 2, 1) := by decide +kernel
theorem dcb2_2_9 : decode jdk_52_method_16_code 9 = .ok (.invokestatic 115, 3) := by decide +kernel
theorem dcb2_2_12 : decode jdk_52_method_16_code 12 = .ok (.istore 4, 2) := by decide +kernel
theorem dcb2_2_14 : decode jdk_52_method_16_code 14 = .ok (.iload 4, 2) := by decide +kernel
theorem dcb2_2_16 : decode jdk_52_method_16_code 16 = .ok (.iload_n 2, 1) := by decide +kernel
theorem dcb2_2_17 : decode jdk_52_method_16_code 17 = .ok (.if_icmp .eq 40, 3) := by decide +kernel
theorem dcb2_2_57 : decode jdk_52_method_16_code 57 = .ok (.aload_n 3, 1) := by decide +kernel
theorem dcb2_2_58 : decode jdk_52_method_16_code 58 = .ok (.areturn, 1) := by decide +kernel
theorem pn_cb2_2 : plainName "java/lang/StringUTF16" = true := by first | (simp [plainName, overriddenIn]; done) | decide +kernel
theorem ef_cb2_2 (m : MethodId) (x0 : Addr) (x1 : Int32) (x2 : Int32) : entryFrame m #[(.ref x0), (.int x1), (.int x2)] 6 = mkF m 0 #[.val (.ref x0), .val (.int x1), .val (.int x2), .unset, .unset, .unset] [] := by first | (simp [entryFrame, mkF, argsToLocals, Value.category]; done) | rfl
def Qcb2_2 (Z : State) (a1 : Addr) (k1 : ClassId) (c0 : Int32) (c1 : Int32) (h0 : Heap) (n0 : Nat) (v : Option Value) (h : Heap) (L : List Loc) : Prop := ∃ (b : Addr) (kb : ClassId), v = some (.ref b) ∧ Fr n0 L ∧ Keep h0 h [] ∧ Arv Z h b kb .byte (2 : Int32) [.int (c0.toInt8.toInt32), .int (c1.toInt8.toInt32)] (.int 0) ∧ h0.size ≤ b
set_option maxRecDepth 65536 in
set_option maxHeartbeats 40000000 in
theorem rmcb2_2 (l : Launch) (Z : State) (a0 : Array Value) (hw : ∀ d ∈ tables_1, d.before a0 Z = true) (ws : List Jvm.Cond) (a1 : Addr) (k1 : ClassId) (c0 : Int32) (c1 : Int32) (h0 : Heap) (n0 : Nat) (Z0 : n0 ≤ h0.size) (F0 : Old Z n0 h0) (F1 : Arv Z h0 a1 k1 .char (2 : Int32) [.int c0, .int c1] (.int 0)) (hc_c0 : ¬ ((255 : Int32) < c0)) (hc_c1 : ¬ ((255 : Int32) < c1)) :
    MetFree l (⟨"java/lang/StringUTF16", "compress", "([CII)[B"⟩ : MethodName) (head1 (Jvm.Cond.code (⟨"java/lang/StringUTF16", "compress", "([CII)[B"⟩ : MethodName) jdk_52_method_16_code 6 (some (.array .byte)) :: ws) ({ frames := 3, cells := 2, slots := 6, locals := 40 } : Room)) (fun a U => a = #[(.ref a1), (.int (0 : Int32)), (.int (2 : Int32))] ∧ Z.Warmed39 U.vm ∧ U.heap = h0) (fun _ _ _ _ _ => True) (fun _ U o U' => ∃ v L, o = .returned v ∧ Qcb2_2 Z a1 k1 c0 c1 h0 n0 v U'.heap L ∧ FrameEnd U o U' L ({ frames := 3, cells := 2, slots := 6, locals := 40 } : Room).cells ({ frames := 3, cells := 2, slots := 6, locals := 40 } : Room).slots) := by
  refine MetFree.of_bodySF (plainFor_of_name pn_cb2_2) hisR ?_
  intro p e s m args below meth c s₁ Bd hml0 hP hK
  obtain ⟨rfl, hZ, hh⟩ := hP
  have hx := Bd.exec
  have hby := Bd.bytes
  have hml : c.maxLocals = 6 := hml0
  have hown : s.vm.findClass "java/lang/StringUTF16" = some m.cls := findClass_of_methodNamed Bd.named
  have hnm := (name_of_methodNamed Bd.named Bd.method).1
  have X0 : Stand p l e ({ frames := 3, cells := 2, slots := 6, locals := 40 } : Room) s m #[(.ref a1), (.int (0 : Int32)), (.int (2 : Int32))] below meth c s₁ [] 0 0 := Stand.of_body Bd
  have e0 : s₁.heap = h0 := by rw [← hh, Bd.state]; rfl
  have N0 := Fr.nil n0
  show own_R p.tables e below (own_P s (Qcb2_2 Z a1 k1 c0 c1 h0 n0) ({ frames := 3, cells := 2, slots := 6, locals := 40 } : Room).cells ({ frames := 3, cells := 2, slots := 6, locals := 40 } : Room).slots) (s₁.setTop (entryFrame m #[(.ref a1), (.int (0 : Int32)), (.int (2 : Int32))] 6))
  refine own_f s₁ (mkF m 0 #[.val (.ref a1), .val (.int (0 : Int32)), .val (.int (2 : Int32)), .unset, .unset, .unset] []) (fun t k => castTop (ef_cb2_2 m a1 (0 : Int32) (2 : Int32)) k) ?_
  refine own_f s₁ (mkF m 1 #[.val (.ref a1), .val (.int (0 : Int32)), .val (.int (2 : Int32)), .unset, .unset, .unset] [(.int (2 : Int32))]) (fun t k => XS.iloadN X0.here hx rfl (hb hby dcb2_2_0) rfl k) ?_
  obtain ⟨T1, h1, kA1, X1, e1, E1, A1, st1⟩ := newP X0 hx hZ (own_w hw 21 rfl) e0 (g := (mkF m 1 #[.val (.ref a1), .val (.int (0 : Int32)), .val (.int (2 : Int32)), .unset, .unset, .unset] [(.int (2 : Int32))])) rfl (hb hby dcb2_2_1) rfl (by decide) (cap := 2) (by decide) (by decide) (by decide) (by decide)
  obtain ⟨b1, g1⟩ : ∃ z, z = h0.size := ⟨_, rfl⟩
  rw [← g1] at A1 st1
  have ne1_a1 : a1 ≠ b1 := by rw [g1]; exact Nat.ne_of_lt F1.lt
  have ge1 : n0 ≤ b1 := by rw [g1]; exact Z0
  have gf1 : h0.size ≤ b1 := by rw [g1]; exact (Keep.refl h0 []).1
  have Zs1 : n0 ≤ h1.size := Nat.le_trans Z0 E1.1
  have F_2 := F0.ext E1
  have F_3 := F1.ext E1
  have K1 : Keep h0 h1 [] := (Keep.refl h0 []).ext E1
  have F_4 : Arv Z h1 b1 kA1 .byte (2 : Int32) [.int 0, .int 0] (.int 0) := own_arvnew 2 A1 (by decide)
  refine own_f T1 (mkF m 3 #[.val (.ref a1), .val (.int (0 : Int32)), .val (.int (2 : Int32)), .unset, .unset, .unset] [(.ref b1)]) st1 ?_
  refine own_f T1 (mkF m 4 #[.val (.ref a1), .val (.int (0 : Int32)), .val (.int (2 : Int32)), .val (.ref b1), .unset, .unset] []) (fun t k => XS.astoreN X1.here hx rfl (hb hby dcb2_2_3) rfl rfl (l' := #[.val (.ref a1), .val (.int (0 : Int32)), .val (.int (2 : Int32)), .val (.ref b1), .unset, .unset]) rfl k) ?_
  refine own_step (fun t k => XS.aloadN X1.here hx rfl (hb hby dcb2_2_4) rfl rfl k) ?_
  refine own_step (fun t k => XS.iloadN X1.here hx rfl (hb hby dcb2_2_5) rfl k) ?_
  refine own_step (fun t k => XS.aloadN X1.here hx rfl (hb hby dcb2_2_6) rfl rfl k) ?_
  refine own_step (fun t k => XT.iconstV X1.here hx rfl (0 : Int32) (hb hby dcb2_2_7) (by decide) k) ?_
  refine own_f T1 (mkF m 9 #[.val (.ref a1), .val (.int (0 : Int32)), .val (.int (2 : Int32)), .val (.ref b1), .unset, .unset] [(.int (2 : Int32)), (.int (0 : Int32)), (.ref b1), (.int (0 : Int32)), (.ref a1)]) (fun t k => XS.iloadN X1.here hx rfl (hb hby dcb2_2_8) rfl k) ?_
  obtain ⟨_, _, ⟨T5, Lq5, kq_5, nq_5⟩, -, X5, ⟨Lc5, hQ5, lq5, yq5, zq5⟩, st5⟩ := Jvm.LawKit.callS X1 hx (y := (⟨"java/lang/StringUTF16", "compress", "([CI[BII)I"⟩ : MethodName)) hown (mvT hZ (own_w hw 22 rfl)) (mvT hZ (own_w hw 23 rfl)) (mvT hZ (own_w hw 19 rfl)) (mvT hZ (own_w hw 24 rfl)) (by decide) (backOf (W := 0) (rmci2_2 l Z a0 hw [] a1 b1 _ _ _ _ h1 n0 Zs1 F_3 F_4 ge1 ne1_a1 hc_c0 hc_c1) hZ (own_w hw 24 rfl) (own_w hw 19 rfl) (by decide) (by decide)) (g := (mkF m 9 #[.val (.ref a1), .val (.int (0 : Int32)), .val (.int (2 : Int32)), .val (.ref b1), .unset, .unset] [(.int (2 : Int32)), (.int (0 : Int32)), (.ref b1), (.int (0 : Int32)), (.ref a1)])) rfl (by rw [hml]; rfl) (argsL := [(.ref a1), (.int (0 : Int32)), (.ref b1), (.int (0 : Int32)), (.int (2 : Int32))]) (rest := []) (lenOf pd__CI_BII_I rfl) rfl (by show 2 * 0 + _ ≤ _; exact Nat.le_of_eq rfl) (hb hby dcb2_2_9) (fun _ _ => ⟨rfl, e1, (by decide : 0 + 1 + 0 ≤ _), (by decide : 0 + 2 + 0 ≤ _)⟩)
  dsimp only [Pt.U, Pt.locs, Pt.cells, Pt.slots] at X5 lq5 yq5 zq5 st5 hQ5
  subst lq5 yq5 zq5
  obtain ⟨h5, e5⟩ : ∃ z, T5.heap = z := ⟨_, rfl⟩
  rw [e5] at hQ5
  unfold Qci2_2 at hQ5
  obtain ⟨rfl, Nq5, qh5, G5_0⟩ := hQ5
  have N5 := Fr.app N0 Nq5
  have Zs5 : n0 ≤ h5.size := Nat.le_trans Zs1 qh5.1
  have F_6 := F_2.keep qh5 (allS ge1 all0)
  have F_7 := F_3.keep qh5 (ninS ne1_a1 nin0)
  have K5 : Keep h0 h5 [] := K1.trans qh5 (allS (Or.inr gf1) all0)
  refine own_f T5 (mkF m 12 #[.val (.ref a1), .val (.int (0 : Int32)), .val (.int (2 : Int32)), .val (.ref b1), .unset, .unset] [(.int (2 : Int32))]) st5 ?_
  refine own_f T5 (mkF m 14 #[.val (.ref a1), .val (.int (0 : Int32)), .val (.int (2 : Int32)), .val (.ref b1), .val (.int (2 : Int32)), .unset] []) (fun t k => XS.istore X5.here hx rfl (hb hby dcb2_2_12) rfl (l' := #[.val (.ref a1), .val (.int (0 : Int32)), .val (.int (2 : Int32)), .val (.ref b1), .val (.int (2 : Int32)), .unset]) rfl k) ?_
  refine own_step (fun t k => XS.iload X5.here hx rfl (hb hby dcb2_2_14) rfl k) ?_
  refine own_step (fun t k => XS.iloadN X5.here hx rfl (hb hby dcb2_2_16) rfl k) ?_
  refine own_f T5 (mkF m 57 #[.val (.ref a1), .val (.int (0 : Int32)), .val (.int (2 : Int32)), .val (.ref b1), .val (.int (2 : Int32)), .unset] []) (fun t k => XS.icmpYes X5.here hx rfl (pc0 := 17) (pc' := 57) rfl (hb hby dcb2_2_17) rfl (XT.ii_eq_t (by decide)) (by decide) (by decide) k) ?_
  refine own_f T5 (mkF m 58 #[.val (.ref a1), .val (.int (0 : Int32)), .val (.int (2 : Int32)), .val (.ref b1), .val (.int (2 : Int32)), .unset] [(.ref b1)]) (fun t k => XS.aloadN X5.here hx rfl (hb hby dcb2_2_57) rfl rfl k) ?_
  obtain ⟨fs, hr, hrun, hended, hW, hsame⟩ := X5.leave (v := some (.ref b1)) (fun h => by rw [Bd.returns] at h; cases h)
  refine ⟨_, _, retOut X5 hx Bd.returns (by rfl) (Or.inr (Or.inr (Or.inr (Or.inr ⟨rfl, rfl, rfl⟩)))) (hb hby dcb2_2_58) hr, hrun, hended, _, _, rfl, ?_, ⟨_, rfl⟩, hW, hsame.mono (by decide) (by decide)⟩
  show Qcb2_2 Z a1 k1 c0 c1 h0 n0 _ T5.heap _
  rw [e5]
  exact ⟨b1, kA1, rfl, N5, K5, G5_0, gf1⟩
theorem ds42_2_0 : decode jdk_42_method_149_code 0 = .ok (.aload_n 0, 1) := by decide +kernel
theorem ds42_2_1 : decode jdk_42_method_149_code 1 = .ok (.invokespecial 1, 3) := by decide +kernel
theorem ds42_2_4 : decode jdk_42_method_149_code 4 = .ok (.iload_n 3, 1) := by decide +kernel
theorem ds42_2_5 : decode jdk_42_method_149_code 5 = .ok (.ifCond .ne 22, 3) := by decide +kernel
theorem ds42_2_27 : decode jdk_42_method_149_code 27 = .ok (.getstatic 38, 3) := by decide +kernel
theorem ds42_2_30 : decode jdk_42_method_149_code 30 = .ok (.ifCond .eq 28, 3) := by decide +kernel
theorem ds42_2_33 : decode jdk_42_method_149_code 33 = .ok (.aload_n 1, 1) := by decide +kernel
theorem ds42_2_34 : decode jdk_42_method_149_code 34 = .ok (.iload_n 2, 1) := by decide +kernel
theorem ds42_2_35 : decode jdk_42_method_149_code 35 = .ok (.iload_n 3, 1) := by decide +kernel
theorem ds42_2_36 : decode jdk_42_method_149_code 36 = .ok (.invokestatic 177, 3) := by decide +kernel
theorem ds42_2_39 : decode jdk_42_method_149_code 39 = .ok (.astore 5, 2) := by decide +kernel
theorem ds42_2_41 : decode jdk_42_method_149_code 41 = .ok (.aload_n 0, 1) := by decide +kernel
theorem ds42_2_42 : decode jdk_42_method_149_code 42 = .ok (.aload 5, 2) := by decide +kernel
theorem ds42_2_44 : decode jdk_42_method_149_code 44 = .ok (.iload_n 3, 1) := by decide +kernel
theorem ds42_2_45 : decode jdk_42_method_149_code 45 = .ok (.invokestatic 47, 3) := by decide +kernel
theorem ds42_2_48 : decode jdk_42_method_149_code 48 = .ok (.putfield 15, 3) := by decide +kernel
theorem ds42_2_51 : decode jdk_42_method_149_code 51 = .ok (.aload_n 0, 1) := by decide +kernel
theorem ds42_2_52 : decode jdk_42_method_149_code 52 = .ok (.aload 5, 2) := by decide +kernel
theorem ds42_2_54 : decode jdk_42_method_149_code 54 = .ok (.putfield 9, 3) := by decide +kernel
theorem ds42_2_57 : decode jdk_42_method_149_code 57 = .ok (.return_, 1) := by decide +kernel
theorem pn_s42_2 : plainName "java/lang/String" = true := by first | (simp [plainName, overriddenIn]; done) | decide +kernel
theorem ef_s42_2 (m : MethodId) (x0 : Addr) (x1 : Addr) (x2 : Int32) (x3 : Int32) : entryFrame m #[(.ref x0), (.ref x1), (.int x2), (.int x3), .null] 6 = mkF m 0 #[.val (.ref x0), .val (.ref x1), .val (.int x2), .val (.int x3), .val .null, .unset] [] := by first | (simp [entryFrame, mkF, argsToLocals, Value.category]; done) | rfl
def Qs42_2 (Z : State) (a1 : Addr) (a2 : Addr) (k2 : ClassId) (c0 : Int32) (c1 : Int32) (u0 : Value) (u1 : Value) (wc : Int32) (h0 : Heap) (n0 : Nat) (v : Option Value) (h : Heap) (L : List Loc) : Prop := ∃ (b : Addr) (kb : ClassId), v = none ∧ Fr n0 L ∧ Keep h0 h [a1] ∧ Exa Z h a1 "java/lang/String" ∧ Fld Z h a1 "java/lang/String" "coder" "B" (.int (0 : Int32)) ∧ Fld Z h a1 "java/lang/String" "value" "[B" (.ref b) ∧ Arv Z h b kb .byte (2 : Int32) [.int (c0.toInt8.toInt32), .int (c1.toInt8.toInt32)] (.int 0) ∧ h0.size ≤ b
set_option maxRecDepth 65536 in
set_option maxHeartbeats 40000000 in
theorem rms42_2 (l : Launch) (Z : State) (a0 : Array Value) (hw : ∀ d ∈ tables_1, d.before a0 Z = true) (ws : List Jvm.Cond) (a1 : Addr) (a2 : Addr) (k2 : ClassId) (c0 : Int32) (c1 : Int32) (u0 : Value) (u1 : Value) (wc : Int32) (h0 : Heap) (n0 : Nat) (Z0 : n0 ≤ h0.size) (F0 : Old Z n0 h0) (F1 : Exa Z h0 a1 "java/lang/String") (F2 : Fld Z h0 a1 "java/lang/String" "value" "[B" u0) (F3 : Fld Z h0 a1 "java/lang/String" "coder" "B" u1) (F4 : Arv Z h0 a2 k2 .char (2 : Int32) [.int c0, .int c1] (.int 0)) (ge_a1 : n0 ≤ a1) (SC : Sta Z Z.heap "java/lang/String" "COMPACT_STRINGS" "Z" (.int wc)) (HWC : ¬ (wc = 0)) (hne : a2 ≠ a1) (hc_c0 : ¬ ((255 : Int32) < c0)) (hc_c1 : ¬ ((255 : Int32) < c1)) :
    MetFree l (⟨"java/lang/String", "<init>", "([CIILjava/lang/Void;)V"⟩ : MethodName) (head1 (Jvm.Cond.code (⟨"java/lang/String", "<init>", "([CIILjava/lang/Void;)V"⟩ : MethodName) jdk_42_method_149_code 6 none :: ws) ({ frames := 4, cells := 2, slots := 6, locals := 57 } : Room)) (fun a U => a = #[(.ref a1), (.ref a2), (.int (0 : Int32)), (.int (2 : Int32)), .null] ∧ Z.Warmed39 U.vm ∧ U.heap = h0) (fun _ _ _ _ _ => True) (fun _ U o U' => ∃ v L, o = .returned v ∧ Qs42_2 Z a1 a2 k2 c0 c1 u0 u1 wc h0 n0 v U'.heap L ∧ FrameEnd U o U' L ({ frames := 4, cells := 2, slots := 6, locals := 57 } : Room).cells ({ frames := 4, cells := 2, slots := 6, locals := 57 } : Room).slots) := by
  refine MetFree.of_bodySF (plainFor_of_name pn_s42_2) hisR ?_
  intro p e s m args below meth c s₁ Bd hml0 hP hK
  obtain ⟨rfl, hZ, hh⟩ := hP
  have hx := Bd.exec
  have hby := Bd.bytes
  have hml : c.maxLocals = 6 := hml0
  have hown : s.vm.findClass "java/lang/String" = some m.cls := findClass_of_methodNamed Bd.named
  have hnm := (name_of_methodNamed Bd.named Bd.method).1
  have X0 : Stand p l e ({ frames := 4, cells := 2, slots := 6, locals := 57 } : Room) s m #[(.ref a1), (.ref a2), (.int (0 : Int32)), (.int (2 : Int32)), .null] below meth c s₁ [] 0 0 := Stand.of_body Bd
  have e0 : s₁.heap = h0 := by rw [← hh, Bd.state]; rfl
  have N0 := Fr.nil n0
  show own_R p.tables e below (own_P s (Qs42_2 Z a1 a2 k2 c0 c1 u0 u1 wc h0 n0) ({ frames := 4, cells := 2, slots := 6, locals := 57 } : Room).cells ({ frames := 4, cells := 2, slots := 6, locals := 57 } : Room).slots) (s₁.setTop (entryFrame m #[(.ref a1), (.ref a2), (.int (0 : Int32)), (.int (2 : Int32)), .null] 6))
  refine own_f s₁ (mkF m 0 #[.val (.ref a1), .val (.ref a2), .val (.int (0 : Int32)), .val (.int (2 : Int32)), .val .null, .unset] []) (fun t k => castTop (ef_s42_2 m a1 a2 (0 : Int32) (2 : Int32)) k) ?_
  refine own_f s₁ (mkF m 1 #[.val (.ref a1), .val (.ref a2), .val (.int (0 : Int32)), .val (.int (2 : Int32)), .val .null, .unset] [(.ref a1)]) (fun t k => XS.aloadN X0.here hx rfl (hb hby ds42_2_0) rfl rfl k) ?_
  obtain ⟨T1, X1, e1, st1⟩ := initO X0 hx hZ hown (own_w hw 13 rfl) (own_w hw 14 rfl) (own_w hw 15 rfl) e0 (g := (mkF m 1 #[.val (.ref a1), .val (.ref a2), .val (.int (0 : Int32)), .val (.int (2 : Int32)), .val .null, .unset] [(.ref a1)])) rfl (by rw [hml]; rfl) rfl (hb hby ds42_2_1) (by decide) (W := 0) (by show 2 * 0 + _ ≤ _; exact Nat.le_of_eq rfl) (by decide)
  refine own_f T1 (mkF m 4 #[.val (.ref a1), .val (.ref a2), .val (.int (0 : Int32)), .val (.int (2 : Int32)), .val .null, .unset] []) st1 ?_
  refine own_step (fun t k => XS.iloadN X1.here hx rfl (hb hby ds42_2_4) rfl k) ?_
  refine own_f T1 (mkF m 27 #[.val (.ref a1), .val (.ref a2), .val (.int (0 : Int32)), .val (.int (2 : Int32)), .val .null, .unset] []) (fun t k => XS.ifYes X1.here hx rfl (pc0 := 5) (pc' := 27) rfl (hb hby ds42_2_5) rfl (XT.i0_ne_t (by decide)) (by decide) (by decide) k) ?_
  have S2 : Sta Z h0 "java/lang/String" "COMPACT_STRINGS" "Z" (.int wc) := SC.ext F0.2
  obtain ⟨T2, X2, e2, st2⟩ := getS X1 hx hZ (host := "") hown (own_w hw 16 rfl) Via.refl e1 S2 (g := (mkF m 27 #[.val (.ref a1), .val (.ref a2), .val (.int (0 : Int32)), .val (.int (2 : Int32)), .val .null, .unset] [])) rfl (hb hby ds42_2_27)
  refine own_f T2 (mkF m 30 #[.val (.ref a1), .val (.ref a2), .val (.int (0 : Int32)), .val (.int (2 : Int32)), .val .null, .unset] [(.int wc)]) st2 ?_
  refine own_f T2 (mkF m 33 #[.val (.ref a1), .val (.ref a2), .val (.int (0 : Int32)), .val (.int (2 : Int32)), .val .null, .unset] []) (fun t k => XS.ifNo X2.here hx rfl (hb hby ds42_2_30) rfl (XT.i0_eq_f HWC) k) ?_
  refine own_step (fun t k => XS.aloadN X2.here hx rfl (hb hby ds42_2_33) rfl rfl k) ?_
  refine own_step (fun t k => XS.iloadN X2.here hx rfl (hb hby ds42_2_34) rfl k) ?_
  refine own_f T2 (mkF m 36 #[.val (.ref a1), .val (.ref a2), .val (.int (0 : Int32)), .val (.int (2 : Int32)), .val .null, .unset] [(.int (2 : Int32)), (.int (0 : Int32)), (.ref a2)]) (fun t k => XS.iloadN X2.here hx rfl (hb hby ds42_2_35) rfl k) ?_
  obtain ⟨_, _, ⟨T3, Lq3, kq_3, nq_3⟩, -, X3, ⟨Lc3, hQ3, lq3, yq3, zq3⟩, st3⟩ := Jvm.LawKit.callS X2 hx (y := (⟨"java/lang/StringUTF16", "compress", "([CII)[B"⟩ : MethodName)) hown (mvT hZ (own_w hw 17 rfl)) (mvT hZ (own_w hw 18 rfl)) (mvT hZ (own_w hw 19 rfl)) (mvT hZ (own_w hw 20 rfl)) (by decide) (backOf (W := 0) (rmcb2_2 l Z a0 hw [] a2 _ _ _ h0 n0 Z0 F0 F4 hc_c0 hc_c1) hZ (own_w hw 20 rfl) (own_w hw 19 rfl) (by decide) (by decide)) (g := (mkF m 36 #[.val (.ref a1), .val (.ref a2), .val (.int (0 : Int32)), .val (.int (2 : Int32)), .val .null, .unset] [(.int (2 : Int32)), (.int (0 : Int32)), (.ref a2)])) rfl (by rw [hml]; rfl) (argsL := [(.ref a2), (.int (0 : Int32)), (.int (2 : Int32))]) (rest := []) (lenOf pd__CII_B rfl) rfl (by show 2 * 0 + _ ≤ _; exact Nat.le_of_eq rfl) (hb hby ds42_2_36) (fun _ _ => ⟨rfl, e2, (by decide : 0 + 2 ≤ _), (by decide : 0 + 6 ≤ _)⟩)
  dsimp only [Pt.U, Pt.locs, Pt.cells, Pt.slots] at X3 lq3 yq3 zq3 st3 hQ3
  subst lq3 yq3 zq3
  obtain ⟨h3, e3⟩ : ∃ z, T3.heap = z := ⟨_, rfl⟩
  rw [e3] at hQ3
  unfold Qcb2_2 at hQ3
  obtain ⟨b3, kb3, rfl, Nq3, qh3, G3_0, H3_0⟩ := hQ3
  have N3 := Fr.app N0 Nq3
  have Zs3 : n0 ≤ h3.size := Nat.le_trans Z0 qh3.1
  have F_4 := F0.keep qh3 all0
  have F_5 := F1.keep qh3
  have F_6 := F2.keep qh3 nin0
  have F_7 := F3.keep qh3 nin0
  have F_8 := F4.keep qh3 nin0
  have K3 : Keep h0 h3 [a1] := (Keep.refl h0 [a1]).trans qh3 all0
  have ne3_a1 : a1 ≠ b3 := Nat.ne_of_lt (Nat.lt_of_lt_of_le F1.lt H3_0)
  have ne3_a2 : a2 ≠ b3 := Nat.ne_of_lt (Nat.lt_of_lt_of_le F4.lt H3_0)
  have ge3 : n0 ≤ b3 := Nat.le_trans Z0 H3_0
  have gf3 : h0.size ≤ b3 := Nat.le_trans (Keep.refl h0 [a1]).1 H3_0
  refine own_f T3 (mkF m 39 #[.val (.ref a1), .val (.ref a2), .val (.int (0 : Int32)), .val (.int (2 : Int32)), .val .null, .unset] [(.ref b3)]) st3 ?_
  refine own_f T3 (mkF m 41 #[.val (.ref a1), .val (.ref a2), .val (.int (0 : Int32)), .val (.int (2 : Int32)), .val .null, .val (.ref b3)] []) (fun t k => XS.astore X3.here hx rfl (hb hby ds42_2_39) rfl rfl (l' := #[.val (.ref a1), .val (.ref a2), .val (.int (0 : Int32)), .val (.int (2 : Int32)), .val .null, .val (.ref b3)]) rfl k) ?_
  refine own_step (fun t k => XS.aloadN X3.here hx rfl (hb hby ds42_2_41) rfl rfl k) ?_
  refine own_step (fun t k => XS.aload X3.here hx rfl (hb hby ds42_2_42) rfl rfl k) ?_
  refine own_f T3 (mkF m 45 #[.val (.ref a1), .val (.ref a2), .val (.int (0 : Int32)), .val (.int (2 : Int32)), .val .null, .val (.ref b3)] [(.int (2 : Int32)), (.ref b3), (.ref a1)]) (fun t k => XS.iloadN X3.here hx rfl (hb hby ds42_2_44) rfl k) ?_
  obtain ⟨_, _, ⟨T9, Lq9, kq_9, nq_9⟩, -, X9, ⟨Lc9, hQ9, lq9, yq9, zq9⟩, st9⟩ := Jvm.LawKit.callS X3 hx (y := (⟨"java/lang/StringUTF16", "coderFromArrayLen", "([BI)B"⟩ : MethodName)) hown (mvT hZ (own_w hw 25 rfl)) (mvT hZ (own_w hw 26 rfl)) (mvT hZ (own_w hw 19 rfl)) (mvT hZ (own_w hw 27 rfl)) (by decide) (backOf (W := 1) (rmco2_2 l Z a0 hw [] b3 _ _ h3 n0 Zs3 G3_0) hZ (own_w hw 27 rfl) (own_w hw 19 rfl) (by decide) (by decide)) (g := (mkF m 45 #[.val (.ref a1), .val (.ref a2), .val (.int (0 : Int32)), .val (.int (2 : Int32)), .val .null, .val (.ref b3)] [(.int (2 : Int32)), (.ref b3), (.ref a1)])) rfl (by rw [hml]; rfl) (argsL := [(.ref b3), (.int (2 : Int32))]) (rest := [(.ref a1)]) (lenOf pd__BI_B rfl) rfl (by show 2 * 0 + _ ≤ _; exact Nat.le_of_eq rfl) (hb hby ds42_2_45) (fun _ _ => ⟨rfl, e3, (by decide : 0 + 2 + 0 ≤ _), (by decide : 0 + 6 + 0 ≤ _)⟩)
  dsimp only [Pt.U, Pt.locs, Pt.cells, Pt.slots] at X9 lq9 yq9 zq9 st9 hQ9
  subst lq9 yq9 zq9
  obtain ⟨h9, e9⟩ : ∃ z, T9.heap = z := ⟨_, rfl⟩
  rw [e9] at hQ9
  unfold Qco2_2 at hQ9
  obtain ⟨rfl, Nq9, qh9⟩ := hQ9
  have N9 := Fr.app N3 Nq9
  rw [qh9] at e9
  refine own_f T9 (mkF m 48 #[.val (.ref a1), .val (.ref a2), .val (.int (0 : Int32)), .val (.int (2 : Int32)), .val .null, .val (.ref b3)] [(.int (0 : Int32)), (.ref a1)]) st9 ?_
  obtain ⟨T10, h10, X10, e10, W10, st10⟩ := putF X9 hx hZ hown (host := "") (Or.inl (own_w hw 28 rfl)) Via.refl e9 F_7 F_5 (Or.inr ⟨(own_w hw 29 rfl), rfl, hnm⟩) (own_w hw 3 rfl) (ty := .byte) (by decide) rfl rfl (g := (mkF m 48 #[.val (.ref a1), .val (.ref a2), .val (.int (0 : Int32)), .val (.int (2 : Int32)), .val .null, .val (.ref b3)] [(.int (0 : Int32)), (.ref a1)])) rfl rfl (hb hby ds42_2_48)
  have N10 := Fr.snoc X10 N9 ge_a1
  have Zs10 : n0 ≤ h10.size := by rw [W10.size]; exact Zs3
  have K10 : Keep h0 h10 [a1] := K3.wr W10 (Or.inl (by simp))
  have F_11 := F_4.wr W10 ge_a1
  have F_12 := F_5.wr W10
  have F_13 := F_6.other W10 (Or.inr (slot_ne (Or.inr (own_w hw 31 rfl)) (Or.inr (own_w hw 29 rfl)) (by decide) (t := (.array .byte)) (t' := .byte) (by decide) (by decide)))
  have F_14 := F_7.same W10
  have F_15 := F_8.other W10 hne
  have F_16 := G3_0.other W10 (Ne.symm ne3_a1)
  refine own_f T10 (mkF m 51 #[.val (.ref a1), .val (.ref a2), .val (.int (0 : Int32)), .val (.int (2 : Int32)), .val .null, .val (.ref b3)] []) st10 ?_
  refine own_step (fun t k => XS.aloadN X10.here hx rfl (hb hby ds42_2_51) rfl rfl k) ?_
  refine own_f T10 (mkF m 54 #[.val (.ref a1), .val (.ref a2), .val (.int (0 : Int32)), .val (.int (2 : Int32)), .val .null, .val (.ref b3)] [(.ref b3), (.ref a1)]) (fun t k => XS.aload X10.here hx rfl (hb hby ds42_2_52) rfl rfl k) ?_
  obtain ⟨T17, h17, X17, e17, W17, st17⟩ := putF X10 hx hZ hown (host := "") (Or.inl (own_w hw 30 rfl)) Via.refl e10 F_13 F_12 (Or.inr ⟨(own_w hw 31 rfl), rfl, hnm⟩) (own_w hw 3 rfl) (ty := (.array .byte)) (by decide) rfl rfl (g := (mkF m 54 #[.val (.ref a1), .val (.ref a2), .val (.int (0 : Int32)), .val (.int (2 : Int32)), .val .null, .val (.ref b3)] [(.ref b3), (.ref a1)])) rfl rfl (hb hby ds42_2_54)
  have N17 := Fr.snoc X17 N10 ge_a1
  have Zs17 : n0 ≤ h17.size := by rw [W17.size]; exact Zs10
  have K17 : Keep h0 h17 [a1] := K10.wr W17 (Or.inl (by simp))
  have F_18 := F_11.wr W17 ge_a1
  have F_19 := F_12.wr W17
  have F_20 := F_13.same W17
  have F_21 := F_14.other W17 (Or.inr (slot_ne (Or.inr (own_w hw 29 rfl)) (Or.inr (own_w hw 31 rfl)) (by decide) (t := .byte) (t' := (.array .byte)) (by decide) (by decide)))
  have F_22 := F_15.other W17 hne
  have F_23 := F_16.other W17 (Ne.symm ne3_a1)
  refine own_f T17 (mkF m 57 #[.val (.ref a1), .val (.ref a2), .val (.int (0 : Int32)), .val (.int (2 : Int32)), .val .null, .val (.ref b3)] []) st17 ?_
  obtain ⟨fs, hr, hrun, hended, hW, hsame⟩ := X17.leave (v := none) (fun _ => rfl)
  refine ⟨_, _, X17.returnOut hx Bd.returns (hb hby ds42_2_57) hr, hrun, hended, _, _, rfl, ?_, ⟨_, rfl⟩, hW, hsame.mono (by decide) (by decide)⟩
  show Qs42_2 Z a1 a2 k2 c0 c1 u0 u1 wc h0 n0 _ T17.heap _
  rw [e17]
  exact ⟨b3, kb3, rfl, N17, K17, F_19, F_21, F_20, F_23, gf3⟩
theorem dnl3_0 : decode jdk_52_method_3_code 0 = .ok (.iload_n 0, 1) := by decide +kernel
theorem dnl3_1 : decode jdk_52_method_3_code 1 = .ok (.ifCond .ge 11, 3) := by decide +kernel
theorem dnl3_12 : decode jdk_52_method_3_code 12 = .ok (.iload_n 0, 1) := by decide +kernel
theorem dnl3_13 : decode jdk_52_method_3_code 13 = .ok (.ldc 20, 2) := by decide +kernel
theorem dnl3_15 : decode jdk_52_method_3_code 15 = .ok (.if_icmp .lt 40, 3) := by decide +kernel
theorem dnl3_55 : decode jdk_52_method_3_code 55 = .ok (.iload_n 0, 1) := by decide +kernel
theorem dnl3_56 : decode jdk_52_method_3_code 56 = .ok (.iconst 1, 1) := by decide +kernel
theorem dnl3_57 : decode jdk_52_method_3_code 57 = .ok (.ishl, 1) := by decide +kernel
theorem dnl3_58 : decode jdk_52_method_3_code 58 = .ok (.ireturn, 1) := by decide +kernel
theorem pn_nl3 : plainName "java/lang/StringUTF16" = true := by first | (simp [plainName, overriddenIn]; done) | decide +kernel
theorem ef_nl3 (m : MethodId) (x0 : Int32) : entryFrame m #[(.int x0)] 1 = mkF m 0 #[.val (.int x0)] [] := by first | (simp [entryFrame, mkF, argsToLocals, Value.category]; done) | rfl
def Qnl3 (Z : State) (h0 : Heap) (n0 : Nat) (v : Option Value) (h : Heap) (L : List Loc) : Prop := v = some (.int (6 : Int32)) ∧ Fr n0 L ∧ h = h0
set_option maxRecDepth 65536 in
set_option maxHeartbeats 40000000 in
theorem rmnl3 (l : Launch) (Z : State) (a0 : Array Value) (hw : ∀ d ∈ tables_1, d.before a0 Z = true) (ws : List Jvm.Cond) (h0 : Heap) (n0 : Nat) (Z0 : n0 ≤ h0.size) :
    MetFree l (⟨"java/lang/StringUTF16", "newBytesLength", "(I)I"⟩ : MethodName) (head1 (Jvm.Cond.code (⟨"java/lang/StringUTF16", "newBytesLength", "(I)I"⟩ : MethodName) jdk_52_method_3_code 1 (some .int) :: ws) ({ frames := 0, cells := 0, slots := 0, locals := 0 } : Room)) (fun a U => a = #[(.int (3 : Int32))] ∧ Z.Warmed39 U.vm ∧ U.heap = h0) (fun _ _ _ _ _ => True) (fun _ U o U' => ∃ v L, o = .returned v ∧ Qnl3 Z h0 n0 v U'.heap L ∧ FrameEnd U o U' L ({ frames := 0, cells := 0, slots := 0, locals := 0 } : Room).cells ({ frames := 0, cells := 0, slots := 0, locals := 0 } : Room).slots) := by
  refine MetFree.of_bodySF (plainFor_of_name pn_nl3) hisR ?_
  intro p e s m args below meth c s₁ Bd hml0 hP hK
  obtain ⟨rfl, hZ, hh⟩ := hP
  have hx := Bd.exec
  have hby := Bd.bytes
  have hml : c.maxLocals = 1 := hml0
  have hown : s.vm.findClass "java/lang/StringUTF16" = some m.cls := findClass_of_methodNamed Bd.named
  have hnm := (name_of_methodNamed Bd.named Bd.method).1
  have X0 : Stand p l e ({ frames := 0, cells := 0, slots := 0, locals := 0 } : Room) s m #[(.int (3 : Int32))] below meth c s₁ [] 0 0 := Stand.of_body Bd
  have e0 : s₁.heap = h0 := by rw [← hh, Bd.state]; rfl
  have N0 := Fr.nil n0
  show own_R p.tables e below (own_P s (Qnl3 Z h0 n0) ({ frames := 0, cells := 0, slots := 0, locals := 0 } : Room).cells ({ frames := 0, cells := 0, slots := 0, locals := 0 } : Room).slots) (s₁.setTop (entryFrame m #[(.int (3 : Int32))] 1))
  refine own_f s₁ (mkF m 0 #[.val (.int (3 : Int32))] []) (fun t k => castTop (ef_nl3 m (3 : Int32)) k) ?_
  refine own_step (fun t k => XS.iloadN X0.here hx rfl (hb hby dnl3_0) rfl k) ?_
  refine own_f s₁ (mkF m 12 #[.val (.int (3 : Int32))] []) (fun t k => XS.ifYes X0.here hx rfl (pc0 := 1) (pc' := 12) rfl (hb hby dnl3_1) rfl (XT.i0_ge_t (by decide)) (by decide) (by decide) k) ?_
  refine own_f s₁ (mkF m 13 #[.val (.int (3 : Int32))] [(.int (3 : Int32))]) (fun t k => XS.iloadN X0.here hx rfl (hb hby dnl3_12) rfl k) ?_
  refine own_f s₁ (mkF m 15 #[.val (.int (3 : Int32))] [(.int (1073741823 : Int32)), (.int (3 : Int32))]) (fun t k => X0.ldcI hx hown (mvT hZ (own_w hw 82 rfl)) rfl (hb hby dnl3_13) k) ?_
  refine own_f s₁ (mkF m 55 #[.val (.int (3 : Int32))] []) (fun t k => XS.icmpYes X0.here hx rfl (pc0 := 15) (pc' := 55) rfl (hb hby dnl3_15) rfl (XT.ii_lt_t (by decide)) (by decide) (by decide) k) ?_
  refine own_step (fun t k => XS.iloadN X0.here hx rfl (hb hby dnl3_55) rfl k) ?_
  refine own_step (fun t k => XT.iconstV X0.here hx rfl (1 : Int32) (hb hby dnl3_56) (by decide) k) ?_
  refine own_f s₁ (mkF m 58 #[.val (.int (3 : Int32))] [(.int ((3 : Int32) <<< ((1 : Int32) &&& 31)))]) (fun t k => XS.ishl X0.here hx rfl (hb hby dnl3_57) rfl k) ?_
  rw [show ((3 : Int32) <<< ((1 : Int32) &&& 31)) = (6 : Int32) from by decide]
  obtain ⟨fs, hr, hrun, hended, hW, hsame⟩ := X0.leave (v := some (.int (6 : Int32))) (fun h => by rw [Bd.returns] at h; cases h)
  refine ⟨_, _, retI X0 hx Bd.returns (hb hby dnl3_58) hr, hrun, hended, _, _, rfl, ?_, ⟨_, rfl⟩, hW, hsame.mono (by decide) (by decide)⟩
  show Qnl3 Z h0 n0 _ s₁.heap _
  rw [e0]
  exact ⟨rfl, N0, rfl⟩
theorem dnf3_0 : decode jdk_52_method_2_code 0 = .ok (.iload_n 0, 1) := by decide +kernel
theorem dnf3_1 : decode jdk_52_method_2_code 1 = .ok (.invokestatic 11, 3) := by decide +kernel
theorem dnf3_4 : decode jdk_52_method_2_code 4 = .ok (.newarray .byte, 2) := by decide +kernel
theorem dnf3_6 : decode jdk_52_method_2_code 6 = .ok (.areturn, 1) := by decide +kernel
theorem pn_nf3 : plainName "java/lang/StringUTF16" = true := by first | (simp [plainName, overriddenIn]; done) | decide +kernel
theorem ef_nf3 (m : MethodId) (x0 : Int32) : entryFrame m #[(.int x0)] 1 = mkF m 0 #[.val (.int x0)] [] := by first | (simp [entryFrame, mkF, argsToLocals, Value.category]; done) | rfl
def Qnf3 (Z : State) (h0 : Heap) (n0 : Nat) (v : Option Value) (h : Heap) (L : List Loc) : Prop := ∃ (b : Addr) (kb : ClassId), v = some (.ref b) ∧ Fr n0 L ∧ Keep h0 h [] ∧ Arv Z h b kb .byte (6 : Int32) [.int 0, .int 0, .int 0, .int 0, .int 0, .int 0] (.int 0) ∧ h0.size ≤ b
set_option maxRecDepth 65536 in
set_option maxHeartbeats 40000000 in
theorem rmnf3 (l : Launch) (Z : State) (a0 : Array Value) (hw : ∀ d ∈ tables_1, d.before a0 Z = true) (ws : List Jvm.Cond) (h0 : Heap) (n0 : Nat) (Z0 : n0 ≤ h0.size) :
    MetFree l (⟨"java/lang/StringUTF16", "newBytesFor", "(I)[B"⟩ : MethodName) (head1 (Jvm.Cond.code (⟨"java/lang/StringUTF16", "newBytesFor", "(I)[B"⟩ : MethodName) jdk_52_method_2_code 1 (some (.array .byte)) :: ws) ({ frames := 1, cells := 1, slots := 6, locals := 12 } : Room)) (fun a U => a = #[(.int (3 : Int32))] ∧ Z.Warmed39 U.vm ∧ U.heap = h0) (fun _ _ _ _ _ => True) (fun _ U o U' => ∃ v L, o = .returned v ∧ Qnf3 Z h0 n0 v U'.heap L ∧ FrameEnd U o U' L ({ frames := 1, cells := 1, slots := 6, locals := 12 } : Room).cells ({ frames := 1, cells := 1, slots := 6, locals := 12 } : Room).slots) := by
  refine MetFree.of_bodySF (plainFor_of_name pn_nf3) hisR ?_
  intro p e s m args below meth c s₁ Bd hml0 hP hK
  obtain ⟨rfl, hZ, hh⟩ := hP
  have hx := Bd.exec
  have hby := Bd.bytes
  have hml : c.maxLocals = 1 := hml0
  have hown : s.vm.findClass "java/lang/StringUTF16" = some m.cls := findClass_of_methodNamed Bd.named
  have hnm := (name_of_methodNamed Bd.named Bd.method).1
  have X0 : Stand p l e ({ frames := 1, cells := 1, slots := 6, locals := 12 } : Room) s m #[(.int (3 : Int32))] below meth c s₁ [] 0 0 := Stand.of_body Bd
  have e0 : s₁.heap = h0 := by rw [← hh, Bd.state]; rfl
  have N0 := Fr.nil n0
  show own_R p.tables e below (own_P s (Qnf3 Z h0 n0) ({ frames := 1, cells := 1, slots := 6, locals := 12 } : Room).cells ({ frames := 1, cells := 1, slots := 6, locals := 12 } : Room).slots) (s₁.setTop (entryFrame m #[(.int (3 : Int32))] 1))
  refine own_f s₁ (mkF m 0 #[.val (.int (3 : Int32))] []) (fun t k => castTop (ef_nf3 m (3 : Int32)) k) ?_
  refine own_f s₁ (mkF m 1 #[.val (.int (3 : Int32))] [(.int (3 : Int32))]) (fun t k => XS.iloadN X0.here hx rfl (hb hby dnf3_0) rfl k) ?_
  obtain ⟨_, _, ⟨T1, Lq1, kq_1, nq_1⟩, -, X1, ⟨Lc1, hQ1, lq1, yq1, zq1⟩, st1⟩ := Jvm.LawKit.callS X0 hx (y := (⟨"java/lang/StringUTF16", "newBytesLength", "(I)I"⟩ : MethodName)) hown (mvT hZ (own_w hw 79 rfl)) (mvT hZ (own_w hw 80 rfl)) (mvT hZ (own_w hw 19 rfl)) (mvT hZ (own_w hw 81 rfl)) (by decide) (backOf (W := 0) (rmnl3 l Z a0 hw []  h0 n0 Z0 ) hZ (own_w hw 81 rfl) (own_w hw 19 rfl) (by decide) (by decide)) (g := (mkF m 1 #[.val (.int (3 : Int32))] [(.int (3 : Int32))])) rfl (by rw [hml]; rfl) (argsL := [(.int (3 : Int32))]) (rest := []) (lenOf pd__I_I rfl) rfl (by show 2 * 0 + _ ≤ _; exact Nat.le_of_eq rfl) (hb hby dnf3_1) (fun _ _ => ⟨rfl, e0, (by decide : 0 + 0 ≤ _), (by decide : 0 + 0 ≤ _)⟩)
  dsimp only [Pt.U, Pt.locs, Pt.cells, Pt.slots] at X1 lq1 yq1 zq1 st1 hQ1
  subst lq1 yq1 zq1
  obtain ⟨h1, e1⟩ : ∃ z, T1.heap = z := ⟨_, rfl⟩
  rw [e1] at hQ1
  unfold Qnl3 at hQ1
  obtain ⟨rfl, Nq1, qh1⟩ := hQ1
  have N1 := Fr.app N0 Nq1
  rw [qh1] at e1
  refine own_f T1 (mkF m 4 #[.val (.int (3 : Int32))] [(.int (6 : Int32))]) st1 ?_
  obtain ⟨T2, h2, kA2, X2, e2, E2, A2, st2⟩ := newP X1 hx hZ (own_w hw 21 rfl) e1 (g := (mkF m 4 #[.val (.int (3 : Int32))] [(.int (6 : Int32))])) rfl (hb hby dnf3_4) rfl (by decide) (cap := 6) (by decide) (by decide) (by decide) (by decide)
  obtain ⟨b2, g2⟩ : ∃ z, z = h0.size := ⟨_, rfl⟩
  rw [← g2] at A2 st2
  have ge2 : n0 ≤ b2 := by rw [g2]; exact Z0
  have gf2 : h0.size ≤ b2 := by rw [g2]; exact (Keep.refl h0 []).1
  have Zs2 : n0 ≤ h2.size := Nat.le_trans Z0 E2.1
  have K2 : Keep h0 h2 [] := (Keep.refl h0 []).ext E2
  have F_3 : Arv Z h2 b2 kA2 .byte (6 : Int32) [.int 0, .int 0, .int 0, .int 0, .int 0, .int 0] (.int 0) := own_arvnew 6 A2 (by decide)
  refine own_f T2 (mkF m 6 #[.val (.int (3 : Int32))] [(.ref b2)]) st2 ?_
  obtain ⟨fs, hr, hrun, hended, hW, hsame⟩ := X2.leave (v := some (.ref b2)) (fun h => by rw [Bd.returns] at h; cases h)
  refine ⟨_, _, retOut X2 hx Bd.returns (by rfl) (Or.inr (Or.inr (Or.inr (Or.inr ⟨rfl, rfl, rfl⟩)))) (hb hby dnf3_6) hr, hrun, hended, _, _, rfl, ?_, ⟨_, rfl⟩, hW, hsame.mono (by decide) (by decide)⟩
  show Qnf3 Z h0 n0 _ T2.heap _
  rw [e2]
  exact ⟨b2, kA2, rfl, N1, K2, F_3, gf2⟩
theorem dpc3_0_0 : decode jdk_52_method_4_code 0 = .ok (.getstatic 44, 3) := by decide +kernel
theorem dpc3_0_3 : decode jdk_52_method_4_code 3 = .ok (.ifCond .ne 25, 3) := by decide +kernel
theorem dpc3_0_28 : decode jdk_52_method_4_code 28 = .ok (.iload_n 1, 1) := by decide +kernel
theorem dpc3_0_29 : decode jdk_52_method_4_code 29 = .ok (.iconst 1, 1) := by decide +kernel
theorem dpc3_0_30 : decode jdk_52_method_4_code 30 = .ok (.ishl, 1) := by decide +kernel
theorem dpc3_0_31 : decode jdk_52_method_4_code 31 = .ok (.istore_n 1, 1) := by decide +kernel
theorem dpc3_0_32 : decode jdk_52_method_4_code 32 = .ok (.aload_n 0, 1) := by decide +kernel
theorem dpc3_0_33 : decode jdk_52_method_4_code 33 = .ok (.iload_n 1, 1) := by decide +kernel
theorem dpc3_0_34 : decode jdk_52_method_4_code 34 = .ok (.iinc 1 1, 3) := by decide +kernel
theorem dpc3_0_37 : decode jdk_52_method_4_code 37 = .ok (.iload_n 2, 1) := by decide +kernel
theorem dpc3_0_38 : decode jdk_52_method_4_code 38 = .ok (.getstatic 59, 3) := by decide +kernel
theorem dpc3_0_41 : decode jdk_52_method_4_code 41 = .ok (.ishr, 1) := by decide +kernel
theorem dpc3_0_42 : decode jdk_52_method_4_code 42 = .ok (.i2b, 1) := by decide +kernel
theorem dpc3_0_43 : decode jdk_52_method_4_code 43 = .ok (.bastore, 1) := by decide +kernel
theorem dpc3_0_44 : decode jdk_52_method_4_code 44 = .ok (.aload_n 0, 1) := by decide +kernel
theorem dpc3_0_45 : decode jdk_52_method_4_code 45 = .ok (.iload_n 1, 1) := by decide +kernel
theorem dpc3_0_46 : decode jdk_52_method_4_code 46 = .ok (.iload_n 2, 1) := by decide +kernel
theorem dpc3_0_47 : decode jdk_52_method_4_code 47 = .ok (.getstatic 63, 3) := by decide +kernel
theorem dpc3_0_50 : decode jdk_52_method_4_code 50 = .ok (.ishr, 1) := by decide +kernel
theorem dpc3_0_51 : decode jdk_52_method_4_code 51 = .ok (.i2b, 1) := by decide +kernel
theorem dpc3_0_52 : decode jdk_52_method_4_code 52 = .ok (.bastore, 1) := by decide +kernel
theorem dpc3_0_53 : decode jdk_52_method_4_code 53 = .ok (.return_, 1) := by decide +kernel
theorem pn_pc3_0 : plainName "java/lang/StringUTF16" = true := by first | (simp [plainName, overriddenIn]; done) | decide +kernel
theorem ef_pc3_0 (m : MethodId) (x0 : Addr) (x1 : Int32) (x2 : Int32) : entryFrame m #[(.ref x0), (.int x1), (.int x2)] 3 = mkF m 0 #[.val (.ref x0), .val (.int x1), .val (.int x2)] [] := by first | (simp [entryFrame, mkF, argsToLocals, Value.category]; done) | rfl
def Qpc3_0 (Z : State) (a1 : Addr) (k1 : ClassId) (cc : Int32) (e0_ : Int32) (e1_ : Int32) (e2_ : Int32) (e3_ : Int32) (e4_ : Int32) (e5_ : Int32) (h0 : Heap) (n0 : Nat) (v : Option Value) (h : Heap) (L : List Loc) : Prop := v = none ∧ Fr n0 L ∧ Keep h0 h [a1] ∧ Arv Z h a1 k1 .byte (6 : Int32) [.int ((cc >>> ((0 : Int32) &&& 31)).toInt8.toInt32), .int ((cc >>> ((8 : Int32) &&& 31)).toInt8.toInt32), .int e2_, .int e3_, .int e4_, .int e5_] (.int 0)
set_option maxRecDepth 65536 in
set_option maxHeartbeats 40000000 in
theorem rmpc3_0 (l : Launch) (Z : State) (a0 : Array Value) (hw : ∀ d ∈ tables_1, d.before a0 Z = true) (ws : List Jvm.Cond) (a1 : Addr) (k1 : ClassId) (cc : Int32) (e0_ : Int32) (e1_ : Int32) (e2_ : Int32) (e3_ : Int32) (e4_ : Int32) (e5_ : Int32) (h0 : Heap) (n0 : Nat) (Z0 : n0 ≤ h0.size) (F0 : Old Z n0 h0) (F1 : Arv Z h0 a1 k1 .byte (6 : Int32) [.int e0_, .int e1_, .int e2_, .int e3_, .int e4_, .int e5_] (.int 0)) (ge_a1 : n0 ≤ a1) (SH : Sta Z Z.heap "java/lang/StringUTF16" "HI_BYTE_SHIFT" "I" (.int (0 : Int32))) (SL : Sta Z Z.heap "java/lang/StringUTF16" "LO_BYTE_SHIFT" "I" (.int (8 : Int32))) (SA : Sta Z Z.heap "java/lang/StringUTF16" "$assertionsDisabled" "Z" (.int (1 : Int32))) :
    MetFree l (⟨"java/lang/StringUTF16", "putChar", "([BII)V"⟩ : MethodName) (head1 (Jvm.Cond.code (⟨"java/lang/StringUTF16", "putChar", "([BII)V"⟩ : MethodName) jdk_52_method_4_code 3 none :: ws) ({ frames := 0, cells := 0, slots := 0, locals := 0 } : Room)) (fun a U => a = #[(.ref a1), (.int (0 : Int32)), (.int cc)] ∧ Z.Warmed39 U.vm ∧ U.heap = h0) (fun _ _ _ _ _ => True) (fun _ U o U' => ∃ v L, o = .returned v ∧ Qpc3_0 Z a1 k1 cc e0_ e1_ e2_ e3_ e4_ e5_ h0 n0 v U'.heap L ∧ FrameEnd U o U' L ({ frames := 0, cells := 0, slots := 0, locals := 0 } : Room).cells ({ frames := 0, cells := 0, slots := 0, locals := 0 } : Room).slots) := by
  refine MetFree.of_bodySF (plainFor_of_name pn_pc3_0) hisR ?_
  intro p e s m args below meth c s₁ Bd hml0 hP hK
  obtain ⟨rfl, hZ, hh⟩ := hP
  have hx := Bd.exec
  have hby := Bd.bytes
  have hml : c.maxLocals = 3 := hml0
  have hown : s.vm.findClass "java/lang/StringUTF16" = some m.cls := findClass_of_methodNamed Bd.named
  have hnm := (name_of_methodNamed Bd.named Bd.method).1
  have X0 : Stand p l e ({ frames := 0, cells := 0, slots := 0, locals := 0 } : Room) s m #[(.ref a1), (.int (0 : Int32)), (.int cc)] below meth c s₁ [] 0 0 := Stand.of_body Bd
  have e0 : s₁.heap = h0 := by rw [← hh, Bd.state]; rfl
  have N0 := Fr.nil n0
  show own_R p.tables e below (own_P s (Qpc3_0 Z a1 k1 cc e0_ e1_ e2_ e3_ e4_ e5_ h0 n0) ({ frames := 0, cells := 0, slots := 0, locals := 0 } : Room).cells ({ frames := 0, cells := 0, slots := 0, locals := 0 } : Room).slots) (s₁.setTop (entryFrame m #[(.ref a1), (.int (0 : Int32)), (.int cc)] 3))
  refine own_f s₁ (mkF m 0 #[.val (.ref a1), .val (.int (0 : Int32)), .val (.int cc)] []) (fun t k => castTop (ef_pc3_0 m a1 (0 : Int32) cc) k) ?_
  have S1 : Sta Z h0 "java/lang/StringUTF16" "$assertionsDisabled" "Z" (.int (1 : Int32)) := SA.ext F0.2
  obtain ⟨T1, X1, e1, st1⟩ := getS X0 hx hZ (host := "") hown (own_w hw 86 rfl) Via.refl e0 S1 (g := (mkF m 0 #[.val (.ref a1), .val (.int (0 : Int32)), .val (.int cc)] [])) rfl (hb hby dpc3_0_0)
  refine own_f T1 (mkF m 3 #[.val (.ref a1), .val (.int (0 : Int32)), .val (.int cc)] [(.int (1 : Int32))]) st1 ?_
  refine own_f T1 (mkF m 28 #[.val (.ref a1), .val (.int (0 : Int32)), .val (.int cc)] []) (fun t k => XS.ifYes X1.here hx rfl (pc0 := 3) (pc' := 28) rfl (hb hby dpc3_0_3) rfl (XT.i0_ne_t (by decide)) (by decide) (by decide) k) ?_
  refine own_step (fun t k => XS.iloadN X1.here hx rfl (hb hby dpc3_0_28) rfl k) ?_
  refine own_step (fun t k => XT.iconstV X1.here hx rfl (1 : Int32) (hb hby dpc3_0_29) (by decide) k) ?_
  refine own_f T1 (mkF m 31 #[.val (.ref a1), .val (.int (0 : Int32)), .val (.int cc)] [(.int ((0 : Int32) <<< ((1 : Int32) &&& 31)))]) (fun t k => XS.ishl X1.here hx rfl (hb hby dpc3_0_30) rfl k) ?_
  rw [show ((0 : Int32) <<< ((1 : Int32) &&& 31)) = (0 : Int32) from by decide]
  refine own_f T1 (mkF m 32 #[.val (.ref a1), .val (.int (0 : Int32)), .val (.int cc)] []) (fun t k => XS.istoreN X1.here hx rfl (hb hby dpc3_0_31) rfl (l' := #[.val (.ref a1), .val (.int (0 : Int32)), .val (.int cc)]) rfl k) ?_
  refine own_step (fun t k => XS.aloadN X1.here hx rfl (hb hby dpc3_0_32) rfl rfl k) ?_
  refine own_f T1 (mkF m 34 #[.val (.ref a1), .val (.int (0 : Int32)), .val (.int cc)] [(.int (0 : Int32)), (.ref a1)]) (fun t k => XS.iloadN X1.here hx rfl (hb hby dpc3_0_33) rfl k) ?_
  refine own_f T1 (mkF m 37 #[.val (.ref a1), .val (.int ((0 : Int32) + (1 : Int32))), .val (.int cc)] [(.int (0 : Int32)), (.ref a1)]) (fun t k => XT.iincV X1.here hx rfl (l' := #[.val (.ref a1), .val (.int ((0 : Int32) + (1 : Int32))), .val (.int cc)]) (1 : Int32) (hb hby dpc3_0_34) (by decide) rfl rfl k) ?_
  rw [show ((0 : Int32) + (1 : Int32)) = (1 : Int32) from by decide]
  refine own_f T1 (mkF m 38 #[.val (.ref a1), .val (.int (1 : Int32)), .val (.int cc)] [(.int cc), (.int (0 : Int32)), (.ref a1)]) (fun t k => XS.iloadN X1.here hx rfl (hb hby dpc3_0_37) rfl k) ?_
  have S2 : Sta Z h0 "java/lang/StringUTF16" "HI_BYTE_SHIFT" "I" (.int (0 : Int32)) := SH.ext F0.2
  obtain ⟨T2, X2, e2, st2⟩ := getS X1 hx hZ (host := "") hown (own_w hw 87 rfl) Via.refl e1 S2 (g := (mkF m 38 #[.val (.ref a1), .val (.int (1 : Int32)), .val (.int cc)] [(.int cc), (.int (0 : Int32)), (.ref a1)])) rfl (hb hby dpc3_0_38)
  refine own_f T2 (mkF m 41 #[.val (.ref a1), .val (.int (1 : Int32)), .val (.int cc)] [(.int (0 : Int32)), (.int cc), (.int (0 : Int32)), (.ref a1)]) st2 ?_
  refine own_f T2 (mkF m 42 #[.val (.ref a1), .val (.int (1 : Int32)), .val (.int cc)] [(.int (cc >>> ((0 : Int32) &&& 31))), (.int (0 : Int32)), (.ref a1)]) (fun t k => XS.ishr X2.here hx rfl (hb hby dpc3_0_41) rfl k) ?_
  refine own_f T2 (mkF m 43 #[.val (.ref a1), .val (.int (1 : Int32)), .val (.int cc)] [(.int ((cc >>> ((0 : Int32) &&& 31)).toInt8.toInt32)), (.int (0 : Int32)), (.ref a1)]) (fun t k => XS.i2b X2.here hx rfl (hb hby dpc3_0_42) rfl k) ?_
  obtain ⟨cl3, Ar3, q13, Sz3, q33, Hs3, Gs3⟩ := id F1
  obtain ⟨T3, h3, X3, e3, W3, st3⟩ := stB X2 hx hZ e2 Ar3 (j := (0 : Int32)) (inb_of Sz3 ⟨by decide, by decide⟩) (g := (mkF m 43 #[.val (.ref a1), .val (.int (1 : Int32)), .val (.int cc)] [(.int ((cc >>> ((0 : Int32) &&& 31)).toInt8.toInt32)), (.int (0 : Int32)), (.ref a1)])) rfl rfl (hb hby dpc3_0_43)
  have N3 := Fr.snoc X3 N0 ge_a1
  have Zs3 : n0 ≤ h3.size := by rw [W3.size]; exact Z0
  have K3 : Keep h0 h3 [a1] := (Keep.refl h0 [a1]).wr W3 (Or.inl (by simp))
  have F_4 := F0.wr W3 ge_a1
  have F_5 : Arv Z h3 a1 k1 .byte (6 : Int32) [.int ((cc >>> ((0 : Int32) &&& 31)).toInt8.toInt32), .int e1_, .int e2_, .int e3_, .int e4_, .int e5_] (.int 0) := Arv.set Ar3 q13 Sz3 q33 Hs3 Gs3 (by rw [← ((own_narB _) : nar .byte ((cc >>> ((0 : Int32) &&& 31)).toInt8.toInt32) = ((cc >>> ((0 : Int32) &&& 31)).toInt8.toInt32))]; exact own_fitB _) (by rw [((own_narB _) : nar .byte ((cc >>> ((0 : Int32) &&& 31)).toInt8.toInt32) = ((cc >>> ((0 : Int32) &&& 31)).toInt8.toInt32))] at W3; exact W3) 0 (by decide) (by simp)
  refine own_f T3 (mkF m 44 #[.val (.ref a1), .val (.int (1 : Int32)), .val (.int cc)] []) st3 ?_
  refine own_step (fun t k => XS.aloadN X3.here hx rfl (hb hby dpc3_0_44) rfl rfl k) ?_
  refine own_step (fun t k => XS.iloadN X3.here hx rfl (hb hby dpc3_0_45) rfl k) ?_
  refine own_f T3 (mkF m 47 #[.val (.ref a1), .val (.int (1 : Int32)), .val (.int cc)] [(.int cc), (.int (1 : Int32)), (.ref a1)]) (fun t k => XS.iloadN X3.here hx rfl (hb hby dpc3_0_46) rfl k) ?_
  have S6 : Sta Z h3 "java/lang/StringUTF16" "LO_BYTE_SHIFT" "I" (.int (8 : Int32)) := SL.ext F_4.2
  obtain ⟨T6, X6, e6, st6⟩ := getS X3 hx hZ (host := "") hown (own_w hw 88 rfl) Via.refl e3 S6 (g := (mkF m 47 #[.val (.ref a1), .val (.int (1 : Int32)), .val (.int cc)] [(.int cc), (.int (1 : Int32)), (.ref a1)])) rfl (hb hby dpc3_0_47)
  refine own_f T6 (mkF m 50 #[.val (.ref a1), .val (.int (1 : Int32)), .val (.int cc)] [(.int (8 : Int32)), (.int cc), (.int (1 : Int32)), (.ref a1)]) st6 ?_
  refine own_f T6 (mkF m 51 #[.val (.ref a1), .val (.int (1 : Int32)), .val (.int cc)] [(.int (cc >>> ((8 : Int32) &&& 31))), (.int (1 : Int32)), (.ref a1)]) (fun t k => XS.ishr X6.here hx rfl (hb hby dpc3_0_50) rfl k) ?_
  refine own_f T6 (mkF m 52 #[.val (.ref a1), .val (.int (1 : Int32)), .val (.int cc)] [(.int ((cc >>> ((8 : Int32) &&& 31)).toInt8.toInt32)), (.int (1 : Int32)), (.ref a1)]) (fun t k => XS.i2b X6.here hx rfl (hb hby dpc3_0_51) rfl k) ?_
  obtain ⟨cl7, Ar7, q17, Sz7, q37, Hs7, Gs7⟩ := id F_5
  obtain ⟨T7, h7, X7, e7, W7, st7⟩ := stB X6 hx hZ e6 Ar7 (j := (1 : Int32)) (inb_of Sz7 ⟨by decide, by decide⟩) (g := (mkF m 52 #[.val (.ref a1), .val (.int (1 : Int32)), .val (.int cc)] [(.int ((cc >>> ((8 : Int32) &&& 31)).toInt8.toInt32)), (.int (1 : Int32)), (.ref a1)])) rfl rfl (hb hby dpc3_0_52)
  have N7 := Fr.snoc X7 N3 ge_a1
  have Zs7 : n0 ≤ h7.size := by rw [W7.size]; exact Zs3
  have K7 : Keep h0 h7 [a1] := K3.wr W7 (Or.inl (by simp))
  have F_8 := F_4.wr W7 ge_a1
  have F_9 : Arv Z h7 a1 k1 .byte (6 : Int32) [.int ((cc >>> ((0 : Int32) &&& 31)).toInt8.toInt32), .int ((cc >>> ((8 : Int32) &&& 31)).toInt8.toInt32), .int e2_, .int e3_, .int e4_, .int e5_] (.int 0) := Arv.set Ar7 q17 Sz7 q37 Hs7 Gs7 (by rw [← ((own_narB _) : nar .byte ((cc >>> ((8 : Int32) &&& 31)).toInt8.toInt32) = ((cc >>> ((8 : Int32) &&& 31)).toInt8.toInt32))]; exact own_fitB _) (by rw [((own_narB _) : nar .byte ((cc >>> ((8 : Int32) &&& 31)).toInt8.toInt32) = ((cc >>> ((8 : Int32) &&& 31)).toInt8.toInt32))] at W7; exact W7) 1 (by decide) (by simp)
  refine own_f T7 (mkF m 53 #[.val (.ref a1), .val (.int (1 : Int32)), .val (.int cc)] []) st7 ?_
  obtain ⟨fs, hr, hrun, hended, hW, hsame⟩ := X7.leave (v := none) (fun _ => rfl)
  refine ⟨_, _, X7.returnOut hx Bd.returns (hb hby dpc3_0_53) hr, hrun, hended, _, _, rfl, ?_, ⟨_, rfl⟩, hW, hsame.mono (by decide) (by decide)⟩
  show Qpc3_0 Z a1 k1 cc e0_ e1_ e2_ e3_ e4_ e5_ h0 n0 _ T7.heap _
  rw [e7]
  exact ⟨rfl, N7, K7, F_9⟩
theorem dpc3_1_0 : decode jdk_52_method_4_code 0 = .ok (.getstatic 44, 3) := by decide +kernel
theorem dpc3_1_3 : decode jdk_52_method_4_code 3 = .ok (.ifCond .ne 25, 3) := by decide +kernel
theorem dpc3_1_28 : decode jdk_52_method_4_code 28 = .ok (.iload_n 1, 1) := by decide +kernel
theorem dpc3_1_29 : decode jdk_52_method_4_code 29 = .ok (.iconst 1, 1) := by decide +kernel
theorem dpc3_1_30 : decode jdk_52_method_4_code 30 = .ok (.ishl, 1) := by decide +kernel
theorem dpc3_1_31 : decode jdk_52_method_4_code 31 = .ok (.istore_n 1, 1) := by decide +kernel
theorem dpc3_1_32 : decode jdk_52_method_4_code 32 = .ok (.aload_n 0, 1) := by decide +kernel
theorem dpc3_1_33 : decode jdk_52_method_4_code 33 = .ok (.iload_n 1, 1) := by decide +kernel
theorem dpc3_1_34 : decode jdk_52_method_4_code 34 = .ok (.iinc 1 1, 3) := by decide +kernel
theorem dpc3_1_37 : decode jdk_52_method_4_code 37 = .ok (.iload_n 2, 1) := by decide +kernel
theorem dpc3_1_38 : decode jdk_52_method_4_code 38 = .ok (.getstatic 59, 3) := by decide +kernel
theorem dpc3_1_41 : decode jdk_52_method_4_code 41 = .ok (.ishr, 1) := by decide +kernel
theorem dpc3_1_42 : decode jdk_52_method_4_code 42 = .ok (.i2b, 1) := by decide +kernel
theorem dpc3_1_43 : decode jdk_52_method_4_code 43 = .ok (.bastore, 1) := by decide +kernel
theorem dpc3_1_44 : decode jdk_52_method_4_code 44 = .ok (.aload_n 0, 1) := by decide +kernel
theorem dpc3_1_45 : decode jdk_52_method_4_code 45 = .ok (.iload_n 1, 1) := by decide +kernel
theorem dpc3_1_46 : decode jdk_52_method_4_code 46 = .ok (.iload_n 2, 1) := by decide +kernel
theorem dpc3_1_47 : decode jdk_52_method_4_code 47 = .ok (.getstatic 63, 3) := by decide +kernel
theorem dpc3_1_50 : decode jdk_52_method_4_code 50 = .ok (.ishr, 1) := by decide +kernel
theorem dpc3_1_51 : decode jdk_52_method_4_code 51 = .ok (.i2b, 1) := by decide +kernel
theorem dpc3_1_52 : decode jdk_52_method_4_code 52 = .ok (.bastore, 1) := by decide +kernel
theorem dpc3_1_53 : decode jdk_52_method_4_code 53 = .ok (.return_, 1) := by decide +kernel
theorem pn_pc3_1 : plainName "java/lang/StringUTF16" = true := by first | (simp [plainName, overriddenIn]; done) | decide +kernel
theorem ef_pc3_1 (m : MethodId) (x0 : Addr) (x1 : Int32) (x2 : Int32) : entryFrame m #[(.ref x0), (.int x1), (.int x2)] 3 = mkF m 0 #[.val (.ref x0), .val (.int x1), .val (.int x2)] [] := by first | (simp [entryFrame, mkF, argsToLocals, Value.category]; done) | rfl
def Qpc3_1 (Z : State) (a1 : Addr) (k1 : ClassId) (cc : Int32) (e0_ : Int32) (e1_ : Int32) (e2_ : Int32) (e3_ : Int32) (e4_ : Int32) (e5_ : Int32) (h0 : Heap) (n0 : Nat) (v : Option Value) (h : Heap) (L : List Loc) : Prop := v = none ∧ Fr n0 L ∧ Keep h0 h [a1] ∧ Arv Z h a1 k1 .byte (6 : Int32) [.int e0_, .int e1_, .int ((cc >>> ((0 : Int32) &&& 31)).toInt8.toInt32), .int ((cc >>> ((8 : Int32) &&& 31)).toInt8.toInt32), .int e4_, .int e5_] (.int 0)
set_option maxRecDepth 65536 in
set_option maxHeartbeats 40000000 in
theorem rmpc3_1 (l : Launch) (Z : State) (a0 : Array Value) (hw : ∀ d ∈ tables_1, d.before a0 Z = true) (ws : List Jvm.Cond) (a1 : Addr) (k1 : ClassId) (cc : Int32) (e0_ : Int32) (e1_ : Int32) (e2_ : Int32) (e3_ : Int32) (e4_ : Int32) (e5_ : Int32) (h0 : Heap) (n0 : Nat) (Z0 : n0 ≤ h0.size) (F0 : Old Z n0 h0) (F1 : Arv Z h0 a1 k1 .byte (6 : Int32) [.int e0_, .int e1_, .int e2_, .int e3_, .int e4_, .int e5_] (.int 0)) (ge_a1 : n0 ≤ a1) (SH : Sta Z Z.heap "java/lang/StringUTF16" "HI_BYTE_SHIFT" "I" (.int (0 : Int32))) (SL : Sta Z Z.heap "java/lang/StringUTF16" "LO_BYTE_SHIFT" "I" (.int (8 : Int32))) (SA : Sta Z Z.heap "java/lang/StringUTF16" "$assertionsDisabled" "Z" (.int (1 : Int32))) :
    MetFree l (⟨"java/lang/StringUTF16", "putChar", "([BII)V"⟩ : MethodName) (head1 (Jvm.Cond.code (⟨"java/lang/StringUTF16", "putChar", "([BII)V"⟩ : MethodName) jdk_52_method_4_code 3 none :: ws) ({ frames := 0, cells := 0, slots := 0, locals := 0 } : Room)) (fun a U => a = #[(.ref a1), (.int (1 : Int32)), (.int cc)] ∧ Z.Warmed39 U.vm ∧ U.heap = h0) (fun _ _ _ _ _ => True) (fun _ U o U' => ∃ v L, o = .returned v ∧ Qpc3_1 Z a1 k1 cc e0_ e1_ e2_ e3_ e4_ e5_ h0 n0 v U'.heap L ∧ FrameEnd U o U' L ({ frames := 0, cells := 0, slots := 0, locals := 0 } : Room).cells ({ frames := 0, cells := 0, slots := 0, locals := 0 } : Room).slots) := by
  refine MetFree.of_bodySF (plainFor_of_name pn_pc3_1) hisR ?_
  intro p e s m args below meth c s₁ Bd hml0 hP hK
  obtain ⟨rfl, hZ, hh⟩ := hP
  have hx := Bd.exec
  have hby := Bd.bytes
  have hml : c.maxLocals = 3 := hml0
  have hown : s.vm.findClass "java/lang/StringUTF16" = some m.cls := findClass_of_methodNamed Bd.named
  have hnm := (name_of_methodNamed Bd.named Bd.method).1
  have X0 : Stand p l e ({ frames := 0, cells := 0, slots := 0, locals := 0 } : Room) s m #[(.ref a1), (.int (1 : Int32)), (.int cc)] below meth c s₁ [] 0 0 := Stand.of_body Bd
  have e0 : s₁.heap = h0 := by rw [← hh, Bd.state]; rfl
  have N0 := Fr.nil n0
  show own_R p.tables e below (own_P s (Qpc3_1 Z a1 k1 cc e0_ e1_ e2_ e3_ e4_ e5_ h0 n0) ({ frames := 0, cells := 0, slots := 0, locals := 0 } : Room).cells ({ frames := 0, cells := 0, slots := 0, locals := 0 } : Room).slots) (s₁.setTop (entryFrame m #[(.ref a1), (.int (1 : Int32)), (.int cc)] 3))
  refine own_f s₁ (mkF m 0 #[.val (.ref a1), .val (.int (1 : Int32)), .val (.int cc)] []) (fun t k => castTop (ef_pc3_1 m a1 (1 : Int32) cc) k) ?_
  have S1 : Sta Z h0 "java/lang/StringUTF16" "$assertionsDisabled" "Z" (.int (1 : Int32)) := SA.ext F0.2
  obtain ⟨T1, X1, e1, st1⟩ := getS X0 hx hZ (host := "") hown (own_w hw 86 rfl) Via.refl e0 S1 (g := (mkF m 0 #[.val (.ref a1), .val (.int (1 : Int32)), .val (.int cc)] [])) rfl (hb hby dpc3_1_0)
  refine own_f T1 (mkF m 3 #[.val (.ref a1), .val (.int (1 : Int32)), .val (.int cc)] [(.int (1 : Int32))]) st1 ?_
  refine own_f T1 (mkF m 28 #[.val (.ref a1), .val (.int (1 : Int32)), .val (.int cc)] []) (fun t k => XS.ifYes X1.here hx rfl (pc0 := 3) (pc' := 28) rfl (hb hby dpc3_1_3) rfl (XT.i0_ne_t (by decide)) (by decide) (by decide) k) ?_
  refine own_step (fun t k => XS.iloadN X1.here hx rfl (hb hby dpc3_1_28) rfl k) ?_
  refine own_step (fun t k => XT.iconstV X1.here hx rfl (1 : Int32) (hb hby dpc3_1_29) (by decide) k) ?_
  refine own_f T1 (mkF m 31 #[.val (.ref a1), .val (.int (1 : Int32)), .val (.int cc)] [(.int ((1 : Int32) <<< ((1 : Int32) &&& 31)))]) (fun t k => XS.ishl X1.here hx rfl (hb hby dpc3_1_30) rfl k) ?_
  rw [show ((1 : Int32) <<< ((1 : Int32) &&& 31)) = (2 : Int32) from by decide]
  refine own_f T1 (mkF m 32 #[.val (.ref a1), .val (.int (2 : Int32)), .val (.int cc)] []) (fun t k => XS.istoreN X1.here hx rfl (hb hby dpc3_1_31) rfl (l' := #[.val (.ref a1), .val (.int (2 : Int32)), .val (.int cc)]) rfl k) ?_
  refine own_step (fun t k => XS.aloadN X1.here hx rfl (hb hby dpc3_1_32) rfl rfl k) ?_
  refine own_f T1 (mkF m 34 #[.val (.ref a1), .val (.int (2 : Int32)), .val (.int cc)] [(.int (2 : Int32)), (.ref a1)]) (fun t k => XS.iloadN X1.here hx rfl (hb hby dpc3_1_33) rfl k) ?_
  refine own_f T1 (mkF m 37 #[.val (.ref a1), .val (.int ((2 : Int32) + (1 : Int32))), .val (.int cc)] [(.int (2 : Int32)), (.ref a1)]) (fun t k => XT.iincV X1.here hx rfl (l' := #[.val (.ref a1), .val (.int ((2 : Int32) + (1 : Int32))), .val (.int cc)]) (1 : Int32) (hb hby dpc3_1_34) (by decide) rfl rfl k) ?_
  rw [show ((2 : Int32) + (1 : Int32)) = (3 : Int32) from by decide]
  refine own_f T1 (mkF m 38 #[.val (.ref a1), .val (.int (3 : Int32)), .val (.int cc)] [(.int cc), (.int (2 : Int32)), (.ref a1)]) (fun t k => XS.iloadN X1.here hx rfl (hb hby dpc3_1_37) rfl k) ?_
  have S2 : Sta Z h0 "java/lang/StringUTF16" "HI_BYTE_SHIFT" "I" (.int (0 : Int32)) := SH.ext F0.2
  obtain ⟨T2, X2, e2, st2⟩ := getS X1 hx hZ (host := "") hown (own_w hw 87 rfl) Via.refl e1 S2 (g := (mkF m 38 #[.val (.ref a1), .val (.int (3 : Int32)), .val (.int cc)] [(.int cc), (.int (2 : Int32)), (.ref a1)])) rfl (hb hby dpc3_1_38)
  refine own_f T2 (mkF m 41 #[.val (.ref a1), .val (.int (3 : Int32)), .val (.int cc)] [(.int (0 : Int32)), (.int cc), (.int (2 : Int32)), (.ref a1)]) st2 ?_
  refine own_f T2 (mkF m 42 #[.val (.ref a1), .val (.int (3 : Int32)), .val (.int cc)] [(.int (cc >>> ((0 : Int32) &&& 31))), (.int (2 : Int32)), (.ref a1)]) (fun t k => XS.ishr X2.here hx rfl (hb hby dpc3_1_41) rfl k) ?_
  refine own_f T2 (mkF m 43 #[.val (.ref a1), .val (.int (3 : Int32)), .val (.int cc)] [(.int ((cc >>> ((0 : Int32) &&& 31)).toInt8.toInt32)), (.int (2 : Int32)), (.ref a1)]) (fun t k => XS.i2b X2.here hx rfl (hb hby dpc3_1_42) rfl k) ?_
  obtain ⟨cl3, Ar3, q13, Sz3, q33, Hs3, Gs3⟩ := id F1
  obtain ⟨T3, h3, X3, e3, W3, st3⟩ := stB X2 hx hZ e2 Ar3 (j := (2 : Int32)) (inb_of Sz3 ⟨by decide, by decide⟩) (g := (mkF m 43 #[.val (.ref a1), .val (.int (3 : Int32)), .val (.int cc)] [(.int ((cc >>> ((0 : Int32) &&& 31)).toInt8.toInt32)), (.int (2 : Int32)), (.ref a1)])) rfl rfl (hb hby dpc3_1_43)
  have N3 := Fr.snoc X3 N0 ge_a1
  have Zs3 : n0 ≤ h3.size := by rw [W3.size]; exact Z0
  have K3 : Keep h0 h3 [a1] := (Keep.refl h0 [a1]).wr W3 (Or.inl (by simp))
  have F_4 := F0.wr W3 ge_a1
  have F_5 : Arv Z h3 a1 k1 .byte (6 : Int32) [.int e0_, .int e1_, .int ((cc >>> ((0 : Int32) &&& 31)).toInt8.toInt32), .int e3_, .int e4_, .int e5_] (.int 0) := Arv.set Ar3 q13 Sz3 q33 Hs3 Gs3 (by rw [← ((own_narB _) : nar .byte ((cc >>> ((0 : Int32) &&& 31)).toInt8.toInt32) = ((cc >>> ((0 : Int32) &&& 31)).toInt8.toInt32))]; exact own_fitB _) (by rw [((own_narB _) : nar .byte ((cc >>> ((0 : Int32) &&& 31)).toInt8.toInt32) = ((cc >>> ((0 : Int32) &&& 31)).toInt8.toInt32))] at W3; exact W3) 2 (by decide) (by simp)
  refine own_f T3 (mkF m 44 #[.val (.ref a1), .val (.int (3 : Int32)), .val (.int cc)] []) st3 ?_
  refine own_step (fun t k => XS.aloadN X3.here hx rfl (hb hby dpc3_1_44) rfl rfl k) ?_
  refine own_step (fun t k => XS.iloadN X3.here hx rfl (hb hby dpc3_1_45) rfl k) ?_
  refine own_f T3 (mkF m 47 #[.val (.ref a1), .val (.int (3 : Int32)), .val (.int cc)] [(.int cc), (.int (3 : Int32)), (.ref a1)]) (fun t k => XS.iloadN X3.here hx rfl (hb hby dpc3_1_46) rfl k) ?_
  have S6 : Sta Z h3 "java/lang/StringUTF16" "LO_BYTE_SHIFT" "I" (.int (8 : Int32)) := SL.ext F_4.2
  obtain ⟨T6, X6, e6, st6⟩ := getS X3 hx hZ (host := "") hown (own_w hw 88 rfl) Via.refl e3 S6 (g := (mkF m 47 #[.val (.ref a1), .val (.int (3 : Int32)), .val (.int cc)] [(.int cc), (.int (3 : Int32)), (.ref a1)])) rfl (hb hby dpc3_1_47)
  refine own_f T6 (mkF m 50 #[.val (.ref a1), .val (.int (3 : Int32)), .val (.int cc)] [(.int (8 : Int32)), (.int cc), (.int (3 : Int32)), (.ref a1)]) st6 ?_
  refine own_f T6 (mkF m 51 #[.val (.ref a1), .val (.int (3 : Int32)), .val (.int cc)] [(.int (cc >>> ((8 : Int32) &&& 31))), (.int (3 : Int32)), (.ref a1)]) (fun t k => XS.ishr X6.here hx rfl (hb hby dpc3_1_50) rfl k) ?_
  refine own_f T6 (mkF m 52 #[.val (.ref a1), .val (.int (3 : Int32)), .val (.int cc)] [(.int ((cc >>> ((8 : Int32) &&& 31)).toInt8.toInt32)), (.int (3 : Int32)), (.ref a1)]) (fun t k => XS.i2b X6.here hx rfl (hb hby dpc3_1_51) rfl k) ?_
  obtain ⟨cl7, Ar7, q17, Sz7, q37, Hs7, Gs7⟩ := id F_5
  obtain ⟨T7, h7, X7, e7, W7, st7⟩ := stB X6 hx hZ e6 Ar7 (j := (3 : Int32)) (inb_of Sz7 ⟨by decide, by decide⟩) (g := (mkF m 52 #[.val (.ref a1), .val (.int (3 : Int32)), .val (.int cc)] [(.int ((cc >>> ((8 : Int32) &&& 31)).toInt8.toInt32)), (.int (3 : Int32)), (.ref a1)])) rfl rfl (hb hby dpc3_1_52)
  have N7 := Fr.snoc X7 N3 ge_a1
  have Zs7 : n0 ≤ h7.size := by rw [W7.size]; exact Zs3
  have K7 : Keep h0 h7 [a1] := K3.wr W7 (Or.inl (by simp))
  have F_8 := F_4.wr W7 ge_a1
  have F_9 : Arv Z h7 a1 k1 .byte (6 : Int32) [.int e0_, .int e1_, .int ((cc >>> ((0 : Int32) &&& 31)).toInt8.toInt32), .int ((cc >>> ((8 : Int32) &&& 31)).toInt8.toInt32), .int e4_, .int e5_] (.int 0) := Arv.set Ar7 q17 Sz7 q37 Hs7 Gs7 (by rw [← ((own_narB _) : nar .byte ((cc >>> ((8 : Int32) &&& 31)).toInt8.toInt32) = ((cc >>> ((8 : Int32) &&& 31)).toInt8.toInt32))]; exact own_fitB _) (by rw [((own_narB _) : nar .byte ((cc >>> ((8 : Int32) &&& 31)).toInt8.toInt32) = ((cc >>> ((8 : Int32) &&& 31)).toInt8.toInt32))] at W7; exact W7) 3 (by decide) (by simp)
  refine own_f T7 (mkF m 53 #[.val (.ref a1), .val (.int (3 : Int32)), .val (.int cc)] []) st7 ?_
  obtain ⟨fs, hr, hrun, hended, hW, hsame⟩ := X7.leave (v := none) (fun _ => rfl)
  refine ⟨_, _, X7.returnOut hx Bd.returns (hb hby dpc3_1_53) hr, hrun, hended, _, _, rfl, ?_, ⟨_, rfl⟩, hW, hsame.mono (by decide) (by decide)⟩
  show Qpc3_1 Z a1 k1 cc e0_ e1_ e2_ e3_ e4_ e5_ h0 n0 _ T7.heap _
  rw [e7]
  exact ⟨rfl, N7, K7, F_9⟩
theorem dpc3_2_0 : decode jdk_52_method_4_code 0 = .ok (.getstatic 44, 3) := by decide +kernel
theorem dpc3_2_3 : decode jdk_52_method_4_code 3 = .ok (.ifCond .ne 25, 3) := by decide +kernel
theorem dpc3_2_28 : decode jdk_52_method_4_code 28 = .ok (.iload_n 1, 1) := by decide +kernel
theorem dpc3_2_29 : decode jdk_52_method_4_code 29 = .ok (.iconst 1, 1) := by decide +kernel
theorem dpc3_2_30 : decode jdk_52_method_4_code 30 = .ok (.ishl, 1) := by decide +kernel
theorem dpc3_2_31 : decode jdk_52_method_4_code 31 = .ok (.istore_n 1, 1) := by decide +kernel
theorem dpc3_2_32 : decode jdk_52_method_4_code 32 = .ok (.aload_n 0, 1) := by decide +kernel
theorem dpc3_2_33 : decode jdk_52_method_4_code 33 = .ok (.iload_n 1, 1) := by decide +kernel
theorem dpc3_2_34 : decode jdk_52_method_4_code 34 = .ok (.iinc 1 1, 3) := by decide +kernel
theorem dpc3_2_37 : decode jdk_52_method_4_code 37 = .ok (.iload_n 2, 1) := by decide +kernel
theorem dpc3_2_38 : decode jdk_52_method_4_code 38 = .ok (.getstatic 59, 3) := by decide +kernel
theorem dpc3_2_41 : decode jdk_52_method_4_code 41 = .ok (.ishr, 1) := by decide +kernel
theorem dpc3_2_42 : decode jdk_52_method_4_code 42 = .ok (.i2b, 1) := by decide +kernel
theorem dpc3_2_43 : decode jdk_52_method_4_code 43 = .ok (.bastore, 1) := by decide +kernel
theorem dpc3_2_44 : decode jdk_52_method_4_code 44 = .ok (.aload_n 0, 1) := by decide +kernel
theorem dpc3_2_45 : decode jdk_52_method_4_code 45 = .ok (.iload_n 1, 1) := by decide +kernel
theorem dpc3_2_46 : decode jdk_52_method_4_code 46 = .ok (.iload_n 2, 1) := by decide +kernel
theorem dpc3_2_47 : decode jdk_52_method_4_code 47 = .ok (.getstatic 63, 3) := by decide +kernel
theorem dpc3_2_50 : decode jdk_52_method_4_code 50 = .ok (.ishr, 1) := by decide +kernel
theorem dpc3_2_51 : decode jdk_52_method_4_code 51 = .ok (.i2b, 1) := by decide +kernel
theorem dpc3_2_52 : decode jdk_52_method_4_code 52 = .ok (.bastore, 1) := by decide +kernel
theorem dpc3_2_53 : decode jdk_52_method_4_code 53 = .ok (.return_, 1) := by decide +kernel
theorem pn_pc3_2 : plainName "java/lang/StringUTF16" = true := by first | (simp [plainName, overriddenIn]; done) | decide +kernel
theorem ef_pc3_2 (m : MethodId) (x0 : Addr) (x1 : Int32) (x2 : Int32) : entryFrame m #[(.ref x0), (.int x1), (.int x2)] 3 = mkF m 0 #[.val (.ref x0), .val (.int x1), .val (.int x2)] [] := by first | (simp [entryFrame, mkF, argsToLocals, Value.category]; done) | rfl
def Qpc3_2 (Z : State) (a1 : Addr) (k1 : ClassId) (cc : Int32) (e0_ : Int32) (e1_ : Int32) (e2_ : Int32) (e3_ : Int32) (e4_ : Int32) (e5_ : Int32) (h0 : Heap) (n0 : Nat) (v : Option Value) (h : Heap) (L : List Loc) : Prop := v = none ∧ Fr n0 L ∧ Keep h0 h [a1] ∧ Arv Z h a1 k1 .byte (6 : Int32) [.int e0_, .int e1_, .int e2_, .int e3_, .int ((cc >>> ((0 : Int32) &&& 31)).toInt8.toInt32), .int ((cc >>> ((8 : Int32) &&& 31)).toInt8.toInt32)] (.int 0)
set_option maxRecDepth 65536 in
set_option maxHeartbeats 40000000 in
theorem rmpc3_2 (l : Launch) (Z : State) (a0 : Array Value) (hw : ∀ d ∈ tables_1, d.before a0 Z = true) (ws : List Jvm.Cond) (a1 : Addr) (k1 : ClassId) (cc : Int32) (e0_ : Int32) (e1_ : Int32) (e2_ : Int32) (e3_ : Int32) (e4_ : Int32) (e5_ : Int32) (h0 : Heap) (n0 : Nat) (Z0 : n0 ≤ h0.size) (F0 : Old Z n0 h0) (F1 : Arv Z h0 a1 k1 .byte (6 : Int32) [.int e0_, .int e1_, .int e2_, .int e3_, .int e4_, .int e5_] (.int 0)) (ge_a1 : n0 ≤ a1) (SH : Sta Z Z.heap "java/lang/StringUTF16" "HI_BYTE_SHIFT" "I" (.int (0 : Int32))) (SL : Sta Z Z.heap "java/lang/StringUTF16" "LO_BYTE_SHIFT" "I" (.int (8 : Int32))) (SA : Sta Z Z.heap "java/lang/StringUTF16" "$assertionsDisabled" "Z" (.int (1 : Int32))) :
    MetFree l (⟨"java/lang/StringUTF16", "putChar", "([BII)V"⟩ : MethodName) (head1 (Jvm.Cond.code (⟨"java/lang/StringUTF16", "putChar", "([BII)V"⟩ : MethodName) jdk_52_method_4_code 3 none :: ws) ({ frames := 0, cells := 0, slots := 0, locals := 0 } : Room)) (fun a U => a = #[(.ref a1), (.int (2 : Int32)), (.int cc)] ∧ Z.Warmed39 U.vm ∧ U.heap = h0) (fun _ _ _ _ _ => True) (fun _ U o U' => ∃ v L, o = .returned v ∧ Qpc3_2 Z a1 k1 cc e0_ e1_ e2_ e3_ e4_ e5_ h0 n0 v U'.heap L ∧ FrameEnd U o U' L ({ frames := 0, cells := 0, slots := 0, locals := 0 } : Room).cells ({ frames := 0, cells := 0, slots := 0, locals := 0 } : Room).slots) := by
  refine MetFree.of_bodySF (plainFor_of_name pn_pc3_2) hisR ?_
  intro p e s m args below meth c s₁ Bd hml0 hP hK
  obtain ⟨rfl, hZ, hh⟩ := hP
  have hx := Bd.exec
  have hby := Bd.bytes
  have hml : c.maxLocals = 3 := hml0
  have hown : s.vm.findClass "java/lang/StringUTF16" = some m.cls := findClass_of_methodNamed Bd.named
  have hnm := (name_of_methodNamed Bd.named Bd.method).1
  have X0 : Stand p l e ({ frames := 0, cells := 0, slots := 0, locals := 0 } : Room) s m #[(.ref a1), (.int (2 : Int32)), (.int cc)] below meth c s₁ [] 0 0 := Stand.of_body Bd
  have e0 : s₁.heap = h0 := by rw [← hh, Bd.state]; rfl
  have N0 := Fr.nil n0
  show own_R p.tables e below (own_P s (Qpc3_2 Z a1 k1 cc e0_ e1_ e2_ e3_ e4_ e5_ h0 n0) ({ frames := 0, cells := 0, slots := 0, locals := 0 } : Room).cells ({ frames := 0, cells := 0, slots := 0, locals := 0 } : Room).slots) (s₁.setTop (entryFrame m #[(.ref a1), (.int (2 : Int32)), (.int cc)] 3))
  refine own_f s₁ (mkF m 0 #[.val (.ref a1), .val (.int (2 : Int32)), .val (.int cc)] []) (fun t k => castTop (ef_pc3_2 m a1 (2 : Int32) cc) k) ?_
  have S1 : Sta Z h0 "java/lang/StringUTF16" "$assertionsDisabled" "Z" (.int (1 : Int32)) := SA.ext F0.2
  obtain ⟨T1, X1, e1, st1⟩ := getS X0 hx hZ (host := "") hown (own_w hw 86 rfl) Via.refl e0 S1 (g := (mkF m 0 #[.val (.ref a1), .val (.int (2 : Int32)), .val (.int cc)] [])) rfl (hb hby dpc3_2_0)
  refine own_f T1 (mkF m 3 #[.val (.ref a1), .val (.int (2 : Int32)), .val (.int cc)] [(.int (1 : Int32))]) st1 ?_
  refine own_f T1 (mkF m 28 #[.val (.ref a1), .val (.int (2 : Int32)), .val (.int cc)] []) (fun t k => XS.ifYes X1.here hx rfl (pc0 := 3) (pc' := 28) rfl (hb hby dpc3_2_3) rfl (XT.i0_ne_t (by decide)) (by decide) (by decide) k) ?_
  refine own_step (fun t k => XS.iloadN X1.here hx rfl (hb hby dpc3_2_28) rfl k) ?_
  refine own_step (fun t k => XT.iconstV X1.here hx rfl (1 : Int32) (hb hby dpc3_2_29) (by decide) k) ?_
  refine own_f T1 (mkF m 31 #[.val (.ref a1), .val (.int (2 : Int32)), .val (.int cc)] [(.int ((2 : Int32) <<< ((1 : Int32) &&& 31)))]) (fun t k => XS.ishl X1.here hx rfl (hb hby dpc3_2_30) rfl k) ?_
  rw [show ((2 : Int32) <<< ((1 : Int32) &&& 31)) = (4 : Int32) from by decide]
  refine own_f T1 (mkF m 32 #[.val (.ref a1), .val (.int (4 : Int32)), .val (.int cc)] []) (fun t k => XS.istoreN X1.here hx rfl (hb hby dpc3_2_31) rfl (l' := #[.val (.ref a1), .val (.int (4 : Int32)), .val (.int cc)]) rfl k) ?_
  refine own_step (fun t k => XS.aloadN X1.here hx rfl (hb hby dpc3_2_32) rfl rfl k) ?_
  refine own_f T1 (mkF m 34 #[.val (.ref a1), .val (.int (4 : Int32)), .val (.int cc)] [(.int (4 : Int32)), (.ref a1)]) (fun t k => XS.iloadN X1.here hx rfl (hb hby dpc3_2_33) rfl k) ?_
  refine own_f T1 (mkF m 37 #[.val (.ref a1), .val (.int ((4 : Int32) + (1 : Int32))), .val (.int cc)] [(.int (4 : Int32)), (.ref a1)]) (fun t k => XT.iincV X1.here hx rfl (l' := #[.val (.ref a1), .val (.int ((4 : Int32) + (1 : Int32))), .val (.int cc)]) (1 : Int32) (hb hby dpc3_2_34) (by decide) rfl rfl k) ?_
  rw [show ((4 : Int32) + (1 : Int32)) = (5 : Int32) from by decide]
  refine own_f T1 (mkF m 38 #[.val (.ref a1), .val (.int (5 : Int32)), .val (.int cc)] [(.int cc), (.int (4 : Int32)), (.ref a1)]) (fun t k => XS.iloadN X1.here hx rfl (hb hby dpc3_2_37) rfl k) ?_
  have S2 : Sta Z h0 "java/lang/StringUTF16" "HI_BYTE_SHIFT" "I" (.int (0 : Int32)) := SH.ext F0.2
  obtain ⟨T2, X2, e2, st2⟩ := getS X1 hx hZ (host := "") hown (own_w hw 87 rfl) Via.refl e1 S2 (g := (mkF m 38 #[.val (.ref a1), .val (.int (5 : Int32)), .val (.int cc)] [(.int cc), (.int (4 : Int32)), (.ref a1)])) rfl (hb hby dpc3_2_38)
  refine own_f T2 (mkF m 41 #[.val (.ref a1), .val (.int (5 : Int32)), .val (.int cc)] [(.int (0 : Int32)), (.int cc), (.int (4 : Int32)), (.ref a1)]) st2 ?_
  refine own_f T2 (mkF m 42 #[.val (.ref a1), .val (.int (5 : Int32)), .val (.int cc)] [(.int (cc >>> ((0 : Int32) &&& 31))), (.int (4 : Int32)), (.ref a1)]) (fun t k => XS.ishr X2.here hx rfl (hb hby dpc3_2_41) rfl k) ?_
  refine own_f T2 (mkF m 43 #[.val (.ref a1), .val (.int (5 : Int32)), .val (.int cc)] [(.int ((cc >>> ((0 : Int32) &&& 31)).toInt8.toInt32)), (.int (4 : Int32)), (.ref a1)]) (fun t k => XS.i2b X2.here hx rfl (hb hby dpc3_2_42) rfl k) ?_
  obtain ⟨cl3, Ar3, q13, Sz3, q33, Hs3, Gs3⟩ := id F1
  obtain ⟨T3, h3, X3, e3, W3, st3⟩ := stB X2 hx hZ e2 Ar3 (j := (4 : Int32)) (inb_of Sz3 ⟨by decide, by decide⟩) (g := (mkF m 43 #[.val (.ref a1), .val (.int (5 : Int32)), .val (.int cc)] [(.int ((cc >>> ((0 : Int32) &&& 31)).toInt8.toInt32)), (.int (4 : Int32)), (.ref a1)])) rfl rfl (hb hby dpc3_2_43)
  have N3 := Fr.snoc X3 N0 ge_a1
  have Zs3 : n0 ≤ h3.size := by rw [W3.size]; exact Z0
  have K3 : Keep h0 h3 [a1] := (Keep.refl h0 [a1]).wr W3 (Or.inl (by simp))
  have F_4 := F0.wr W3 ge_a1
  have F_5 : Arv Z h3 a1 k1 .byte (6 : Int32) [.int e0_, .int e1_, .int e2_, .int e3_, .int ((cc >>> ((0 : Int32) &&& 31)).toInt8.toInt32), .int e5_] (.int 0) := Arv.set Ar3 q13 Sz3 q33 Hs3 Gs3 (by rw [← ((own_narB _) : nar .byte ((cc >>> ((0 : Int32) &&& 31)).toInt8.toInt32) = ((cc >>> ((0 : Int32) &&& 31)).toInt8.toInt32))]; exact own_fitB _) (by rw [((own_narB _) : nar .byte ((cc >>> ((0 : Int32) &&& 31)).toInt8.toInt32) = ((cc >>> ((0 : Int32) &&& 31)).toInt8.toInt32))] at W3; exact W3) 4 (by decide) (by simp)
  refine own_f T3 (mkF m 44 #[.val (.ref a1), .val (.int (5 : Int32)), .val (.int cc)] []) st3 ?_
  refine own_step (fun t k => XS.aloadN X3.here hx rfl (hb hby dpc3_2_44) rfl rfl k) ?_
  refine own_step (fun t k => XS.iloadN X3.here hx rfl (hb hby dpc3_2_45) rfl k) ?_
  refine own_f T3 (mkF m 47 #[.val (.ref a1), .val (.int (5 : Int32)), .val (.int cc)] [(.int cc), (.int (5 : Int32)), (.ref a1)]) (fun t k => XS.iloadN X3.here hx rfl (hb hby dpc3_2_46) rfl k) ?_
  have S6 : Sta Z h3 "java/lang/StringUTF16" "LO_BYTE_SHIFT" "I" (.int (8 : Int32)) := SL.ext F_4.2
  obtain ⟨T6, X6, e6, st6⟩ := getS X3 hx hZ (host := "") hown (own_w hw 88 rfl) Via.refl e3 S6 (g := (mkF m 47 #[.val (.ref a1), .val (.int (5 : Int32)), .val (.int cc)] [(.int cc), (.int (5 : Int32)), (.ref a1)])) rfl (hb hby dpc3_2_47)
  refine own_f T6 (mkF m 50 #[.val (.ref a1), .val (.int (5 : Int32)), .val (.int cc)] [(.int (8 : Int32)), (.int cc), (.int (5 : Int32)), (.ref a1)]) st6 ?_
  refine own_f T6 (mkF m 51 #[.val (.ref a1), .val (.int (5 : Int32)), .val (.int cc)] [(.int (cc >>> ((8 : Int32) &&& 31))), (.int (5 : Int32)), (.ref a1)]) (fun t k => XS.ishr X6.here hx rfl (hb hby dpc3_2_50) rfl k) ?_
  refine own_f T6 (mkF m 52 #[.val (.ref a1), .val (.int (5 : Int32)), .val (.int cc)] [(.int ((cc >>> ((8 : Int32) &&& 31)).toInt8.toInt32)), (.int (5 : Int32)), (.ref a1)]) (fun t k => XS.i2b X6.here hx rfl (hb hby dpc3_2_51) rfl k) ?_
  obtain ⟨cl7, Ar7, q17, Sz7, q37, Hs7, Gs7⟩ := id F_5
  obtain ⟨T7, h7, X7, e7, W7, st7⟩ := stB X6 hx hZ e6 Ar7 (j := (5 : Int32)) (inb_of Sz7 ⟨by decide, by decide⟩) (g := (mkF m 52 #[.val (.ref a1), .val (.int (5 : Int32)), .val (.int cc)] [(.int ((cc >>> ((8 : Int32) &&& 31)).toInt8.toInt32)), (.int (5 : Int32)), (.ref a1)])) rfl rfl (hb hby dpc3_2_52)
  have N7 := Fr.snoc X7 N3 ge_a1
  have Zs7 : n0 ≤ h7.size := by rw [W7.size]; exact Zs3
  have K7 : Keep h0 h7 [a1] := K3.wr W7 (Or.inl (by simp))
  have F_8 := F_4.wr W7 ge_a1
  have F_9 : Arv Z h7 a1 k1 .byte (6 : Int32) [.int e0_, .int e1_, .int e2_, .int e3_, .int ((cc >>> ((0 : Int32) &&& 31)).toInt8.toInt32), .int ((cc >>> ((8 : Int32) &&& 31)).toInt8.toInt32)] (.int 0) := Arv.set Ar7 q17 Sz7 q37 Hs7 Gs7 (by rw [← ((own_narB _) : nar .byte ((cc >>> ((8 : Int32) &&& 31)).toInt8.toInt32) = ((cc >>> ((8 : Int32) &&& 31)).toInt8.toInt32))]; exact own_fitB _) (by rw [((own_narB _) : nar .byte ((cc >>> ((8 : Int32) &&& 31)).toInt8.toInt32) = ((cc >>> ((8 : Int32) &&& 31)).toInt8.toInt32))] at W7; exact W7) 5 (by decide) (by simp)
  refine own_f T7 (mkF m 53 #[.val (.ref a1), .val (.int (5 : Int32)), .val (.int cc)] []) st7 ?_
  obtain ⟨fs, hr, hrun, hended, hW, hsame⟩ := X7.leave (v := none) (fun _ => rfl)
  refine ⟨_, _, X7.returnOut hx Bd.returns (hb hby dpc3_2_53) hr, hrun, hended, _, _, rfl, ?_, ⟨_, rfl⟩, hW, hsame.mono (by decide) (by decide)⟩
  show Qpc3_2 Z a1 k1 cc e0_ e1_ e2_ e3_ e4_ e5_ h0 n0 _ T7.heap _
  rw [e7]
  exact ⟨rfl, N7, K7, F_9⟩
theorem dtb3_0 : decode jdk_52_method_14_code 0 = .ok (.iload_n 2, 1) := by decide +kernel
theorem dtb3_1 : decode jdk_52_method_14_code 1 = .ok (.invokestatic 107, 3) := by decide +kernel
theorem dtb3_4 : decode jdk_52_method_14_code 4 = .ok (.astore_n 3, 1) := by decide +kernel
theorem dtb3_5 : decode jdk_52_method_14_code 5 = .ok (.iconst 0, 1) := by decide +kernel
theorem dtb3_6 : decode jdk_52_method_14_code 6 = .ok (.istore 4, 2) := by decide +kernel
theorem dtb3_8 : decode jdk_52_method_14_code 8 = .ok (.iload 4, 2) := by decide +kernel
theorem dtb3_10 : decode jdk_52_method_14_code 10 = .ok (.iload_n 2, 1) := by decide +kernel
theorem dtb3_11 : decode jdk_52_method_14_code 11 = .ok (.if_icmp .ge 21, 3) := by decide +kernel
theorem dtb3_14 : decode jdk_52_method_14_code 14 = .ok (.aload_n 3, 1) := by decide +kernel
theorem dtb3_15 : decode jdk_52_method_14_code 15 = .ok (.iload 4, 2) := by decide +kernel
theorem dtb3_17 : decode jdk_52_method_14_code 17 = .ok (.aload_n 0, 1) := by decide +kernel
theorem dtb3_18 : decode jdk_52_method_14_code 18 = .ok (.iload_n 1, 1) := by decide +kernel
theorem dtb3_19 : decode jdk_52_method_14_code 19 = .ok (.caload, 1) := by decide +kernel
theorem dtb3_20 : decode jdk_52_method_14_code 20 = .ok (.invokestatic 111, 3) := by decide +kernel
theorem dtb3_23 : decode jdk_52_method_14_code 23 = .ok (.iinc 1 1, 3) := by decide +kernel
theorem dtb3_26 : decode jdk_52_method_14_code 26 = .ok (.iinc 4 1, 3) := by decide +kernel
theorem dtb3_29 : decode jdk_52_method_14_code 29 = .ok (.goto (-21), 3) := by decide +kernel
theorem dtb3_32 : decode jdk_52_method_14_code 32 = .ok (.aload_n 3, 1) := by decide +kernel
theorem dtb3_33 : decode jdk_52_method_14_code 33 = .ok (.areturn, 1) := by decide +kernel
theorem pn_tb3 : plainName "java/lang/StringUTF16" = true := by first | (simp [plainName, overriddenIn]; done) | decide +kernel
theorem ef_tb3 (m : MethodId) (x0 : Addr) (x1 : Int32) (x2 : Int32) : entryFrame m #[(.ref x0), (.int x1), (.int x2)] 5 = mkF m 0 #[.val (.ref x0), .val (.int x1), .val (.int x2), .unset, .unset] [] := by first | (simp [entryFrame, mkF, argsToLocals, Value.category]; done) | rfl
def Qtb3 (Z : State) (a1 : Addr) (k1 : ClassId) (c0 : Int32) (c1 : Int32) (c2 : Int32) (h0 : Heap) (n0 : Nat) (v : Option Value) (h : Heap) (L : List Loc) : Prop := ∃ (b : Addr) (kb : ClassId), v = some (.ref b) ∧ Fr n0 L ∧ Keep h0 h [] ∧ Arv Z h b kb .byte (6 : Int32) [.int ((c0 >>> ((0 : Int32) &&& 31)).toInt8.toInt32), .int ((c0 >>> ((8 : Int32) &&& 31)).toInt8.toInt32), .int ((c1 >>> ((0 : Int32) &&& 31)).toInt8.toInt32), .int ((c1 >>> ((8 : Int32) &&& 31)).toInt8.toInt32), .int ((c2 >>> ((0 : Int32) &&& 31)).toInt8.toInt32), .int ((c2 >>> ((8 : Int32) &&& 31)).toInt8.toInt32)] (.int 0) ∧ h0.size ≤ b
set_option maxRecDepth 65536 in
set_option maxHeartbeats 40000000 in
theorem rmtb3 (l : Launch) (Z : State) (a0 : Array Value) (hw : ∀ d ∈ tables_1, d.before a0 Z = true) (ws : List Jvm.Cond) (a1 : Addr) (k1 : ClassId) (c0 : Int32) (c1 : Int32) (c2 : Int32) (h0 : Heap) (n0 : Nat) (Z0 : n0 ≤ h0.size) (F0 : Old Z n0 h0) (F1 : Arv Z h0 a1 k1 .char (3 : Int32) [.int c0, .int c1, .int c2] (.int 0)) (SH : Sta Z Z.heap "java/lang/StringUTF16" "HI_BYTE_SHIFT" "I" (.int (0 : Int32))) (SL : Sta Z Z.heap "java/lang/StringUTF16" "LO_BYTE_SHIFT" "I" (.int (8 : Int32))) (SA : Sta Z Z.heap "java/lang/StringUTF16" "$assertionsDisabled" "Z" (.int (1 : Int32))) :
    MetFree l (⟨"java/lang/StringUTF16", "toBytes", "([CII)[B"⟩ : MethodName) (head1 (Jvm.Cond.code (⟨"java/lang/StringUTF16", "toBytes", "([CII)[B"⟩ : MethodName) jdk_52_method_14_code 5 (some (.array .byte)) :: ws) ({ frames := 2, cells := 1, slots := 6, locals := 24 } : Room)) (fun a U => a = #[(.ref a1), (.int (0 : Int32)), (.int (3 : Int32))] ∧ Z.Warmed39 U.vm ∧ U.heap = h0) (fun _ _ _ _ _ => True) (fun _ U o U' => ∃ v L, o = .returned v ∧ Qtb3 Z a1 k1 c0 c1 c2 h0 n0 v U'.heap L ∧ FrameEnd U o U' L ({ frames := 2, cells := 1, slots := 6, locals := 24 } : Room).cells ({ frames := 2, cells := 1, slots := 6, locals := 24 } : Room).slots) := by
  refine MetFree.of_bodySF (plainFor_of_name pn_tb3) hisR ?_
  intro p e s m args below meth c s₁ Bd hml0 hP hK
  obtain ⟨rfl, hZ, hh⟩ := hP
  have hx := Bd.exec
  have hby := Bd.bytes
  have hml : c.maxLocals = 5 := hml0
  have hown : s.vm.findClass "java/lang/StringUTF16" = some m.cls := findClass_of_methodNamed Bd.named
  have hnm := (name_of_methodNamed Bd.named Bd.method).1
  have X0 : Stand p l e ({ frames := 2, cells := 1, slots := 6, locals := 24 } : Room) s m #[(.ref a1), (.int (0 : Int32)), (.int (3 : Int32))] below meth c s₁ [] 0 0 := Stand.of_body Bd
  have e0 : s₁.heap = h0 := by rw [← hh, Bd.state]; rfl
  have N0 := Fr.nil n0
  show own_R p.tables e below (own_P s (Qtb3 Z a1 k1 c0 c1 c2 h0 n0) ({ frames := 2, cells := 1, slots := 6, locals := 24 } : Room).cells ({ frames := 2, cells := 1, slots := 6, locals := 24 } : Room).slots) (s₁.setTop (entryFrame m #[(.ref a1), (.int (0 : Int32)), (.int (3 : Int32))] 5))
  refine own_f s₁ (mkF m 0 #[.val (.ref a1), .val (.int (0 : Int32)), .val (.int (3 : Int32)), .unset, .unset] []) (fun t k => castTop (ef_tb3 m a1 (0 : Int32) (3 : Int32)) k) ?_
  refine own_f s₁ (mkF m 1 #[.val (.ref a1), .val (.int (0 : Int32)), .val (.int (3 : Int32)), .unset, .unset] [(.int (3 : Int32))]) (fun t k => XS.iloadN X0.here hx rfl (hb hby dtb3_0) rfl k) ?_
  obtain ⟨_, _, ⟨T1, Lq1, kq_1, nq_1⟩, -, X1, ⟨Lc1, hQ1, lq1, yq1, zq1⟩, st1⟩ := Jvm.LawKit.callS X0 hx (y := (⟨"java/lang/StringUTF16", "newBytesFor", "(I)[B"⟩ : MethodName)) hown (mvT hZ (own_w hw 76 rfl)) (mvT hZ (own_w hw 77 rfl)) (mvT hZ (own_w hw 19 rfl)) (mvT hZ (own_w hw 78 rfl)) (by decide) (backOf (W := 0) (rmnf3 l Z a0 hw []  h0 n0 Z0 ) hZ (own_w hw 78 rfl) (own_w hw 19 rfl) (by decide) (by decide)) (g := (mkF m 1 #[.val (.ref a1), .val (.int (0 : Int32)), .val (.int (3 : Int32)), .unset, .unset] [(.int (3 : Int32))])) rfl (by rw [hml]; rfl) (argsL := [(.int (3 : Int32))]) (rest := []) (lenOf pd__I_B rfl) rfl (by show 2 * 0 + _ ≤ _; exact Nat.le_of_eq rfl) (hb hby dtb3_1) (fun _ _ => ⟨rfl, e0, (by decide : 0 + 1 ≤ _), (by decide : 0 + 6 ≤ _)⟩)
  dsimp only [Pt.U, Pt.locs, Pt.cells, Pt.slots] at X1 lq1 yq1 zq1 st1 hQ1
  subst lq1 yq1 zq1
  obtain ⟨h1, e1⟩ : ∃ z, T1.heap = z := ⟨_, rfl⟩
  rw [e1] at hQ1
  unfold Qnf3 at hQ1
  obtain ⟨b1, kb1, rfl, Nq1, qh1, G1_0, H1_0⟩ := hQ1
  have N1 := Fr.app N0 Nq1
  have Zs1 : n0 ≤ h1.size := Nat.le_trans Z0 qh1.1
  have F_2 := F0.keep qh1 all0
  have F_3 := F1.keep qh1 nin0
  have K1 : Keep h0 h1 [] := (Keep.refl h0 []).trans qh1 all0
  have ne1_a1 : a1 ≠ b1 := Nat.ne_of_lt (Nat.lt_of_lt_of_le F1.lt H1_0)
  have ge1 : n0 ≤ b1 := Nat.le_trans Z0 H1_0
  have gf1 : h0.size ≤ b1 := Nat.le_trans (Keep.refl h0 []).1 H1_0
  refine own_f T1 (mkF m 4 #[.val (.ref a1), .val (.int (0 : Int32)), .val (.int (3 : Int32)), .unset, .unset] [(.ref b1)]) st1 ?_
  refine own_f T1 (mkF m 5 #[.val (.ref a1), .val (.int (0 : Int32)), .val (.int (3 : Int32)), .val (.ref b1), .unset] []) (fun t k => XS.astoreN X1.here hx rfl (hb hby dtb3_4) rfl rfl (l' := #[.val (.ref a1), .val (.int (0 : Int32)), .val (.int (3 : Int32)), .val (.ref b1), .unset]) rfl k) ?_
  refine own_step (fun t k => XT.iconstV X1.here hx rfl (0 : Int32) (hb hby dtb3_5) (by decide) k) ?_
  refine own_f T1 (mkF m 8 #[.val (.ref a1), .val (.int (0 : Int32)), .val (.int (3 : Int32)), .val (.ref b1), .val (.int (0 : Int32))] []) (fun t k => XS.istore X1.here hx rfl (hb hby dtb3_6) rfl (l' := #[.val (.ref a1), .val (.int (0 : Int32)), .val (.int (3 : Int32)), .val (.ref b1), .val (.int (0 : Int32))]) rfl k) ?_
  refine own_step (fun t k => XS.iload X1.here hx rfl (hb hby dtb3_8) rfl k) ?_
  refine own_step (fun t k => XS.iloadN X1.here hx rfl (hb hby dtb3_10) rfl k) ?_
  refine own_f T1 (mkF m 14 #[.val (.ref a1), .val (.int (0 : Int32)), .val (.int (3 : Int32)), .val (.ref b1), .val (.int (0 : Int32))] []) (fun t k => XS.icmpNo X1.here hx rfl (hb hby dtb3_11) rfl (XT.ii_ge_f (by decide)) k) ?_
  refine own_step (fun t k => XS.aloadN X1.here hx rfl (hb hby dtb3_14) rfl rfl k) ?_
  refine own_step (fun t k => XS.iload X1.here hx rfl (hb hby dtb3_15) rfl k) ?_
  refine own_step (fun t k => XS.aloadN X1.here hx rfl (hb hby dtb3_17) rfl rfl k) ?_
  refine own_f T1 (mkF m 19 #[.val (.ref a1), .val (.int (0 : Int32)), .val (.int (3 : Int32)), .val (.ref b1), .val (.int (0 : Int32))] [(.int (0 : Int32)), (.ref a1), (.int (0 : Int32)), (.ref b1)]) (fun t k => XS.iloadN X1.here hx rfl (hb hby dtb3_18) rfl k) ?_
  obtain ⟨cl4, Ar4, q14, Sz4, q34, Hs4, Gs4⟩ := id F_3
  have hi4 := inb_of (j := (0 : Int32)) Sz4 ⟨by decide, by decide⟩
  refine own_f T1 (mkF m 20 #[.val (.ref a1), .val (.int (0 : Int32)), .val (.int (3 : Int32)), .val (.ref b1), .val (.int (0 : Int32))] [(.int c0), (.int (0 : Int32)), (.ref b1)]) (fun t k => X1.caload hx (j := (0 : Int32)) (v := (.int c0)) (by rw [e1]; exact Ar4.1) (State.isArrayOf_alike hZ.alike Ar4.2.1) Ar4.2.2 hi4 (Has.at Hs4 hi4 rfl) (g := (mkF m 19 #[.val (.ref a1), .val (.int (0 : Int32)), .val (.int (3 : Int32)), .val (.ref b1), .val (.int (0 : Int32))] [(.int (0 : Int32)), (.ref a1), (.int (0 : Int32)), (.ref b1)])) rfl rfl (hb hby dtb3_19) t k) ?_
  obtain ⟨_, _, ⟨T5, Lq5, kq_5, nq_5⟩, -, X5, ⟨Lc5, hQ5, lq5, yq5, zq5⟩, st5⟩ := Jvm.LawKit.callS X1 hx (y := (⟨"java/lang/StringUTF16", "putChar", "([BII)V"⟩ : MethodName)) hown (mvT hZ (own_w hw 83 rfl)) (mvT hZ (own_w hw 84 rfl)) (mvT hZ (own_w hw 19 rfl)) (mvT hZ (own_w hw 85 rfl)) (by decide) (backOf (W := 0) (rmpc3_0 l Z a0 hw [] b1 _ c0 _ _ _ _ _ _ h1 n0 Zs1 F_2 G1_0 ge1 SH SL SA) hZ (own_w hw 85 rfl) (own_w hw 19 rfl) (by decide) (by decide)) (g := (mkF m 20 #[.val (.ref a1), .val (.int (0 : Int32)), .val (.int (3 : Int32)), .val (.ref b1), .val (.int (0 : Int32))] [(.int c0), (.int (0 : Int32)), (.ref b1)])) rfl (by rw [hml]; rfl) (argsL := [(.ref b1), (.int (0 : Int32)), (.int c0)]) (rest := []) (lenOf pd__BII_V rfl) rfl (by show 2 * 0 + _ ≤ _; exact Nat.le_of_eq rfl) (hb hby dtb3_20) (fun _ _ => ⟨rfl, e1, (by decide : 0 + 1 + 0 ≤ _), (by decide : 0 + 6 + 0 ≤ _)⟩)
  dsimp only [Pt.U, Pt.locs, Pt.cells, Pt.slots] at X5 lq5 yq5 zq5 st5 hQ5
  subst lq5 yq5 zq5
  obtain ⟨h5, e5⟩ : ∃ z, T5.heap = z := ⟨_, rfl⟩
  rw [e5] at hQ5
  unfold Qpc3_0 at hQ5
  obtain ⟨rfl, Nq5, qh5, G5_0⟩ := hQ5
  have N5 := Fr.app N1 Nq5
  have Zs5 : n0 ≤ h5.size := Nat.le_trans Zs1 qh5.1
  have F_6 := F_2.keep qh5 (allS ge1 all0)
  have F_7 := F_3.keep qh5 (ninS ne1_a1 nin0)
  have K5 : Keep h0 h5 [] := K1.trans qh5 (allS (Or.inr gf1) all0)
  refine own_f T5 (mkF m 23 #[.val (.ref a1), .val (.int (0 : Int32)), .val (.int (3 : Int32)), .val (.ref b1), .val (.int (0 : Int32))] []) st5 ?_
  refine own_f T5 (mkF m 26 #[.val (.ref a1), .val (.int ((0 : Int32) + (1 : Int32))), .val (.int (3 : Int32)), .val (.ref b1), .val (.int (0 : Int32))] []) (fun t k => XT.iincV X5.here hx rfl (l' := #[.val (.ref a1), .val (.int ((0 : Int32) + (1 : Int32))), .val (.int (3 : Int32)), .val (.ref b1), .val (.int (0 : Int32))]) (1 : Int32) (hb hby dtb3_23) (by decide) rfl rfl k) ?_
  rw [show ((0 : Int32) + (1 : Int32)) = (1 : Int32) from by decide]
  refine own_f T5 (mkF m 29 #[.val (.ref a1), .val (.int (1 : Int32)), .val (.int (3 : Int32)), .val (.ref b1), .val (.int ((0 : Int32) + (1 : Int32)))] []) (fun t k => XT.iincV X5.here hx rfl (l' := #[.val (.ref a1), .val (.int (1 : Int32)), .val (.int (3 : Int32)), .val (.ref b1), .val (.int ((0 : Int32) + (1 : Int32)))]) (1 : Int32) (hb hby dtb3_26) (by decide) rfl rfl k) ?_
  rw [show ((0 : Int32) + (1 : Int32)) = (1 : Int32) from by decide]
  refine own_step (fun t k => XS.goto X5.here hx rfl (pc0 := 29) (pc' := 8) rfl (hb hby dtb3_29) (by decide) (by decide) k) ?_
  refine own_step (fun t k => XS.iload X5.here hx rfl (hb hby dtb3_8) rfl k) ?_
  refine own_step (fun t k => XS.iloadN X5.here hx rfl (hb hby dtb3_10) rfl k) ?_
  refine own_f T5 (mkF m 14 #[.val (.ref a1), .val (.int (1 : Int32)), .val (.int (3 : Int32)), .val (.ref b1), .val (.int (1 : Int32))] []) (fun t k => XS.icmpNo X5.here hx rfl (hb hby dtb3_11) rfl (XT.ii_ge_f (by decide)) k) ?_
  refine own_step (fun t k => XS.aloadN X5.here hx rfl (hb hby dtb3_14) rfl rfl k) ?_
  refine own_step (fun t k => XS.iload X5.here hx rfl (hb hby dtb3_15) rfl k) ?_
  refine own_step (fun t k => XS.aloadN X5.here hx rfl (hb hby dtb3_17) rfl rfl k) ?_
  refine own_f T5 (mkF m 19 #[.val (.ref a1), .val (.int (1 : Int32)), .val (.int (3 : Int32)), .val (.ref b1), .val (.int (1 : Int32))] [(.int (1 : Int32)), (.ref a1), (.int (1 : Int32)), (.ref b1)]) (fun t k => XS.iloadN X5.here hx rfl (hb hby dtb3_18) rfl k) ?_
  obtain ⟨cl8, Ar8, q18, Sz8, q38, Hs8, Gs8⟩ := id F_7
  have hi8 := inb_of (j := (1 : Int32)) Sz8 ⟨by decide, by decide⟩
  refine own_f T5 (mkF m 20 #[.val (.ref a1), .val (.int (1 : Int32)), .val (.int (3 : Int32)), .val (.ref b1), .val (.int (1 : Int32))] [(.int c1), (.int (1 : Int32)), (.ref b1)]) (fun t k => X5.caload hx (j := (1 : Int32)) (v := (.int c1)) (by rw [e5]; exact Ar8.1) (State.isArrayOf_alike hZ.alike Ar8.2.1) Ar8.2.2 hi8 (Has.at Hs8 hi8 rfl) (g := (mkF m 19 #[.val (.ref a1), .val (.int (1 : Int32)), .val (.int (3 : Int32)), .val (.ref b1), .val (.int (1 : Int32))] [(.int (1 : Int32)), (.ref a1), (.int (1 : Int32)), (.ref b1)])) rfl rfl (hb hby dtb3_19) t k) ?_
  obtain ⟨_, _, ⟨T9, Lq9, kq_9, nq_9⟩, -, X9, ⟨Lc9, hQ9, lq9, yq9, zq9⟩, st9⟩ := Jvm.LawKit.callS X5 hx (y := (⟨"java/lang/StringUTF16", "putChar", "([BII)V"⟩ : MethodName)) hown (mvT hZ (own_w hw 83 rfl)) (mvT hZ (own_w hw 84 rfl)) (mvT hZ (own_w hw 19 rfl)) (mvT hZ (own_w hw 85 rfl)) (by decide) (backOf (W := 0) (rmpc3_1 l Z a0 hw [] b1 _ c1 _ _ _ _ _ _ h5 n0 Zs5 F_6 G5_0 ge1 SH SL SA) hZ (own_w hw 85 rfl) (own_w hw 19 rfl) (by decide) (by decide)) (g := (mkF m 20 #[.val (.ref a1), .val (.int (1 : Int32)), .val (.int (3 : Int32)), .val (.ref b1), .val (.int (1 : Int32))] [(.int c1), (.int (1 : Int32)), (.ref b1)])) rfl (by rw [hml]; rfl) (argsL := [(.ref b1), (.int (1 : Int32)), (.int c1)]) (rest := []) (lenOf pd__BII_V rfl) rfl (by show 2 * 0 + _ ≤ _; exact Nat.le_of_eq rfl) (hb hby dtb3_20) (fun _ _ => ⟨rfl, e5, (by decide : 0 + 1 + 0 + 0 ≤ _), (by decide : 0 + 6 + 0 + 0 ≤ _)⟩)
  dsimp only [Pt.U, Pt.locs, Pt.cells, Pt.slots] at X9 lq9 yq9 zq9 st9 hQ9
  subst lq9 yq9 zq9
  obtain ⟨h9, e9⟩ : ∃ z, T9.heap = z := ⟨_, rfl⟩
  rw [e9] at hQ9
  unfold Qpc3_1 at hQ9
  obtain ⟨rfl, Nq9, qh9, G9_0⟩ := hQ9
  have N9 := Fr.app N5 Nq9
  have Zs9 : n0 ≤ h9.size := Nat.le_trans Zs5 qh9.1
  have F_10 := F_6.keep qh9 (allS ge1 all0)
  have F_11 := F_7.keep qh9 (ninS ne1_a1 nin0)
  have K9 : Keep h0 h9 [] := K5.trans qh9 (allS (Or.inr gf1) all0)
  refine own_f T9 (mkF m 23 #[.val (.ref a1), .val (.int (1 : Int32)), .val (.int (3 : Int32)), .val (.ref b1), .val (.int (1 : Int32))] []) st9 ?_
  refine own_f T9 (mkF m 26 #[.val (.ref a1), .val (.int ((1 : Int32) + (1 : Int32))), .val (.int (3 : Int32)), .val (.ref b1), .val (.int (1 : Int32))] []) (fun t k => XT.iincV X9.here hx rfl (l' := #[.val (.ref a1), .val (.int ((1 : Int32) + (1 : Int32))), .val (.int (3 : Int32)), .val (.ref b1), .val (.int (1 : Int32))]) (1 : Int32) (hb hby dtb3_23) (by decide) rfl rfl k) ?_
  rw [show ((1 : Int32) + (1 : Int32)) = (2 : Int32) from by decide]
  refine own_f T9 (mkF m 29 #[.val (.ref a1), .val (.int (2 : Int32)), .val (.int (3 : Int32)), .val (.ref b1), .val (.int ((1 : Int32) + (1 : Int32)))] []) (fun t k => XT.iincV X9.here hx rfl (l' := #[.val (.ref a1), .val (.int (2 : Int32)), .val (.int (3 : Int32)), .val (.ref b1), .val (.int ((1 : Int32) + (1 : Int32)))]) (1 : Int32) (hb hby dtb3_26) (by decide) rfl rfl k) ?_
  rw [show ((1 : Int32) + (1 : Int32)) = (2 : Int32) from by decide]
  refine own_step (fun t k => XS.goto X9.here hx rfl (pc0 := 29) (pc' := 8) rfl (hb hby dtb3_29) (by decide) (by decide) k) ?_
  refine own_step (fun t k => XS.iload X9.here hx rfl (hb hby dtb3_8) rfl k) ?_
  refine own_step (fun t k => XS.iloadN X9.here hx rfl (hb hby dtb3_10) rfl k) ?_
  refine own_f T9 (mkF m 14 #[.val (.ref a1), .val (.int (2 : Int32)), .val (.int (3 : Int32)), .val (.ref b1), .val (.int (2 : Int32))] []) (fun t k => XS.icmpNo X9.here hx rfl (hb hby dtb3_11) rfl (XT.ii_ge_f (by decide)) k) ?_
  refine own_step (fun t k => XS.aloadN X9.here hx rfl (hb hby dtb3_14) rfl rfl k) ?_
  refine own_step (fun t k => XS.iload X9.here hx rfl (hb hby dtb3_15) rfl k) ?_
  refine own_step (fun t k => XS.aloadN X9.here hx rfl (hb hby dtb3_17) rfl rfl k) ?_
  refine own_f T9 (mkF m 19 #[.val (.ref a1), .val (.int (2 : Int32)), .val (.int (3 : Int32)), .val (.ref b1), .val (.int (2 : Int32))] [(.int (2 : Int32)), (.ref a1), (.int (2 : Int32)), (.ref b1)]) (fun t k => XS.iloadN X9.here hx rfl (hb hby dtb3_18) rfl k) ?_
  obtain ⟨cl12, Ar12, q112, Sz12, q312, Hs12, Gs12⟩ := id F_11
  have hi12 := inb_of (j := (2 : Int32)) Sz12 ⟨by decide, by decide⟩
  refine own_f T9 (mkF m 20 #[.val (.ref a1), .val (.int (2 : Int32)), .val (.int (3 : Int32)), .val (.ref b1), .val (.int (2 : Int32))] [(.int c2), (.int (2 : Int32)), (.ref b1)]) (fun t k => X9.caload hx (j := (2 : Int32)) (v := (.int c2)) (by rw [e9]; exact Ar12.1) (State.isArrayOf_alike hZ.alike Ar12.2.1) Ar12.2.2 hi12 (Has.at Hs12 hi12 rfl) (g := (mkF m 19 #[.val (.ref a1), .val (.int (2 : Int32)), .val (.int (3 : Int32)), .val (.ref b1), .val (.int (2 : Int32))] [(.int (2 : Int32)), (.ref a1), (.int (2 : Int32)), (.ref b1)])) rfl rfl (hb hby dtb3_19) t k) ?_
  obtain ⟨_, _, ⟨T13, Lq13, kq_13, nq_13⟩, -, X13, ⟨Lc13, hQ13, lq13, yq13, zq13⟩, st13⟩ := Jvm.LawKit.callS X9 hx (y := (⟨"java/lang/StringUTF16", "putChar", "([BII)V"⟩ : MethodName)) hown (mvT hZ (own_w hw 83 rfl)) (mvT hZ (own_w hw 84 rfl)) (mvT hZ (own_w hw 19 rfl)) (mvT hZ (own_w hw 85 rfl)) (by decide) (backOf (W := 0) (rmpc3_2 l Z a0 hw [] b1 _ c2 _ _ _ _ _ _ h9 n0 Zs9 F_10 G9_0 ge1 SH SL SA) hZ (own_w hw 85 rfl) (own_w hw 19 rfl) (by decide) (by decide)) (g := (mkF m 20 #[.val (.ref a1), .val (.int (2 : Int32)), .val (.int (3 : Int32)), .val (.ref b1), .val (.int (2 : Int32))] [(.int c2), (.int (2 : Int32)), (.ref b1)])) rfl (by rw [hml]; rfl) (argsL := [(.ref b1), (.int (2 : Int32)), (.int c2)]) (rest := []) (lenOf pd__BII_V rfl) rfl (by show 2 * 0 + _ ≤ _; exact Nat.le_of_eq rfl) (hb hby dtb3_20) (fun _ _ => ⟨rfl, e9, (by decide : 0 + 1 + 0 + 0 + 0 ≤ _), (by decide : 0 + 6 + 0 + 0 + 0 ≤ _)⟩)
  dsimp only [Pt.U, Pt.locs, Pt.cells, Pt.slots] at X13 lq13 yq13 zq13 st13 hQ13
  subst lq13 yq13 zq13
  obtain ⟨h13, e13⟩ : ∃ z, T13.heap = z := ⟨_, rfl⟩
  rw [e13] at hQ13
  unfold Qpc3_2 at hQ13
  obtain ⟨rfl, Nq13, qh13, G13_0⟩ := hQ13
  have N13 := Fr.app N9 Nq13
  have Zs13 : n0 ≤ h13.size := Nat.le_trans Zs9 qh13.1
  have F_14 := F_10.keep qh13 (allS ge1 all0)
  have F_15 := F_11.keep qh13 (ninS ne1_a1 nin0)
  have K13 : Keep h0 h13 [] := K9.trans qh13 (allS (Or.inr gf1) all0)
  refine own_f T13 (mkF m 23 #[.val (.ref a1), .val (.int (2 : Int32)), .val (.int (3 : Int32)), .val (.ref b1), .val (.int (2 : Int32))] []) st13 ?_
  refine own_f T13 (mkF m 26 #[.val (.ref a1), .val (.int ((2 : Int32) + (1 : Int32))), .val (.int (3 : Int32)), .val (.ref b1), .val (.int (2 : Int32))] []) (fun t k => XT.iincV X13.here hx rfl (l' := #[.val (.ref a1), .val (.int ((2 : Int32) + (1 : Int32))), .val (.int (3 : Int32)), .val (.ref b1), .val (.int (2 : Int32))]) (1 : Int32) (hb hby dtb3_23) (by decide) rfl rfl k) ?_
  rw [show ((2 : Int32) + (1 : Int32)) = (3 : Int32) from by decide]
  refine own_f T13 (mkF m 29 #[.val (.ref a1), .val (.int (3 : Int32)), .val (.int (3 : Int32)), .val (.ref b1), .val (.int ((2 : Int32) + (1 : Int32)))] []) (fun t k => XT.iincV X13.here hx rfl (l' := #[.val (.ref a1), .val (.int (3 : Int32)), .val (.int (3 : Int32)), .val (.ref b1), .val (.int ((2 : Int32) + (1 : Int32)))]) (1 : Int32) (hb hby dtb3_26) (by decide) rfl rfl k) ?_
  rw [show ((2 : Int32) + (1 : Int32)) = (3 : Int32) from by decide]
  refine own_step (fun t k => XS.goto X13.here hx rfl (pc0 := 29) (pc' := 8) rfl (hb hby dtb3_29) (by decide) (by decide) k) ?_
  refine own_step (fun t k => XS.iload X13.here hx rfl (hb hby dtb3_8) rfl k) ?_
  refine own_step (fun t k => XS.iloadN X13.here hx rfl (hb hby dtb3_10) rfl k) ?_
  refine own_f T13 (mkF m 32 #[.val (.ref a1), .val (.int (3 : Int32)), .val (.int (3 : Int32)), .val (.ref b1), .val (.int (3 : Int32))] []) (fun t k => XS.icmpYes X13.here hx rfl (pc0 := 11) (pc' := 32) rfl (hb hby dtb3_11) rfl (XT.ii_ge_t (by decide)) (by decide) (by decide) k) ?_
  refine own_f T13 (mkF m 33 #[.val (.ref a1), .val (.int (3 : Int32)), .val (.int (3 : Int32)), .val (.ref b1), .val (.int (3 : Int32))] [(.ref b1)]) (fun t k => XS.aloadN X13.here hx rfl (hb hby dtb3_32) rfl rfl k) ?_
  obtain ⟨fs, hr, hrun, hended, hW, hsame⟩ := X13.leave (v := some (.ref b1)) (fun h => by rw [Bd.returns] at h; cases h)
  refine ⟨_, _, retOut X13 hx Bd.returns (by rfl) (Or.inr (Or.inr (Or.inr (Or.inr ⟨rfl, rfl, rfl⟩)))) (hb hby dtb3_33) hr, hrun, hended, _, _, rfl, ?_, ⟨_, rfl⟩, hW, hsame.mono (by decide) (by decide)⟩
  show Qtb3 Z a1 k1 c0 c1 c2 h0 n0 _ T13.heap _
  rw [e13]
  exact ⟨b1, kb1, rfl, N13, K13, G13_0, gf1⟩
theorem dco3_3_0 : decode jdk_52_method_15_code 0 = .ok (.iload_n 1, 1) := by decide +kernel
theorem dco3_3_1 : decode jdk_52_method_15_code 1 = .ok (.aload_n 0, 1) := by decide +kernel
theorem dco3_3_2 : decode jdk_52_method_15_code 2 = .ok (.arraylength, 1) := by decide +kernel
theorem dco3_3_3 : decode jdk_52_method_15_code 3 = .ok (.isub, 1) := by decide +kernel
theorem dco3_3_4 : decode jdk_52_method_15_code 4 = .ok (.bipush 31, 2) := by decide +kernel
theorem dco3_3_6 : decode jdk_52_method_15_code 6 = .ok (.iushr, 1) := by decide +kernel
theorem dco3_3_7 : decode jdk_52_method_15_code 7 = .ok (.i2b, 1) := by decide +kernel
theorem dco3_3_8 : decode jdk_52_method_15_code 8 = .ok (.ireturn, 1) := by decide +kernel
theorem pn_co3_3 : plainName "java/lang/StringUTF16" = true := by first | (simp [plainName, overriddenIn]; done) | decide +kernel
theorem ef_co3_3 (m : MethodId) (x0 : Addr) (x1 : Int32) : entryFrame m #[(.ref x0), (.int x1)] 2 = mkF m 0 #[.val (.ref x0), .val (.int x1)] [] := by first | (simp [entryFrame, mkF, argsToLocals, Value.category]; done) | rfl
def Qco3_3 (Z : State) (a1 : Addr) (k1 : ClassId) (vv : List Value) (h0 : Heap) (n0 : Nat) (v : Option Value) (h : Heap) (L : List Loc) : Prop := v = some (.int (0 : Int32)) ∧ Fr n0 L ∧ h = h0
set_option maxRecDepth 65536 in
set_option maxHeartbeats 40000000 in
theorem rmco3_3 (l : Launch) (Z : State) (a0 : Array Value) (hw : ∀ d ∈ tables_1, d.before a0 Z = true) (ws : List Jvm.Cond) (a1 : Addr) (k1 : ClassId) (vv : List Value) (h0 : Heap) (n0 : Nat) (Z0 : n0 ≤ h0.size) (F0 : Arv Z h0 a1 k1 .byte (3 : Int32) vv (.int 0)) :
    MetFree l (⟨"java/lang/StringUTF16", "coderFromArrayLen", "([BI)B"⟩ : MethodName) (head1 (Jvm.Cond.code (⟨"java/lang/StringUTF16", "coderFromArrayLen", "([BI)B"⟩ : MethodName) jdk_52_method_15_code 2 (some .byte) :: ws) ({ frames := 0, cells := 0, slots := 0, locals := 0 } : Room)) (fun a U => a = #[(.ref a1), (.int (3 : Int32))] ∧ Z.Warmed39 U.vm ∧ U.heap = h0) (fun _ _ _ _ _ => True) (fun _ U o U' => ∃ v L, o = .returned v ∧ Qco3_3 Z a1 k1 vv h0 n0 v U'.heap L ∧ FrameEnd U o U' L ({ frames := 0, cells := 0, slots := 0, locals := 0 } : Room).cells ({ frames := 0, cells := 0, slots := 0, locals := 0 } : Room).slots) := by
  refine MetFree.of_bodySF (plainFor_of_name pn_co3_3) hisR ?_
  intro p e s m args below meth c s₁ Bd hml0 hP hK
  obtain ⟨rfl, hZ, hh⟩ := hP
  have hx := Bd.exec
  have hby := Bd.bytes
  have hml : c.maxLocals = 2 := hml0
  have hown : s.vm.findClass "java/lang/StringUTF16" = some m.cls := findClass_of_methodNamed Bd.named
  have hnm := (name_of_methodNamed Bd.named Bd.method).1
  have X0 : Stand p l e ({ frames := 0, cells := 0, slots := 0, locals := 0 } : Room) s m #[(.ref a1), (.int (3 : Int32))] below meth c s₁ [] 0 0 := Stand.of_body Bd
  have e0 : s₁.heap = h0 := by rw [← hh, Bd.state]; rfl
  have N0 := Fr.nil n0
  show own_R p.tables e below (own_P s (Qco3_3 Z a1 k1 vv h0 n0) ({ frames := 0, cells := 0, slots := 0, locals := 0 } : Room).cells ({ frames := 0, cells := 0, slots := 0, locals := 0 } : Room).slots) (s₁.setTop (entryFrame m #[(.ref a1), (.int (3 : Int32))] 2))
  refine own_f s₁ (mkF m 0 #[.val (.ref a1), .val (.int (3 : Int32))] []) (fun t k => castTop (ef_co3_3 m a1 (3 : Int32)) k) ?_
  refine own_step (fun t k => XS.iloadN X0.here hx rfl (hb hby dco3_3_0) rfl k) ?_
  refine own_f s₁ (mkF m 2 #[.val (.ref a1), .val (.int (3 : Int32))] [(.ref a1), (.int (3 : Int32))]) (fun t k => XS.aloadN X0.here hx rfl (hb hby dco3_3_1) rfl rfl k) ?_
  refine own_f s₁ (mkF m 3 #[.val (.ref a1), .val (.int (3 : Int32))] [(.int (3 : Int32)), (.int (3 : Int32))]) (fun t k => own_len X0 hx hZ e0 F0 (g := (mkF m 2 #[.val (.ref a1), .val (.int (3 : Int32))] [(.ref a1), (.int (3 : Int32))])) rfl rfl (hb hby dco3_3_2) k) ?_
  refine own_f s₁ (mkF m 4 #[.val (.ref a1), .val (.int (3 : Int32))] [(.int ((3 : Int32) - (3 : Int32)))]) (fun t k => XS.isub X0.here hx rfl (hb hby dco3_3_3) rfl k) ?_
  rw [show ((3 : Int32) - (3 : Int32)) = (0 : Int32) from by decide]
  refine own_step (fun t k => XT.bipushV X0.here hx rfl (31 : Int32) (hb hby dco3_3_4) (by decide) k) ?_
  refine own_f s₁ (mkF m 7 #[.val (.ref a1), .val (.int (3 : Int32))] [(.int (((0 : Int32).toUInt32 >>> ((31 : Int32) &&& 31).toUInt32).toInt32))]) (fun t k => XS.iushr X0.here hx rfl (hb hby dco3_3_6) rfl k) ?_
  rw [show (((0 : Int32).toUInt32 >>> ((31 : Int32) &&& 31).toUInt32).toInt32) = (0 : Int32) from by decide]
  refine own_f s₁ (mkF m 8 #[.val (.ref a1), .val (.int (3 : Int32))] [(.int ((0 : Int32).toInt8.toInt32))]) (fun t k => XS.i2b X0.here hx rfl (hb hby dco3_3_7) rfl k) ?_
  rw [show ((0 : Int32).toInt8.toInt32) = (0 : Int32) from by decide]
  obtain ⟨fs, hr, hrun, hended, hW, hsame⟩ := X0.leave (v := some (.int (0 : Int32))) (fun h => by rw [Bd.returns] at h; cases h)
  refine ⟨_, _, own_retB X0 hx (t := .byte) Bd.returns (by simp) (by decide) (hb hby dco3_3_8) hr, hrun, hended, _, _, rfl, ?_, ⟨_, rfl⟩, hW, hsame.mono (by decide) (by decide)⟩
  show Qco3_3 Z a1 k1 vv h0 n0 _ s₁.heap _
  rw [e0]
  exact ⟨rfl, N0, rfl⟩
theorem dco3_6_0 : decode jdk_52_method_15_code 0 = .ok (.iload_n 1, 1) := by decide +kernel
theorem dco3_6_1 : decode jdk_52_method_15_code 1 = .ok (.aload_n 0, 1) := by decide +kernel
theorem dco3_6_2 : decode jdk_52_method_15_code 2 = .ok (.arraylength, 1) := by decide +kernel
theorem dco3_6_3 : decode jdk_52_method_15_code 3 = .ok (.isub, 1) := by decide +kernel
theorem dco3_6_4 : decode jdk_52_method_15_code 4 = .ok (.bipush 31, 2) := by decide +kernel
theorem dco3_6_6 : decode jdk_52_method_15_code 6 = .ok (.iushr, 1) := by decide +kernel
theorem dco3_6_7 : decode jdk_52_method_15_code 7 = .ok (.i2b, 1) := by decide +kernel
theorem dco3_6_8 : decode jdk_52_method_15_code 8 = .ok (.ireturn, 1) := by decide +kernel
theorem pn_co3_6 : plainName "java/lang/StringUTF16" = true := by first | (simp [plainName, overriddenIn]; done) | decide +kernel
theorem ef_co3_6 (m : MethodId) (x0 : Addr) (x1 : Int32) : entryFrame m #[(.ref x0), (.int x1)] 2 = mkF m 0 #[.val (.ref x0), .val (.int x1)] [] := by first | (simp [entryFrame, mkF, argsToLocals, Value.category]; done) | rfl
def Qco3_6 (Z : State) (a1 : Addr) (k1 : ClassId) (vv : List Value) (h0 : Heap) (n0 : Nat) (v : Option Value) (h : Heap) (L : List Loc) : Prop := v = some (.int (1 : Int32)) ∧ Fr n0 L ∧ h = h0
set_option maxRecDepth 65536 in
set_option maxHeartbeats 40000000 in
theorem rmco3_6 (l : Launch) (Z : State) (a0 : Array Value) (hw : ∀ d ∈ tables_1, d.before a0 Z = true) (ws : List Jvm.Cond) (a1 : Addr) (k1 : ClassId) (vv : List Value) (h0 : Heap) (n0 : Nat) (Z0 : n0 ≤ h0.size) (F0 : Arv Z h0 a1 k1 .byte (6 : Int32) vv (.int 0)) :
    MetFree l (⟨"java/lang/StringUTF16", "coderFromArrayLen", "([BI)B"⟩ : MethodName) (head1 (Jvm.Cond.code (⟨"java/lang/StringUTF16", "coderFromArrayLen", "([BI)B"⟩ : MethodName) jdk_52_method_15_code 2 (some .byte) :: ws) ({ frames := 0, cells := 0, slots := 0, locals := 0 } : Room)) (fun a U => a = #[(.ref a1), (.int (3 : Int32))] ∧ Z.Warmed39 U.vm ∧ U.heap = h0) (fun _ _ _ _ _ => True) (fun _ U o U' => ∃ v L, o = .returned v ∧ Qco3_6 Z a1 k1 vv h0 n0 v U'.heap L ∧ FrameEnd U o U' L ({ frames := 0, cells := 0, slots := 0, locals := 0 } : Room).cells ({ frames := 0, cells := 0, slots := 0, locals := 0 } : Room).slots) := by
  refine MetFree.of_bodySF (plainFor_of_name pn_co3_6) hisR ?_
  intro p e s m args below meth c s₁ Bd hml0 hP hK
  obtain ⟨rfl, hZ, hh⟩ := hP
  have hx := Bd.exec
  have hby := Bd.bytes
  have hml : c.maxLocals = 2 := hml0
  have hown : s.vm.findClass "java/lang/StringUTF16" = some m.cls := findClass_of_methodNamed Bd.named
  have hnm := (name_of_methodNamed Bd.named Bd.method).1
  have X0 : Stand p l e ({ frames := 0, cells := 0, slots := 0, locals := 0 } : Room) s m #[(.ref a1), (.int (3 : Int32))] below meth c s₁ [] 0 0 := Stand.of_body Bd
  have e0 : s₁.heap = h0 := by rw [← hh, Bd.state]; rfl
  have N0 := Fr.nil n0
  show own_R p.tables e below (own_P s (Qco3_6 Z a1 k1 vv h0 n0) ({ frames := 0, cells := 0, slots := 0, locals := 0 } : Room).cells ({ frames := 0, cells := 0, slots := 0, locals := 0 } : Room).slots) (s₁.setTop (entryFrame m #[(.ref a1), (.int (3 : Int32))] 2))
  refine own_f s₁ (mkF m 0 #[.val (.ref a1), .val (.int (3 : Int32))] []) (fun t k => castTop (ef_co3_6 m a1 (3 : Int32)) k) ?_
  refine own_step (fun t k => XS.iloadN X0.here hx rfl (hb hby dco3_6_0) rfl k) ?_
  refine own_f s₁ (mkF m 2 #[.val (.ref a1), .val (.int (3 : Int32))] [(.ref a1), (.int (3 : Int32))]) (fun t k => XS.aloadN X0.here hx rfl (hb hby dco3_6_1) rfl rfl k) ?_
  refine own_f s₁ (mkF m 3 #[.val (.ref a1), .val (.int (3 : Int32))] [(.int (6 : Int32)), (.int (3 : Int32))]) (fun t k => own_len X0 hx hZ e0 F0 (g := (mkF m 2 #[.val (.ref a1), .val (.int (3 : Int32))] [(.ref a1), (.int (3 : Int32))])) rfl rfl (hb hby dco3_6_2) k) ?_
  refine own_f s₁ (mkF m 4 #[.val (.ref a1), .val (.int (3 : Int32))] [(.int ((3 : Int32) - (6 : Int32)))]) (fun t k => XS.isub X0.here hx rfl (hb hby dco3_6_3) rfl k) ?_
  rw [show ((3 : Int32) - (6 : Int32)) = (-3 : Int32) from by decide]
  refine own_step (fun t k => XT.bipushV X0.here hx rfl (31 : Int32) (hb hby dco3_6_4) (by decide) k) ?_
  refine own_f s₁ (mkF m 7 #[.val (.ref a1), .val (.int (3 : Int32))] [(.int (((-3 : Int32).toUInt32 >>> ((31 : Int32) &&& 31).toUInt32).toInt32))]) (fun t k => XS.iushr X0.here hx rfl (hb hby dco3_6_6) rfl k) ?_
  rw [show (((-3 : Int32).toUInt32 >>> ((31 : Int32) &&& 31).toUInt32).toInt32) = (1 : Int32) from by decide]
  refine own_f s₁ (mkF m 8 #[.val (.ref a1), .val (.int (3 : Int32))] [(.int ((1 : Int32).toInt8.toInt32))]) (fun t k => XS.i2b X0.here hx rfl (hb hby dco3_6_7) rfl k) ?_
  rw [show ((1 : Int32).toInt8.toInt32) = (1 : Int32) from by decide]
  obtain ⟨fs, hr, hrun, hended, hW, hsame⟩ := X0.leave (v := some (.int (1 : Int32))) (fun h => by rw [Bd.returns] at h; cases h)
  refine ⟨_, _, own_retB X0 hx (t := .byte) Bd.returns (by simp) (by decide) (hb hby dco3_6_8) hr, hrun, hended, _, _, rfl, ?_, ⟨_, rfl⟩, hW, hsame.mono (by decide) (by decide)⟩
  show Qco3_6 Z a1 k1 vv h0 n0 _ s₁.heap _
  rw [e0]
  exact ⟨rfl, N0, rfl⟩
theorem dci3_0_0 : decode jdk_52_method_21_code 0 = .ok (.iconst 0, 1) := by decide +kernel
theorem dci3_0_1 : decode jdk_52_method_21_code 1 = .ok (.istore 5, 2) := by decide +kernel
theorem dci3_0_3 : decode jdk_52_method_21_code 3 = .ok (.iload 5, 2) := by decide +kernel
theorem dci3_0_5 : decode jdk_52_method_21_code 5 = .ok (.iload 4, 2) := by decide +kernel
theorem dci3_0_7 : decode jdk_52_method_21_code 7 = .ok (.if_icmp .ge 37, 3) := by decide +kernel
theorem dci3_0_10 : decode jdk_52_method_21_code 10 = .ok (.aload_n 0, 1) := by decide +kernel
theorem dci3_0_11 : decode jdk_52_method_21_code 11 = .ok (.iload_n 1, 1) := by decide +kernel
theorem dci3_0_12 : decode jdk_52_method_21_code 12 = .ok (.caload, 1) := by decide +kernel
theorem dci3_0_13 : decode jdk_52_method_21_code 13 = .ok (.istore 6, 2) := by decide +kernel
theorem dci3_0_15 : decode jdk_52_method_21_code 15 = .ok (.iload 6, 2) := by decide +kernel
theorem dci3_0_17 : decode jdk_52_method_21_code 17 = .ok (.sipush 255, 3) := by decide +kernel
theorem dci3_0_20 : decode jdk_52_method_21_code 20 = .ok (.if_icmp .le 6, 3) := by decide +kernel
theorem dci3_0_23 : decode jdk_52_method_21_code 23 = .ok (.iload 5, 2) := by decide +kernel
theorem dci3_0_25 : decode jdk_52_method_21_code 25 = .ok (.ireturn, 1) := by decide +kernel
theorem pn_ci3_0 : plainName "java/lang/StringUTF16" = true := by first | (simp [plainName, overriddenIn]; done) | decide +kernel
theorem ef_ci3_0 (m : MethodId) (x0 : Addr) (x1 : Int32) (x2 : Addr) (x3 : Int32) (x4 : Int32) : entryFrame m #[(.ref x0), (.int x1), (.ref x2), (.int x3), (.int x4)] 7 = mkF m 0 #[.val (.ref x0), .val (.int x1), .val (.ref x2), .val (.int x3), .val (.int x4), .unset, .unset] [] := by first | (simp [entryFrame, mkF, argsToLocals, Value.category]; done) | rfl
def Qci3_0 (Z : State) (a1 : Addr) (a2 : Addr) (k1 : ClassId) (k2 : ClassId) (c0 : Int32) (c1 : Int32) (c2 : Int32) (h0 : Heap) (n0 : Nat) (v : Option Value) (h : Heap) (L : List Loc) : Prop := v = some (.int (0 : Int32)) ∧ Fr n0 L ∧ Keep h0 h [a2] ∧ Arv Z h a2 k2 .byte (3 : Int32) [.int 0, .int 0, .int 0] (.int 0)
set_option maxRecDepth 65536 in
set_option maxHeartbeats 40000000 in
theorem rmci3_0 (l : Launch) (Z : State) (a0 : Array Value) (hw : ∀ d ∈ tables_1, d.before a0 Z = true) (ws : List Jvm.Cond) (a1 : Addr) (a2 : Addr) (k1 : ClassId) (k2 : ClassId) (c0 : Int32) (c1 : Int32) (c2 : Int32) (h0 : Heap) (n0 : Nat) (Z0 : n0 ≤ h0.size) (F0 : Arv Z h0 a1 k1 .char (3 : Int32) [.int c0, .int c1, .int c2] (.int 0)) (F1 : Arv Z h0 a2 k2 .byte (3 : Int32) [.int 0, .int 0, .int 0] (.int 0)) (ge_a2 : n0 ≤ a2) (hne : a1 ≠ a2) (hc_c0 : (255 : Int32) < c0) :
    MetFree l (⟨"java/lang/StringUTF16", "compress", "([CI[BII)I"⟩ : MethodName) (head1 (Jvm.Cond.code (⟨"java/lang/StringUTF16", "compress", "([CI[BII)I"⟩ : MethodName) jdk_52_method_21_code 7 (some .int) :: ws) ({ frames := 0, cells := 0, slots := 0, locals := 0 } : Room)) (fun a U => a = #[(.ref a1), (.int (0 : Int32)), (.ref a2), (.int (0 : Int32)), (.int (3 : Int32))] ∧ Z.Warmed39 U.vm ∧ U.heap = h0) (fun _ _ _ _ _ => True) (fun _ U o U' => ∃ v L, o = .returned v ∧ Qci3_0 Z a1 a2 k1 k2 c0 c1 c2 h0 n0 v U'.heap L ∧ FrameEnd U o U' L ({ frames := 0, cells := 0, slots := 0, locals := 0 } : Room).cells ({ frames := 0, cells := 0, slots := 0, locals := 0 } : Room).slots) := by
  refine MetFree.of_bodySF (plainFor_of_name pn_ci3_0) hisR ?_
  intro p e s m args below meth c s₁ Bd hml0 hP hK
  obtain ⟨rfl, hZ, hh⟩ := hP
  have hx := Bd.exec
  have hby := Bd.bytes
  have hml : c.maxLocals = 7 := hml0
  have hown : s.vm.findClass "java/lang/StringUTF16" = some m.cls := findClass_of_methodNamed Bd.named
  have hnm := (name_of_methodNamed Bd.named Bd.method).1
  have X0 : Stand p l e ({ frames := 0, cells := 0, slots := 0, locals := 0 } : Room) s m #[(.ref a1), (.int (0 : Int32)), (.ref a2), (.int (0 : Int32)), (.int (3 : Int32))] below meth c s₁ [] 0 0 := Stand.of_body Bd
  have e0 : s₁.heap = h0 := by rw [← hh, Bd.state]; rfl
  have N0 := Fr.nil n0
  show own_R p.tables e below (own_P s (Qci3_0 Z a1 a2 k1 k2 c0 c1 c2 h0 n0) ({ frames := 0, cells := 0, slots := 0, locals := 0 } : Room).cells ({ frames := 0, cells := 0, slots := 0, locals := 0 } : Room).slots) (s₁.setTop (entryFrame m #[(.ref a1), (.int (0 : Int32)), (.ref a2), (.int (0 : Int32)), (.int (3 : Int32))] 7))
  refine own_f s₁ (mkF m 0 #[.val (.ref a1), .val (.int (0 : Int32)), .val (.ref a2), .val (.int (0 : Int32)), .val (.int (3 : Int32)), .unset, .unset] []) (fun t k => castTop (ef_ci3_0 m a1 (0 : Int32) a2 (0 : Int32) (3 : Int32)) k) ?_
  refine own_step (fun t k => XT.iconstV X0.here hx rfl (0 : Int32) (hb hby dci3_0_0) (by decide) k) ?_
  refine own_f s₁ (mkF m 3 #[.val (.ref a1), .val (.int (0 : Int32)), .val (.ref a2), .val (.int (0 : Int32)), .val (.int (3 : Int32)), .val (.int (0 : Int32)), .unset] []) (fun t k => XS.istore X0.here hx rfl (hb hby dci3_0_1) rfl (l' := #[.val (.ref a1), .val (.int (0 : Int32)), .val (.ref a2), .val (.int (0 : Int32)), .val (.int (3 : Int32)), .val (.int (0 : Int32)), .unset]) rfl k) ?_
  refine own_step (fun t k => XS.iload X0.here hx rfl (hb hby dci3_0_3) rfl k) ?_
  refine own_step (fun t k => XS.iload X0.here hx rfl (hb hby dci3_0_5) rfl k) ?_
  refine own_f s₁ (mkF m 10 #[.val (.ref a1), .val (.int (0 : Int32)), .val (.ref a2), .val (.int (0 : Int32)), .val (.int (3 : Int32)), .val (.int (0 : Int32)), .unset] []) (fun t k => XS.icmpNo X0.here hx rfl (hb hby dci3_0_7) rfl (XT.ii_ge_f (by decide)) k) ?_
  refine own_step (fun t k => XS.aloadN X0.here hx rfl (hb hby dci3_0_10) rfl rfl k) ?_
  refine own_f s₁ (mkF m 12 #[.val (.ref a1), .val (.int (0 : Int32)), .val (.ref a2), .val (.int (0 : Int32)), .val (.int (3 : Int32)), .val (.int (0 : Int32)), .unset] [(.int (0 : Int32)), (.ref a1)]) (fun t k => XS.iloadN X0.here hx rfl (hb hby dci3_0_11) rfl k) ?_
  obtain ⟨cl1, Ar1, q11, Sz1, q31, Hs1, Gs1⟩ := id F0
  have hi1 := inb_of (j := (0 : Int32)) Sz1 ⟨by decide, by decide⟩
  refine own_f s₁ (mkF m 13 #[.val (.ref a1), .val (.int (0 : Int32)), .val (.ref a2), .val (.int (0 : Int32)), .val (.int (3 : Int32)), .val (.int (0 : Int32)), .unset] [(.int c0)]) (fun t k => X0.caload hx (j := (0 : Int32)) (v := (.int c0)) (by rw [e0]; exact Ar1.1) (State.isArrayOf_alike hZ.alike Ar1.2.1) Ar1.2.2 hi1 (Has.at Hs1 hi1 rfl) (g := (mkF m 12 #[.val (.ref a1), .val (.int (0 : Int32)), .val (.ref a2), .val (.int (0 : Int32)), .val (.int (3 : Int32)), .val (.int (0 : Int32)), .unset] [(.int (0 : Int32)), (.ref a1)])) rfl rfl (hb hby dci3_0_12) t k) ?_
  refine own_f s₁ (mkF m 15 #[.val (.ref a1), .val (.int (0 : Int32)), .val (.ref a2), .val (.int (0 : Int32)), .val (.int (3 : Int32)), .val (.int (0 : Int32)), .val (.int c0)] []) (fun t k => XS.istore X0.here hx rfl (hb hby dci3_0_13) rfl (l' := #[.val (.ref a1), .val (.int (0 : Int32)), .val (.ref a2), .val (.int (0 : Int32)), .val (.int (3 : Int32)), .val (.int (0 : Int32)), .val (.int c0)]) rfl k) ?_
  refine own_step (fun t k => XS.iload X0.here hx rfl (hb hby dci3_0_15) rfl k) ?_
  refine own_step (fun t k => XT.sipushV X0.here hx rfl (255 : Int32) (hb hby dci3_0_17) (by decide) k) ?_
  refine own_f s₁ (mkF m 23 #[.val (.ref a1), .val (.int (0 : Int32)), .val (.ref a2), .val (.int (0 : Int32)), .val (.int (3 : Int32)), .val (.int (0 : Int32)), .val (.int c0)] []) (fun t k => XS.icmpNo X0.here hx rfl (hb hby dci3_0_20) rfl (XT.ii_le_f hc_c0) k) ?_
  refine own_f s₁ (mkF m 25 #[.val (.ref a1), .val (.int (0 : Int32)), .val (.ref a2), .val (.int (0 : Int32)), .val (.int (3 : Int32)), .val (.int (0 : Int32)), .val (.int c0)] [(.int (0 : Int32))]) (fun t k => XS.iload X0.here hx rfl (hb hby dci3_0_23) rfl k) ?_
  obtain ⟨fs, hr, hrun, hended, hW, hsame⟩ := X0.leave (v := some (.int (0 : Int32))) (fun h => by rw [Bd.returns] at h; cases h)
  refine ⟨_, _, retI X0 hx Bd.returns (hb hby dci3_0_25) hr, hrun, hended, _, _, rfl, ?_, ⟨_, rfl⟩, hW, hsame.mono (by decide) (by decide)⟩
  show Qci3_0 Z a1 a2 k1 k2 c0 c1 c2 h0 n0 _ s₁.heap _
  rw [e0]
  exact ⟨rfl, N0, (Keep.refl h0 [a2]), F1⟩
theorem dgc3_0_0 : decode jdk_52_method_5_code 0 = .ok (.getstatic 44, 3) := by decide +kernel
theorem dgc3_0_3 : decode jdk_52_method_5_code 3 = .ok (.ifCond .ne 25, 3) := by decide +kernel
theorem dgc3_0_28 : decode jdk_52_method_5_code 28 = .ok (.iload_n 1, 1) := by decide +kernel
theorem dgc3_0_29 : decode jdk_52_method_5_code 29 = .ok (.iconst 1, 1) := by decide +kernel
theorem dgc3_0_30 : decode jdk_52_method_5_code 30 = .ok (.ishl, 1) := by decide +kernel
theorem dgc3_0_31 : decode jdk_52_method_5_code 31 = .ok (.istore_n 1, 1) := by decide +kernel
theorem dgc3_0_32 : decode jdk_52_method_5_code 32 = .ok (.aload_n 0, 1) := by decide +kernel
theorem dgc3_0_33 : decode jdk_52_method_5_code 33 = .ok (.iload_n 1, 1) := by decide +kernel
theorem dgc3_0_34 : decode jdk_52_method_5_code 34 = .ok (.iinc 1 1, 3) := by decide +kernel
theorem dgc3_0_37 : decode jdk_52_method_5_code 37 = .ok (.baload, 1) := by decide +kernel
theorem dgc3_0_38 : decode jdk_52_method_5_code 38 = .ok (.sipush 255, 3) := by decide +kernel
theorem dgc3_0_41 : decode jdk_52_method_5_code 41 = .ok (.iand, 1) := by decide +kernel
theorem dgc3_0_42 : decode jdk_52_method_5_code 42 = .ok (.getstatic 59, 3) := by decide +kernel
theorem dgc3_0_45 : decode jdk_52_method_5_code 45 = .ok (.ishl, 1) := by decide +kernel
theorem dgc3_0_46 : decode jdk_52_method_5_code 46 = .ok (.aload_n 0, 1) := by decide +kernel
theorem dgc3_0_47 : decode jdk_52_method_5_code 47 = .ok (.iload_n 1, 1) := by decide +kernel
theorem dgc3_0_48 : decode jdk_52_method_5_code 48 = .ok (.baload, 1) := by decide +kernel
theorem dgc3_0_49 : decode jdk_52_method_5_code 49 = .ok (.sipush 255, 3) := by decide +kernel
theorem dgc3_0_52 : decode jdk_52_method_5_code 52 = .ok (.iand, 1) := by decide +kernel
theorem dgc3_0_53 : decode jdk_52_method_5_code 53 = .ok (.getstatic 63, 3) := by decide +kernel
theorem dgc3_0_56 : decode jdk_52_method_5_code 56 = .ok (.ishl, 1) := by decide +kernel
theorem dgc3_0_57 : decode jdk_52_method_5_code 57 = .ok (.ior, 1) := by decide +kernel
theorem dgc3_0_58 : decode jdk_52_method_5_code 58 = .ok (.i2c, 1) := by decide +kernel
theorem dgc3_0_59 : decode jdk_52_method_5_code 59 = .ok (.ireturn, 1) := by decide +kernel
theorem pn_gc3_0 : plainName "java/lang/StringUTF16" = true := by first | (simp [plainName, overriddenIn]; done) | decide +kernel
theorem ef_gc3_0 (m : MethodId) (x0 : Addr) (x1 : Int32) : entryFrame m #[(.ref x0), (.int x1)] 2 = mkF m 0 #[.val (.ref x0), .val (.int x1)] [] := by first | (simp [entryFrame, mkF, argsToLocals, Value.category]; done) | rfl
def Qgc3_0 (Z : State) (a1 : Addr) (k1 : ClassId) (c0 : Int32) (c1 : Int32) (c2 : Int32) (h0 : Heap) (n0 : Nat) (v : Option Value) (h : Heap) (L : List Loc) : Prop := v = some (.int c0) ∧ Fr n0 L ∧ h = h0
set_option maxRecDepth 65536 in
set_option maxHeartbeats 40000000 in
theorem rmgc3_0 (l : Launch) (Z : State) (a0 : Array Value) (hw : ∀ d ∈ tables_1, d.before a0 Z = true) (ws : List Jvm.Cond) (a1 : Addr) (k1 : ClassId) (c0 : Int32) (c1 : Int32) (c2 : Int32) (h0 : Heap) (n0 : Nat) (Z0 : n0 ≤ h0.size) (F0 : Old Z n0 h0) (F1 : Arv Z h0 a1 k1 .byte (6 : Int32) [.int ((c0 >>> ((0 : Int32) &&& 31)).toInt8.toInt32), .int ((c0 >>> ((8 : Int32) &&& 31)).toInt8.toInt32), .int ((c1 >>> ((0 : Int32) &&& 31)).toInt8.toInt32), .int ((c1 >>> ((8 : Int32) &&& 31)).toInt8.toInt32), .int ((c2 >>> ((0 : Int32) &&& 31)).toInt8.toInt32), .int ((c2 >>> ((8 : Int32) &&& 31)).toInt8.toInt32)] (.int 0)) (SH : Sta Z Z.heap "java/lang/StringUTF16" "HI_BYTE_SHIFT" "I" (.int (0 : Int32))) (SL : Sta Z Z.heap "java/lang/StringUTF16" "LO_BYTE_SHIFT" "I" (.int (8 : Int32))) (SA : Sta Z Z.heap "java/lang/StringUTF16" "$assertionsDisabled" "Z" (.int (1 : Int32))) (hw_c0 : own_W c0) :
    MetFree l (⟨"java/lang/StringUTF16", "getChar", "([BI)C"⟩ : MethodName) (head1 (Jvm.Cond.code (⟨"java/lang/StringUTF16", "getChar", "([BI)C"⟩ : MethodName) jdk_52_method_5_code 2 (some .char) :: ws) ({ frames := 0, cells := 0, slots := 0, locals := 0 } : Room)) (fun a U => a = #[(.ref a1), (.int (0 : Int32))] ∧ Z.Warmed39 U.vm ∧ U.heap = h0) (fun _ _ _ _ _ => True) (fun _ U o U' => ∃ v L, o = .returned v ∧ Qgc3_0 Z a1 k1 c0 c1 c2 h0 n0 v U'.heap L ∧ FrameEnd U o U' L ({ frames := 0, cells := 0, slots := 0, locals := 0 } : Room).cells ({ frames := 0, cells := 0, slots := 0, locals := 0 } : Room).slots) := by
  refine MetFree.of_bodySF (plainFor_of_name pn_gc3_0) hisR ?_
  intro p e s m args below meth c s₁ Bd hml0 hP hK
  obtain ⟨rfl, hZ, hh⟩ := hP
  have hx := Bd.exec
  have hby := Bd.bytes
  have hml : c.maxLocals = 2 := hml0
  have hown : s.vm.findClass "java/lang/StringUTF16" = some m.cls := findClass_of_methodNamed Bd.named
  have hnm := (name_of_methodNamed Bd.named Bd.method).1
  have X0 : Stand p l e ({ frames := 0, cells := 0, slots := 0, locals := 0 } : Room) s m #[(.ref a1), (.int (0 : Int32))] below meth c s₁ [] 0 0 := Stand.of_body Bd
  have e0 : s₁.heap = h0 := by rw [← hh, Bd.state]; rfl
  have N0 := Fr.nil n0
  show own_R p.tables e below (own_P s (Qgc3_0 Z a1 k1 c0 c1 c2 h0 n0) ({ frames := 0, cells := 0, slots := 0, locals := 0 } : Room).cells ({ frames := 0, cells := 0, slots := 0, locals := 0 } : Room).slots) (s₁.setTop (entryFrame m #[(.ref a1), (.int (0 : Int32))] 2))
  refine own_f s₁ (mkF m 0 #[.val (.ref a1), .val (.int (0 : Int32))] []) (fun t k => castTop (ef_gc3_0 m a1 (0 : Int32)) k) ?_
  have S1 : Sta Z h0 "java/lang/StringUTF16" "$assertionsDisabled" "Z" (.int (1 : Int32)) := SA.ext F0.2
  obtain ⟨T1, X1, e1, st1⟩ := getS X0 hx hZ (host := "") hown (own_w hw 86 rfl) Via.refl e0 S1 (g := (mkF m 0 #[.val (.ref a1), .val (.int (0 : Int32))] [])) rfl (hb hby dgc3_0_0)
  refine own_f T1 (mkF m 3 #[.val (.ref a1), .val (.int (0 : Int32))] [(.int (1 : Int32))]) st1 ?_
  refine own_f T1 (mkF m 28 #[.val (.ref a1), .val (.int (0 : Int32))] []) (fun t k => XS.ifYes X1.here hx rfl (pc0 := 3) (pc' := 28) rfl (hb hby dgc3_0_3) rfl (XT.i0_ne_t (by decide)) (by decide) (by decide) k) ?_
  refine own_step (fun t k => XS.iloadN X1.here hx rfl (hb hby dgc3_0_28) rfl k) ?_
  refine own_step (fun t k => XT.iconstV X1.here hx rfl (1 : Int32) (hb hby dgc3_0_29) (by decide) k) ?_
  refine own_f T1 (mkF m 31 #[.val (.ref a1), .val (.int (0 : Int32))] [(.int ((0 : Int32) <<< ((1 : Int32) &&& 31)))]) (fun t k => XS.ishl X1.here hx rfl (hb hby dgc3_0_30) rfl k) ?_
  rw [show ((0 : Int32) <<< ((1 : Int32) &&& 31)) = (0 : Int32) from by decide]
  refine own_f T1 (mkF m 32 #[.val (.ref a1), .val (.int (0 : Int32))] []) (fun t k => XS.istoreN X1.here hx rfl (hb hby dgc3_0_31) rfl (l' := #[.val (.ref a1), .val (.int (0 : Int32))]) rfl k) ?_
  refine own_step (fun t k => XS.aloadN X1.here hx rfl (hb hby dgc3_0_32) rfl rfl k) ?_
  refine own_f T1 (mkF m 34 #[.val (.ref a1), .val (.int (0 : Int32))] [(.int (0 : Int32)), (.ref a1)]) (fun t k => XS.iloadN X1.here hx rfl (hb hby dgc3_0_33) rfl k) ?_
  refine own_f T1 (mkF m 37 #[.val (.ref a1), .val (.int ((0 : Int32) + (1 : Int32)))] [(.int (0 : Int32)), (.ref a1)]) (fun t k => XT.iincV X1.here hx rfl (l' := #[.val (.ref a1), .val (.int ((0 : Int32) + (1 : Int32)))]) (1 : Int32) (hb hby dgc3_0_34) (by decide) rfl rfl k) ?_
  rw [show ((0 : Int32) + (1 : Int32)) = (1 : Int32) from by decide]
  obtain ⟨cl2, Ar2, q12, Sz2, q32, Hs2, Gs2⟩ := id F1
  have hi2 := inb_of (j := (0 : Int32)) Sz2 ⟨by decide, by decide⟩
  refine own_f T1 (mkF m 38 #[.val (.ref a1), .val (.int (1 : Int32))] [(.int ((c0 >>> ((0 : Int32) &&& 31)).toInt8.toInt32))]) (fun t k => X1.baloadBytes hx (j := (0 : Int32)) (v := (.int ((c0 >>> ((0 : Int32) &&& 31)).toInt8.toInt32))) (by rw [e1]; exact Ar2.1) (State.isArrayOf_alike hZ.alike Ar2.2.1) Ar2.2.2 hi2 (Has.at Hs2 hi2 rfl) (g := (mkF m 37 #[.val (.ref a1), .val (.int (1 : Int32))] [(.int (0 : Int32)), (.ref a1)])) rfl rfl (hb hby dgc3_0_37) t k) ?_
  refine own_step (fun t k => XT.sipushV X1.here hx rfl (255 : Int32) (hb hby dgc3_0_38) (by decide) k) ?_
  refine own_f T1 (mkF m 42 #[.val (.ref a1), .val (.int (1 : Int32))] [(.int (((c0 >>> ((0 : Int32) &&& 31)).toInt8.toInt32) &&& (255 : Int32)))]) (fun t k => XS.iand X1.here hx rfl (hb hby dgc3_0_41) rfl k) ?_
  have S3 : Sta Z h0 "java/lang/StringUTF16" "HI_BYTE_SHIFT" "I" (.int (0 : Int32)) := SH.ext F0.2
  obtain ⟨T3, X3, e3, st3⟩ := getS X1 hx hZ (host := "") hown (own_w hw 87 rfl) Via.refl e1 S3 (g := (mkF m 42 #[.val (.ref a1), .val (.int (1 : Int32))] [(.int (((c0 >>> ((0 : Int32) &&& 31)).toInt8.toInt32) &&& (255 : Int32)))])) rfl (hb hby dgc3_0_42)
  refine own_f T3 (mkF m 45 #[.val (.ref a1), .val (.int (1 : Int32))] [(.int (0 : Int32)), (.int (((c0 >>> ((0 : Int32) &&& 31)).toInt8.toInt32) &&& (255 : Int32)))]) st3 ?_
  refine own_f T3 (mkF m 46 #[.val (.ref a1), .val (.int (1 : Int32))] [(.int ((((c0 >>> ((0 : Int32) &&& 31)).toInt8.toInt32) &&& (255 : Int32)) <<< ((0 : Int32) &&& 31)))]) (fun t k => XS.ishl X3.here hx rfl (hb hby dgc3_0_45) rfl k) ?_
  refine own_step (fun t k => XS.aloadN X3.here hx rfl (hb hby dgc3_0_46) rfl rfl k) ?_
  refine own_f T3 (mkF m 48 #[.val (.ref a1), .val (.int (1 : Int32))] [(.int (1 : Int32)), (.ref a1), (.int ((((c0 >>> ((0 : Int32) &&& 31)).toInt8.toInt32) &&& (255 : Int32)) <<< ((0 : Int32) &&& 31)))]) (fun t k => XS.iloadN X3.here hx rfl (hb hby dgc3_0_47) rfl k) ?_
  obtain ⟨cl4, Ar4, q14, Sz4, q34, Hs4, Gs4⟩ := id F1
  have hi4 := inb_of (j := (1 : Int32)) Sz4 ⟨by decide, by decide⟩
  refine own_f T3 (mkF m 49 #[.val (.ref a1), .val (.int (1 : Int32))] [(.int ((c0 >>> ((8 : Int32) &&& 31)).toInt8.toInt32)), (.int ((((c0 >>> ((0 : Int32) &&& 31)).toInt8.toInt32) &&& (255 : Int32)) <<< ((0 : Int32) &&& 31)))]) (fun t k => X3.baloadBytes hx (j := (1 : Int32)) (v := (.int ((c0 >>> ((8 : Int32) &&& 31)).toInt8.toInt32))) (by rw [e3]; exact Ar4.1) (State.isArrayOf_alike hZ.alike Ar4.2.1) Ar4.2.2 hi4 (Has.at Hs4 hi4 rfl) (g := (mkF m 48 #[.val (.ref a1), .val (.int (1 : Int32))] [(.int (1 : Int32)), (.ref a1), (.int ((((c0 >>> ((0 : Int32) &&& 31)).toInt8.toInt32) &&& (255 : Int32)) <<< ((0 : Int32) &&& 31)))])) rfl rfl (hb hby dgc3_0_48) t k) ?_
  refine own_step (fun t k => XT.sipushV X3.here hx rfl (255 : Int32) (hb hby dgc3_0_49) (by decide) k) ?_
  refine own_f T3 (mkF m 53 #[.val (.ref a1), .val (.int (1 : Int32))] [(.int (((c0 >>> ((8 : Int32) &&& 31)).toInt8.toInt32) &&& (255 : Int32))), (.int ((((c0 >>> ((0 : Int32) &&& 31)).toInt8.toInt32) &&& (255 : Int32)) <<< ((0 : Int32) &&& 31)))]) (fun t k => XS.iand X3.here hx rfl (hb hby dgc3_0_52) rfl k) ?_
  have S5 : Sta Z h0 "java/lang/StringUTF16" "LO_BYTE_SHIFT" "I" (.int (8 : Int32)) := SL.ext F0.2
  obtain ⟨T5, X5, e5, st5⟩ := getS X3 hx hZ (host := "") hown (own_w hw 88 rfl) Via.refl e3 S5 (g := (mkF m 53 #[.val (.ref a1), .val (.int (1 : Int32))] [(.int (((c0 >>> ((8 : Int32) &&& 31)).toInt8.toInt32) &&& (255 : Int32))), (.int ((((c0 >>> ((0 : Int32) &&& 31)).toInt8.toInt32) &&& (255 : Int32)) <<< ((0 : Int32) &&& 31)))])) rfl (hb hby dgc3_0_53)
  refine own_f T5 (mkF m 56 #[.val (.ref a1), .val (.int (1 : Int32))] [(.int (8 : Int32)), (.int (((c0 >>> ((8 : Int32) &&& 31)).toInt8.toInt32) &&& (255 : Int32))), (.int ((((c0 >>> ((0 : Int32) &&& 31)).toInt8.toInt32) &&& (255 : Int32)) <<< ((0 : Int32) &&& 31)))]) st5 ?_
  refine own_f T5 (mkF m 57 #[.val (.ref a1), .val (.int (1 : Int32))] [(.int ((((c0 >>> ((8 : Int32) &&& 31)).toInt8.toInt32) &&& (255 : Int32)) <<< ((8 : Int32) &&& 31))), (.int ((((c0 >>> ((0 : Int32) &&& 31)).toInt8.toInt32) &&& (255 : Int32)) <<< ((0 : Int32) &&& 31)))]) (fun t k => XS.ishl X5.here hx rfl (hb hby dgc3_0_56) rfl k) ?_
  refine own_f T5 (mkF m 58 #[.val (.ref a1), .val (.int (1 : Int32))] [(.int (((((c0 >>> ((0 : Int32) &&& 31)).toInt8.toInt32) &&& (255 : Int32)) <<< ((0 : Int32) &&& 31)) ||| ((((c0 >>> ((8 : Int32) &&& 31)).toInt8.toInt32) &&& (255 : Int32)) <<< ((8 : Int32) &&& 31))))]) (fun t k => XS.ior X5.here hx rfl (hb hby dgc3_0_57) rfl k) ?_
  refine own_f T5 (mkF m 59 #[.val (.ref a1), .val (.int (1 : Int32))] [(.int ((((((c0 >>> ((0 : Int32) &&& 31)).toInt8.toInt32) &&& (255 : Int32)) <<< ((0 : Int32) &&& 31)) ||| ((((c0 >>> ((8 : Int32) &&& 31)).toInt8.toInt32) &&& (255 : Int32)) <<< ((8 : Int32) &&& 31))).toUInt32.toUInt16.toUInt32.toInt32))]) (fun t k => XS.i2c X5.here hx rfl (hb hby dgc3_0_58) rfl k) ?_
  obtain ⟨fs, hr, hrun, hended, hW, hsame⟩ := X5.leave (v := some (.int ((((((c0 >>> ((0 : Int32) &&& 31)).toInt8.toInt32) &&& (255 : Int32)) <<< ((0 : Int32) &&& 31)) ||| ((((c0 >>> ((8 : Int32) &&& 31)).toInt8.toInt32) &&& (255 : Int32)) <<< ((8 : Int32) &&& 31))).toUInt32.toUInt16.toUInt32.toInt32))) (fun h => by rw [Bd.returns] at h; cases h)
  refine ⟨_, _, own_retB X5 hx (t := .char) Bd.returns (by simp) (own_narC _) (hb hby dgc3_0_59) hr, hrun, hended, _, _, rfl, ?_, ⟨_, rfl⟩, hW, hsame.mono (by decide) (by decide)⟩
  show Qgc3_0 Z a1 k1 c0 c1 c2 h0 n0 _ T5.heap _
  rw [e5]
  exact ⟨by rw [own_gc hw_c0], N0, rfl⟩
theorem dcb3_0_0 : decode jdk_52_method_16_code 0 = .ok (.iload_n 2, 1) := by decide +kernel
theorem dcb3_0_1 : decode jdk_52_method_16_code 1 = .ok (.newarray .byte, 2) := by decide +kernel
theorem dcb3_0_3 : decode jdk_52_method_16_code 3 = .ok (.astore_n 3, 1) := by decide +kernel
theorem dcb3_0_4 : decode jdk_52_method_16_code 4 = .ok (.aload_n 0, 1) := by decide +kernel
theorem dcb3_0_5 : decode jdk_52_method_16_code 5 = .ok (.iload_n 1, 1) := by decide +kernel
theorem dcb3_0_6 : decode jdk_52_method_16_code 6 = .ok (.aload_n 3, 1) := by decide +kernel
theorem dcb3_0_7 : decode jdk_52_method_16_code 7 = .ok (.iconst 0, 1) := by decide +kernel
theorem dcb3_0_8 : decode jdk_52_method_16_code 8 = .ok (.iload_n 2, 1) := by decide +kernel
theorem dcb3_0_9 : decode jdk_52_method_16_code 9 = .ok (.invokestatic 115, 3) := by decide +kernel
theorem dcb3_0_12 : decode jdk_52_method_16_code 12 = .ok (.istore 4, 2) := by decide +kernel
theorem dcb3_0_14 : decode jdk_52_method_16_code 14 = .ok (.iload 4, 2) := by decide +kernel
theorem dcb3_0_16 : decode jdk_52_method_16_code 16 = .ok (.iload_n 2, 1) := by decide +kernel
theorem dcb3_0_17 : decode jdk_52_method_16_code 17 = .ok (.if_icmp .eq 40, 3) := by decide +kernel
theorem dcb3_0_20 : decode jdk_52_method_16_code 20 = .ok (.aload_n 0, 1) := by decide +kernel
theorem dcb3_0_21 : decode jdk_52_method_16_code 21 = .ok (.iload_n 1, 1) := by decide +kernel
theorem dcb3_0_22 : decode jdk_52_method_16_code 22 = .ok (.iload_n 2, 1) := by decide +kernel
theorem dcb3_0_23 : decode jdk_52_method_16_code 23 = .ok (.invokestatic 119, 3) := by decide +kernel
theorem dcb3_0_26 : decode jdk_52_method_16_code 26 = .ok (.astore 5, 2) := by decide +kernel
theorem dcb3_0_28 : decode jdk_52_method_16_code 28 = .ok (.aload 5, 2) := by decide +kernel
theorem dcb3_0_30 : decode jdk_52_method_16_code 30 = .ok (.iload 4, 2) := by decide +kernel
theorem dcb3_0_32 : decode jdk_52_method_16_code 32 = .ok (.invokestatic 71, 3) := by decide +kernel
theorem dcb3_0_35 : decode jdk_52_method_16_code 35 = .ok (.sipush 255, 3) := by decide +kernel
theorem dcb3_0_38 : decode jdk_52_method_16_code 38 = .ok (.if_icmp .gt 16, 3) := by decide +kernel
theorem dcb3_0_54 : decode jdk_52_method_16_code 54 = .ok (.aload 5, 2) := by decide +kernel
theorem dcb3_0_56 : decode jdk_52_method_16_code 56 = .ok (.areturn, 1) := by decide +kernel
theorem pn_cb3_0 : plainName "java/lang/StringUTF16" = true := by first | (simp [plainName, overriddenIn]; done) | decide +kernel
theorem ef_cb3_0 (m : MethodId) (x0 : Addr) (x1 : Int32) (x2 : Int32) : entryFrame m #[(.ref x0), (.int x1), (.int x2)] 6 = mkF m 0 #[.val (.ref x0), .val (.int x1), .val (.int x2), .unset, .unset, .unset] [] := by first | (simp [entryFrame, mkF, argsToLocals, Value.category]; done) | rfl
def Qcb3_0 (Z : State) (a1 : Addr) (k1 : ClassId) (c0 : Int32) (c1 : Int32) (c2 : Int32) (h0 : Heap) (n0 : Nat) (v : Option Value) (h : Heap) (L : List Loc) : Prop := ∃ (b : Addr) (kb : ClassId), v = some (.ref b) ∧ Fr n0 L ∧ Keep h0 h [] ∧ Arv Z h b kb .byte (6 : Int32) [.int ((c0 >>> ((0 : Int32) &&& 31)).toInt8.toInt32), .int ((c0 >>> ((8 : Int32) &&& 31)).toInt8.toInt32), .int ((c1 >>> ((0 : Int32) &&& 31)).toInt8.toInt32), .int ((c1 >>> ((8 : Int32) &&& 31)).toInt8.toInt32), .int ((c2 >>> ((0 : Int32) &&& 31)).toInt8.toInt32), .int ((c2 >>> ((8 : Int32) &&& 31)).toInt8.toInt32)] (.int 0) ∧ h0.size ≤ b
set_option maxRecDepth 65536 in
set_option maxHeartbeats 40000000 in
theorem rmcb3_0 (l : Launch) (Z : State) (a0 : Array Value) (hw : ∀ d ∈ tables_1, d.before a0 Z = true) (ws : List Jvm.Cond) (a1 : Addr) (k1 : ClassId) (c0 : Int32) (c1 : Int32) (c2 : Int32) (h0 : Heap) (n0 : Nat) (Z0 : n0 ≤ h0.size) (F0 : Old Z n0 h0) (F1 : Arv Z h0 a1 k1 .char (3 : Int32) [.int c0, .int c1, .int c2] (.int 0)) (hc_c0 : (255 : Int32) < c0) (SH : Sta Z Z.heap "java/lang/StringUTF16" "HI_BYTE_SHIFT" "I" (.int (0 : Int32))) (SL : Sta Z Z.heap "java/lang/StringUTF16" "LO_BYTE_SHIFT" "I" (.int (8 : Int32))) (SA : Sta Z Z.heap "java/lang/StringUTF16" "$assertionsDisabled" "Z" (.int (1 : Int32))) (hw_c0 : own_W c0) :
    MetFree l (⟨"java/lang/StringUTF16", "compress", "([CII)[B"⟩ : MethodName) (head1 (Jvm.Cond.code (⟨"java/lang/StringUTF16", "compress", "([CII)[B"⟩ : MethodName) jdk_52_method_16_code 6 (some (.array .byte)) :: ws) ({ frames := 3, cells := 2, slots := 9, locals := 40 } : Room)) (fun a U => a = #[(.ref a1), (.int (0 : Int32)), (.int (3 : Int32))] ∧ Z.Warmed39 U.vm ∧ U.heap = h0) (fun _ _ _ _ _ => True) (fun _ U o U' => ∃ v L, o = .returned v ∧ Qcb3_0 Z a1 k1 c0 c1 c2 h0 n0 v U'.heap L ∧ FrameEnd U o U' L ({ frames := 3, cells := 2, slots := 9, locals := 40 } : Room).cells ({ frames := 3, cells := 2, slots := 9, locals := 40 } : Room).slots) := by
  refine MetFree.of_bodySF (plainFor_of_name pn_cb3_0) hisR ?_
  intro p e s m args below meth c s₁ Bd hml0 hP hK
  obtain ⟨rfl, hZ, hh⟩ := hP
  have hx := Bd.exec
  have hby := Bd.bytes
  have hml : c.maxLocals = 6 := hml0
  have hown : s.vm.findClass "java/lang/StringUTF16" = some m.cls := findClass_of_methodNamed Bd.named
  have hnm := (name_of_methodNamed Bd.named Bd.method).1
  have X0 : Stand p l e ({ frames := 3, cells := 2, slots := 9, locals := 40 } : Room) s m #[(.ref a1), (.int (0 : Int32)), (.int (3 : Int32))] below meth c s₁ [] 0 0 := Stand.of_body Bd
  have e0 : s₁.heap = h0 := by rw [← hh, Bd.state]; rfl
  have N0 := Fr.nil n0
  show own_R p.tables e below (own_P s (Qcb3_0 Z a1 k1 c0 c1 c2 h0 n0) ({ frames := 3, cells := 2, slots := 9, locals := 40 } : Room).cells ({ frames := 3, cells := 2, slots := 9, locals := 40 } : Room).slots) (s₁.setTop (entryFrame m #[(.ref a1), (.int (0 : Int32)), (.int (3 : Int32))] 6))
  refine own_f s₁ (mkF m 0 #[.val (.ref a1), .val (.int (0 : Int32)), .val (.int (3 : Int32)), .unset, .unset, .unset] []) (fun t k => castTop (ef_cb3_0 m a1 (0 : Int32) (3 : Int32)) k) ?_
  refine own_f s₁ (mkF m 1 #[.val (.ref a1), .val (.int (0 : Int32)), .val (.int (3 : Int32)), .unset, .unset, .unset] [(.int (3 : Int32))]) (fun t k => XS.iloadN X0.here hx rfl (hb hby dcb3_0_0) rfl k) ?_
  obtain ⟨T1, h1, kA1, X1, e1, E1, A1, st1⟩ := newP X0 hx hZ (own_w hw 21 rfl) e0 (g := (mkF m 1 #[.val (.ref a1), .val (.int (0 : Int32)), .val (.int (3 : Int32)), .unset, .unset, .unset] [(.int (3 : Int32))])) rfl (hb hby dcb3_0_1) rfl (by decide) (cap := 3) (by decide) (by decide) (by decide) (by decide)
  obtain ⟨b1, g1⟩ : ∃ z, z = h0.size := ⟨_, rfl⟩
  rw [← g1] at A1 st1
  have ne1_a1 : a1 ≠ b1 := by rw [g1]; exact Nat.ne_of_lt F1.lt
  have ge1 : n0 ≤ b1 := by rw [g1]; exact Z0
  have gf1 : h0.size ≤ b1 := by rw [g1]; exact (Keep.refl h0 []).1
  have Zs1 : n0 ≤ h1.size := Nat.le_trans Z0 E1.1
  have F_2 := F0.ext E1
  have F_3 := F1.ext E1
  have K1 : Keep h0 h1 [] := (Keep.refl h0 []).ext E1
  have F_4 : Arv Z h1 b1 kA1 .byte (3 : Int32) [.int 0, .int 0, .int 0] (.int 0) := own_arvnew 3 A1 (by decide)
  refine own_f T1 (mkF m 3 #[.val (.ref a1), .val (.int (0 : Int32)), .val (.int (3 : Int32)), .unset, .unset, .unset] [(.ref b1)]) st1 ?_
  refine own_f T1 (mkF m 4 #[.val (.ref a1), .val (.int (0 : Int32)), .val (.int (3 : Int32)), .val (.ref b1), .unset, .unset] []) (fun t k => XS.astoreN X1.here hx rfl (hb hby dcb3_0_3) rfl rfl (l' := #[.val (.ref a1), .val (.int (0 : Int32)), .val (.int (3 : Int32)), .val (.ref b1), .unset, .unset]) rfl k) ?_
  refine own_step (fun t k => XS.aloadN X1.here hx rfl (hb hby dcb3_0_4) rfl rfl k) ?_
  refine own_step (fun t k => XS.iloadN X1.here hx rfl (hb hby dcb3_0_5) rfl k) ?_
  refine own_step (fun t k => XS.aloadN X1.here hx rfl (hb hby dcb3_0_6) rfl rfl k) ?_
  refine own_step (fun t k => XT.iconstV X1.here hx rfl (0 : Int32) (hb hby dcb3_0_7) (by decide) k) ?_
  refine own_f T1 (mkF m 9 #[.val (.ref a1), .val (.int (0 : Int32)), .val (.int (3 : Int32)), .val (.ref b1), .unset, .unset] [(.int (3 : Int32)), (.int (0 : Int32)), (.ref b1), (.int (0 : Int32)), (.ref a1)]) (fun t k => XS.iloadN X1.here hx rfl (hb hby dcb3_0_8) rfl k) ?_
  obtain ⟨_, _, ⟨T5, Lq5, kq_5, nq_5⟩, -, X5, ⟨Lc5, hQ5, lq5, yq5, zq5⟩, st5⟩ := Jvm.LawKit.callS X1 hx (y := (⟨"java/lang/StringUTF16", "compress", "([CI[BII)I"⟩ : MethodName)) hown (mvT hZ (own_w hw 22 rfl)) (mvT hZ (own_w hw 23 rfl)) (mvT hZ (own_w hw 19 rfl)) (mvT hZ (own_w hw 24 rfl)) (by decide) (backOf (W := 0) (rmci3_0 l Z a0 hw [] a1 b1 _ _ _ _ _ h1 n0 Zs1 F_3 F_4 ge1 ne1_a1 hc_c0) hZ (own_w hw 24 rfl) (own_w hw 19 rfl) (by decide) (by decide)) (g := (mkF m 9 #[.val (.ref a1), .val (.int (0 : Int32)), .val (.int (3 : Int32)), .val (.ref b1), .unset, .unset] [(.int (3 : Int32)), (.int (0 : Int32)), (.ref b1), (.int (0 : Int32)), (.ref a1)])) rfl (by rw [hml]; rfl) (argsL := [(.ref a1), (.int (0 : Int32)), (.ref b1), (.int (0 : Int32)), (.int (3 : Int32))]) (rest := []) (lenOf pd__CI_BII_I rfl) rfl (by show 2 * 0 + _ ≤ _; exact Nat.le_of_eq rfl) (hb hby dcb3_0_9) (fun _ _ => ⟨rfl, e1, (by decide : 0 + 1 + 0 ≤ _), (by decide : 0 + 3 + 0 ≤ _)⟩)
  dsimp only [Pt.U, Pt.locs, Pt.cells, Pt.slots] at X5 lq5 yq5 zq5 st5 hQ5
  subst lq5 yq5 zq5
  obtain ⟨h5, e5⟩ : ∃ z, T5.heap = z := ⟨_, rfl⟩
  rw [e5] at hQ5
  unfold Qci3_0 at hQ5
  obtain ⟨rfl, Nq5, qh5, G5_0⟩ := hQ5
  have N5 := Fr.app N0 Nq5
  have Zs5 : n0 ≤ h5.size := Nat.le_trans Zs1 qh5.1
  have F_6 := F_2.keep qh5 (allS ge1 all0)
  have F_7 := F_3.keep qh5 (ninS ne1_a1 nin0)
  have K5 : Keep h0 h5 [] := K1.trans qh5 (allS (Or.inr gf1) all0)
  refine own_f T5 (mkF m 12 #[.val (.ref a1), .val (.int (0 : Int32)), .val (.int (3 : Int32)), .val (.ref b1), .unset, .unset] [(.int (0 : Int32))]) st5 ?_
  refine own_f T5 (mkF m 14 #[.val (.ref a1), .val (.int (0 : Int32)), .val (.int (3 : Int32)), .val (.ref b1), .val (.int (0 : Int32)), .unset] []) (fun t k => XS.istore X5.here hx rfl (hb hby dcb3_0_12) rfl (l' := #[.val (.ref a1), .val (.int (0 : Int32)), .val (.int (3 : Int32)), .val (.ref b1), .val (.int (0 : Int32)), .unset]) rfl k) ?_
  refine own_step (fun t k => XS.iload X5.here hx rfl (hb hby dcb3_0_14) rfl k) ?_
  refine own_step (fun t k => XS.iloadN X5.here hx rfl (hb hby dcb3_0_16) rfl k) ?_
  refine own_f T5 (mkF m 20 #[.val (.ref a1), .val (.int (0 : Int32)), .val (.int (3 : Int32)), .val (.ref b1), .val (.int (0 : Int32)), .unset] []) (fun t k => XS.icmpNo X5.here hx rfl (hb hby dcb3_0_17) rfl (XT.ii_eq_f (by decide)) k) ?_
  refine own_step (fun t k => XS.aloadN X5.here hx rfl (hb hby dcb3_0_20) rfl rfl k) ?_
  refine own_step (fun t k => XS.iloadN X5.here hx rfl (hb hby dcb3_0_21) rfl k) ?_
  refine own_f T5 (mkF m 23 #[.val (.ref a1), .val (.int (0 : Int32)), .val (.int (3 : Int32)), .val (.ref b1), .val (.int (0 : Int32)), .unset] [(.int (3 : Int32)), (.int (0 : Int32)), (.ref a1)]) (fun t k => XS.iloadN X5.here hx rfl (hb hby dcb3_0_22) rfl k) ?_
  obtain ⟨_, _, ⟨T8, Lq8, kq_8, nq_8⟩, -, X8, ⟨Lc8, hQ8, lq8, yq8, zq8⟩, st8⟩ := Jvm.LawKit.callS X5 hx (y := (⟨"java/lang/StringUTF16", "toBytes", "([CII)[B"⟩ : MethodName)) hown (mvT hZ (own_w hw 73 rfl)) (mvT hZ (own_w hw 74 rfl)) (mvT hZ (own_w hw 19 rfl)) (mvT hZ (own_w hw 75 rfl)) (by decide) (backOf (W := 0) (rmtb3 l Z a0 hw [] a1 _ _ _ _ h5 n0 Zs5 F_6 F_7 SH SL SA) hZ (own_w hw 75 rfl) (own_w hw 19 rfl) (by decide) (by decide)) (g := (mkF m 23 #[.val (.ref a1), .val (.int (0 : Int32)), .val (.int (3 : Int32)), .val (.ref b1), .val (.int (0 : Int32)), .unset] [(.int (3 : Int32)), (.int (0 : Int32)), (.ref a1)])) rfl (by rw [hml]; rfl) (argsL := [(.ref a1), (.int (0 : Int32)), (.int (3 : Int32))]) (rest := []) (lenOf pd__CII_B rfl) rfl (by show 2 * 0 + _ ≤ _; exact Nat.le_of_eq rfl) (hb hby dcb3_0_23) (fun _ _ => ⟨rfl, e5, (by decide : 0 + 1 + 0 + 1 ≤ _), (by decide : 0 + 3 + 0 + 6 ≤ _)⟩)
  dsimp only [Pt.U, Pt.locs, Pt.cells, Pt.slots] at X8 lq8 yq8 zq8 st8 hQ8
  subst lq8 yq8 zq8
  obtain ⟨h8, e8⟩ : ∃ z, T8.heap = z := ⟨_, rfl⟩
  rw [e8] at hQ8
  unfold Qtb3 at hQ8
  obtain ⟨b8, kb8, rfl, Nq8, qh8, G8_0, H8_0⟩ := hQ8
  have N8 := Fr.app N5 Nq8
  have Zs8 : n0 ≤ h8.size := Nat.le_trans Zs5 qh8.1
  have F_9 := F_6.keep qh8 all0
  have F_10 := F_7.keep qh8 nin0
  have F_11 := G5_0.keep qh8 nin0
  have K8 : Keep h0 h8 [] := K5.trans qh8 all0
  have ne8_a1 : a1 ≠ b8 := Nat.ne_of_lt (Nat.lt_of_lt_of_le F_7.lt H8_0)
  have ne8_b1 : b1 ≠ b8 := Nat.ne_of_lt (Nat.lt_of_lt_of_le G5_0.lt H8_0)
  have ge8 : n0 ≤ b8 := Nat.le_trans Zs5 H8_0
  have gf8 : h0.size ≤ b8 := Nat.le_trans K5.1 H8_0
  refine own_f T8 (mkF m 26 #[.val (.ref a1), .val (.int (0 : Int32)), .val (.int (3 : Int32)), .val (.ref b1), .val (.int (0 : Int32)), .unset] [(.ref b8)]) st8 ?_
  refine own_f T8 (mkF m 28 #[.val (.ref a1), .val (.int (0 : Int32)), .val (.int (3 : Int32)), .val (.ref b1), .val (.int (0 : Int32)), .val (.ref b8)] []) (fun t k => XS.astore X8.here hx rfl (hb hby dcb3_0_26) rfl rfl (l' := #[.val (.ref a1), .val (.int (0 : Int32)), .val (.int (3 : Int32)), .val (.ref b1), .val (.int (0 : Int32)), .val (.ref b8)]) rfl k) ?_
  refine own_step (fun t k => XS.aload X8.here hx rfl (hb hby dcb3_0_28) rfl rfl k) ?_
  refine own_f T8 (mkF m 32 #[.val (.ref a1), .val (.int (0 : Int32)), .val (.int (3 : Int32)), .val (.ref b1), .val (.int (0 : Int32)), .val (.ref b8)] [(.int (0 : Int32)), (.ref b8)]) (fun t k => XS.iload X8.here hx rfl (hb hby dcb3_0_30) rfl k) ?_
  obtain ⟨_, _, ⟨T12, Lq12, kq_12, nq_12⟩, -, X12, ⟨Lc12, hQ12, lq12, yq12, zq12⟩, st12⟩ := Jvm.LawKit.callS X8 hx (y := (⟨"java/lang/StringUTF16", "getChar", "([BI)C"⟩ : MethodName)) hown (mvT hZ (own_w hw 89 rfl)) (mvT hZ (own_w hw 90 rfl)) (mvT hZ (own_w hw 19 rfl)) (mvT hZ (own_w hw 91 rfl)) (by decide) (backOf (W := 0) (rmgc3_0 l Z a0 hw [] b8 _ _ _ _ h8 n0 Zs8 F_9 G8_0 SH SL SA hw_c0) hZ (own_w hw 91 rfl) (own_w hw 19 rfl) (by decide) (by decide)) (g := (mkF m 32 #[.val (.ref a1), .val (.int (0 : Int32)), .val (.int (3 : Int32)), .val (.ref b1), .val (.int (0 : Int32)), .val (.ref b8)] [(.int (0 : Int32)), (.ref b8)])) rfl (by rw [hml]; rfl) (argsL := [(.ref b8), (.int (0 : Int32))]) (rest := []) (lenOf pd__BI_C rfl) rfl (by show 2 * 0 + _ ≤ _; exact Nat.le_of_eq rfl) (hb hby dcb3_0_32) (fun _ _ => ⟨rfl, e8, (by decide : 0 + 1 + 0 + 1 + 0 ≤ _), (by decide : 0 + 3 + 0 + 6 + 0 ≤ _)⟩)
  dsimp only [Pt.U, Pt.locs, Pt.cells, Pt.slots] at X12 lq12 yq12 zq12 st12 hQ12
  subst lq12 yq12 zq12
  obtain ⟨h12, e12⟩ : ∃ z, T12.heap = z := ⟨_, rfl⟩
  rw [e12] at hQ12
  unfold Qgc3_0 at hQ12
  obtain ⟨rfl, Nq12, qh12⟩ := hQ12
  have N12 := Fr.app N8 Nq12
  rw [qh12] at e12
  refine own_f T12 (mkF m 35 #[.val (.ref a1), .val (.int (0 : Int32)), .val (.int (3 : Int32)), .val (.ref b1), .val (.int (0 : Int32)), .val (.ref b8)] [(.int c0)]) st12 ?_
  refine own_step (fun t k => XT.sipushV X12.here hx rfl (255 : Int32) (hb hby dcb3_0_35) (by decide) k) ?_
  refine own_f T12 (mkF m 54 #[.val (.ref a1), .val (.int (0 : Int32)), .val (.int (3 : Int32)), .val (.ref b1), .val (.int (0 : Int32)), .val (.ref b8)] []) (fun t k => XS.icmpYes X12.here hx rfl (pc0 := 38) (pc' := 54) rfl (hb hby dcb3_0_38) rfl (XT.ii_gt_t hc_c0) (by decide) (by decide) k) ?_
  refine own_f T12 (mkF m 56 #[.val (.ref a1), .val (.int (0 : Int32)), .val (.int (3 : Int32)), .val (.ref b1), .val (.int (0 : Int32)), .val (.ref b8)] [(.ref b8)]) (fun t k => XS.aload X12.here hx rfl (hb hby dcb3_0_54) rfl rfl k) ?_
  obtain ⟨fs, hr, hrun, hended, hW, hsame⟩ := X12.leave (v := some (.ref b8)) (fun h => by rw [Bd.returns] at h; cases h)
  refine ⟨_, _, retOut X12 hx Bd.returns (by rfl) (Or.inr (Or.inr (Or.inr (Or.inr ⟨rfl, rfl, rfl⟩)))) (hb hby dcb3_0_56) hr, hrun, hended, _, _, rfl, ?_, ⟨_, rfl⟩, hW, hsame.mono (by decide) (by decide)⟩
  show Qcb3_0 Z a1 k1 c0 c1 c2 h0 n0 _ T12.heap _
  rw [e12]
  exact ⟨b8, kb8, rfl, N12, K8, G8_0, gf8⟩
theorem ds43_0_0 : decode jdk_42_method_149_code 0 = .ok (.aload_n 0, 1) := by decide +kernel
theorem ds43_0_1 : decode jdk_42_method_149_code 1 = .ok (.invokespecial 1, 3) := by decide +kernel
theorem ds43_0_4 : decode jdk_42_method_149_code 4 = .ok (.iload_n 3, 1) := by decide +kernel
theorem ds43_0_5 : decode jdk_42_method_149_code 5 = .ok (.ifCond .ne 22, 3) := by decide +kernel
theorem ds43_0_27 : decode jdk_42_method_149_code 27 = .ok (.getstatic 38, 3) := by decide +kernel
theorem ds43_0_30 : decode jdk_42_method_149_code 30 = .ok (.ifCond .eq 28, 3) := by decide +kernel
theorem ds43_0_33 : decode jdk_42_method_149_code 33 = .ok (.aload_n 1, 1) := by decide +kernel
theorem ds43_0_34 : decode jdk_42_method_149_code 34 = .ok (.iload_n 2, 1) := by decide +kernel
theorem ds43_0_35 : decode jdk_42_method_149_code 35 = .ok (.iload_n 3, 1) := by decide +kernel
theorem ds43_0_36 : decode jdk_42_method_149_code 36 = .ok (.invokestatic 177, 3) := by decide +kernel
theorem ds43_0_39 : decode jdk_42_method_149_code 39 = .ok (.astore 5, 2) := by decide +kernel
theorem ds43_0_41 : decode jdk_42_method_149_code 41 = .ok (.aload_n 0, 1) := by decide +kernel
theorem ds43_0_42 : decode jdk_42_method_149_code 42 = .ok (.aload 5, 2) := by decide +kernel
theorem ds43_0_44 : decode jdk_42_method_149_code 44 = .ok (.iload_n 3, 1) := by decide +kernel
theorem ds43_0_45 : decode jdk_42_method_149_code 45 = .ok (.invokestatic 47, 3) := by decide +kernel
theorem ds43_0_48 : decode jdk_42_method_149_code 48 = .ok (.putfield 15, 3) := by decide +kernel
theorem ds43_0_51 : decode jdk_42_method_149_code 51 = .ok (.aload_n 0, 1) := by decide +kernel
theorem ds43_0_52 : decode jdk_42_method_149_code 52 = .ok (.aload 5, 2) := by decide +kernel
theorem ds43_0_54 : decode jdk_42_method_149_code 54 = .ok (.putfield 9, 3) := by decide +kernel
theorem ds43_0_57 : decode jdk_42_method_149_code 57 = .ok (.return_, 1) := by decide +kernel
theorem pn_s43_0 : plainName "java/lang/String" = true := by first | (simp [plainName, overriddenIn]; done) | decide +kernel
theorem ef_s43_0 (m : MethodId) (x0 : Addr) (x1 : Addr) (x2 : Int32) (x3 : Int32) : entryFrame m #[(.ref x0), (.ref x1), (.int x2), (.int x3), .null] 6 = mkF m 0 #[.val (.ref x0), .val (.ref x1), .val (.int x2), .val (.int x3), .val .null, .unset] [] := by first | (simp [entryFrame, mkF, argsToLocals, Value.category]; done) | rfl
def Qs43_0 (Z : State) (a1 : Addr) (a2 : Addr) (k2 : ClassId) (c0 : Int32) (c1 : Int32) (c2 : Int32) (u0 : Value) (u1 : Value) (wc : Int32) (h0 : Heap) (n0 : Nat) (v : Option Value) (h : Heap) (L : List Loc) : Prop := ∃ (b : Addr) (kb : ClassId), v = none ∧ Fr n0 L ∧ Keep h0 h [a1] ∧ Exa Z h a1 "java/lang/String" ∧ Fld Z h a1 "java/lang/String" "coder" "B" (.int (1 : Int32)) ∧ Fld Z h a1 "java/lang/String" "value" "[B" (.ref b) ∧ Arv Z h b kb .byte (6 : Int32) [.int ((c0 >>> ((0 : Int32) &&& 31)).toInt8.toInt32), .int ((c0 >>> ((8 : Int32) &&& 31)).toInt8.toInt32), .int ((c1 >>> ((0 : Int32) &&& 31)).toInt8.toInt32), .int ((c1 >>> ((8 : Int32) &&& 31)).toInt8.toInt32), .int ((c2 >>> ((0 : Int32) &&& 31)).toInt8.toInt32), .int ((c2 >>> ((8 : Int32) &&& 31)).toInt8.toInt32)] (.int 0) ∧ h0.size ≤ b
set_option maxRecDepth 65536 in
set_option maxHeartbeats 40000000 in
theorem rms43_0 (l : Launch) (Z : State) (a0 : Array Value) (hw : ∀ d ∈ tables_1, d.before a0 Z = true) (ws : List Jvm.Cond) (a1 : Addr) (a2 : Addr) (k2 : ClassId) (c0 : Int32) (c1 : Int32) (c2 : Int32) (u0 : Value) (u1 : Value) (wc : Int32) (h0 : Heap) (n0 : Nat) (Z0 : n0 ≤ h0.size) (F0 : Old Z n0 h0) (F1 : Exa Z h0 a1 "java/lang/String") (F2 : Fld Z h0 a1 "java/lang/String" "value" "[B" u0) (F3 : Fld Z h0 a1 "java/lang/String" "coder" "B" u1) (F4 : Arv Z h0 a2 k2 .char (3 : Int32) [.int c0, .int c1, .int c2] (.int 0)) (ge_a1 : n0 ≤ a1) (SC : Sta Z Z.heap "java/lang/String" "COMPACT_STRINGS" "Z" (.int wc)) (HWC : ¬ (wc = 0)) (SH : Sta Z Z.heap "java/lang/StringUTF16" "HI_BYTE_SHIFT" "I" (.int (0 : Int32))) (SL : Sta Z Z.heap "java/lang/StringUTF16" "LO_BYTE_SHIFT" "I" (.int (8 : Int32))) (SA : Sta Z Z.heap "java/lang/StringUTF16" "$assertionsDisabled" "Z" (.int (1 : Int32))) (hne : a2 ≠ a1) (hc_c0 : (255 : Int32) < c0) (hw_c0 : own_W c0) :
    MetFree l (⟨"java/lang/String", "<init>", "([CIILjava/lang/Void;)V"⟩ : MethodName) (head1 (Jvm.Cond.code (⟨"java/lang/String", "<init>", "([CIILjava/lang/Void;)V"⟩ : MethodName) jdk_42_method_149_code 6 none :: ws) ({ frames := 4, cells := 2, slots := 9, locals := 57 } : Room)) (fun a U => a = #[(.ref a1), (.ref a2), (.int (0 : Int32)), (.int (3 : Int32)), .null] ∧ Z.Warmed39 U.vm ∧ U.heap = h0) (fun _ _ _ _ _ => True) (fun _ U o U' => ∃ v L, o = .returned v ∧ Qs43_0 Z a1 a2 k2 c0 c1 c2 u0 u1 wc h0 n0 v U'.heap L ∧ FrameEnd U o U' L ({ frames := 4, cells := 2, slots := 9, locals := 57 } : Room).cells ({ frames := 4, cells := 2, slots := 9, locals := 57 } : Room).slots) := by
  refine MetFree.of_bodySF (plainFor_of_name pn_s43_0) hisR ?_
  intro p e s m args below meth c s₁ Bd hml0 hP hK
  obtain ⟨rfl, hZ, hh⟩ := hP
  have hx := Bd.exec
  have hby := Bd.bytes
  have hml : c.maxLocals = 6 := hml0
  have hown : s.vm.findClass "java/lang/String" = some m.cls := findClass_of_methodNamed Bd.named
  have hnm := (name_of_methodNamed Bd.named Bd.method).1
  have X0 : Stand p l e ({ frames := 4, cells := 2, slots := 9, locals := 57 } : Room) s m #[(.ref a1), (.ref a2), (.int (0 : Int32)), (.int (3 : Int32)), .null] below meth c s₁ [] 0 0 := Stand.of_body Bd
  have e0 : s₁.heap = h0 := by rw [← hh, Bd.state]; rfl
  have N0 := Fr.nil n0
  show own_R p.tables e below (own_P s (Qs43_0 Z a1 a2 k2 c0 c1 c2 u0 u1 wc h0 n0) ({ frames := 4, cells := 2, slots := 9, locals := 57 } : Room).cells ({ frames := 4, cells := 2, slots := 9, locals := 57 } : Room).slots) (s₁.setTop (entryFrame m #[(.ref a1), (.ref a2), (.int (0 : Int32)), (.int (3 : Int32)), .null] 6))
  refine own_f s₁ (mkF m 0 #[.val (.ref a1), .val (.ref a2), .val (.int (0 : Int32)), .val (.int (3 : Int32)), .val .null, .unset] []) (fun t k => castTop (ef_s43_0 m a1 a2 (0 : Int32) (3 : Int32)) k) ?_
  refine own_f s₁ (mkF m 1 #[.val (.ref a1), .val (.ref a2), .val (.int (0 : Int32)), .val (.int (3 : Int32)), .val .null, .unset] [(.ref a1)]) (fun t k => XS.aloadN X0.here hx rfl (hb hby ds43_0_0) rfl rfl k) ?_
  obtain ⟨T1, X1, e1, st1⟩ := initO X0 hx hZ hown (own_w hw 13 rfl) (own_w hw 14 rfl) (own_w hw 15 rfl) e0 (g := (mkF m 1 #[.val (.ref a1), .val (.ref a2), .val (.int (0 : Int32)), .val (.int (3 : Int32)), .val .null, .unset] [(.ref a1)])) rfl (by rw [hml]; rfl) rfl (hb hby ds43_0_1) (by decide) (W := 0) (by show 2 * 0 + _ ≤ _; exact Nat.le_of_eq rfl) (by decide)
  refine own_f T1 (mkF m 4 #[.val (.ref a1), .val (.ref a2), .val (.int (0 : Int32)), .val (.int (3 : Int32)), .val .null, .unset] []) st1 ?_
  refine own_step (fun t k => XS.iloadN X1.here hx rfl (hb hby ds43_0_4) rfl k) ?_
  refine own_f T1 (mkF m 27 #[.val (.ref a1), .val (.ref a2), .val (.int (0 : Int32)), .val (.int (3 : Int32)), .val .null, .unset] []) (fun t k => XS.ifYes X1.here hx rfl (pc0 := 5) (pc' := 27) rfl (hb hby ds43_0_5) rfl (XT.i0_ne_t (by decide)) (by decide) (by decide) k) ?_
  have S2 : Sta Z h0 "java/lang/String" "COMPACT_STRINGS" "Z" (.int wc) := SC.ext F0.2
  obtain ⟨T2, X2, e2, st2⟩ := getS X1 hx hZ (host := "") hown (own_w hw 16 rfl) Via.refl e1 S2 (g := (mkF m 27 #[.val (.ref a1), .val (.ref a2), .val (.int (0 : Int32)), .val (.int (3 : Int32)), .val .null, .unset] [])) rfl (hb hby ds43_0_27)
  refine own_f T2 (mkF m 30 #[.val (.ref a1), .val (.ref a2), .val (.int (0 : Int32)), .val (.int (3 : Int32)), .val .null, .unset] [(.int wc)]) st2 ?_
  refine own_f T2 (mkF m 33 #[.val (.ref a1), .val (.ref a2), .val (.int (0 : Int32)), .val (.int (3 : Int32)), .val .null, .unset] []) (fun t k => XS.ifNo X2.here hx rfl (hb hby ds43_0_30) rfl (XT.i0_eq_f HWC) k) ?_
  refine own_step (fun t k => XS.aloadN X2.here hx rfl (hb hby ds43_0_33) rfl rfl k) ?_
  refine own_step (fun t k => XS.iloadN X2.here hx rfl (hb hby ds43_0_34) rfl k) ?_
  refine own_f T2 (mkF m 36 #[.val (.ref a1), .val (.ref a2), .val (.int (0 : Int32)), .val (.int (3 : Int32)), .val .null, .unset] [(.int (3 : Int32)), (.int (0 : Int32)), (.ref a2)]) (fun t k => XS.iloadN X2.here hx rfl (hb hby ds43_0_35) rfl k) ?_
  obtain ⟨_, _, ⟨T3, Lq3, kq_3, nq_3⟩, -, X3, ⟨Lc3, hQ3, lq3, yq3, zq3⟩, st3⟩ := Jvm.LawKit.callS X2 hx (y := (⟨"java/lang/StringUTF16", "compress", "([CII)[B"⟩ : MethodName)) hown (mvT hZ (own_w hw 17 rfl)) (mvT hZ (own_w hw 18 rfl)) (mvT hZ (own_w hw 19 rfl)) (mvT hZ (own_w hw 20 rfl)) (by decide) (backOf (W := 0) (rmcb3_0 l Z a0 hw [] a2 _ _ _ _ h0 n0 Z0 F0 F4 hc_c0 SH SL SA hw_c0) hZ (own_w hw 20 rfl) (own_w hw 19 rfl) (by decide) (by decide)) (g := (mkF m 36 #[.val (.ref a1), .val (.ref a2), .val (.int (0 : Int32)), .val (.int (3 : Int32)), .val .null, .unset] [(.int (3 : Int32)), (.int (0 : Int32)), (.ref a2)])) rfl (by rw [hml]; rfl) (argsL := [(.ref a2), (.int (0 : Int32)), (.int (3 : Int32))]) (rest := []) (lenOf pd__CII_B rfl) rfl (by show 2 * 0 + _ ≤ _; exact Nat.le_of_eq rfl) (hb hby ds43_0_36) (fun _ _ => ⟨rfl, e2, (by decide : 0 + 2 ≤ _), (by decide : 0 + 9 ≤ _)⟩)
  dsimp only [Pt.U, Pt.locs, Pt.cells, Pt.slots] at X3 lq3 yq3 zq3 st3 hQ3
  subst lq3 yq3 zq3
  obtain ⟨h3, e3⟩ : ∃ z, T3.heap = z := ⟨_, rfl⟩
  rw [e3] at hQ3
  unfold Qcb3_0 at hQ3
  obtain ⟨b3, kb3, rfl, Nq3, qh3, G3_0, H3_0⟩ := hQ3
  have N3 := Fr.app N0 Nq3
  have Zs3 : n0 ≤ h3.size := Nat.le_trans Z0 qh3.1
  have F_4 := F0.keep qh3 all0
  have F_5 := F1.keep qh3
  have F_6 := F2.keep qh3 nin0
  have F_7 := F3.keep qh3 nin0
  have F_8 := F4.keep qh3 nin0
  have K3 : Keep h0 h3 [a1] := (Keep.refl h0 [a1]).trans qh3 all0
  have ne3_a1 : a1 ≠ b3 := Nat.ne_of_lt (Nat.lt_of_lt_of_le F1.lt H3_0)
  have ne3_a2 : a2 ≠ b3 := Nat.ne_of_lt (Nat.lt_of_lt_of_le F4.lt H3_0)
  have ge3 : n0 ≤ b3 := Nat.le_trans Z0 H3_0
  have gf3 : h0.size ≤ b3 := Nat.le_trans (Keep.refl h0 [a1]).1 H3_0
  refine own_f T3 (mkF m 39 #[.val (.ref a1), .val (.ref a2), .val (.int (0 : Int32)), .val (.int (3 : Int32)), .val .null, .unset] [(.ref b3)]) st3 ?_
  refine own_f T3 (mkF m 41 #[.val (.ref a1), .val (.ref a2), .val (.int (0 : Int32)), .val (.int (3 : Int32)), .val .null, .val (.ref b3)] []) (fun t k => XS.astore X3.here hx rfl (hb hby ds43_0_39) rfl rfl (l' := #[.val (.ref a1), .val (.ref a2), .val (.int (0 : Int32)), .val (.int (3 : Int32)), .val .null, .val (.ref b3)]) rfl k) ?_
  refine own_step (fun t k => XS.aloadN X3.here hx rfl (hb hby ds43_0_41) rfl rfl k) ?_
  refine own_step (fun t k => XS.aload X3.here hx rfl (hb hby ds43_0_42) rfl rfl k) ?_
  refine own_f T3 (mkF m 45 #[.val (.ref a1), .val (.ref a2), .val (.int (0 : Int32)), .val (.int (3 : Int32)), .val .null, .val (.ref b3)] [(.int (3 : Int32)), (.ref b3), (.ref a1)]) (fun t k => XS.iloadN X3.here hx rfl (hb hby ds43_0_44) rfl k) ?_
  obtain ⟨_, _, ⟨T9, Lq9, kq_9, nq_9⟩, -, X9, ⟨Lc9, hQ9, lq9, yq9, zq9⟩, st9⟩ := Jvm.LawKit.callS X3 hx (y := (⟨"java/lang/StringUTF16", "coderFromArrayLen", "([BI)B"⟩ : MethodName)) hown (mvT hZ (own_w hw 25 rfl)) (mvT hZ (own_w hw 26 rfl)) (mvT hZ (own_w hw 19 rfl)) (mvT hZ (own_w hw 27 rfl)) (by decide) (backOf (W := 1) (rmco3_6 l Z a0 hw [] b3 _ _ h3 n0 Zs3 G3_0) hZ (own_w hw 27 rfl) (own_w hw 19 rfl) (by decide) (by decide)) (g := (mkF m 45 #[.val (.ref a1), .val (.ref a2), .val (.int (0 : Int32)), .val (.int (3 : Int32)), .val .null, .val (.ref b3)] [(.int (3 : Int32)), (.ref b3), (.ref a1)])) rfl (by rw [hml]; rfl) (argsL := [(.ref b3), (.int (3 : Int32))]) (rest := [(.ref a1)]) (lenOf pd__BI_B rfl) rfl (by show 2 * 0 + _ ≤ _; exact Nat.le_of_eq rfl) (hb hby ds43_0_45) (fun _ _ => ⟨rfl, e3, (by decide : 0 + 2 + 0 ≤ _), (by decide : 0 + 9 + 0 ≤ _)⟩)
  dsimp only [Pt.U, Pt.locs, Pt.cells, Pt.slots] at X9 lq9 yq9 zq9 st9 hQ9
  subst lq9 yq9 zq9
  obtain ⟨h9, e9⟩ : ∃ z, T9.heap = z := ⟨_, rfl⟩
  rw [e9] at hQ9
  unfold Qco3_6 at hQ9
  obtain ⟨rfl, Nq9, qh9⟩ := hQ9
  have N9 := Fr.app N3 Nq9
  rw [qh9] at e9
  refine own_f T9 (mkF m 48 #[.val (.ref a1), .val (.ref a2), .val (.int (0 : Int32)), .val (.int (3 : Int32)), .val .null, .val (.ref b3)] [(.int (1 : Int32)), (.ref a1)]) st9 ?_
  obtain ⟨T10, h10, X10, e10, W10, st10⟩ := putF X9 hx hZ hown (host := "") (Or.inl (own_w hw 28 rfl)) Via.refl e9 F_7 F_5 (Or.inr ⟨(own_w hw 29 rfl), rfl, hnm⟩) (own_w hw 3 rfl) (ty := .byte) (by decide) rfl rfl (g := (mkF m 48 #[.val (.ref a1), .val (.ref a2), .val (.int (0 : Int32)), .val (.int (3 : Int32)), .val .null, .val (.ref b3)] [(.int (1 : Int32)), (.ref a1)])) rfl rfl (hb hby ds43_0_48)
  have N10 := Fr.snoc X10 N9 ge_a1
  have Zs10 : n0 ≤ h10.size := by rw [W10.size]; exact Zs3
  have K10 : Keep h0 h10 [a1] := K3.wr W10 (Or.inl (by simp))
  have F_11 := F_4.wr W10 ge_a1
  have F_12 := F_5.wr W10
  have F_13 := F_6.other W10 (Or.inr (slot_ne (Or.inr (own_w hw 31 rfl)) (Or.inr (own_w hw 29 rfl)) (by decide) (t := (.array .byte)) (t' := .byte) (by decide) (by decide)))
  have F_14 := F_7.same W10
  have F_15 := F_8.other W10 hne
  have F_16 := G3_0.other W10 (Ne.symm ne3_a1)
  refine own_f T10 (mkF m 51 #[.val (.ref a1), .val (.ref a2), .val (.int (0 : Int32)), .val (.int (3 : Int32)), .val .null, .val (.ref b3)] []) st10 ?_
  refine own_step (fun t k => XS.aloadN X10.here hx rfl (hb hby ds43_0_51) rfl rfl k) ?_
  refine own_f T10 (mkF m 54 #[.val (.ref a1), .val (.ref a2), .val (.int (0 : Int32)), .val (.int (3 : Int32)), .val .null, .val (.ref b3)] [(.ref b3), (.ref a1)]) (fun t k => XS.aload X10.here hx rfl (hb hby ds43_0_52) rfl rfl k) ?_
  obtain ⟨T17, h17, X17, e17, W17, st17⟩ := putF X10 hx hZ hown (host := "") (Or.inl (own_w hw 30 rfl)) Via.refl e10 F_13 F_12 (Or.inr ⟨(own_w hw 31 rfl), rfl, hnm⟩) (own_w hw 3 rfl) (ty := (.array .byte)) (by decide) rfl rfl (g := (mkF m 54 #[.val (.ref a1), .val (.ref a2), .val (.int (0 : Int32)), .val (.int (3 : Int32)), .val .null, .val (.ref b3)] [(.ref b3), (.ref a1)])) rfl rfl (hb hby ds43_0_54)
  have N17 := Fr.snoc X17 N10 ge_a1
  have Zs17 : n0 ≤ h17.size := by rw [W17.size]; exact Zs10
  have K17 : Keep h0 h17 [a1] := K10.wr W17 (Or.inl (by simp))
  have F_18 := F_11.wr W17 ge_a1
  have F_19 := F_12.wr W17
  have F_20 := F_13.same W17
  have F_21 := F_14.other W17 (Or.inr (slot_ne (Or.inr (own_w hw 29 rfl)) (Or.inr (own_w hw 31 rfl)) (by decide) (t := .byte) (t' := (.array .byte)) (by decide) (by decide)))
  have F_22 := F_15.other W17 hne
  have F_23 := F_16.other W17 (Ne.symm ne3_a1)
  refine own_f T17 (mkF m 57 #[.val (.ref a1), .val (.ref a2), .val (.int (0 : Int32)), .val (.int (3 : Int32)), .val .null, .val (.ref b3)] []) st17 ?_
  obtain ⟨fs, hr, hrun, hended, hW, hsame⟩ := X17.leave (v := none) (fun _ => rfl)
  refine ⟨_, _, X17.returnOut hx Bd.returns (hb hby ds43_0_57) hr, hrun, hended, _, _, rfl, ?_, ⟨_, rfl⟩, hW, hsame.mono (by decide) (by decide)⟩
  show Qs43_0 Z a1 a2 k2 c0 c1 c2 u0 u1 wc h0 n0 _ T17.heap _
  rw [e17]
  exact ⟨b3, kb3, rfl, N17, K17, F_19, F_21, F_20, F_23, gf3⟩
theorem dci3_1_0 : decode jdk_52_method_21_code 0 = .ok (.iconst 0, 1) := by decide +kernel
theorem dci3_1_1 : decode jdk_52_method_21_code 1 = .ok (.istore 5, 2) := by decide +kernel
theorem dci3_1_3 : decode jdk_52_method_21_code 3 = .ok (.iload 5, 2) := by decide +kernel
theorem dci3_1_5 : decode jdk_52_method_21_code 5 = .ok (.iload 4, 2) := by decide +kernel
theorem dci3_1_7 : decode jdk_52_method_21_code 7 = .ok (.if_icmp .ge 37, 3) := by decide +kernel
theorem dci3_1_10 : decode jdk_52_method_21_code 10 = .ok (.aload_n 0, 1) := by decide +kernel
theorem dci3_1_11 : decode jdk_52_method_21_code 11 = .ok (.iload_n 1, 1) := by decide +kernel
theorem dci3_1_12 : decode jdk_52_method_21_code 12 = .ok (.caload, 1) := by decide +kernel
theorem dci3_1_13 : decode jdk_52_method_21_code 13 = .ok (.istore 6, 2) := by decide +kernel
theorem dci3_1_15 : decode jdk_52_method_21_code 15 = .ok (.iload 6, 2) := by decide +kernel
theorem dci3_1_17 : decode jdk_52_method_21_code 17 = .ok (.sipush 255, 3) := by decide +kernel
theorem dci3_1_20 : decode jdk_52_method_21_code 20 = .ok (.if_icmp .le 6, 3) := by decide +kernel
theorem dci3_1_23 : decode jdk_52_method_21_code 23 = .ok (.iload 5, 2) := by decide +kernel
theorem dci3_1_25 : decode jdk_52_method_21_code 25 = .ok (.ireturn, 1) := by decide +kernel
theorem dci3_1_26 : decode jdk_52_method_21_code 26 = .ok (.aload_n 2, 1) := by decide +kernel
theorem dci3_1_27 : decode jdk_52_method_21_code 27 = .ok (.iload_n 3, 1) := by decide +kernel
theorem dci3_1_28 : decode jdk_52_method_21_code 28 = .ok (.iload 6, 2) := by decide +kernel
theorem dci3_1_30 : decode jdk_52_method_21_code 30 = .ok (.i2b, 1) := by decide +kernel
theorem dci3_1_31 : decode jdk_52_method_21_code 31 = .ok (.bastore, 1) := by decide +kernel
theorem dci3_1_32 : decode jdk_52_method_21_code 32 = .ok (.iinc 1 1, 3) := by decide +kernel
theorem dci3_1_35 : decode jdk_52_method_21_code 35 = .ok (.iinc 3 1, 3) := by decide +kernel
theorem dci3_1_38 : decode jdk_52_method_21_code 38 = .ok (.iinc 5 1, 3) := by decide +kernel
theorem dci3_1_41 : decode jdk_52_method_21_code 41 = .ok (.goto (-38), 3) := by decide +kernel
theorem pn_ci3_1 : plainName "java/lang/StringUTF16" = true := by first | (simp [plainName, overriddenIn]; done) | decide +kernel
theorem ef_ci3_1 (m : MethodId) (x0 : Addr) (x1 : Int32) (x2 : Addr) (x3 : Int32) (x4 : Int32) : entryFrame m #[(.ref x0), (.int x1), (.ref x2), (.int x3), (.int x4)] 7 = mkF m 0 #[.val (.ref x0), .val (.int x1), .val (.ref x2), .val (.int x3), .val (.int x4), .unset, .unset] [] := by first | (simp [entryFrame, mkF, argsToLocals, Value.category]; done) | rfl
def Qci3_1 (Z : State) (a1 : Addr) (a2 : Addr) (k1 : ClassId) (k2 : ClassId) (c0 : Int32) (c1 : Int32) (c2 : Int32) (h0 : Heap) (n0 : Nat) (v : Option Value) (h : Heap) (L : List Loc) : Prop := v = some (.int (1 : Int32)) ∧ Fr n0 L ∧ Keep h0 h [a2] ∧ Arv Z h a2 k2 .byte (3 : Int32) [.int (c0.toInt8.toInt32), .int 0, .int 0] (.int 0)
set_option maxRecDepth 65536 in
set_option maxHeartbeats 40000000 in
theorem rmci3_1 (l : Launch) (Z : State) (a0 : Array Value) (hw : ∀ d ∈ tables_1, d.before a0 Z = true) (ws : List Jvm.Cond) (a1 : Addr) (a2 : Addr) (k1 : ClassId) (k2 : ClassId) (c0 : Int32) (c1 : Int32) (c2 : Int32) (h0 : Heap) (n0 : Nat) (Z0 : n0 ≤ h0.size) (F0 : Arv Z h0 a1 k1 .char (3 : Int32) [.int c0, .int c1, .int c2] (.int 0)) (F1 : Arv Z h0 a2 k2 .byte (3 : Int32) [.int 0, .int 0, .int 0] (.int 0)) (ge_a2 : n0 ≤ a2) (hne : a1 ≠ a2) (hc_c0 : ¬ ((255 : Int32) < c0)) (hc_c1 : (255 : Int32) < c1) :
    MetFree l (⟨"java/lang/StringUTF16", "compress", "([CI[BII)I"⟩ : MethodName) (head1 (Jvm.Cond.code (⟨"java/lang/StringUTF16", "compress", "([CI[BII)I"⟩ : MethodName) jdk_52_method_21_code 7 (some .int) :: ws) ({ frames := 0, cells := 0, slots := 0, locals := 0 } : Room)) (fun a U => a = #[(.ref a1), (.int (0 : Int32)), (.ref a2), (.int (0 : Int32)), (.int (3 : Int32))] ∧ Z.Warmed39 U.vm ∧ U.heap = h0) (fun _ _ _ _ _ => True) (fun _ U o U' => ∃ v L, o = .returned v ∧ Qci3_1 Z a1 a2 k1 k2 c0 c1 c2 h0 n0 v U'.heap L ∧ FrameEnd U o U' L ({ frames := 0, cells := 0, slots := 0, locals := 0 } : Room).cells ({ frames := 0, cells := 0, slots := 0, locals := 0 } : Room).slots) := by
  refine MetFree.of_bodySF (plainFor_of_name pn_ci3_1) hisR ?_
  intro p e s m args below meth c s₁ Bd hml0 hP hK
  obtain ⟨rfl, hZ, hh⟩ := hP
  have hx := Bd.exec
  have hby := Bd.bytes
  have hml : c.maxLocals = 7 := hml0
  have hown : s.vm.findClass "java/lang/StringUTF16" = some m.cls := findClass_of_methodNamed Bd.named
  have hnm := (name_of_methodNamed Bd.named Bd.method).1
  have X0 : Stand p l e ({ frames := 0, cells := 0, slots := 0, locals := 0 } : Room) s m #[(.ref a1), (.int (0 : Int32)), (.ref a2), (.int (0 : Int32)), (.int (3 : Int32))] below meth c s₁ [] 0 0 := Stand.of_body Bd
  have e0 : s₁.heap = h0 := by rw [← hh, Bd.state]; rfl
  have N0 := Fr.nil n0
  show own_R p.tables e below (own_P s (Qci3_1 Z a1 a2 k1 k2 c0 c1 c2 h0 n0) ({ frames := 0, cells := 0, slots := 0, locals := 0 } : Room).cells ({ frames := 0, cells := 0, slots := 0, locals := 0 } : Room).slots) (s₁.setTop (entryFrame m #[(.ref a1), (.int (0 : Int32)), (.ref a2), (.int (0 : Int32)), (.int (3 : Int32))] 7))
  refine own_f s₁ (mkF m 0 #[.val (.ref a1), .val (.int (0 : Int32)), .val (.ref a2), .val (.int (0 : Int32)), .val (.int (3 : Int32)), .unset, .unset] []) (fun t k => castTop (ef_ci3_1 m a1 (0 : Int32) a2 (0 : Int32) (3 : Int32)) k) ?_
  refine own_step (fun t k => XT.iconstV X0.here hx rfl (0 : Int32) (hb hby dci3_1_0) (by decide) k) ?_
  refine own_f s₁ (mkF m 3 #[.val (.ref a1), .val (.int (0 : Int32)), .val (.ref a2), .val (.int (0 : Int32)), .val (.int (3 : Int32)), .val (.int (0 : Int32)), .unset] []) (fun t k => XS.istore X0.here hx rfl (hb hby dci3_1_1) rfl (l' := #[.val (.ref a1), .val (.int (0 : Int32)), .val (.ref a2), .val (.int (0 : Int32)), .val (.int (3 : Int32)), .val (.int (0 : Int32)), .unset]) rfl k) ?_
  refine own_step (fun t k => XS.iload X0.here hx rfl (hb hby dci3_1_3) rfl k) ?_
  refine own_step (fun t k => XS.iload X0.here hx rfl (hb hby dci3_1_5) rfl k) ?_
  refine own_f s₁ (mkF m 10 #[.val (.ref a1), .val (.int (0 : Int32)), .val (.ref a2), .val (.int (0 : Int32)), .val (.int (3 : Int32)), .val (.int (0 : Int32)), .unset] []) (fun t k => XS.icmpNo X0.here hx rfl (hb hby dci3_1_7) rfl (XT.ii_ge_f (by decide)) k) ?_
  refine own_step (fun t k => XS.aloadN X0.here hx rfl (hb hby dci3_1_10) rfl rfl k) ?_
  refine own_f s₁ (mkF m 12 #[.val (.ref a1), .val (.int (0 : Int32)), .val (.ref a2), .val (.int (0 : Int32)), .val (.int (3 : Int32)), .val (.int (0 : Int32)), .unset] [(.int (0 : Int32)), (.ref a1)]) (fun t k => XS.iloadN X0.here hx rfl (hb hby dci3_1_11) rfl k) ?_
  obtain ⟨cl1, Ar1, q11, Sz1, q31, Hs1, Gs1⟩ := id F0
  have hi1 := inb_of (j := (0 : Int32)) Sz1 ⟨by decide, by decide⟩
  refine own_f s₁ (mkF m 13 #[.val (.ref a1), .val (.int (0 : Int32)), .val (.ref a2), .val (.int (0 : Int32)), .val (.int (3 : Int32)), .val (.int (0 : Int32)), .unset] [(.int c0)]) (fun t k => X0.caload hx (j := (0 : Int32)) (v := (.int c0)) (by rw [e0]; exact Ar1.1) (State.isArrayOf_alike hZ.alike Ar1.2.1) Ar1.2.2 hi1 (Has.at Hs1 hi1 rfl) (g := (mkF m 12 #[.val (.ref a1), .val (.int (0 : Int32)), .val (.ref a2), .val (.int (0 : Int32)), .val (.int (3 : Int32)), .val (.int (0 : Int32)), .unset] [(.int (0 : Int32)), (.ref a1)])) rfl rfl (hb hby dci3_1_12) t k) ?_
  refine own_f s₁ (mkF m 15 #[.val (.ref a1), .val (.int (0 : Int32)), .val (.ref a2), .val (.int (0 : Int32)), .val (.int (3 : Int32)), .val (.int (0 : Int32)), .val (.int c0)] []) (fun t k => XS.istore X0.here hx rfl (hb hby dci3_1_13) rfl (l' := #[.val (.ref a1), .val (.int (0 : Int32)), .val (.ref a2), .val (.int (0 : Int32)), .val (.int (3 : Int32)), .val (.int (0 : Int32)), .val (.int c0)]) rfl k) ?_
  refine own_step (fun t k => XS.iload X0.here hx rfl (hb hby dci3_1_15) rfl k) ?_
  refine own_step (fun t k => XT.sipushV X0.here hx rfl (255 : Int32) (hb hby dci3_1_17) (by decide) k) ?_
  refine own_f s₁ (mkF m 26 #[.val (.ref a1), .val (.int (0 : Int32)), .val (.ref a2), .val (.int (0 : Int32)), .val (.int (3 : Int32)), .val (.int (0 : Int32)), .val (.int c0)] []) (fun t k => XS.icmpYes X0.here hx rfl (pc0 := 20) (pc' := 26) rfl (hb hby dci3_1_20) rfl (XT.ii_le_t hc_c0) (by decide) (by decide) k) ?_
  refine own_step (fun t k => XS.aloadN X0.here hx rfl (hb hby dci3_1_26) rfl rfl k) ?_
  refine own_step (fun t k => XS.iloadN X0.here hx rfl (hb hby dci3_1_27) rfl k) ?_
  refine own_step (fun t k => XS.iload X0.here hx rfl (hb hby dci3_1_28) rfl k) ?_
  refine own_f s₁ (mkF m 31 #[.val (.ref a1), .val (.int (0 : Int32)), .val (.ref a2), .val (.int (0 : Int32)), .val (.int (3 : Int32)), .val (.int (0 : Int32)), .val (.int c0)] [(.int (c0.toInt8.toInt32)), (.int (0 : Int32)), (.ref a2)]) (fun t k => XS.i2b X0.here hx rfl (hb hby dci3_1_30) rfl k) ?_
  obtain ⟨cl2, Ar2, q12, Sz2, q32, Hs2, Gs2⟩ := id F1
  obtain ⟨T2, h2, X2, e2, W2, st2⟩ := stB X0 hx hZ e0 Ar2 (j := (0 : Int32)) (inb_of Sz2 ⟨by decide, by decide⟩) (g := (mkF m 31 #[.val (.ref a1), .val (.int (0 : Int32)), .val (.ref a2), .val (.int (0 : Int32)), .val (.int (3 : Int32)), .val (.int (0 : Int32)), .val (.int c0)] [(.int (c0.toInt8.toInt32)), (.int (0 : Int32)), (.ref a2)])) rfl rfl (hb hby dci3_1_31)
  have N2 := Fr.snoc X2 N0 ge_a2
  have Zs2 : n0 ≤ h2.size := by rw [W2.size]; exact Z0
  have K2 : Keep h0 h2 [a2] := (Keep.refl h0 [a2]).wr W2 (Or.inl (by simp))
  have F_3 := F0.other W2 hne
  have F_4 : Arv Z h2 a2 k2 .byte (3 : Int32) [.int (c0.toInt8.toInt32), .int 0, .int 0] (.int 0) := Arv.set Ar2 q12 Sz2 q32 Hs2 Gs2 (by rw [← ((own_narB _) : nar .byte (c0.toInt8.toInt32) = (c0.toInt8.toInt32))]; exact own_fitB _) (by rw [((own_narB _) : nar .byte (c0.toInt8.toInt32) = (c0.toInt8.toInt32))] at W2; exact W2) 0 (by decide) (by simp)
  refine own_f T2 (mkF m 32 #[.val (.ref a1), .val (.int (0 : Int32)), .val (.ref a2), .val (.int (0 : Int32)), .val (.int (3 : Int32)), .val (.int (0 : Int32)), .val (.int c0)] []) st2 ?_
  refine own_f T2 (mkF m 35 #[.val (.ref a1), .val (.int ((0 : Int32) + (1 : Int32))), .val (.ref a2), .val (.int (0 : Int32)), .val (.int (3 : Int32)), .val (.int (0 : Int32)), .val (.int c0)] []) (fun t k => XT.iincV X2.here hx rfl (l' := #[.val (.ref a1), .val (.int ((0 : Int32) + (1 : Int32))), .val (.ref a2), .val (.int (0 : Int32)), .val (.int (3 : Int32)), .val (.int (0 : Int32)), .val (.int c0)]) (1 : Int32) (hb hby dci3_1_32) (by decide) rfl rfl k) ?_
  rw [show ((0 : Int32) + (1 : Int32)) = (1 : Int32) from by decide]
  refine own_f T2 (mkF m 38 #[.val (.ref a1), .val (.int (1 : Int32)), .val (.ref a2), .val (.int ((0 : Int32) + (1 : Int32))), .val (.int (3 : Int32)), .val (.int (0 : Int32)), .val (.int c0)] []) (fun t k => XT.iincV X2.here hx rfl (l' := #[.val (.ref a1), .val (.int (1 : Int32)), .val (.ref a2), .val (.int ((0 : Int32) + (1 : Int32))), .val (.int (3 : Int32)), .val (.int (0 : Int32)), .val (.int c0)]) (1 : Int32) (hb hby dci3_1_35) (by decide) rfl rfl k) ?_
  rw [show ((0 : Int32) + (1 : Int32)) = (1 : Int32) from by decide]
  refine own_f T2 (mkF m 41 #[.val (.ref a1), .val (.int (1 : Int32)), .val (.ref a2), .val (.int (1 : Int32)), .val (.int (3 : Int32)), .val (.int ((0 : Int32) + (1 : Int32))), .val (.int c0)] []) (fun t k => XT.iincV X2.here hx rfl (l' := #[.val (.ref a1), .val (.int (1 : Int32)), .val (.ref a2), .val (.int (1 : Int32)), .val (.int (3 : Int32)), .val (.int ((0 : Int32) + (1 : Int32))), .val (.int c0)]) (1 : Int32) (hb hby dci3_1_38) (by decide) rfl rfl k) ?_
  rw [show ((0 : Int32) + (1 : Int32)) = (1 : Int32) from by decide]
  refine own_step (fun t k => XS.goto X2.here hx rfl (pc0 := 41) (pc' := 3) rfl (hb hby dci3_1_41) (by decide) (by decide) k) ?_
  refine own_step (fun t k => XS.iload X2.here hx rfl (hb hby dci3_1_3) rfl k) ?_
  refine own_step (fun t k => XS.iload X2.here hx rfl (hb hby dci3_1_5) rfl k) ?_
  refine own_f T2 (mkF m 10 #[.val (.ref a1), .val (.int (1 : Int32)), .val (.ref a2), .val (.int (1 : Int32)), .val (.int (3 : Int32)), .val (.int (1 : Int32)), .val (.int c0)] []) (fun t k => XS.icmpNo X2.here hx rfl (hb hby dci3_1_7) rfl (XT.ii_ge_f (by decide)) k) ?_
  refine own_step (fun t k => XS.aloadN X2.here hx rfl (hb hby dci3_1_10) rfl rfl k) ?_
  refine own_f T2 (mkF m 12 #[.val (.ref a1), .val (.int (1 : Int32)), .val (.ref a2), .val (.int (1 : Int32)), .val (.int (3 : Int32)), .val (.int (1 : Int32)), .val (.int c0)] [(.int (1 : Int32)), (.ref a1)]) (fun t k => XS.iloadN X2.here hx rfl (hb hby dci3_1_11) rfl k) ?_
  obtain ⟨cl5, Ar5, q15, Sz5, q35, Hs5, Gs5⟩ := id F_3
  have hi5 := inb_of (j := (1 : Int32)) Sz5 ⟨by decide, by decide⟩
  refine own_f T2 (mkF m 13 #[.val (.ref a1), .val (.int (1 : Int32)), .val (.ref a2), .val (.int (1 : Int32)), .val (.int (3 : Int32)), .val (.int (1 : Int32)), .val (.int c0)] [(.int c1)]) (fun t k => X2.caload hx (j := (1 : Int32)) (v := (.int c1)) (by rw [e2]; exact Ar5.1) (State.isArrayOf_alike hZ.alike Ar5.2.1) Ar5.2.2 hi5 (Has.at Hs5 hi5 rfl) (g := (mkF m 12 #[.val (.ref a1), .val (.int (1 : Int32)), .val (.ref a2), .val (.int (1 : Int32)), .val (.int (3 : Int32)), .val (.int (1 : Int32)), .val (.int c0)] [(.int (1 : Int32)), (.ref a1)])) rfl rfl (hb hby dci3_1_12) t k) ?_
  refine own_f T2 (mkF m 15 #[.val (.ref a1), .val (.int (1 : Int32)), .val (.ref a2), .val (.int (1 : Int32)), .val (.int (3 : Int32)), .val (.int (1 : Int32)), .val (.int c1)] []) (fun t k => XS.istore X2.here hx rfl (hb hby dci3_1_13) rfl (l' := #[.val (.ref a1), .val (.int (1 : Int32)), .val (.ref a2), .val (.int (1 : Int32)), .val (.int (3 : Int32)), .val (.int (1 : Int32)), .val (.int c1)]) rfl k) ?_
  refine own_step (fun t k => XS.iload X2.here hx rfl (hb hby dci3_1_15) rfl k) ?_
  refine own_step (fun t k => XT.sipushV X2.here hx rfl (255 : Int32) (hb hby dci3_1_17) (by decide) k) ?_
  refine own_f T2 (mkF m 23 #[.val (.ref a1), .val (.int (1 : Int32)), .val (.ref a2), .val (.int (1 : Int32)), .val (.int (3 : Int32)), .val (.int (1 : Int32)), .val (.int c1)] []) (fun t k => XS.icmpNo X2.here hx rfl (hb hby dci3_1_20) rfl (XT.ii_le_f hc_c1) k) ?_
  refine own_f T2 (mkF m 25 #[.val (.ref a1), .val (.int (1 : Int32)), .val (.ref a2), .val (.int (1 : Int32)), .val (.int (3 : Int32)), .val (.int (1 : Int32)), .val (.int c1)] [(.int (1 : Int32))]) (fun t k => XS.iload X2.here hx rfl (hb hby dci3_1_23) rfl k) ?_
  obtain ⟨fs, hr, hrun, hended, hW, hsame⟩ := X2.leave (v := some (.int (1 : Int32))) (fun h => by rw [Bd.returns] at h; cases h)
  refine ⟨_, _, retI X2 hx Bd.returns (hb hby dci3_1_25) hr, hrun, hended, _, _, rfl, ?_, ⟨_, rfl⟩, hW, hsame.mono (by decide) (by decide)⟩
  show Qci3_1 Z a1 a2 k1 k2 c0 c1 c2 h0 n0 _ T2.heap _
  rw [e2]
  exact ⟨rfl, N2, K2, F_4⟩
theorem dgc3_1_0 : decode jdk_52_method_5_code 0 = .ok (.getstatic 44, 3) := by decide +kernel
theorem dgc3_1_3 : decode jdk_52_method_5_code 3 = .ok (.ifCond .ne 25, 3) := by decide +kernel
theorem dgc3_1_28 : decode jdk_52_method_5_code 28 = .ok (.iload_n 1, 1) := by decide +kernel
theorem dgc3_1_29 : decode jdk_52_method_5_code 29 = .ok (.iconst 1, 1) := by decide +kernel
theorem dgc3_1_30 : decode jdk_52_method_5_code 30 = .ok (.ishl, 1) := by decide +kernel
theorem dgc3_1_31 : decode jdk_52_method_5_code 31 = .ok (.istore_n 1, 1) := by decide +kernel
theorem dgc3_1_32 : decode jdk_52_method_5_code 32 = .ok (.aload_n 0, 1) := by decide +kernel
theorem dgc3_1_33 : decode jdk_52_method_5_code 33 = .ok (.iload_n 1, 1) := by decide +kernel
theorem dgc3_1_34 : decode jdk_52_method_5_code 34 = .ok (.iinc 1 1, 3) := by decide +kernel
theorem dgc3_1_37 : decode jdk_52_method_5_code 37 = .ok (.baload, 1) := by decide +kernel
theorem dgc3_1_38 : decode jdk_52_method_5_code 38 = .ok (.sipush 255, 3) := by decide +kernel
theorem dgc3_1_41 : decode jdk_52_method_5_code 41 = .ok (.iand, 1) := by decide +kernel
theorem dgc3_1_42 : decode jdk_52_method_5_code 42 = .ok (.getstatic 59, 3) := by decide +kernel
theorem dgc3_1_45 : decode jdk_52_method_5_code 45 = .ok (.ishl, 1) := by decide +kernel
theorem dgc3_1_46 : decode jdk_52_method_5_code 46 = .ok (.aload_n 0, 1) := by decide +kernel
theorem dgc3_1_47 : decode jdk_52_method_5_code 47 = .ok (.iload_n 1, 1) := by decide +kernel
theorem dgc3_1_48 : decode jdk_52_method_5_code 48 = .ok (.baload, 1) := by decide +kernel
theorem dgc3_1_49 : decode jdk_52_method_5_code 49 = .ok (.sipush 255, 3) := by decide +kernel
theorem dgc3_1_52 : decode jdk_52_method_5_code 52 = .ok (.iand, 1) := by decide +kernel
theorem dgc3_1_53 : decode jdk_52_method_5_code 53 = .ok (.getstatic 63, 3) := by decide +kernel
theorem dgc3_1_56 : decode jdk_52_method_5_code 56 = .ok (.ishl, 1) := by decide +kernel
theorem dgc3_1_57 : decode jdk_52_method_5_code 57 = .ok (.ior, 1) := by decide +kernel
theorem dgc3_1_58 : decode jdk_52_method_5_code 58 = .ok (.i2c, 1) := by decide +kernel
theorem dgc3_1_59 : decode jdk_52_method_5_code 59 = .ok (.ireturn, 1) := by decide +kernel
theorem pn_gc3_1 : plainName "java/lang/StringUTF16" = true := by first | (simp [plainName, overriddenIn]; done) | decide +kernel
theorem ef_gc3_1 (m : MethodId) (x0 : Addr) (x1 : Int32) : entryFrame m #[(.ref x0), (.int x1)] 2 = mkF m 0 #[.val (.ref x0), .val (.int x1)] [] := by first | (simp [entryFrame, mkF, argsToLocals, Value.category]; done) | rfl
def Qgc3_1 (Z : State) (a1 : Addr) (k1 : ClassId) (c0 : Int32) (c1 : Int32) (c2 : Int32) (h0 : Heap) (n0 : Nat) (v : Option Value) (h : Heap) (L : List Loc) : Prop := v = some (.int c1) ∧ Fr n0 L ∧ h = h0
set_option maxRecDepth 65536 in
set_option maxHeartbeats 40000000 in
theorem rmgc3_1 (l : Launch) (Z : State) (a0 : Array Value) (hw : ∀ d ∈ tables_1, d.before a0 Z = true) (ws : List Jvm.Cond) (a1 : Addr) (k1 : ClassId) (c0 : Int32) (c1 : Int32) (c2 : Int32) (h0 : Heap) (n0 : Nat) (Z0 : n0 ≤ h0.size) (F0 : Old Z n0 h0) (F1 : Arv Z h0 a1 k1 .byte (6 : Int32) [.int ((c0 >>> ((0 : Int32) &&& 31)).toInt8.toInt32), .int ((c0 >>> ((8 : Int32) &&& 31)).toInt8.toInt32), .int ((c1 >>> ((0 : Int32) &&& 31)).toInt8.toInt32), .int ((c1 >>> ((8 : Int32) &&& 31)).toInt8.toInt32), .int ((c2 >>> ((0 : Int32) &&& 31)).toInt8.toInt32), .int ((c2 >>> ((8 : Int32) &&& 31)).toInt8.toInt32)] (.int 0)) (SH : Sta Z Z.heap "java/lang/StringUTF16" "HI_BYTE_SHIFT" "I" (.int (0 : Int32))) (SL : Sta Z Z.heap "java/lang/StringUTF16" "LO_BYTE_SHIFT" "I" (.int (8 : Int32))) (SA : Sta Z Z.heap "java/lang/StringUTF16" "$assertionsDisabled" "Z" (.int (1 : Int32))) (hw_c1 : own_W c1) :
    MetFree l (⟨"java/lang/StringUTF16", "getChar", "([BI)C"⟩ : MethodName) (head1 (Jvm.Cond.code (⟨"java/lang/StringUTF16", "getChar", "([BI)C"⟩ : MethodName) jdk_52_method_5_code 2 (some .char) :: ws) ({ frames := 0, cells := 0, slots := 0, locals := 0 } : Room)) (fun a U => a = #[(.ref a1), (.int (1 : Int32))] ∧ Z.Warmed39 U.vm ∧ U.heap = h0) (fun _ _ _ _ _ => True) (fun _ U o U' => ∃ v L, o = .returned v ∧ Qgc3_1 Z a1 k1 c0 c1 c2 h0 n0 v U'.heap L ∧ FrameEnd U o U' L ({ frames := 0, cells := 0, slots := 0, locals := 0 } : Room).cells ({ frames := 0, cells := 0, slots := 0, locals := 0 } : Room).slots) := by
  refine MetFree.of_bodySF (plainFor_of_name pn_gc3_1) hisR ?_
  intro p e s m args below meth c s₁ Bd hml0 hP hK
  obtain ⟨rfl, hZ, hh⟩ := hP
  have hx := Bd.exec
  have hby := Bd.bytes
  have hml : c.maxLocals = 2 := hml0
  have hown : s.vm.findClass "java/lang/StringUTF16" = some m.cls := findClass_of_methodNamed Bd.named
  have hnm := (name_of_methodNamed Bd.named Bd.method).1
  have X0 : Stand p l e ({ frames := 0, cells := 0, slots := 0, locals := 0 } : Room) s m #[(.ref a1), (.int (1 : Int32))] below meth c s₁ [] 0 0 := Stand.of_body Bd
  have e0 : s₁.heap = h0 := by rw [← hh, Bd.state]; rfl
  have N0 := Fr.nil n0
  show own_R p.tables e below (own_P s (Qgc3_1 Z a1 k1 c0 c1 c2 h0 n0) ({ frames := 0, cells := 0, slots := 0, locals := 0 } : Room).cells ({ frames := 0, cells := 0, slots := 0, locals := 0 } : Room).slots) (s₁.setTop (entryFrame m #[(.ref a1), (.int (1 : Int32))] 2))
  refine own_f s₁ (mkF m 0 #[.val (.ref a1), .val (.int (1 : Int32))] []) (fun t k => castTop (ef_gc3_1 m a1 (1 : Int32)) k) ?_
  have S1 : Sta Z h0 "java/lang/StringUTF16" "$assertionsDisabled" "Z" (.int (1 : Int32)) := SA.ext F0.2
  obtain ⟨T1, X1, e1, st1⟩ := getS X0 hx hZ (host := "") hown (own_w hw 86 rfl) Via.refl e0 S1 (g := (mkF m 0 #[.val (.ref a1), .val (.int (1 : Int32))] [])) rfl (hb hby dgc3_1_0)
  refine own_f T1 (mkF m 3 #[.val (.ref a1), .val (.int (1 : Int32))] [(.int (1 : Int32))]) st1 ?_
  refine own_f T1 (mkF m 28 #[.val (.ref a1), .val (.int (1 : Int32))] []) (fun t k => XS.ifYes X1.here hx rfl (pc0 := 3) (pc' := 28) rfl (hb hby dgc3_1_3) rfl (XT.i0_ne_t (by decide)) (by decide) (by decide) k) ?_
  refine own_step (fun t k => XS.iloadN X1.here hx rfl (hb hby dgc3_1_28) rfl k) ?_
  refine own_step (fun t k => XT.iconstV X1.here hx rfl (1 : Int32) (hb hby dgc3_1_29) (by decide) k) ?_
  refine own_f T1 (mkF m 31 #[.val (.ref a1), .val (.int (1 : Int32))] [(.int ((1 : Int32) <<< ((1 : Int32) &&& 31)))]) (fun t k => XS.ishl X1.here hx rfl (hb hby dgc3_1_30) rfl k) ?_
  rw [show ((1 : Int32) <<< ((1 : Int32) &&& 31)) = (2 : Int32) from by decide]
  refine own_f T1 (mkF m 32 #[.val (.ref a1), .val (.int (2 : Int32))] []) (fun t k => XS.istoreN X1.here hx rfl (hb hby dgc3_1_31) rfl (l' := #[.val (.ref a1), .val (.int (2 : Int32))]) rfl k) ?_
  refine own_step (fun t k => XS.aloadN X1.here hx rfl (hb hby dgc3_1_32) rfl rfl k) ?_
  refine own_f T1 (mkF m 34 #[.val (.ref a1), .val (.int (2 : Int32))] [(.int (2 : Int32)), (.ref a1)]) (fun t k => XS.iloadN X1.here hx rfl (hb hby dgc3_1_33) rfl k) ?_
  refine own_f T1 (mkF m 37 #[.val (.ref a1), .val (.int ((2 : Int32) + (1 : Int32)))] [(.int (2 : Int32)), (.ref a1)]) (fun t k => XT.iincV X1.here hx rfl (l' := #[.val (.ref a1), .val (.int ((2 : Int32) + (1 : Int32)))]) (1 : Int32) (hb hby dgc3_1_34) (by decide) rfl rfl k) ?_
  rw [show ((2 : Int32) + (1 : Int32)) = (3 : Int32) from by decide]
  obtain ⟨cl2, Ar2, q12, Sz2, q32, Hs2, Gs2⟩ := id F1
  have hi2 := inb_of (j := (2 : Int32)) Sz2 ⟨by decide, by decide⟩
  refine own_f T1 (mkF m 38 #[.val (.ref a1), .val (.int (3 : Int32))] [(.int ((c1 >>> ((0 : Int32) &&& 31)).toInt8.toInt32))]) (fun t k => X1.baloadBytes hx (j := (2 : Int32)) (v := (.int ((c1 >>> ((0 : Int32) &&& 31)).toInt8.toInt32))) (by rw [e1]; exact Ar2.1) (State.isArrayOf_alike hZ.alike Ar2.2.1) Ar2.2.2 hi2 (Has.at Hs2 hi2 rfl) (g := (mkF m 37 #[.val (.ref a1), .val (.int (3 : Int32))] [(.int (2 : Int32)), (.ref a1)])) rfl rfl (hb hby dgc3_1_37) t k) ?_
  refine own_step (fun t k => XT.sipushV X1.here hx rfl (255 : Int32) (hb hby dgc3_1_38) (by decide) k) ?_
  refine own_f T1 (mkF m 42 #[.val (.ref a1), .val (.int (3 : Int32))] [(.int (((c1 >>> ((0 : Int32) &&& 31)).toInt8.toInt32) &&& (255 : Int32)))]) (fun t k => XS.iand X1.here hx rfl (hb hby dgc3_1_41) rfl k) ?_
  have S3 : Sta Z h0 "java/lang/StringUTF16" "HI_BYTE_SHIFT" "I" (.int (0 : Int32)) := SH.ext F0.2
  obtain ⟨T3, X3, e3, st3⟩ := getS X1 hx hZ (host := "") hown (own_w hw 87 rfl) Via.refl e1 S3 (g := (mkF m 42 #[.val (.ref a1), .val (.int (3 : Int32))] [(.int (((c1 >>> ((0 : Int32) &&& 31)).toInt8.toInt32) &&& (255 : Int32)))])) rfl (hb hby dgc3_1_42)
  refine own_f T3 (mkF m 45 #[.val (.ref a1), .val (.int (3 : Int32))] [(.int (0 : Int32)), (.int (((c1 >>> ((0 : Int32) &&& 31)).toInt8.toInt32) &&& (255 : Int32)))]) st3 ?_
  refine own_f T3 (mkF m 46 #[.val (.ref a1), .val (.int (3 : Int32))] [(.int ((((c1 >>> ((0 : Int32) &&& 31)).toInt8.toInt32) &&& (255 : Int32)) <<< ((0 : Int32) &&& 31)))]) (fun t k => XS.ishl X3.here hx rfl (hb hby dgc3_1_45) rfl k) ?_
  refine own_step (fun t k => XS.aloadN X3.here hx rfl (hb hby dgc3_1_46) rfl rfl k) ?_
  refine own_f T3 (mkF m 48 #[.val (.ref a1), .val (.int (3 : Int32))] [(.int (3 : Int32)), (.ref a1), (.int ((((c1 >>> ((0 : Int32) &&& 31)).toInt8.toInt32) &&& (255 : Int32)) <<< ((0 : Int32) &&& 31)))]) (fun t k => XS.iloadN X3.here hx rfl (hb hby dgc3_1_47) rfl k) ?_
  obtain ⟨cl4, Ar4, q14, Sz4, q34, Hs4, Gs4⟩ := id F1
  have hi4 := inb_of (j := (3 : Int32)) Sz4 ⟨by decide, by decide⟩
  refine own_f T3 (mkF m 49 #[.val (.ref a1), .val (.int (3 : Int32))] [(.int ((c1 >>> ((8 : Int32) &&& 31)).toInt8.toInt32)), (.int ((((c1 >>> ((0 : Int32) &&& 31)).toInt8.toInt32) &&& (255 : Int32)) <<< ((0 : Int32) &&& 31)))]) (fun t k => X3.baloadBytes hx (j := (3 : Int32)) (v := (.int ((c1 >>> ((8 : Int32) &&& 31)).toInt8.toInt32))) (by rw [e3]; exact Ar4.1) (State.isArrayOf_alike hZ.alike Ar4.2.1) Ar4.2.2 hi4 (Has.at Hs4 hi4 rfl) (g := (mkF m 48 #[.val (.ref a1), .val (.int (3 : Int32))] [(.int (3 : Int32)), (.ref a1), (.int ((((c1 >>> ((0 : Int32) &&& 31)).toInt8.toInt32) &&& (255 : Int32)) <<< ((0 : Int32) &&& 31)))])) rfl rfl (hb hby dgc3_1_48) t k) ?_
  refine own_step (fun t k => XT.sipushV X3.here hx rfl (255 : Int32) (hb hby dgc3_1_49) (by decide) k) ?_
  refine own_f T3 (mkF m 53 #[.val (.ref a1), .val (.int (3 : Int32))] [(.int (((c1 >>> ((8 : Int32) &&& 31)).toInt8.toInt32) &&& (255 : Int32))), (.int ((((c1 >>> ((0 : Int32) &&& 31)).toInt8.toInt32) &&& (255 : Int32)) <<< ((0 : Int32) &&& 31)))]) (fun t k => XS.iand X3.here hx rfl (hb hby dgc3_1_52) rfl k) ?_
  have S5 : Sta Z h0 "java/lang/StringUTF16" "LO_BYTE_SHIFT" "I" (.int (8 : Int32)) := SL.ext F0.2
  obtain ⟨T5, X5, e5, st5⟩ := getS X3 hx hZ (host := "") hown (own_w hw 88 rfl) Via.refl e3 S5 (g := (mkF m 53 #[.val (.ref a1), .val (.int (3 : Int32))] [(.int (((c1 >>> ((8 : Int32) &&& 31)).toInt8.toInt32) &&& (255 : Int32))), (.int ((((c1 >>> ((0 : Int32) &&& 31)).toInt8.toInt32) &&& (255 : Int32)) <<< ((0 : Int32) &&& 31)))])) rfl (hb hby dgc3_1_53)
  refine own_f T5 (mkF m 56 #[.val (.ref a1), .val (.int (3 : Int32))] [(.int (8 : Int32)), (.int (((c1 >>> ((8 : Int32) &&& 31)).toInt8.toInt32) &&& (255 : Int32))), (.int ((((c1 >>> ((0 : Int32) &&& 31)).toInt8.toInt32) &&& (255 : Int32)) <<< ((0 : Int32) &&& 31)))]) st5 ?_
  refine own_f T5 (mkF m 57 #[.val (.ref a1), .val (.int (3 : Int32))] [(.int ((((c1 >>> ((8 : Int32) &&& 31)).toInt8.toInt32) &&& (255 : Int32)) <<< ((8 : Int32) &&& 31))), (.int ((((c1 >>> ((0 : Int32) &&& 31)).toInt8.toInt32) &&& (255 : Int32)) <<< ((0 : Int32) &&& 31)))]) (fun t k => XS.ishl X5.here hx rfl (hb hby dgc3_1_56) rfl k) ?_
  refine own_f T5 (mkF m 58 #[.val (.ref a1), .val (.int (3 : Int32))] [(.int (((((c1 >>> ((0 : Int32) &&& 31)).toInt8.toInt32) &&& (255 : Int32)) <<< ((0 : Int32) &&& 31)) ||| ((((c1 >>> ((8 : Int32) &&& 31)).toInt8.toInt32) &&& (255 : Int32)) <<< ((8 : Int32) &&& 31))))]) (fun t k => XS.ior X5.here hx rfl (hb hby dgc3_1_57) rfl k) ?_
  refine own_f T5 (mkF m 59 #[.val (.ref a1), .val (.int (3 : Int32))] [(.int ((((((c1 >>> ((0 : Int32) &&& 31)).toInt8.toInt32) &&& (255 : Int32)) <<< ((0 : Int32) &&& 31)) ||| ((((c1 >>> ((8 : Int32) &&& 31)).toInt8.toInt32) &&& (255 : Int32)) <<< ((8 : Int32) &&& 31))).toUInt32.toUInt16.toUInt32.toInt32))]) (fun t k => XS.i2c X5.here hx rfl (hb hby dgc3_1_58) rfl k) ?_
  obtain ⟨fs, hr, hrun, hended, hW, hsame⟩ := X5.leave (v := some (.int ((((((c1 >>> ((0 : Int32) &&& 31)).toInt8.toInt32) &&& (255 : Int32)) <<< ((0 : Int32) &&& 31)) ||| ((((c1 >>> ((8 : Int32) &&& 31)).toInt8.toInt32) &&& (255 : Int32)) <<< ((8 : Int32) &&& 31))).toUInt32.toUInt16.toUInt32.toInt32))) (fun h => by rw [Bd.returns] at h; cases h)
  refine ⟨_, _, own_retB X5 hx (t := .char) Bd.returns (by simp) (own_narC _) (hb hby dgc3_1_59) hr, hrun, hended, _, _, rfl, ?_, ⟨_, rfl⟩, hW, hsame.mono (by decide) (by decide)⟩
  show Qgc3_1 Z a1 k1 c0 c1 c2 h0 n0 _ T5.heap _
  rw [e5]
  exact ⟨by rw [own_gc hw_c1], N0, rfl⟩
theorem dcb3_1_0 : decode jdk_52_method_16_code 0 = .ok (.iload_n 2, 1) := by decide +kernel
theorem dcb3_1_1 : decode jdk_52_method_16_code 1 = .ok (.newarray .byte, 2) := by decide +kernel
theorem dcb3_1_3 : decode jdk_52_method_16_code 3 = .ok (.astore_n 3, 1) := by decide +kernel
theorem dcb3_1_4 : decode jdk_52_method_16_code 4 = .ok (.aload_n 0, 1) := by decide +kernel
theorem dcb3_1_5 : decode jdk_52_method_16_code 5 = .ok (.iload_n 1, 1) := by decide +kernel
theorem dcb3_1_6 : decode jdk_52_method_16_code 6 = .ok (.aload_n 3, 1) := by decide +kernel
theorem dcb3_1_7 : decode jdk_52_method_16_code 7 = .ok (.iconst 0, 1) := by decide +kernel
theorem dcb3_1_8 : decode jdk_52_method_16_code 8 = .ok (.iload_n 2, 1) := by decide +kernel
theorem dcb3_1_9 : decode jdk_52_method_16_code 9 = .ok (.invokestatic 115, 3) := by decide +kernel
theorem dcb3_1_12 : decode jdk_52_method_16_code 12 = .ok (.istore 4, 2) := by decide +kernel
theorem dcb3_1_14 : decode jdk_52_method_16_code 14 = .ok (.iload 4, 2) := by decide +kernel
theorem dcb3_1_16 : decode jdk_52_method_16_code 16 = .ok (.iload_n 2, 1) := by decide +kernel
theorem dcb3_1_17 : decode jdk_52_method_16_code 17 = .ok (.if_icmp .eq 40, 3) := by decide +kernel
theorem dcb3_1_20 : decode jdk_52_method_16_code 20 = .ok (.aload_n 0, 1) := by decide +kernel
theorem dcb3_1_21 : decode jdk_52_method_16_code 21 = .ok (.iload_n 1, 1) := by decide +kernel
theorem dcb3_1_22 : decode jdk_52_method_16_code 22 = .ok (.iload_n 2, 1) := by decide +kernel
theorem dcb3_1_23 : decode jdk_52_method_16_code 23 = .ok (.invokestatic 119, 3) := by decide +kernel
theorem dcb3_1_26 : decode jdk_52_method_16_code 26 = .ok (.astore 5, 2) := by decide +kernel
theorem dcb3_1_28 : decode jdk_52_method_16_code 28 = .ok (.aload 5, 2) := by decide +kernel
theorem dcb3_1_30 : decode jdk_52_method_16_code 30 = .ok (.iload 4, 2) := by decide +kernel
theorem dcb3_1_32 : decode jdk_52_method_16_code 32 = .ok (.invokestatic 71, 3) := by decide +kernel
theorem dcb3_1_35 : decode jdk_52_method_16_code 35 = .ok (.sipush 255, 3) := by decide +kernel
theorem dcb3_1_38 : decode jdk_52_method_16_code 38 = .ok (.if_icmp .gt 16, 3) := by decide +kernel
theorem dcb3_1_54 : decode jdk_52_method_16_code 54 = .ok (.aload 5, 2) := by decide +kernel
theorem dcb3_1_56 : decode jdk_52_method_16_code 56 = .ok (.areturn, 1) := by decide +kernel
theorem pn_cb3_1 : plainName "java/lang/StringUTF16" = true := by first | (simp [plainName, overriddenIn]; done) | decide +kernel
theorem ef_cb3_1 (m : MethodId) (x0 : Addr) (x1 : Int32) (x2 : Int32) : entryFrame m #[(.ref x0), (.int x1), (.int x2)] 6 = mkF m 0 #[.val (.ref x0), .val (.int x1), .val (.int x2), .unset, .unset, .unset] [] := by first | (simp [entryFrame, mkF, argsToLocals, Value.category]; done) | rfl
def Qcb3_1 (Z : State) (a1 : Addr) (k1 : ClassId) (c0 : Int32) (c1 : Int32) (c2 : Int32) (h0 : Heap) (n0 : Nat) (v : Option Value) (h : Heap) (L : List Loc) : Prop := ∃ (b : Addr) (kb : ClassId), v = some (.ref b) ∧ Fr n0 L ∧ Keep h0 h [] ∧ Arv Z h b kb .byte (6 : Int32) [.int ((c0 >>> ((0 : Int32) &&& 31)).toInt8.toInt32), .int ((c0 >>> ((8 : Int32) &&& 31)).toInt8.toInt32), .int ((c1 >>> ((0 : Int32) &&& 31)).toInt8.toInt32), .int ((c1 >>> ((8 : Int32) &&& 31)).toInt8.toInt32), .int ((c2 >>> ((0 : Int32) &&& 31)).toInt8.toInt32), .int ((c2 >>> ((8 : Int32) &&& 31)).toInt8.toInt32)] (.int 0) ∧ h0.size ≤ b
set_option maxRecDepth 65536 in
set_option maxHeartbeats 40000000 in
theorem rmcb3_1 (l : Launch) (Z : State) (a0 : Array Value) (hw : ∀ d ∈ tables_1, d.before a0 Z = true) (ws : List Jvm.Cond) (a1 : Addr) (k1 : ClassId) (c0 : Int32) (c1 : Int32) (c2 : Int32) (h0 : Heap) (n0 : Nat) (Z0 : n0 ≤ h0.size) (F0 : Old Z n0 h0) (F1 : Arv Z h0 a1 k1 .char (3 : Int32) [.int c0, .int c1, .int c2] (.int 0)) (hc_c0 : ¬ ((255 : Int32) < c0)) (hc_c1 : (255 : Int32) < c1) (SH : Sta Z Z.heap "java/lang/StringUTF16" "HI_BYTE_SHIFT" "I" (.int (0 : Int32))) (SL : Sta Z Z.heap "java/lang/StringUTF16" "LO_BYTE_SHIFT" "I" (.int (8 : Int32))) (SA : Sta Z Z.heap "java/lang/StringUTF16" "$assertionsDisabled" "Z" (.int (1 : Int32))) (hw_c1 : own_W c1) :
    MetFree l (⟨"java/lang/StringUTF16", "compress", "([CII)[B"⟩ : MethodName) (head1 (Jvm.Cond.code (⟨"java/lang/StringUTF16", "compress", "([CII)[B"⟩ : MethodName) jdk_52_method_16_code 6 (some (.array .byte)) :: ws) ({ frames := 3, cells := 2, slots := 9, locals := 40 } : Room)) (fun a U => a = #[(.ref a1), (.int (0 : Int32)), (.int (3 : Int32))] ∧ Z.Warmed39 U.vm ∧ U.heap = h0) (fun _ _ _ _ _ => True) (fun _ U o U' => ∃ v L, o = .returned v ∧ Qcb3_1 Z a1 k1 c0 c1 c2 h0 n0 v U'.heap L ∧ FrameEnd U o U' L ({ frames := 3, cells := 2, slots := 9, locals := 40 } : Room).cells ({ frames := 3, cells := 2, slots := 9, locals := 40 } : Room).slots) := by
  refine MetFree.of_bodySF (plainFor_of_name pn_cb3_1) hisR ?_
  intro p e s m args below meth c s₁ Bd hml0 hP hK
  obtain ⟨rfl, hZ, hh⟩ := hP
  have hx := Bd.exec
  have hby := Bd.bytes
  have hml : c.maxLocals = 6 := hml0
  have hown : s.vm.findClass "java/lang/StringUTF16" = some m.cls := findClass_of_methodNamed Bd.named
  have hnm := (name_of_methodNamed Bd.named Bd.method).1
  have X0 : Stand p l e ({ frames := 3, cells := 2, slots := 9, locals := 40 } : Room) s m #[(.ref a1), (.int (0 : Int32)), (.int (3 : Int32))] below meth c s₁ [] 0 0 := Stand.of_body Bd
  have e0 : s₁.heap = h0 := by rw [← hh, Bd.state]; rfl
  have N0 := Fr.nil n0
  show own_R p.tables e below (own_P s (Qcb3_1 Z a1 k1 c0 c1 c2 h0 n0) ({ frames := 3, cells := 2, slots := 9, locals := 40 } : Room).cells ({ frames := 3, cells := 2, slots := 9, locals := 40 } : Room).slots) (s₁.setTop (entryFrame m #[(.ref a1), (.int (0 : Int32)), (.int (3 : Int32))] 6))
  refine own_f s₁ (mkF m 0 #[.val (.ref a1), .val (.int (0 : Int32)), .val (.int (3 : Int32)), .unset, .unset, .unset] []) (fun t k => castTop (ef_cb3_1 m a1 (0 : Int32) (3 : Int32)) k) ?_
  refine own_f s₁ (mkF m 1 #[.val (.ref a1), .val (.int (0 : Int32)), .val (.int (3 : Int32)), .unset, .unset, .unset] [(.int (3 : Int32))]) (fun t k => XS.iloadN X0.here hx rfl (hb hby dcb3_1_0) rfl k) ?_
  obtain ⟨T1, h1, kA1, X1, e1, E1, A1, st1⟩ := newP X0 hx hZ (own_w hw 21 rfl) e0 (g := (mkF m 1 #[.val (.ref a1), .val (.int (0 : Int32)), .val (.int (3 : Int32)), .unset, .unset, .unset] [(.int (3 : Int32))])) rfl (hb hby dcb3_1_1) rfl (by decide) (cap := 3) (by decide) (by decide) (by decide) (by decide)
  obtain ⟨b1, g1⟩ : ∃ z, z = h0.size := ⟨_, rfl⟩
  rw [← g1] at A1 st1
  have ne1_a1 : a1 ≠ b1 := by rw [g1]; exact Nat.ne_of_lt F1.lt
  have ge1 : n0 ≤ b1 := by rw [g1]; exact Z0
  have gf1 : h0.size ≤ b1 := by rw [g1]; exact (Keep.refl h0 []).1
  have Zs1 : n0 ≤ h1.size := Nat.le_trans Z0 E1.1
  have F_2 := F0.ext E1
  have F_3 := F1.ext E1
  have K1 : Keep h0 h1 [] := (Keep.refl h0 []).ext E1
  have F_4 : Arv Z h1 b1 kA1 .byte (3 : Int32) [.int 0, .int 0, .int 0] (.int 0) := own_arvnew 3 A1 (by decide)
  refine own_f T1 (mkF m 3 #[.val (.ref a1), .val (.int (0 : Int32)), .val (.int (3 : Int32)), .unset, .unset, .unset] [(.ref b1)]) st1 ?_
  refine own_f T1 (mkF m 4 #[.val (.ref a1), .val (.int (0 : Int32)), .val (.int (3 : Int32)), .val (.ref b1), .unset, .unset] []) (fun t k => XS.astoreN X1.here hx rfl (hb hby dcb3_1_3) rfl rfl (l' := #[.val (.ref a1), .val (.int (0 : Int32)), .val (.int (3 : Int32)), .val (.ref b1), .unset, .unset]) rfl k) ?_
  refine own_step (fun t k => XS.aloadN X1.here hx rfl (hb hby dcb3_1_4) rfl rfl k) ?_
  refine own_step (fun t k => XS.iloadN X1.here hx rfl (hb hby dcb3_1_5) rfl k) ?_
  refine own_step (fun t k => XS.aloadN X1.here hx rfl (hb hby dcb3_1_6) rfl rfl k) ?_
  refine own_step (fun t k => XT.iconstV X1.here hx rfl (0 : Int32) (hb hby dcb3_1_7) (by decide) k) ?_
  refine own_f T1 (mkF m 9 #[.val (.ref a1), .val (.int (0 : Int32)), .val (.int (3 : Int32)), .val (.ref b1), .unset, .unset] [(.int (3 : Int32)), (.int (0 : Int32)), (.ref b1), (.int (0 : Int32)), (.ref a1)]) (fun t k => XS.iloadN X1.here hx rfl (hb hby dcb3_1_8) rfl k) ?_
  obtain ⟨_, _, ⟨T5, Lq5, kq_5, nq_5⟩, -, X5, ⟨Lc5, hQ5, lq5, yq5, zq5⟩, st5⟩ := Jvm.LawKit.callS X1 hx (y := (⟨"java/lang/StringUTF16", "compress", "([CI[BII)I"⟩ : MethodName)) hown (mvT hZ (own_w hw 22 rfl)) (mvT hZ (own_w hw 23 rfl)) (mvT hZ (own_w hw 19 rfl)) (mvT hZ (own_w hw 24 rfl)) (by decide) (backOf (W := 0) (rmci3_1 l Z a0 hw [] a1 b1 _ _ _ _ _ h1 n0 Zs1 F_3 F_4 ge1 ne1_a1 hc_c0 hc_c1) hZ (own_w hw 24 rfl) (own_w hw 19 rfl) (by decide) (by decide)) (g := (mkF m 9 #[.val (.ref a1), .val (.int (0 : Int32)), .val (.int (3 : Int32)), .val (.ref b1), .unset, .unset] [(.int (3 : Int32)), (.int (0 : Int32)), (.ref b1), (.int (0 : Int32)), (.ref a1)])) rfl (by rw [hml]; rfl) (argsL := [(.ref a1), (.int (0 : Int32)), (.ref b1), (.int (0 : Int32)), (.int (3 : Int32))]) (rest := []) (lenOf pd__CI_BII_I rfl) rfl (by show 2 * 0 + _ ≤ _; exact Nat.le_of_eq rfl) (hb hby dcb3_1_9) (fun _ _ => ⟨rfl, e1, (by decide : 0 + 1 + 0 ≤ _), (by decide : 0 + 3 + 0 ≤ _)⟩)
  dsimp only [Pt.U, Pt.locs, Pt.cells, Pt.slots] at X5 lq5 yq5 zq5 st5 hQ5
  subst lq5 yq5 zq5
  obtain ⟨h5, e5⟩ : ∃ z, T5.heap = z := ⟨_, rfl⟩
  rw [e5] at hQ5
  unfold Qci3_1 at hQ5
  obtain ⟨rfl, Nq5, qh5, G5_0⟩ := hQ5
  have N5 := Fr.app N0 Nq5
  have Zs5 : n0 ≤ h5.size := Nat.le_trans Zs1 qh5.1
  have F_6 := F_2.keep qh5 (allS ge1 all0)
  have F_7 := F_3.keep qh5 (ninS ne1_a1 nin0)
  have K5 : Keep h0 h5 [] := K1.trans qh5 (allS (Or.inr gf1) all0)
  refine own_f T5 (mkF m 12 #[.val (.ref a1), .val (.int (0 : Int32)), .val (.int (3 : Int32)), .val (.ref b1), .unset, .unset] [(.int (1 : Int32))]) st5 ?_
  refine own_f T5 (mkF m 14 #[.val (.ref a1), .val (.int (0 : Int32)), .val (.int (3 : Int32)), .val (.ref b1), .val (.int (1 : Int32)), .unset] []) (fun t k => XS.istore X5.here hx rfl (hb hby dcb3_1_12) rfl (l' := #[.val (.ref a1), .val (.int (0 : Int32)), .val (.int (3 : Int32)), .val (.ref b1), .val (.int (1 : Int32)), .unset]) rfl k) ?_
  refine own_step (fun t k => XS.iload X5.here hx rfl (hb hby dcb3_1_14) rfl k) ?_
  refine own_step (fun t k => XS.iloadN X5.here hx rfl (hb hby dcb3_1_16) rfl k) ?_
  refine own_f T5 (mkF m 20 #[.val (.ref a1), .val (.int (0 : Int32)), .val (.int (3 : Int32)), .val (.ref b1), .val (.int (1 : Int32)), .unset] []) (fun t k => XS.icmpNo X5.here hx rfl (hb hby dcb3_1_17) rfl (XT.ii_eq_f (by decide)) k) ?_
  refine own_step (fun t k => XS.aloadN X5.here hx rfl (hb hby dcb3_1_20) rfl rfl k) ?_
  refine own_step (fun t k => XS.iloadN X5.here hx rfl (hb hby dcb3_1_21) rfl k) ?_
  refine own_f T5 (mkF m 23 #[.val (.ref a1), .val (.int (0 : Int32)), .val (.int (3 : Int32)), .val (.ref b1), .val (.int (1 : Int32)), .unset] [(.int (3 : Int32)), (.int (0 : Int32)), (.ref a1)]) (fun t k => XS.iloadN X5.here hx rfl (hb hby dcb3_1_22) rfl k) ?_
  obtain ⟨_, _, ⟨T8, Lq8, kq_8, nq_8⟩, -, X8, ⟨Lc8, hQ8, lq8, yq8, zq8⟩, st8⟩ := Jvm.LawKit.callS X5 hx (y := (⟨"java/lang/StringUTF16", "toBytes", "([CII)[B"⟩ : MethodName)) hown (mvT hZ (own_w hw 73 rfl)) (mvT hZ (own_w hw 74 rfl)) (mvT hZ (own_w hw 19 rfl)) (mvT hZ (own_w hw 75 rfl)) (by decide) (backOf (W := 0) (rmtb3 l Z a0 hw [] a1 _ _ _ _ h5 n0 Zs5 F_6 F_7 SH SL SA) hZ (own_w hw 75 rfl) (own_w hw 19 rfl) (by decide) (by decide)) (g := (mkF m 23 #[.val (.ref a1), .val (.int (0 : Int32)), .val (.int (3 : Int32)), .val (.ref b1), .val (.int (1 : Int32)), .unset] [(.int (3 : Int32)), (.int (0 : Int32)), (.ref a1)])) rfl (by rw [hml]; rfl) (argsL := [(.ref a1), (.int (0 : Int32)), (.int (3 : Int32))]) (rest := []) (lenOf pd__CII_B rfl) rfl (by show 2 * 0 + _ ≤ _; exact Nat.le_of_eq rfl) (hb hby dcb3_1_23) (fun _ _ => ⟨rfl, e5, (by decide : 0 + 1 + 0 + 1 ≤ _), (by decide : 0 + 3 + 0 + 6 ≤ _)⟩)
  dsimp only [Pt.U, Pt.locs, Pt.cells, Pt.slots] at X8 lq8 yq8 zq8 st8 hQ8
  subst lq8 yq8 zq8
  obtain ⟨h8, e8⟩ : ∃ z, T8.heap = z := ⟨_, rfl⟩
  rw [e8] at hQ8
  unfold Qtb3 at hQ8
  obtain ⟨b8, kb8, rfl, Nq8, qh8, G8_0, H8_0⟩ := hQ8
  have N8 := Fr.app N5 Nq8
  have Zs8 : n0 ≤ h8.size := Nat.le_trans Zs5 qh8.1
  have F_9 := F_6.keep qh8 all0
  have F_10 := F_7.keep qh8 nin0
  have F_11 := G5_0.keep qh8 nin0
  have K8 : Keep h0 h8 [] := K5.trans qh8 all0
  have ne8_a1 : a1 ≠ b8 := Nat.ne_of_lt (Nat.lt_of_lt_of_le F_7.lt H8_0)
  have ne8_b1 : b1 ≠ b8 := Nat.ne_of_lt (Nat.lt_of_lt_of_le G5_0.lt H8_0)
  have ge8 : n0 ≤ b8 := Nat.le_trans Zs5 H8_0
  have gf8 : h0.size ≤ b8 := Nat.le_trans K5.1 H8_0
  refine own_f T8 (mkF m 26 #[.val (.ref a1), .val (.int (0 : Int32)), .val (.int (3 : Int32)), .val (.ref b1), .val (.int (1 : Int32)), .unset] [(.ref b8)]) st8 ?_
  refine own_f T8 (mkF m 28 #[.val (.ref a1), .val (.int (0 : Int32)), .val (.int (3 : Int32)), .val (.ref b1), .val (.int (1 : Int32)), .val (.ref b8)] []) (fun t k => XS.astore X8.here hx rfl (hb hby dcb3_1_26) rfl rfl (l' := #[.val (.ref a1), .val (.int (0 : Int32)), .val (.int (3 : Int32)), .val (.ref b1), .val (.int (1 : Int32)), .val (.ref b8)]) rfl k) ?_
  refine own_step (fun t k => XS.aload X8.here hx rfl (hb hby dcb3_1_28) rfl rfl k) ?_
  refine own_f T8 (mkF m 32 #[.val (.ref a1), .val (.int (0 : Int32)), .val (.int (3 : Int32)), .val (.ref b1), .val (.int (1 : Int32)), .val (.ref b8)] [(.int (1 : Int32)), (.ref b8)]) (fun t k => XS.iload X8.here hx rfl (hb hby dcb3_1_30) rfl k) ?_
  obtain ⟨_, _, ⟨T12, Lq12, kq_12, nq_12⟩, -, X12, ⟨Lc12, hQ12, lq12, yq12, zq12⟩, st12⟩ := Jvm.LawKit.callS X8 hx (y := (⟨"java/lang/StringUTF16", "getChar", "([BI)C"⟩ : MethodName)) hown (mvT hZ (own_w hw 89 rfl)) (mvT hZ (own_w hw 90 rfl)) (mvT hZ (own_w hw 19 rfl)) (mvT hZ (own_w hw 91 rfl)) (by decide) (backOf (W := 0) (rmgc3_1 l Z a0 hw [] b8 _ _ _ _ h8 n0 Zs8 F_9 G8_0 SH SL SA hw_c1) hZ (own_w hw 91 rfl) (own_w hw 19 rfl) (by decide) (by decide)) (g := (mkF m 32 #[.val (.ref a1), .val (.int (0 : Int32)), .val (.int (3 : Int32)), .val (.ref b1), .val (.int (1 : Int32)), .val (.ref b8)] [(.int (1 : Int32)), (.ref b8)])) rfl (by rw [hml]; rfl) (argsL := [(.ref b8), (.int (1 : Int32))]) (rest := []) (lenOf pd__BI_C rfl) rfl (by show 2 * 0 + _ ≤ _; exact Nat.le_of_eq rfl) (hb hby dcb3_1_32) (fun _ _ => ⟨rfl, e8, (by decide : 0 + 1 + 0 + 1 + 0 ≤ _), (by decide : 0 + 3 + 0 + 6 + 0 ≤ _)⟩)
  dsimp only [Pt.U, Pt.locs, Pt.cells, Pt.slots] at X12 lq12 yq12 zq12 st12 hQ12
  subst lq12 yq12 zq12
  obtain ⟨h12, e12⟩ : ∃ z, T12.heap = z := ⟨_, rfl⟩
  rw [e12] at hQ12
  unfold Qgc3_1 at hQ12
  obtain ⟨rfl, Nq12, qh12⟩ := hQ12
  have N12 := Fr.app N8 Nq12
  rw [qh12] at e12
  refine own_f T12 (mkF m 35 #[.val (.ref a1), .val (.int (0 : Int32)), .val (.int (3 : Int32)), .val (.ref b1), .val (.int (1 : Int32)), .val (.ref b8)] [(.int c1)]) st12 ?_
  refine own_step (fun t k => XT.sipushV X12.here hx rfl (255 : Int32) (hb hby dcb3_1_35) (by decide) k) ?_
  refine own_f T12 (mkF m 54 #[.val (.ref a1), .val (.int (0 : Int32)), .val (.int (3 : Int32)), .val (.ref b1), .val (.int (1 : Int32)), .val (.ref b8)] []) (fun t k => XS.icmpYes X12.here hx rfl (pc0 := 38) (pc' := 54) rfl (hb hby dcb3_1_38) rfl (XT.ii_gt_t hc_c1) (by decide) (by decide) k) ?_
  refine own_f T12 (mkF m 56 #[.val (.ref a1), .val (.int (0 : Int32)), .val (.int (3 : Int32)), .val (.ref b1), .val (.int (1 : Int32)), .val (.ref b8)] [(.ref b8)]) (fun t k => XS.aload X12.here hx rfl (hb hby dcb3_1_54) rfl rfl k) ?_
  obtain ⟨fs, hr, hrun, hended, hW, hsame⟩ := X12.leave (v := some (.ref b8)) (fun h => by rw [Bd.returns] at h; cases h)
  refine ⟨_, _, retOut X12 hx Bd.returns (by rfl) (Or.inr (Or.inr (Or.inr (Or.inr ⟨rfl, rfl, rfl⟩)))) (hb hby dcb3_1_56) hr, hrun, hended, _, _, rfl, ?_, ⟨_, rfl⟩, hW, hsame.mono (by decide) (by decide)⟩
  show Qcb3_1 Z a1 k1 c0 c1 c2 h0 n0 _ T12.heap _
  rw [e12]
  exact ⟨b8, kb8, rfl, N12, K8, G8_0, gf8⟩
theorem ds43_1_0 : decode jdk_42_method_149_code 0 = .ok (.aload_n 0, 1) := by decide +kernel
theorem ds43_1_1 : decode jdk_42_method_149_code 1 = .ok (.invokespecial 1, 3) := by decide +kernel
theorem ds43_1_4 : decode jdk_42_method_149_code 4 = .ok (.iload_n 3, 1) := by decide +kernel
theorem ds43_1_5 : decode jdk_42_method_149_code 5 = .ok (.ifCond .ne 22, 3) := by decide +kernel
theorem ds43_1_27 : decode jdk_42_method_149_code 27 = .ok (.getstatic 38, 3) := by decide +kernel
theorem ds43_1_30 : decode jdk_42_method_149_code 30 = .ok (.ifCond .eq 28, 3) := by decide +kernel
theorem ds43_1_33 : decode jdk_42_method_149_code 33 = .ok (.aload_n 1, 1) := by decide +kernel
theorem ds43_1_34 : decode jdk_42_method_149_code 34 = .ok (.iload_n 2, 1) := by decide +kernel
theorem ds43_1_35 : decode jdk_42_method_149_code 35 = .ok (.iload_n 3, 1) := by decide +kernel
theorem ds43_1_36 : decode jdk_42_method_149_code 36 = .ok (.invokestatic 177, 3) := by decide +kernel
theorem ds43_1_39 : decode jdk_42_method_149_code 39 = .ok (.astore 5, 2) := by decide +kernel
theorem ds43_1_41 : decode jdk_42_method_149_code 41 = .ok (.aload_n 0, 1) := by decide +kernel
theorem ds43_1_42 : decode jdk_42_method_149_code 42 = .ok (.aload 5, 2) := by decide +kernel
theorem ds43_1_44 : decode jdk_42_method_149_code 44 = .ok (.iload_n 3, 1) := by decide +kernel
theorem ds43_1_45 : decode jdk_42_method_149_code 45 = .ok (.invokestatic 47, 3) := by decide +kernel
theorem ds43_1_48 : decode jdk_42_method_149_code 48 = .ok (.putfield 15, 3) := by decide +kernel
theorem ds43_1_51 : decode jdk_42_method_149_code 51 = .ok (.aload_n 0, 1) := by decide +kernel
theorem ds43_1_52 : decode jdk_42_method_149_code 52 = .ok (.aload 5, 2) := by decide +kernel
theorem ds43_1_54 : decode jdk_42_method_149_code 54 = .ok (.putfield 9, 3) := by decide +kernel
theorem ds43_1_57 : decode jdk_42_method_149_code 57 = .ok (.return_, 1) := by decide +kernel
theorem pn_s43_1 : plainName "java/lang/String" = true := by first | (simp [plainName, overriddenIn]; done) | decide +kernel
theorem ef_s43_1 (m : MethodId) (x0 : Addr) (x1 : Addr) (x2 : Int32) (x3 : Int32) : entryFrame m #[(.ref x0), (.ref x1), (.int x2), (.int x3), .null] 6 = mkF m 0 #[.val (.ref x0), .val (.ref x1), .val (.int x2), .val (.int x3), .val .null, .unset] [] := by first | (simp [entryFrame, mkF, argsToLocals, Value.category]; done) | rfl
def Qs43_1 (Z : State) (a1 : Addr) (a2 : Addr) (k2 : ClassId) (c0 : Int32) (c1 : Int32) (c2 : Int32) (u0 : Value) (u1 : Value) (wc : Int32) (h0 : Heap) (n0 : Nat) (v : Option Value) (h : Heap) (L : List Loc) : Prop := ∃ (b : Addr) (kb : ClassId), v = none ∧ Fr n0 L ∧ Keep h0 h [a1] ∧ Exa Z h a1 "java/lang/String" ∧ Fld Z h a1 "java/lang/String" "coder" "B" (.int (1 : Int32)) ∧ Fld Z h a1 "java/lang/String" "value" "[B" (.ref b) ∧ Arv Z h b kb .byte (6 : Int32) [.int ((c0 >>> ((0 : Int32) &&& 31)).toInt8.toInt32), .int ((c0 >>> ((8 : Int32) &&& 31)).toInt8.toInt32), .int ((c1 >>> ((0 : Int32) &&& 31)).toInt8.toInt32), .int ((c1 >>> ((8 : Int32) &&& 31)).toInt8.toInt32), .int ((c2 >>> ((0 : Int32) &&& 31)).toInt8.toInt32), .int ((c2 >>> ((8 : Int32) &&& 31)).toInt8.toInt32)] (.int 0) ∧ h0.size ≤ b
set_option maxRecDepth 65536 in
set_option maxHeartbeats 40000000 in
theorem rms43_1 (l : Launch) (Z : State) (a0 : Array Value) (hw : ∀ d ∈ tables_1, d.before a0 Z = true) (ws : List Jvm.Cond) (a1 : Addr) (a2 : Addr) (k2 : ClassId) (c0 : Int32) (c1 : Int32) (c2 : Int32) (u0 : Value) (u1 : Value) (wc : Int32) (h0 : Heap) (n0 : Nat) (Z0 : n0 ≤ h0.size) (F0 : Old Z n0 h0) (F1 : Exa Z h0 a1 "java/lang/String") (F2 : Fld Z h0 a1 "java/lang/String" "value" "[B" u0) (F3 : Fld Z h0 a1 "java/lang/String" "coder" "B" u1) (F4 : Arv Z h0 a2 k2 .char (3 : Int32) [.int c0, .int c1, .int c2] (.int 0)) (ge_a1 : n0 ≤ a1) (SC : Sta Z Z.heap "java/lang/String" "COMPACT_STRINGS" "Z" (.int wc)) (HWC : ¬ (wc = 0)) (SH : Sta Z Z.heap "java/lang/StringUTF16" "HI_BYTE_SHIFT" "I" (.int (0 : Int32))) (SL : Sta Z Z.heap "java/lang/StringUTF16" "LO_BYTE_SHIFT" "I" (.int (8 : Int32))) (SA : Sta Z Z.heap "java/lang/StringUTF16" "$assertionsDisabled" "Z" (.int (1 : Int32))) (hne : a2 ≠ a1) (hc_c0 : ¬ ((255 : Int32) < c0)) (hc_c1 : (255 : Int32) < c1) (hw_c1 : own_W c1) :
    MetFree l (⟨"java/lang/String", "<init>", "([CIILjava/lang/Void;)V"⟩ : MethodName) (head1 (Jvm.Cond.code (⟨"java/lang/String", "<init>", "([CIILjava/lang/Void;)V"⟩ : MethodName) jdk_42_method_149_code 6 none :: ws) ({ frames := 4, cells := 2, slots := 9, locals := 57 } : Room)) (fun a U => a = #[(.ref a1), (.ref a2), (.int (0 : Int32)), (.int (3 : Int32)), .null] ∧ Z.Warmed39 U.vm ∧ U.heap = h0) (fun _ _ _ _ _ => True) (fun _ U o U' => ∃ v L, o = .returned v ∧ Qs43_1 Z a1 a2 k2 c0 c1 c2 u0 u1 wc h0 n0 v U'.heap L ∧ FrameEnd U o U' L ({ frames := 4, cells := 2, slots := 9, locals := 57 } : Room).cells ({ frames := 4, cells := 2, slots := 9, locals := 57 } : Room).slots) := by
  refine MetFree.of_bodySF (plainFor_of_name pn_s43_1) hisR ?_
  intro p e s m args below meth c s₁ Bd hml0 hP hK
  obtain ⟨rfl, hZ, hh⟩ := hP
  have hx := Bd.exec
  have hby := Bd.bytes
  have hml : c.maxLocals = 6 := hml0
  have hown : s.vm.findClass "java/lang/String" = some m.cls := findClass_of_methodNamed Bd.named
  have hnm := (name_of_methodNamed Bd.named Bd.method).1
  have X0 : Stand p l e ({ frames := 4, cells := 2, slots := 9, locals := 57 } : Room) s m #[(.ref a1), (.ref a2), (.int (0 : Int32)), (.int (3 : Int32)), .null] below meth c s₁ [] 0 0 := Stand.of_body Bd
  have e0 : s₁.heap = h0 := by rw [← hh, Bd.state]; rfl
  have N0 := Fr.nil n0
  show own_R p.tables e below (own_P s (Qs43_1 Z a1 a2 k2 c0 c1 c2 u0 u1 wc h0 n0) ({ frames := 4, cells := 2, slots := 9, locals := 57 } : Room).cells ({ frames := 4, cells := 2, slots := 9, locals := 57 } : Room).slots) (s₁.setTop (entryFrame m #[(.ref a1), (.ref a2), (.int (0 : Int32)), (.int (3 : Int32)), .null] 6))
  refine own_f s₁ (mkF m 0 #[.val (.ref a1), .val (.ref a2), .val (.int (0 : Int32)), .val (.int (3 : Int32)), .val .null, .unset] []) (fun t k => castTop (ef_s43_1 m a1 a2 (0 : Int32) (3 : Int32)) k) ?_
  refine own_f s₁ (mkF m 1 #[.val (.ref a1), .val (.ref a2), .val (.int (0 : Int32)), .val (.int (3 : Int32)), .val .null, .unset] [(.ref a1)]) (fun t k => XS.aloadN X0.here hx rfl (hb hby ds43_1_0) rfl rfl k) ?_
  obtain ⟨T1, X1, e1, st1⟩ := initO X0 hx hZ hown (own_w hw 13 rfl) (own_w hw 14 rfl) (own_w hw 15 rfl) e0 (g := (mkF m 1 #[.val (.ref a1), .val (.ref a2), .val (.int (0 : Int32)), .val (.int (3 : Int32)), .val .null, .unset] [(.ref a1)])) rfl (by rw [hml]; rfl) rfl (hb hby ds43_1_1) (by decide) (W := 0) (by show 2 * 0 + _ ≤ _; exact Nat.le_of_eq rfl) (by decide)
  refine own_f T1 (mkF m 4 #[.val (.ref a1), .val (.ref a2), .val (.int (0 : Int32)), .val (.int (3 : Int32)), .val .null, .unset] []) st1 ?_
  refine own_step (fun t k => XS.iloadN X1.here hx rfl (hb hby ds43_1_4) rfl k) ?_
  refine own_f T1 (mkF m 27 #[.val (.ref a1), .val (.ref a2), .val (.int (0 : Int32)), .val (.int (3 : Int32)), .val .null, .unset] []) (fun t k => XS.ifYes X1.here hx rfl (pc0 := 5) (pc' := 27) rfl (hb hby ds43_1_5) rfl (XT.i0_ne_t (by decide)) (by decide) (by decide) k) ?_
  have S2 : Sta Z h0 "java/lang/String" "COMPACT_STRINGS" "Z" (.int wc) := SC.ext F0.2
  obtain ⟨T2, X2, e2, st2⟩ := getS X1 hx hZ (host := "") hown (own_w hw 16 rfl) Via.refl e1 S2 (g := (mkF m 27 #[.val (.ref a1), .val (.ref a2), .val (.int (0 : Int32)), .val (.int (3 : Int32)), .val .null, .unset] [])) rfl (hb hby ds43_1_27)
  refine own_f T2 (mkF m 30 #[.val (.ref a1), .val (.ref a2), .val (.int (0 : Int32)), .val (.int (3 : Int32)), .val .null, .unset] [(.int wc)]) st2 ?_
  refine own_f T2 (mkF m 33 #[.val (.ref a1), .val (.ref a2), .val (.int (0 : Int32)), .val (.int (3 : Int32)), .val .null, .unset] []) (fun t k => XS.ifNo X2.here hx rfl (hb hby ds43_1_30) rfl (XT.i0_eq_f HWC) k) ?_
  refine own_step (fun t k => XS.aloadN X2.here hx rfl (hb hby ds43_1_33) rfl rfl k) ?_
  refine own_step (fun t k => XS.iloadN X2.here hx rfl (hb hby ds43_1_34) rfl k) ?_
  refine own_f T2 (mkF m 36 #[.val (.ref a1), .val (.ref a2), .val (.int (0 : Int32)), .val (.int (3 : Int32)), .val .null, .unset] [(.int (3 : Int32)), (.int (0 : Int32)), (.ref a2)]) (fun t k => XS.iloadN X2.here hx rfl (hb hby ds43_1_35) rfl k) ?_
  obtain ⟨_, _, ⟨T3, Lq3, kq_3, nq_3⟩, -, X3, ⟨Lc3, hQ3, lq3, yq3, zq3⟩, st3⟩ := Jvm.LawKit.callS X2 hx (y := (⟨"java/lang/StringUTF16", "compress", "([CII)[B"⟩ : MethodName)) hown (mvT hZ (own_w hw 17 rfl)) (mvT hZ (own_w hw 18 rfl)) (mvT hZ (own_w hw 19 rfl)) (mvT hZ (own_w hw 20 rfl)) (by decide) (backOf (W := 0) (rmcb3_1 l Z a0 hw [] a2 _ _ _ _ h0 n0 Z0 F0 F4 hc_c0 hc_c1 SH SL SA hw_c1) hZ (own_w hw 20 rfl) (own_w hw 19 rfl) (by decide) (by decide)) (g := (mkF m 36 #[.val (.ref a1), .val (.ref a2), .val (.int (0 : Int32)), .val (.int (3 : Int32)), .val .null, .unset] [(.int (3 : Int32)), (.int (0 : Int32)), (.ref a2)])) rfl (by rw [hml]; rfl) (argsL := [(.ref a2), (.int (0 : Int32)), (.int (3 : Int32))]) (rest := []) (lenOf pd__CII_B rfl) rfl (by show 2 * 0 + _ ≤ _; exact Nat.le_of_eq rfl) (hb hby ds43_1_36) (fun _ _ => ⟨rfl, e2, (by decide : 0 + 2 ≤ _), (by decide : 0 + 9 ≤ _)⟩)
  dsimp only [Pt.U, Pt.locs, Pt.cells, Pt.slots] at X3 lq3 yq3 zq3 st3 hQ3
  subst lq3 yq3 zq3
  obtain ⟨h3, e3⟩ : ∃ z, T3.heap = z := ⟨_, rfl⟩
  rw [e3] at hQ3
  unfold Qcb3_1 at hQ3
  obtain ⟨b3, kb3, rfl, Nq3, qh3, G3_0, H3_0⟩ := hQ3
  have N3 := Fr.app N0 Nq3
  have Zs3 : n0 ≤ h3.size := Nat.le_trans Z0 qh3.1
  have F_4 := F0.keep qh3 all0
  have F_5 := F1.keep qh3
  have F_6 := F2.keep qh3 nin0
  have F_7 := F3.keep qh3 nin0
  have F_8 := F4.keep qh3 nin0
  have K3 : Keep h0 h3 [a1] := (Keep.refl h0 [a1]).trans qh3 all0
  have ne3_a1 : a1 ≠ b3 := Nat.ne_of_lt (Nat.lt_of_lt_of_le F1.lt H3_0)
  have ne3_a2 : a2 ≠ b3 := Nat.ne_of_lt (Nat.lt_of_lt_of_le F4.lt H3_0)
  have ge3 : n0 ≤ b3 := Nat.le_trans Z0 H3_0
  have gf3 : h0.size ≤ b3 := Nat.le_trans (Keep.refl h0 [a1]).1 H3_0
  refine own_f T3 (mkF m 39 #[.val (.ref a1), .val (.ref a2), .val (.int (0 : Int32)), .val (.int (3 : Int32)), .val .null, .unset] [(.ref b3)]) st3 ?_
  refine own_f T3 (mkF m 41 #[.val (.ref a1), .val (.ref a2), .val (.int (0 : Int32)), .val (.int (3 : Int32)), .val .null, .val (.ref b3)] []) (fun t k => XS.astore X3.here hx rfl (hb hby ds43_1_39) rfl rfl (l' := #[.val (.ref a1), .val (.ref a2), .val (.int (0 : Int32)), .val (.int (3 : Int32)), .val .null, .val (.ref b3)]) rfl k) ?_
  refine own_step (fun t k => XS.aloadN X3.here hx rfl (hb hby ds43_1_41) rfl rfl k) ?_
  refine own_step (fun t k => XS.aload X3.here hx rfl (hb hby ds43_1_42) rfl rfl k) ?_
  refine own_f T3 (mkF m 45 #[.val (.ref a1), .val (.ref a2), .val (.int (0 : Int32)), .val (.int (3 : Int32)), .val .null, .val (.ref b3)] [(.int (3 : Int32)), (.ref b3), (.ref a1)]) (fun t k => XS.iloadN X3.here hx rfl (hb hby ds43_1_44) rfl k) ?_
  obtain ⟨_, _, ⟨T9, Lq9, kq_9, nq_9⟩, -, X9, ⟨Lc9, hQ9, lq9, yq9, zq9⟩, st9⟩ := Jvm.LawKit.callS X3 hx (y := (⟨"java/lang/StringUTF16", "coderFromArrayLen", "([BI)B"⟩ : MethodName)) hown (mvT hZ (own_w hw 25 rfl)) (mvT hZ (own_w hw 26 rfl)) (mvT hZ (own_w hw 19 rfl)) (mvT hZ (own_w hw 27 rfl)) (by decide) (backOf (W := 1) (rmco3_6 l Z a0 hw [] b3 _ _ h3 n0 Zs3 G3_0) hZ (own_w hw 27 rfl) (own_w hw 19 rfl) (by decide) (by decide)) (g := (mkF m 45 #[.val (.ref a1), .val (.ref a2), .val (.int (0 : Int32)), .val (.int (3 : Int32)), .val .null, .val (.ref b3)] [(.int (3 : Int32)), (.ref b3), (.ref a1)])) rfl (by rw [hml]; rfl) (argsL := [(.ref b3), (.int (3 : Int32))]) (rest := [(.ref a1)]) (lenOf pd__BI_B rfl) rfl (by show 2 * 0 + _ ≤ _; exact Nat.le_of_eq rfl) (hb hby ds43_1_45) (fun _ _ => ⟨rfl, e3, (by decide : 0 + 2 + 0 ≤ _), (by decide : 0 + 9 + 0 ≤ _)⟩)
  dsimp only [Pt.U, Pt.locs, Pt.cells, Pt.slots] at X9 lq9 yq9 zq9 st9 hQ9
  subst lq9 yq9 zq9
  obtain ⟨h9, e9⟩ : ∃ z, T9.heap = z := ⟨_, rfl⟩
  rw [e9] at hQ9
  unfold Qco3_6 at hQ9
  obtain ⟨rfl, Nq9, qh9⟩ := hQ9
  have N9 := Fr.app N3 Nq9
  rw [qh9] at e9
  refine own_f T9 (mkF m 48 #[.val (.ref a1), .val (.ref a2), .val (.int (0 : Int32)), .val (.int (3 : Int32)), .val .null, .val (.ref b3)] [(.int (1 : Int32)), (.ref a1)]) st9 ?_
  obtain ⟨T10, h10, X10, e10, W10, st10⟩ := putF X9 hx hZ hown (host := "") (Or.inl (own_w hw 28 rfl)) Via.refl e9 F_7 F_5 (Or.inr ⟨(own_w hw 29 rfl), rfl, hnm⟩) (own_w hw 3 rfl) (ty := .byte) (by decide) rfl rfl (g := (mkF m 48 #[.val (.ref a1), .val (.ref a2), .val (.int (0 : Int32)), .val (.int (3 : Int32)), .val .null, .val (.ref b3)] [(.int (1 : Int32)), (.ref a1)])) rfl rfl (hb hby ds43_1_48)
  have N10 := Fr.snoc X10 N9 ge_a1
  have Zs10 : n0 ≤ h10.size := by rw [W10.size]; exact Zs3
  have K10 : Keep h0 h10 [a1] := K3.wr W10 (Or.inl (by simp))
  have F_11 := F_4.wr W10 ge_a1
  have F_12 := F_5.wr W10
  have F_13 := F_6.other W10 (Or.inr (slot_ne (Or.inr (own_w hw 31 rfl)) (Or.inr (own_w hw 29 rfl)) (by decide) (t := (.array .byte)) (t' := .byte) (by decide) (by decide)))
  have F_14 := F_7.same W10
  have F_15 := F_8.other W10 hne
  have F_16 := G3_0.other W10 (Ne.symm ne3_a1)
  refine own_f T10 (mkF m 51 #[.val (.ref a1), .val (.ref a2), .val (.int (0 : Int32)), .val (.int (3 : Int32)), .val .null, .val (.ref b3)] []) st10 ?_
  refine own_step (fun t k => XS.aloadN X10.here hx rfl (hb hby ds43_1_51) rfl rfl k) ?_
  refine own_f T10 (mkF m 54 #[.val (.ref a1), .val (.ref a2), .val (.int (0 : Int32)), .val (.int (3 : Int32)), .val .null, .val (.ref b3)] [(.ref b3), (.ref a1)]) (fun t k => XS.aload X10.here hx rfl (hb hby ds43_1_52) rfl rfl k) ?_
  obtain ⟨T17, h17, X17, e17, W17, st17⟩ := putF X10 hx hZ hown (host := "") (Or.inl (own_w hw 30 rfl)) Via.refl e10 F_13 F_12 (Or.inr ⟨(own_w hw 31 rfl), rfl, hnm⟩) (own_w hw 3 rfl) (ty := (.array .byte)) (by decide) rfl rfl (g := (mkF m 54 #[.val (.ref a1), .val (.ref a2), .val (.int (0 : Int32)), .val (.int (3 : Int32)), .val .null, .val (.ref b3)] [(.ref b3), (.ref a1)])) rfl rfl (hb hby ds43_1_54)
  have N17 := Fr.snoc X17 N10 ge_a1
  have Zs17 : n0 ≤ h17.size := by rw [W17.size]; exact Zs10
  have K17 : Keep h0 h17 [a1] := K10.wr W17 (Or.inl (by simp))
  have F_18 := F_11.wr W17 ge_a1
  have F_19 := F_12.wr W17
  have F_20 := F_13.same W17
  have F_21 := F_14.other W17 (Or.inr (slot_ne (Or.inr (own_w hw 29 rfl)) (Or.inr (own_w hw 31 rfl)) (by decide) (t := .byte) (t' := (.array .byte)) (by decide) (by decide)))
  have F_22 := F_15.other W17 hne
  have F_23 := F_16.other W17 (Ne.symm ne3_a1)
  refine own_f T17 (mkF m 57 #[.val (.ref a1), .val (.ref a2), .val (.int (0 : Int32)), .val (.int (3 : Int32)), .val .null, .val (.ref b3)] []) st17 ?_
  obtain ⟨fs, hr, hrun, hended, hW, hsame⟩ := X17.leave (v := none) (fun _ => rfl)
  refine ⟨_, _, X17.returnOut hx Bd.returns (hb hby ds43_1_57) hr, hrun, hended, _, _, rfl, ?_, ⟨_, rfl⟩, hW, hsame.mono (by decide) (by decide)⟩
  show Qs43_1 Z a1 a2 k2 c0 c1 c2 u0 u1 wc h0 n0 _ T17.heap _
  rw [e17]
  exact ⟨b3, kb3, rfl, N17, K17, F_19, F_21, F_20, F_23, gf3⟩
theorem dci3_2_0 : decode jdk_52_method_21_code 0 = .ok (.iconst 0, 1) := by decide +kernel
theorem dci3_2_1 : decode jdk_52_method_21_code 1 = .ok (.istore 5, 2) := by decide +kernel
theorem dci3_2_3 : decode jdk_52_method_21_code 3 = .ok (.iload 5, 2) := by decide +kernel
theorem dci3_2_5 : decode jdk_52_method_21_code 5 = .ok (.iload 4, 2) := by decide +kernel
theorem dci3_2_7 : decode jdk_52_method_21_code 7 = .ok (.if_icmp .ge 37, 3) := by decide +kernel
theorem dci3_2_10 : decode jdk_52_method_21_code 10 = .ok (.aload_n 0, 1) := by decide +kernel
theorem dci3_2_11 : decode jdk_52_method_21_code 11 = .ok (.iload_n 1, 1) := by decide +kernel
theorem dci3_2_12 : decode jdk_52_method_21_code 12 = .ok (.caload, 1) := by decide +kernel
theorem dci3_2_13 : decode jdk_52_method_21_code 13 = .ok (.istore 6, 2) := by decide +kernel
theorem dci3_2_15 : decode jdk_52_method_21_code 15 = .ok (.iload 6, 2) := by decide +kernel
theorem dci3_2_17 : decode jdk_52_method_21_code 17 = .ok (.sipush 255, 3) := by decide +kernel
theorem dci3_2_20 : decode jdk_52_method_21_code 20 = .ok (.if_icmp .le 6, 3) := by decide +kernel
theorem dci3_2_23 : decode jdk_52_method_21_code 23 = .ok (.iload 5, 2) := by decide +kernel
theorem dci3_2_25 : decode jdk_52_method_21_code 25 = .ok (.ireturn, 1) := by decide +kernel
theorem dci3_2_26 : decode jdk_52_method_21_code 26 = .ok (.aload_n 2, 1) := by decide +kernel
theorem dci3_2_27 : decode jdk_52_method_21_code 27 = .ok (.iload_n 3, 1) := by decide +kernel
theorem dci3_2_28 : decode jdk_52_method_21_code 28 = .ok (.iload 6, 2) := by decide +kernel
theorem dci3_2_30 : decode jdk_52_method_21_code 30 = .ok (.i2b, 1) := by decide +kernel
theorem dci3_2_31 : decode jdk_52_method_21_code 31 = .ok (.bastore, 1) := by decide +kernel
theorem dci3_2_32 : decode jdk_52_method_21_code 32 = .ok (.iinc 1 1, 3) := by decide +kernel
theorem dci3_2_35 : decode jdk_52_method_21_code 35 = .ok (.iinc 3 1, 3) := by decide +kernel
theorem dci3_2_38 : decode jdk_52_method_21_code 38 = .ok (.iinc 5 1, 3) := by decide +kernel
theorem dci3_2_41 : decode jdk_52_method_21_code 41 = .ok (.goto (-38), 3) := by decide +kernel
theorem pn_ci3_2 : plainName "java/lang/StringUTF16" = true := by first | (simp [plainName, overriddenIn]; done) | decide +kernel
theorem ef_ci3_2 (m : MethodId) (x0 : Addr) (x1 : Int32) (x2 : Addr) (x3 : Int32) (x4 : Int32) : entryFrame m #[(.ref x0), (.int x1), (.ref x2), (.int x3), (.int x4)] 7 = mkF m 0 #[.val (.ref x0), .val (.int x1), .val (.ref x2), .val (.int x3), .val (.int x4), .unset, .unset] [] := by first | (simp [entryFrame, mkF, argsToLocals, Value.category]; done) | rfl
def Qci3_2 (Z : State) (a1 : Addr) (a2 : Addr) (k1 : ClassId) (k2 : ClassId) (c0 : Int32) (c1 : Int32) (c2 : Int32) (h0 : Heap) (n0 : Nat) (v : Option Value) (h : Heap) (L : List Loc) : Prop := v = some (.int (2 : Int32)) ∧ Fr n0 L ∧ Keep h0 h [a2] ∧ Arv Z h a2 k2 .byte (3 : Int32) [.int (c0.toInt8.toInt32), .int (c1.toInt8.toInt32), .int 0] (.int 0)
set_option maxRecDepth 65536 in
set_option maxHeartbeats 40000000 in
theorem rmci3_2 (l : Launch) (Z : State) (a0 : Array Value) (hw : ∀ d ∈ tables_1, d.before a0 Z = true) (ws : List Jvm.Cond) (a1 : Addr) (a2 : Addr) (k1 : ClassId) (k2 : ClassId) (c0 : Int32) (c1 : Int32) (c2 : Int32) (h0 : Heap) (n0 : Nat) (Z0 : n0 ≤ h0.size) (F0 : Arv Z h0 a1 k1 .char (3 : Int32) [.int c0, .int c1, .int c2] (.int 0)) (F1 : Arv Z h0 a2 k2 .byte (3 : Int32) [.int 0, .int 0, .int 0] (.int 0)) (ge_a2 : n0 ≤ a2) (hne : a1 ≠ a2) (hc_c0 : ¬ ((255 : Int32) < c0)) (hc_c1 : ¬ ((255 : Int32) < c1)) (hc_c2 : (255 : Int32) < c2) :
    MetFree l (⟨"java/lang/StringUTF16", "compress", "([CI[BII)I"⟩ : MethodName) (head1 (Jvm.Cond.code (⟨"java/lang/StringUTF16", "compress", "([CI[BII)I"⟩ : MethodName) jdk_52_method_21_code 7 (some .int) :: ws) ({ frames := 0, cells := 0, slots := 0, locals := 0 } : Room)) (fun a U => a = #[(.ref a1), (.int (0 : Int32)), (.ref a2), (.int (0 : Int32)), (.int (3 : Int32))] ∧ Z.Warmed39 U.vm ∧ U.heap = h0) (fun _ _ _ _ _ => True) (fun _ U o U' => ∃ v L, o = .returned v ∧ Qci3_2 Z a1 a2 k1 k2 c0 c1 c2 h0 n0 v U'.heap L ∧ FrameEnd U o U' L ({ frames := 0, cells := 0, slots := 0, locals := 0 } : Room).cells ({ frames := 0, cells := 0, slots := 0, locals := 0 } : Room).slots) := by
  refine MetFree.of_bodySF (plainFor_of_name pn_ci3_2) hisR ?_
  intro p e s m args below meth c s₁ Bd hml0 hP hK
  obtain ⟨rfl, hZ, hh⟩ := hP
  have hx := Bd.exec
  have hby := Bd.bytes
  have hml : c.maxLocals = 7 := hml0
  have hown : s.vm.findClass "java/lang/StringUTF16" = some m.cls := findClass_of_methodNamed Bd.named
  have hnm := (name_of_methodNamed Bd.named Bd.method).1
  have X0 : Stand p l e ({ frames := 0, cells := 0, slots := 0, locals := 0 } : Room) s m #[(.ref a1), (.int (0 : Int32)), (.ref a2), (.int (0 : Int32)), (.int (3 : Int32))] below meth c s₁ [] 0 0 := Stand.of_body Bd
  have e0 : s₁.heap = h0 := by rw [← hh, Bd.state]; rfl
  have N0 := Fr.nil n0
  show own_R p.tables e below (own_P s (Qci3_2 Z a1 a2 k1 k2 c0 c1 c2 h0 n0) ({ frames := 0, cells := 0, slots := 0, locals := 0 } : Room).cells ({ frames := 0, cells := 0, slots := 0, locals := 0 } : Room).slots) (s₁.setTop (entryFrame m #[(.ref a1), (.int (0 : Int32)), (.ref a2), (.int (0 : Int32)), (.int (3 : Int32))] 7))
  refine own_f s₁ (mkF m 0 #[.val (.ref a1), .val (.int (0 : Int32)), .val (.ref a2), .val (.int (0 : Int32)), .val (.int (3 : Int32)), .unset, .unset] []) (fun t k => castTop (ef_ci3_2 m a1 (0 : Int32) a2 (0 : Int32) (3 : Int32)) k) ?_
  refine own_step (fun t k => XT.iconstV X0.here hx rfl (0 : Int32) (hb hby dci3_2_0) (by decide) k) ?_
  refine own_f s₁ (mkF m 3 #[.val (.ref a1), .val (.int (0 : Int32)), .val (.ref a2), .val (.int (0 : Int32)), .val (.int (3 : Int32)), .val (.int (0 : Int32)), .unset] []) (fun t k => XS.istore X0.here hx rfl (hb hby dci3_2_1) rfl (l' := #[.val (.ref a1), .val (.int (0 : Int32)), .val (.ref a2), .val (.int (0 : Int32)), .val (.int (3 : Int32)), .val (.int (0 : Int32)), .unset]) rfl k) ?_
  refine own_step (fun t k => XS.iload X0.here hx rfl (hb hby dci3_2_3) rfl k) ?_
  refine own_step (fun t k => XS.iload X0.here hx rfl (hb hby dci3_2_5) rfl k) ?_
  refine own_f s₁ (mkF m 10 #[.val (.ref a1), .val (.int (0 : Int32)), .val (.ref a2), .val (.int (0 : Int32)), .val (.int (3 : Int32)), .val (.int (0 : Int32)), .unset] []) (fun t k => XS.icmpNo X0.here hx rfl (hb hby dci3_2_7) rfl (XT.ii_ge_f (by decide)) k) ?_
  refine own_step (fun t k => XS.aloadN X0.here hx rfl (hb hby dci3_2_10) rfl rfl k) ?_
  refine own_f s₁ (mkF m 12 #[.val (.ref a1), .val (.int (0 : Int32)), .val (.ref a2), .val (.int (0 : Int32)), .val (.int (3 : Int32)), .val (.int (0 : Int32)), .unset] [(.int (0 : Int32)), (.ref a1)]) (fun t k => XS.iloadN X0.here hx rfl (hb hby dci3_2_11) rfl k) ?_
  obtain ⟨cl1, Ar1, q11, Sz1, q31, Hs1, Gs1⟩ := id F0
  have hi1 := inb_of (j := (0 : Int32)) Sz1 ⟨by decide, by decide⟩
  refine own_f s₁ (mkF m 13 #[.val (.ref a1), .val (.int (0 : Int32)), .val (.ref a2), .val (.int (0 : Int32)), .val (.int (3 : Int32)), .val (.int (0 : Int32)), .unset] [(.int c0)]) (fun t k => X0.caload hx (j := (0 : Int32)) (v := (.int c0)) (by rw [e0]; exact Ar1.1) (State.isArrayOf_alike hZ.alike Ar1.2.1) Ar1.2.2 hi1 (Has.at Hs1 hi1 rfl) (g := (mkF m 12 #[.val (.ref a1), .val (.int (0 : Int32)), .val (.ref a2), .val (.int (0 : Int32)), .val (.int (3 : Int32)), .val (.int (0 : Int32)), .unset] [(.int (0 : Int32)), (.ref a1)])) rfl rfl (hb hby dci3_2_12) t k) ?_
  refine own_f s₁ (mkF m 15 #[.val (.ref a1), .val (.int (0 : Int32)), .val (.ref a2), .val (.int (0 : Int32)), .val (.int (3 : Int32)), .val (.int (0 : Int32)), .val (.int c0)] []) (fun t k => XS.istore X0.here hx rfl (hb hby dci3_2_13) rfl (l' := #[.val (.ref a1), .val (.int (0 : Int32)), .val (.ref a2), .val (.int (0 : Int32)), .val (.int (3 : Int32)), .val (.int (0 : Int32)), .val (.int c0)]) rfl k) ?_
  refine own_step (fun t k => XS.iload X0.here hx rfl (hb hby dci3_2_15) rfl k) ?_
  refine own_step (fun t k => XT.sipushV X0.here hx rfl (255 : Int32) (hb hby dci3_2_17) (by decide) k) ?_
  refine own_f s₁ (mkF m 26 #[.val (.ref a1), .val (.int (0 : Int32)), .val (.ref a2), .val (.int (0 : Int32)), .val (.int (3 : Int32)), .val (.int (0 : Int32)), .val (.int c0)] []) (fun t k => XS.icmpYes X0.here hx rfl (pc0 := 20) (pc' := 26) rfl (hb hby dci3_2_20) rfl (XT.ii_le_t hc_c0) (by decide) (by decide) k) ?_
  refine own_step (fun t k => XS.aloadN X0.here hx rfl (hb hby dci3_2_26) rfl rfl k) ?_
  refine own_step (fun t k => XS.iloadN X0.here hx rfl (hb hby dci3_2_27) rfl k) ?_
  refine own_step (fun t k => XS.iload X0.here hx rfl (hb hby dci3_2_28) rfl k) ?_
  refine own_f s₁ (mkF m 31 #[.val (.ref a1), .val (.int (0 : Int32)), .val (.ref a2), .val (.int (0 : Int32)), .val (.int (3 : Int32)), .val (.int (0 : Int32)), .val (.int c0)] [(.int (c0.toInt8.toInt32)), (.int (0 : Int32)), (.ref a2)]) (fun t k => XS.i2b X0.here hx rfl (hb hby dci3_2_30) rfl k) ?_
  obtain ⟨cl2, Ar2, q12, Sz2, q32, Hs2, Gs2⟩ := id F1
  obtain ⟨T2, h2, X2, e2, W2, st2⟩ := stB X0 hx hZ e0 Ar2 (j := (0 : Int32)) (inb_of Sz2 ⟨by decide, by decide⟩) (g := (mkF m 31 #[.val (.ref a1), .val (.int (0 : Int32)), .val (.ref a2), .val (.int (0 : Int32)), .val (.int (3 : Int32)), .val (.int (0 : Int32)), .val (.int c0)] [(.int (c0.toInt8.toInt32)), (.int (0 : Int32)), (.ref a2)])) rfl rfl (hb hby dci3_2_31)
  have N2 := Fr.snoc X2 N0 ge_a2
  have Zs2 : n0 ≤ h2.size := by rw [W2.size]; exact Z0
  have K2 : Keep h0 h2 [a2] := (Keep.refl h0 [a2]).wr W2 (Or.inl (by simp))
  have F_3 := F0.other W2 hne
  have F_4 : Arv Z h2 a2 k2 .byte (3 : Int32) [.int (c0.toInt8.toInt32), .int 0, .int 0] (.int 0) := Arv.set Ar2 q12 Sz2 q32 Hs2 Gs2 (by rw [← ((own_narB _) : nar .byte (c0.toInt8.toInt32) = (c0.toInt8.toInt32))]; exact own_fitB _) (by rw [((own_narB _) : nar .byte (c0.toInt8.toInt32) = (c0.toInt8.toInt32))] at W2; exact W2) 0 (by decide) (by simp)
  refine own_f T2 (mkF m 32 #[.val (.ref a1), .val (.int (0 : Int32)), .val (.ref a2), .val (.int (0 : Int32)), .val (.int (3 : Int32)), .val (.int (0 : Int32)), .val (.int c0)] []) st2 ?_
  refine own_f T2 (mkF m 35 #[.val (.ref a1), .val (.int ((0 : Int32) + (1 : Int32))), .val (.ref a2), .val (.int (0 : Int32)), .val (.int (3 : Int32)), .val (.int (0 : Int32)), .val (.int c0)] []) (fun t k => XT.iincV X2.here hx rfl (l' := #[.val (.ref a1), .val (.int ((0 : Int32) + (1 : Int32))), .val (.ref a2), .val (.int (0 : Int32)), .val (.int (3 : Int32)), .val (.int (0 : Int32)), .val (.int c0)]) (1 : Int32) (hb hby dci3_2_32) (by decide) rfl rfl k) ?_
  rw [show ((0 : Int32) + (1 : Int32)) = (1 : Int32) from by decide]
  refine own_f T2 (mkF m 38 #[.val (.ref a1), .val (.int (1 : Int32)), .val (.ref a2), .val (.int ((0 : Int32) + (1 : Int32))), .val (.int (3 : Int32)), .val (.int (0 : Int32)), .val (.int c0)] []) (fun t k => XT.iincV X2.here hx rfl (l' := #[.val (.ref a1), .val (.int (1 : Int32)), .val (.ref a2), .val (.int ((0 : Int32) + (1 : Int32))), .val (.int (3 : Int32)), .val (.int (0 : Int32)), .val (.int c0)]) (1 : Int32) (hb hby dci3_2_35) (by decide) rfl rfl k) ?_
  rw [show ((0 : Int32) + (1 : Int32)) = (1 : Int32) from by decide]
  refine own_f T2 (mkF m 41 #[.val (.ref a1), .val (.int (1 : Int32)), .val (.ref a2), .val (.int (1 : Int32)), .val (.int (3 : Int32)), .val (.int ((0 : Int32) + (1 : Int32))), .val (.int c0)] []) (fun t k => XT.iincV X2.here hx rfl (l' := #[.val (.ref a1), .val (.int (1 : Int32)), .val (.ref a2), .val (.int (1 : Int32)), .val (.int (3 : Int32)), .val (.int ((0 : Int32) + (1 : Int32))), .val (.int c0)]) (1 : Int32) (hb hby dci3_2_38) (by decide) rfl rfl k) ?_
  rw [show ((0 : Int32) + (1 : Int32)) = (1 : Int32) from by decide]
  refine own_step (fun t k => XS.goto X2.here hx rfl (pc0 := 41) (pc' := 3) rfl (hb hby dci3_2_41) (by decide) (by decide) k) ?_
  refine own_step (fun t k => XS.iload X2.here hx rfl (hb hby dci3_2_3) rfl k) ?_
  refine own_step (fun t k => XS.iload X2.here hx rfl (hb hby dci3_2_5) rfl k) ?_
  refine own_f T2 (mkF m 10 #[.val (.ref a1), .val (.int (1 : Int32)), .val (.ref a2), .val (.int (1 : Int32)), .val (.int (3 : Int32)), .val (.int (1 : Int32)), .val (.int c0)] []) (fun t k => XS.icmpNo X2.here hx rfl (hb hby dci3_2_7) rfl (XT.ii_ge_f (by decide)) k) ?_
  refine own_step (fun t k => XS.aloadN X2.here hx rfl (hb hby dci3_2_10) rfl rfl k) ?_
  refine own_f T2 (mkF m 12 #[.val (.ref a1), .val (.int (1 : Int32)), .val (.ref a2), .val (.int (1 : Int32)), .val (.int (3 : Int32)), .val (.int (1 : Int32)), .val (.int c0)] [(.int (1 : Int32)), (.ref a1)]) (fun t k => XS.iloadN X2.here hx rfl (hb hby dci3_2_11) rfl k) ?_
  obtain ⟨cl5, Ar5, q15, Sz5, q35, Hs5, Gs5⟩ := id F_3
  have hi5 := inb_of (j := (1 : Int32)) Sz5 ⟨by decide, by decide⟩
  refine own_f T2 (mkF m 13 #[.val (.ref a1), .val (.int (1 : Int32)), .val (.ref a2), .val (.int (1 : Int32)), .val (.int (3 : Int32)), .val (.int (1 : Int32)), .val (.int c0)] [(.int c1)]) (fun t k => X2.caload hx (j := (1 : Int32)) (v := (.int c1)) (by rw [e2]; exact Ar5.1) (State.isArrayOf_alike hZ.alike Ar5.2.1) Ar5.2.2 hi5 (Has.at Hs5 hi5 rfl) (g := (mkF m 12 #[.val (.ref a1), .val (.int (1 : Int32)), .val (.ref a2), .val (.int (1 : Int32)), .val (.int (3 : Int32)), .val (.int (1 : Int32)), .val (.int c0)] [(.int (1 : Int32)), (.ref a1)])) rfl rfl (hb hby dci3_2_12) t k) ?_
  refine own_f T2 (mkF m 15 #[.val (.ref a1), .val (.int (1 : Int32)), .val (.ref a2), .val (.int (1 : Int32)), .val (.int (3 : Int32)), .val (.int (1 : Int32)), .val (.int c1)] []) (fun t k => XS.istore X2.here hx rfl (hb hby dci3_2_13) rfl (l' := #[.val (.ref a1), .val (.int (1 : Int32)), .val (.ref a2), .val (.int (1 : Int32)), .val (.int (3 : Int32)), .val (.int (1 : Int32)), .val (.int c1)]) rfl k) ?_
  refine own_step (fun t k => XS.iload X2.here hx rfl (hb hby dci3_2_15) rfl k) ?_
  refine own_step (fun t k => XT.sipushV X2.here hx rfl (255 : Int32) (hb hby dci3_2_17) (by decide) k) ?_
  refine own_f T2 (mkF m 26 #[.val (.ref a1), .val (.int (1 : Int32)), .val (.ref a2), .val (.int (1 : Int32)), .val (.int (3 : Int32)), .val (.int (1 : Int32)), .val (.int c1)] []) (fun t k => XS.icmpYes X2.here hx rfl (pc0 := 20) (pc' := 26) rfl (hb hby dci3_2_20) rfl (XT.ii_le_t hc_c1) (by decide) (by decide) k) ?_
  refine own_step (fun t k => XS.aloadN X2.here hx rfl (hb hby dci3_2_26) rfl rfl k) ?_
  refine own_step (fun t k => XS.iloadN X2.here hx rfl (hb hby dci3_2_27) rfl k) ?_
  refine own_step (fun t k => XS.iload X2.here hx rfl (hb hby dci3_2_28) rfl k) ?_
  refine own_f T2 (mkF m 31 #[.val (.ref a1), .val (.int (1 : Int32)), .val (.ref a2), .val (.int (1 : Int32)), .val (.int (3 : Int32)), .val (.int (1 : Int32)), .val (.int c1)] [(.int (c1.toInt8.toInt32)), (.int (1 : Int32)), (.ref a2)]) (fun t k => XS.i2b X2.here hx rfl (hb hby dci3_2_30) rfl k) ?_
  obtain ⟨cl6, Ar6, q16, Sz6, q36, Hs6, Gs6⟩ := id F_4
  obtain ⟨T6, h6, X6, e6, W6, st6⟩ := stB X2 hx hZ e2 Ar6 (j := (1 : Int32)) (inb_of Sz6 ⟨by decide, by decide⟩) (g := (mkF m 31 #[.val (.ref a1), .val (.int (1 : Int32)), .val (.ref a2), .val (.int (1 : Int32)), .val (.int (3 : Int32)), .val (.int (1 : Int32)), .val (.int c1)] [(.int (c1.toInt8.toInt32)), (.int (1 : Int32)), (.ref a2)])) rfl rfl (hb hby dci3_2_31)
  have N6 := Fr.snoc X6 N2 ge_a2
  have Zs6 : n0 ≤ h6.size := by rw [W6.size]; exact Zs2
  have K6 : Keep h0 h6 [a2] := K2.wr W6 (Or.inl (by simp))
  have F_7 := F_3.other W6 hne
  have F_8 : Arv Z h6 a2 k2 .byte (3 : Int32) [.int (c0.toInt8.toInt32), .int (c1.toInt8.toInt32), .int 0] (.int 0) := Arv.set Ar6 q16 Sz6 q36 Hs6 Gs6 (by rw [← ((own_narB _) : nar .byte (c1.toInt8.toInt32) = (c1.toInt8.toInt32))]; exact own_fitB _) (by rw [((own_narB _) : nar .byte (c1.toInt8.toInt32) = (c1.toInt8.toInt32))] at W6; exact W6) 1 (by decide) (by simp)
  refine own_f T6 (mkF m 32 #[.val (.ref a1), .val (.int (1 : Int32)), .val (.ref a2), .val (.int (1 : Int32)), .val (.int (3 : Int32)), .val (.int (1 : Int32)), .val (.int c1)] []) st6 ?_
  refine own_f T6 (mkF m 35 #[.val (.ref a1), .val (.int ((1 : Int32) + (1 : Int32))), .val (.ref a2), .val (.int (1 : Int32)), .val (.int (3 : Int32)), .val (.int (1 : Int32)), .val (.int c1)] []) (fun t k => XT.iincV X6.here hx rfl (l' := #[.val (.ref a1), .val (.int ((1 : Int32) + (1 : Int32))), .val (.ref a2), .val (.int (1 : Int32)), .val (.int (3 : Int32)), .val (.int (1 : Int32)), .val (.int c1)]) (1 : Int32) (hb hby dci3_2_32) (by decide) rfl rfl k) ?_
  rw [show ((1 : Int32) + (1 : Int32)) = (2 : Int32) from by decide]
  refine own_f T6 (mkF m 38 #[.val (.ref a1), .val (.int (2 : Int32)), .val (.ref a2), .val (.int ((1 : Int32) + (1 : Int32))), .val (.int (3 : Int32)), .val (.int (1 : Int32)), .val (.int c1)] []) (fun t k => XT.iincV X6.here hx rfl (l' := #[.val (.ref a1), .val (.int (2 : Int32)), .val (.ref a2), .val (.int ((1 : Int32) + (1 : Int32))), .val (.int (3 : Int32)), .val (.int (1 : Int32)), .val (.int c1)]) (1 : Int32) (hb hby dci3_2_35) (by decide) rfl rfl k) ?_
  rw [show ((1 : Int32) + (1 : Int32)) = (2 : Int32) from by decide]
  refine own_f T6 (mkF m 41 #[.val (.ref a1), .val (.int (2 : Int32)), .val (.ref a2), .val (.int (2 : Int32)), .val (.int (3 : Int32)), .val (.int ((1 : Int32) + (1 : Int32))), .val (.int c1)] []) (fun t k => XT.iincV X6.here hx rfl (l' := #[.val (.ref a1), .val (.int (2 : Int32)), .val (.ref a2), .val (.int (2 : Int32)), .val (.int (3 : Int32)), .val (.int ((1 : Int32) + (1 : Int32))), .val (.int c1)]) (1 : Int32) (hb hby dci3_2_38) (by decide) rfl rfl k) ?_
  rw [show ((1 : Int32) + (1 : Int32)) = (2 : Int32) from by decide]
  refine own_step (fun t k => XS.goto X6.here hx rfl (pc0 := 41) (pc' := 3) rfl (hb hby dci3_2_41) (by decide) (by decide) k) ?_
  refine own_step (fun t k => XS.iload X6.here hx rfl (hb hby dci3_2_3) rfl k) ?_
  refine own_step (fun t k => XS.iload X6.here hx rfl (hb hby dci3_2_5) rfl k) ?_
  refine own_f T6 (mkF m 10 #[.val (.ref a1), .val (.int (2 : Int32)), .val (.ref a2), .val (.int (2 : Int32)), .val (.int (3 : Int32)), .val (.int (2 : Int32)), .val (.int c1)] []) (fun t k => XS.icmpNo X6.here hx rfl (hb hby dci3_2_7) rfl (XT.ii_ge_f (by decide)) k) ?_
  refine own_step (fun t k => XS.aloadN X6.here hx rfl (hb hby dci3_2_10) rfl rfl k) ?_
  refine own_f T6 (mkF m 12 #[.val (.ref a1), .val (.int (2 : Int32)), .val (.ref a2), .val (.int (2 : Int32)), .val (.int (3 : Int32)), .val (.int (2 : Int32)), .val (.int c1)] [(.int (2 : Int32)), (.ref a1)]) (fun t k => XS.iloadN X6.here hx rfl (hb hby dci3_2_11) rfl k) ?_
  obtain ⟨cl9, Ar9, q19, Sz9, q39, Hs9, Gs9⟩ := id F_7
  have hi9 := inb_of (j := (2 : Int32)) Sz9 ⟨by decide, by decide⟩
  refine own_f T6 (mkF m 13 #[.val (.ref a1), .val (.int (2 : Int32)), .val (.ref a2), .val (.int (2 : Int32)), .val (.int (3 : Int32)), .val (.int (2 : Int32)), .val (.int c1)] [(.int c2)]) (fun t k => X6.caload hx (j := (2 : Int32)) (v := (.int c2)) (by rw [e6]; exact Ar9.1) (State.isArrayOf_alike hZ.alike Ar9.2.1) Ar9.2.2 hi9 (Has.at Hs9 hi9 rfl) (g := (mkF m 12 #[.val (.ref a1), .val (.int (2 : Int32)), .val (.ref a2), .val (.int (2 : Int32)), .val (.int (3 : Int32)), .val (.int (2 : Int32)), .val (.int c1)] [(.int (2 : Int32)), (.ref a1)])) rfl rfl (hb hby dci3_2_12) t k) ?_
  refine own_f T6 (mkF m 15 #[.val (.ref a1), .val (.int (2 : Int32)), .val (.ref a2), .val (.int (2 : Int32)), .val (.int (3 : Int32)), .val (.int (2 : Int32)), .val (.int c2)] []) (fun t k => XS.istore X6.here hx rfl (hb hby dci3_2_13) rfl (l' := #[.val (.ref a1), .val (.int (2 : Int32)), .val (.ref a2), .val (.int (2 : Int32)), .val (.int (3 : Int32)), .val (.int (2 : Int32)), .val (.int c2)]) rfl k) ?_
  refine own_step (fun t k => XS.iload X6.here hx rfl (hb hby dci3_2_15) rfl k) ?_
  refine own_step (fun t k => XT.sipushV X6.here hx rfl (255 : Int32) (hb hby dci3_2_17) (by decide) k) ?_
  refine own_f T6 (mkF m 23 #[.val (.ref a1), .val (.int (2 : Int32)), .val (.ref a2), .val (.int (2 : Int32)), .val (.int (3 : Int32)), .val (.int (2 : Int32)), .val (.int c2)] []) (fun t k => XS.icmpNo X6.here hx rfl (hb hby dci3_2_20) rfl (XT.ii_le_f hc_c2) k) ?_
  refine own_f T6 (mkF m 25 #[.val (.ref a1), .val (.int (2 : Int32)), .val (.ref a2), .val (.int (2 : Int32)), .val (.int (3 : Int32)), .val (.int (2 : Int32)), .val (.int c2)] [(.int (2 : Int32))]) (fun t k => XS.iload X6.here hx rfl (hb hby dci3_2_23) rfl k) ?_
  obtain ⟨fs, hr, hrun, hended, hW, hsame⟩ := X6.leave (v := some (.int (2 : Int32))) (fun h => by rw [Bd.returns] at h; cases h)
  refine ⟨_, _, retI X6 hx Bd.returns (hb hby dci3_2_25) hr, hrun, hended, _, _, rfl, ?_, ⟨_, rfl⟩, hW, hsame.mono (by decide) (by decide)⟩
  show Qci3_2 Z a1 a2 k1 k2 c0 c1 c2 h0 n0 _ T6.heap _
  rw [e6]
  exact ⟨rfl, N6, K6, F_8⟩
theorem dgc3_2_0 : decode jdk_52_method_5_code 0 = .ok (.getstatic 44, 3) := by decide +kernel
theorem dgc3_2_3 : decode jdk_52_method_5_code 3 = .ok (.ifCond .ne 25, 3) := by decide +kernel
theorem dgc3_2_28 : decode jdk_52_method_5_code 28 = .ok (.iload_n 1, 1) := by decide +kernel
theorem dgc3_2_29 : decode jdk_52_method_5_code 29 = .ok (.iconst 1, 1) := by decide +kernel
theorem dgc3_2_30 : decode jdk_52_method_5_code 30 = .ok (.ishl, 1) := by decide +kernel
theorem dgc3_2_31 : decode jdk_52_method_5_code 31 = .ok (.istore_n 1, 1) := by decide +kernel
theorem dgc3_2_32 : decode jdk_52_method_5_code 32 = .ok (.aload_n 0, 1) := by decide +kernel
theorem dgc3_2_33 : decode jdk_52_method_5_code 33 = .ok (.iload_n 1, 1) := by decide +kernel
theorem dgc3_2_34 : decode jdk_52_method_5_code 34 = .ok (.iinc 1 1, 3) := by decide +kernel
theorem dgc3_2_37 : decode jdk_52_method_5_code 37 = .ok (.baload, 1) := by decide +kernel
theorem dgc3_2_38 : decode jdk_52_method_5_code 38 = .ok (.sipush 255, 3) := by decide +kernel
theorem dgc3_2_41 : decode jdk_52_method_5_code 41 = .ok (.iand, 1) := by decide +kernel
theorem dgc3_2_42 : decode jdk_52_method_5_code 42 = .ok (.getstatic 59, 3) := by decide +kernel
theorem dgc3_2_45 : decode jdk_52_method_5_code 45 = .ok (.ishl, 1) := by decide +kernel
theorem dgc3_2_46 : decode jdk_52_method_5_code 46 = .ok (.aload_n 0, 1) := by decide +kernel
theorem dgc3_2_47 : decode jdk_52_method_5_code 47 = .ok (.iload_n 1, 1) := by decide +kernel
theorem dgc3_2_48 : decode jdk_52_method_5_code 48 = .ok (.baload, 1) := by decide +kernel
theorem dgc3_2_49 : decode jdk_52_method_5_code 49 = .ok (.sipush 255, 3) := by decide +kernel
theorem dgc3_2_52 : decode jdk_52_method_5_code 52 = .ok (.iand, 1) := by decide +kernel
theorem dgc3_2_53 : decode jdk_52_method_5_code 53 = .ok (.getstatic 63, 3) := by decide +kernel
theorem dgc3_2_56 : decode jdk_52_method_5_code 56 = .ok (.ishl, 1) := by decide +kernel
theorem dgc3_2_57 : decode jdk_52_method_5_code 57 = .ok (.ior, 1) := by decide +kernel
theorem dgc3_2_58 : decode jdk_52_method_5_code 58 = .ok (.i2c, 1) := by decide +kernel
theorem dgc3_2_59 : decode jdk_52_method_5_code 59 = .ok (.ireturn, 1) := by decide +kernel
theorem pn_gc3_2 : plainName "java/lang/StringUTF16" = true := by first | (simp [plainName, overriddenIn]; done) | decide +kernel
theorem ef_gc3_2 (m : MethodId) (x0 : Addr) (x1 : Int32) : entryFrame m #[(.ref x0), (.int x1)] 2 = mkF m 0 #[.val (.ref x0), .val (.int x1)] [] := by first | (simp [entryFrame, mkF, argsToLocals, Value.category]; done) | rfl
def Qgc3_2 (Z : State) (a1 : Addr) (k1 : ClassId) (c0 : Int32) (c1 : Int32) (c2 : Int32) (h0 : Heap) (n0 : Nat) (v : Option Value) (h : Heap) (L : List Loc) : Prop := v = some (.int c2) ∧ Fr n0 L ∧ h = h0
set_option maxRecDepth 65536 in
set_option maxHeartbeats 40000000 in
theorem rmgc3_2 (l : Launch) (Z : State) (a0 : Array Value) (hw : ∀ d ∈ tables_1, d.before a0 Z = true) (ws : List Jvm.Cond) (a1 : Addr) (k1 : ClassId) (c0 : Int32) (c1 : Int32) (c2 : Int32) (h0 : Heap) (n0 : Nat) (Z0 : n0 ≤ h0.size) (F0 : Old Z n0 h0) (F1 : Arv Z h0 a1 k1 .byte (6 : Int32) [.int ((c0 >>> ((0 : Int32) &&& 31)).toInt8.toInt32), .int ((c0 >>> ((8 : Int32) &&& 31)).toInt8.toInt32), .int ((c1 >>> ((0 : Int32) &&& 31)).toInt8.toInt32), .int ((c1 >>> ((8 : Int32) &&& 31)).toInt8.toInt32), .int ((c2 >>> ((0 : Int32) &&& 31)).toInt8.toInt32), .int ((c2 >>> ((8 : Int32) &&& 31)).toInt8.toInt32)] (.int 0)) (SH : Sta Z Z.heap "java/lang/StringUTF16" "HI_BYTE_SHIFT" "I" (.int (0 : Int32))) (SL : Sta Z Z.heap "java/lang/StringUTF16" "LO_BYTE_SHIFT" "I" (.int (8 : Int32))) (SA : Sta Z Z.heap "java/lang/StringUTF16" "$assertionsDisabled" "Z" (.int (1 : Int32))) (hw_c2 : own_W c2) :
    MetFree l (⟨"java/lang/StringUTF16", "getChar", "([BI)C"⟩ : MethodName) (head1 (Jvm.Cond.code (⟨"java/lang/StringUTF16", "getChar", "([BI)C"⟩ : MethodName) jdk_52_method_5_code 2 (some .char) :: ws) ({ frames := 0, cells := 0, slots := 0, locals := 0 } : Room)) (fun a U => a = #[(.ref a1), (.int (2 : Int32))] ∧ Z.Warmed39 U.vm ∧ U.heap = h0) (fun _ _ _ _ _ => True) (fun _ U o U' => ∃ v L, o = .returned v ∧ Qgc3_2 Z a1 k1 c0 c1 c2 h0 n0 v U'.heap L ∧ FrameEnd U o U' L ({ frames := 0, cells := 0, slots := 0, locals := 0 } : Room).cells ({ frames := 0, cells := 0, slots := 0, locals := 0 } : Room).slots) := by
  refine MetFree.of_bodySF (plainFor_of_name pn_gc3_2) hisR ?_
  intro p e s m args below meth c s₁ Bd hml0 hP hK
  obtain ⟨rfl, hZ, hh⟩ := hP
  have hx := Bd.exec
  have hby := Bd.bytes
  have hml : c.maxLocals = 2 := hml0
  have hown : s.vm.findClass "java/lang/StringUTF16" = some m.cls := findClass_of_methodNamed Bd.named
  have hnm := (name_of_methodNamed Bd.named Bd.method).1
  have X0 : Stand p l e ({ frames := 0, cells := 0, slots := 0, locals := 0 } : Room) s m #[(.ref a1), (.int (2 : Int32))] below meth c s₁ [] 0 0 := Stand.of_body Bd
  have e0 : s₁.heap = h0 := by rw [← hh, Bd.state]; rfl
  have N0 := Fr.nil n0
  show own_R p.tables e below (own_P s (Qgc3_2 Z a1 k1 c0 c1 c2 h0 n0) ({ frames := 0, cells := 0, slots := 0, locals := 0 } : Room).cells ({ frames := 0, cells := 0, slots := 0, locals := 0 } : Room).slots) (s₁.setTop (entryFrame m #[(.ref a1), (.int (2 : Int32))] 2))
  refine own_f s₁ (mkF m 0 #[.val (.ref a1), .val (.int (2 : Int32))] []) (fun t k => castTop (ef_gc3_2 m a1 (2 : Int32)) k) ?_
  have S1 : Sta Z h0 "java/lang/StringUTF16" "$assertionsDisabled" "Z" (.int (1 : Int32)) := SA.ext F0.2
  obtain ⟨T1, X1, e1, st1⟩ := getS X0 hx hZ (host := "") hown (own_w hw 86 rfl) Via.refl e0 S1 (g := (mkF m 0 #[.val (.ref a1), .val (.int (2 : Int32))] [])) rfl (hb hby dgc3_2_0)
  refine own_f T1 (mkF m 3 #[.val (.ref a1), .val (.int (2 : Int32))] [(.int (1 : Int32))]) st1 ?_
  refine own_f T1 (mkF m 28 #[.val (.ref a1), .val (.int (2 : Int32))] []) (fun t k => XS.ifYes X1.here hx rfl (pc0 := 3) (pc' := 28) rfl (hb hby dgc3_2_3) rfl (XT.i0_ne_t (by decide)) (by decide) (by decide) k) ?_
  refine own_step (fun t k => XS.iloadN X1.here hx rfl (hb hby dgc3_2_28) rfl k) ?_
  refine own_step (fun t k => XT.iconstV X1.here hx rfl (1 : Int32) (hb hby dgc3_2_29) (by decide) k) ?_
  refine own_f T1 (mkF m 31 #[.val (.ref a1), .val (.int (2 : Int32))] [(.int ((2 : Int32) <<< ((1 : Int32) &&& 31)))]) (fun t k => XS.ishl X1.here hx rfl (hb hby dgc3_2_30) rfl k) ?_
  rw [show ((2 : Int32) <<< ((1 : Int32) &&& 31)) = (4 : Int32) from by decide]
  refine own_f T1 (mkF m 32 #[.val (.ref a1), .val (.int (4 : Int32))] []) (fun t k => XS.istoreN X1.here hx rfl (hb hby dgc3_2_31) rfl (l' := #[.val (.ref a1), .val (.int (4 : Int32))]) rfl k) ?_
  refine own_step (fun t k => XS.aloadN X1.here hx rfl (hb hby dgc3_2_32) rfl rfl k) ?_
  refine own_f T1 (mkF m 34 #[.val (.ref a1), .val (.int (4 : Int32))] [(.int (4 : Int32)), (.ref a1)]) (fun t k => XS.iloadN X1.here hx rfl (hb hby dgc3_2_33) rfl k) ?_
  refine own_f T1 (mkF m 37 #[.val (.ref a1), .val (.int ((4 : Int32) + (1 : Int32)))] [(.int (4 : Int32)), (.ref a1)]) (fun t k => XT.iincV X1.here hx rfl (l' := #[.val (.ref a1), .val (.int ((4 : Int32) + (1 : Int32)))]) (1 : Int32) (hb hby dgc3_2_34) (by decide) rfl rfl k) ?_
  rw [show ((4 : Int32) + (1 : Int32)) = (5 : Int32) from by decide]
  obtain ⟨cl2, Ar2, q12, Sz2, q32, Hs2, Gs2⟩ := id F1
  have hi2 := inb_of (j := (4 : Int32)) Sz2 ⟨by decide, by decide⟩
  refine own_f T1 (mkF m 38 #[.val (.ref a1), .val (.int (5 : Int32))] [(.int ((c2 >>> ((0 : Int32) &&& 31)).toInt8.toInt32))]) (fun t k => X1.baloadBytes hx (j := (4 : Int32)) (v := (.int ((c2 >>> ((0 : Int32) &&& 31)).toInt8.toInt32))) (by rw [e1]; exact Ar2.1) (State.isArrayOf_alike hZ.alike Ar2.2.1) Ar2.2.2 hi2 (Has.at Hs2 hi2 rfl) (g := (mkF m 37 #[.val (.ref a1), .val (.int (5 : Int32))] [(.int (4 : Int32)), (.ref a1)])) rfl rfl (hb hby dgc3_2_37) t k) ?_
  refine own_step (fun t k => XT.sipushV X1.here hx rfl (255 : Int32) (hb hby dgc3_2_38) (by decide) k) ?_
  refine own_f T1 (mkF m 42 #[.val (.ref a1), .val (.int (5 : Int32))] [(.int (((c2 >>> ((0 : Int32) &&& 31)).toInt8.toInt32) &&& (255 : Int32)))]) (fun t k => XS.iand X1.here hx rfl (hb hby dgc3_2_41) rfl k) ?_
  have S3 : Sta Z h0 "java/lang/StringUTF16" "HI_BYTE_SHIFT" "I" (.int (0 : Int32)) := SH.ext F0.2
  obtain ⟨T3, X3, e3, st3⟩ := getS X1 hx hZ (host := "") hown (own_w hw 87 rfl) Via.refl e1 S3 (g := (mkF m 42 #[.val (.ref a1), .val (.int (5 : Int32))] [(.int (((c2 >>> ((0 : Int32) &&& 31)).toInt8.toInt32) &&& (255 : Int32)))])) rfl (hb hby dgc3_2_42)
  refine own_f T3 (mkF m 45 #[.val (.ref a1), .val (.int (5 : Int32))] [(.int (0 : Int32)), (.int (((c2 >>> ((0 : Int32) &&& 31)).toInt8.toInt32) &&& (255 : Int32)))]) st3 ?_
  refine own_f T3 (mkF m 46 #[.val (.ref a1), .val (.int (5 : Int32))] [(.int ((((c2 >>> ((0 : Int32) &&& 31)).toInt8.toInt32) &&& (255 : Int32)) <<< ((0 : Int32) &&& 31)))]) (fun t k => XS.ishl X3.here hx rfl (hb hby dgc3_2_45) rfl k) ?_
  refine own_step (fun t k => XS.aloadN X3.here hx rfl (hb hby dgc3_2_46) rfl rfl k) ?_
  refine own_f T3 (mkF m 48 #[.val (.ref a1), .val (.int (5 : Int32))] [(.int (5 : Int32)), (.ref a1), (.int ((((c2 >>> ((0 : Int32) &&& 31)).toInt8.toInt32) &&& (255 : Int32)) <<< ((0 : Int32) &&& 31)))]) (fun t k => XS.iloadN X3.here hx rfl (hb hby dgc3_2_47) rfl k) ?_
  obtain ⟨cl4, Ar4, q14, Sz4, q34, Hs4, Gs4⟩ := id F1
  have hi4 := inb_of (j := (5 : Int32)) Sz4 ⟨by decide, by decide⟩
  refine own_f T3 (mkF m 49 #[.val (.ref a1), .val (.int (5 : Int32))] [(.int ((c2 >>> ((8 : Int32) &&& 31)).toInt8.toInt32)), (.int ((((c2 >>> ((0 : Int32) &&& 31)).toInt8.toInt32) &&& (255 : Int32)) <<< ((0 : Int32) &&& 31)))]) (fun t k => X3.baloadBytes hx (j := (5 : Int32)) (v := (.int ((c2 >>> ((8 : Int32) &&& 31)).toInt8.toInt32))) (by rw [e3]; exact Ar4.1) (State.isArrayOf_alike hZ.alike Ar4.2.1) Ar4.2.2 hi4 (Has.at Hs4 hi4 rfl) (g := (mkF m 48 #[.val (.ref a1), .val (.int (5 : Int32))] [(.int (5 : Int32)), (.ref a1), (.int ((((c2 >>> ((0 : Int32) &&& 31)).toInt8.toInt32) &&& (255 : Int32)) <<< ((0 : Int32) &&& 31)))])) rfl rfl (hb hby dgc3_2_48) t k) ?_
  refine own_step (fun t k => XT.sipushV X3.here hx rfl (255 : Int32) (hb hby dgc3_2_49) (by decide) k) ?_
  refine own_f T3 (mkF m 53 #[.val (.ref a1), .val (.int (5 : Int32))] [(.int (((c2 >>> ((8 : Int32) &&& 31)).toInt8.toInt32) &&& (255 : Int32))), (.int ((((c2 >>> ((0 : Int32) &&& 31)).toInt8.toInt32) &&& (255 : Int32)) <<< ((0 : Int32) &&& 31)))]) (fun t k => XS.iand X3.here hx rfl (hb hby dgc3_2_52) rfl k) ?_
  have S5 : Sta Z h0 "java/lang/StringUTF16" "LO_BYTE_SHIFT" "I" (.int (8 : Int32)) := SL.ext F0.2
  obtain ⟨T5, X5, e5, st5⟩ := getS X3 hx hZ (host := "") hown (own_w hw 88 rfl) Via.refl e3 S5 (g := (mkF m 53 #[.val (.ref a1), .val (.int (5 : Int32))] [(.int (((c2 >>> ((8 : Int32) &&& 31)).toInt8.toInt32) &&& (255 : Int32))), (.int ((((c2 >>> ((0 : Int32) &&& 31)).toInt8.toInt32) &&& (255 : Int32)) <<< ((0 : Int32) &&& 31)))])) rfl (hb hby dgc3_2_53)
  refine own_f T5 (mkF m 56 #[.val (.ref a1), .val (.int (5 : Int32))] [(.int (8 : Int32)), (.int (((c2 >>> ((8 : Int32) &&& 31)).toInt8.toInt32) &&& (255 : Int32))), (.int ((((c2 >>> ((0 : Int32) &&& 31)).toInt8.toInt32) &&& (255 : Int32)) <<< ((0 : Int32) &&& 31)))]) st5 ?_
  refine own_f T5 (mkF m 57 #[.val (.ref a1), .val (.int (5 : Int32))] [(.int ((((c2 >>> ((8 : Int32) &&& 31)).toInt8.toInt32) &&& (255 : Int32)) <<< ((8 : Int32) &&& 31))), (.int ((((c2 >>> ((0 : Int32) &&& 31)).toInt8.toInt32) &&& (255 : Int32)) <<< ((0 : Int32) &&& 31)))]) (fun t k => XS.ishl X5.here hx rfl (hb hby dgc3_2_56) rfl k) ?_
  refine own_f T5 (mkF m 58 #[.val (.ref a1), .val (.int (5 : Int32))] [(.int (((((c2 >>> ((0 : Int32) &&& 31)).toInt8.toInt32) &&& (255 : Int32)) <<< ((0 : Int32) &&& 31)) ||| ((((c2 >>> ((8 : Int32) &&& 31)).toInt8.toInt32) &&& (255 : Int32)) <<< ((8 : Int32) &&& 31))))]) (fun t k => XS.ior X5.here hx rfl (hb hby dgc3_2_57) rfl k) ?_
  refine own_f T5 (mkF m 59 #[.val (.ref a1), .val (.int (5 : Int32))] [(.int ((((((c2 >>> ((0 : Int32) &&& 31)).toInt8.toInt32) &&& (255 : Int32)) <<< ((0 : Int32) &&& 31)) ||| ((((c2 >>> ((8 : Int32) &&& 31)).toInt8.toInt32) &&& (255 : Int32)) <<< ((8 : Int32) &&& 31))).toUInt32.toUInt16.toUInt32.toInt32))]) (fun t k => XS.i2c X5.here hx rfl (hb hby dgc3_2_58) rfl k) ?_
  obtain ⟨fs, hr, hrun, hended, hW, hsame⟩ := X5.leave (v := some (.int ((((((c2 >>> ((0 : Int32) &&& 31)).toInt8.toInt32) &&& (255 : Int32)) <<< ((0 : Int32) &&& 31)) ||| ((((c2 >>> ((8 : Int32) &&& 31)).toInt8.toInt32) &&& (255 : Int32)) <<< ((8 : Int32) &&& 31))).toUInt32.toUInt16.toUInt32.toInt32))) (fun h => by rw [Bd.returns] at h; cases h)
  refine ⟨_, _, own_retB X5 hx (t := .char) Bd.returns (by simp) (own_narC _) (hb hby dgc3_2_59) hr, hrun, hended, _, _, rfl, ?_, ⟨_, rfl⟩, hW, hsame.mono (by decide) (by decide)⟩
  show Qgc3_2 Z a1 k1 c0 c1 c2 h0 n0 _ T5.heap _
  rw [e5]
  exact ⟨by rw [own_gc hw_c2], N0, rfl⟩
theorem dcb3_2_0 : decode jdk_52_method_16_code 0 = .ok (.iload_n 2, 1) := by decide +kernel
theorem dcb3_2_1 : decode jdk_52_method_16_code 1 = .ok (.newarray .byte, 2) := by decide +kernel
theorem dcb3_2_3 : decode jdk_52_method_16_code 3 = .ok (.astore_n 3, 1) := by decide +kernel
theorem dcb3_2_4 : decode jdk_52_method_16_code 4 = .ok (.aload_n 0, 1) := by decide +kernel
theorem dcb3_2_5 : decode jdk_52_method_16_code 5 = .ok (.iload_n 1, 1) := by decide +kernel
theorem dcb3_2_6 : decode jdk_52_method_16_code 6 = .ok (.aload_n 3, 1) := by decide +kernel
theorem dcb3_2_7 : decode jdk_52_method_16_code 7 = .ok (.iconst 0, 1) := by decide +kernel
theorem dcb3_2_8 : decode jdk_52_method_16_code 8 = .ok (.iload_n 2, 1) := by decide +kernel
theorem dcb3_2_9 : decode jdk_52_method_16_code 9 = .ok (.invokestatic 115, 3) := by decide +kernel
theorem dcb3_2_12 : decode jdk_52_method_16_code 12 = .ok (.istore 4, 2) := by decide +kernel
theorem dcb3_2_14 : decode jdk_52_method_16_code 14 = .ok (.iload 4, 2) := by decide +kernel
theorem dcb3_2_16 : decode jdk_52_method_16_code 16 = .ok (.iload_n 2, 1) := by decide +kernel
theorem dcb3_2_17 : decode jdk_52_method_16_code 17 = .ok (.if_icmp .eq 40, 3) := by decide +kernel
theorem dcb3_2_20 : decode jdk_52_method_16_code 20 = .ok (.aload_n 0, 1) := by decide +kernel
theorem dcb3_2_21 : decode jdk_52_method_16_code 21 = .ok (.iload_n 1, 1) := by decide +kernel
theorem dcb3_2_22 : decode jdk_52_method_16_code 22 = .ok (.iload_n 2, 1) := by decide +kernel
theorem dcb3_2_23 : decode jdk_52_method_16_code 23 = .ok (.invokestatic 119, 3) := by decide +kernel
theorem dcb3_2_26 : decode jdk_52_method_16_code 26 = .ok (.astore 5, 2) := by decide +kernel
theorem dcb3_2_28 : decode jdk_52_method_16_code 28 = .ok (.aload 5, 2) := by decide +kernel
theorem dcb3_2_30 : decode jdk_52_method_16_code 30 = .ok (.iload 4, 2) := by decide +kernel
theorem dcb3_2_32 : decode jdk_52_method_16_code 32 = .ok (.invokestatic 71, 3) := by decide +kernel
theorem dcb3_2_35 : decode jdk_52_method_16_code 35 = .ok (.sipush 255, 3) := by decide +kernel
theorem dcb3_2_38 : decode jdk_52_method_16_code 38 = .ok (.if_icmp .gt 16, 3) := by decide +kernel
theorem dcb3_2_54 : decode jdk_52_method_16_code 54 = .ok (.aload 5, 2) := by decide +kernel
theorem dcb3_2_56 : decode jdk_52_method_16_code 56 = .ok (.areturn, 1) := by decide +kernel
theorem pn_cb3_2 : plainName "java/lang/StringUTF16" = true := by first | (simp [plainName, overriddenIn]; done) | decide +kernel
theorem ef_cb3_2 (m : MethodId) (x0 : Addr) (x1 : Int32) (x2 : Int32) : entryFrame m #[(.ref x0), (.int x1), (.int x2)] 6 = mkF m 0 #[.val (.ref x0), .val (.int x1), .val (.int x2), .unset, .unset, .unset] [] := by first | (simp [entryFrame, mkF, argsToLocals, Value.category]; done) | rfl
def Qcb3_2 (Z : State) (a1 : Addr) (k1 : ClassId) (c0 : Int32) (c1 : Int32) (c2 : Int32) (h0 : Heap) (n0 : Nat) (v : Option Value) (h : Heap) (L : List Loc) : Prop := ∃ (b : Addr) (kb : ClassId), v = some (.ref b) ∧ Fr n0 L ∧ Keep h0 h [] ∧ Arv Z h b kb .byte (6 : Int32) [.int ((c0 >>> ((0 : Int32) &&& 31)).toInt8.toInt32), .int ((c0 >>> ((8 : Int32) &&& 31)).toInt8.toInt32), .int ((c1 >>> ((0 : Int32) &&& 31)).toInt8.toInt32), .int ((c1 >>> ((8 : Int32) &&& 31)).toInt8.toInt32), .int ((c2 >>> ((0 : Int32) &&& 31)).toInt8.toInt32), .int ((c2 >>> ((8 : Int32) &&& 31)).toInt8.toInt32)] (.int 0) ∧ h0.size ≤ b
set_option maxRecDepth 65536 in
set_option maxHeartbeats 40000000 in
theorem rmcb3_2 (l : Launch) (Z : State) (a0 : Array Value) (hw : ∀ d ∈ tables_1, d.before a0 Z = true) (ws : List Jvm.Cond) (a1 : Addr) (k1 : ClassId) (c0 : Int32) (c1 : Int32) (c2 : Int32) (h0 : Heap) (n0 : Nat) (Z0 : n0 ≤ h0.size) (F0 : Old Z n0 h0) (F1 : Arv Z h0 a1 k1 .char (3 : Int32) [.int c0, .int c1, .int c2] (.int 0)) (hc_c0 : ¬ ((255 : Int32) < c0)) (hc_c1 : ¬ ((255 : Int32) < c1)) (hc_c2 : (255 : Int32) < c2) (SH : Sta Z Z.heap "java/lang/StringUTF16" "HI_BYTE_SHIFT" "I" (.int (0 : Int32))) (SL : Sta Z Z.heap "java/lang/StringUTF16" "LO_BYTE_SHIFT" "I" (.int (8 : Int32))) (SA : Sta Z Z.heap "java/lang/StringUTF16" "$assertionsDisabled" "Z" (.int (1 : Int32))) (hw_c2 : own_W c2) :
    MetFree l (⟨"java/lang/StringUTF16", "compress", "([CII)[B"⟩ : MethodName) (head1 (Jvm.Cond.code (⟨"java/lang/StringUTF16", "compress", "([CII)[B"⟩ : MethodName) jdk_52_method_16_code 6 (some (.array .byte)) :: ws) ({ frames := 3, cells := 2, slots := 9, locals := 40 } : Room)) (fun a U => a = #[(.ref a1), (.int (0 : Int32)), (.int (3 : Int32))] ∧ Z.Warmed39 U.vm ∧ U.heap = h0) (fun _ _ _ _ _ => True) (fun _ U o U' => ∃ v L, o = .returned v ∧ Qcb3_2 Z a1 k1 c0 c1 c2 h0 n0 v U'.heap L ∧ FrameEnd U o U' L ({ frames := 3, cells := 2, slots := 9, locals := 40 } : Room).cells ({ frames := 3, cells := 2, slots := 9, locals := 40 } : Room).slots) := by
  refine MetFree.of_bodySF (plainFor_of_name pn_cb3_2) hisR ?_
  intro p e s m args below meth c s₁ Bd hml0 hP hK
  obtain ⟨rfl, hZ, hh⟩ := hP
  have hx := Bd.exec
  have hby := Bd.bytes
  have hml : c.maxLocals = 6 := hml0
  have hown : s.vm.findClass "java/lang/StringUTF16" = some m.cls := findClass_of_methodNamed Bd.named
  have hnm := (name_of_methodNamed Bd.named Bd.method).1
  have X0 : Stand p l e ({ frames := 3, cells := 2, slots := 9, locals := 40 } : Room) s m #[(.ref a1), (.int (0 : Int32)), (.int (3 : Int32))] below meth c s₁ [] 0 0 := Stand.of_body Bd
  have e0 : s₁.heap = h0 := by rw [← hh, Bd.state]; rfl
  have N0 := Fr.nil n0
  show own_R p.tables e below (own_P s (Qcb3_2 Z a1 k1 c0 c1 c2 h0 n0) ({ frames := 3, cells := 2, slots := 9, locals := 40 } : Room).cells ({ frames := 3, cells := 2, slots := 9, locals := 40 } : Room).slots) (s₁.setTop (entryFrame m #[(.ref a1), (.int (0 : Int32)), (.int (3 : Int32))] 6))
  refine own_f s₁ (mkF m 0 #[.val (.ref a1), .val (.int (0 : Int32)), .val (.int (3 : Int32)), .unset, .unset, .unset] []) (fun t k => castTop (ef_cb3_2 m a1 (0 : Int32) (3 : Int32)) k) ?_
  refine own_f s₁ (mkF m 1 #[.val (.ref a1), .val (.int (0 : Int32)), .val (.int (3 : Int32)), .unset, .unset, .unset] [(.int (3 : Int32))]) (fun t k => XS.iloadN X0.here hx rfl (hb hby dcb3_2_0) rfl k) ?_
  obtain ⟨T1, h1, kA1, X1, e1, E1, A1, st1⟩ := newP X0 hx hZ (own_w hw 21 rfl) e0 (g := (mkF m 1 #[.val (.ref a1), .val (.int (0 : Int32)), .val (.int (3 : Int32)), .unset, .unset, .unset] [(.int (3 : Int32))])) rfl (hb hby dcb3_2_1) rfl (by decide) (cap := 3) (by decide) (by decide) (by decide) (by decide)
  obtain ⟨b1, g1⟩ : ∃ z, z = h0.size := ⟨_, rfl⟩
  rw [← g1] at A1 st1
  have ne1_a1 : a1 ≠ b1 := by rw [g1]; exact Nat.ne_of_lt F1.lt
  have ge1 : n0 ≤ b1 := by rw [g1]; exact Z0
  have gf1 : h0.size ≤ b1 := by rw [g1]; exact (Keep.refl h0 []).1
  have Zs1 : n0 ≤ h1.size := Nat.le_trans Z0 E1.1
  have F_2 := F0.ext E1
  have F_3 := F1.ext E1
  have K1 : Keep h0 h1 [] := (Keep.refl h0 []).ext E1
  have F_4 : Arv Z h1 b1 kA1 .byte (3 : Int32) [.int 0, .int 0, .int 0] (.int 0) := own_arvnew 3 A1 (by decide)
  refine own_f T1 (mkF m 3 #[.val (.ref a1), .val (.int (0 : Int32)), .val (.int (3 : Int32)), .unset, .unset, .unset] [(.ref b1)]) st1 ?_
  refine own_f T1 (mkF m 4 #[.val (.ref a1), .val (.int (0 : Int32)), .val (.int (3 : Int32)), .val (.ref b1), .unset, .unset] []) (fun t k => XS.astoreN X1.here hx rfl (hb hby dcb3_2_3) rfl rfl (l' := #[.val (.ref a1), .val (.int (0 : Int32)), .val (.int (3 : Int32)), .val (.ref b1), .unset, .unset]) rfl k) ?_
  refine own_step (fun t k => XS.aloadN X1.here hx rfl (hb hby dcb3_2_4) rfl rfl k) ?_
  refine own_step (fun t k => XS.iloadN X1.here hx rfl (hb hby dcb3_2_5) rfl k) ?_
  refine own_step (fun t k => XS.aloadN X1.here hx rfl (hb hby dcb3_2_6) rfl rfl k) ?_
  refine own_step (fun t k => XT.iconstV X1.here hx rfl (0 : Int32) (hb hby dcb3_2_7) (by decide) k) ?_
  refine own_f T1 (mkF m 9 #[.val (.ref a1), .val (.int (0 : Int32)), .val (.int (3 : Int32)), .val (.ref b1), .unset, .unset] [(.int (3 : Int32)), (.int (0 : Int32)), (.ref b1), (.int (0 : Int32)), (.ref a1)]) (fun t k => XS.iloadN X1.here hx rfl (hb hby dcb3_2_8) rfl k) ?_
  obtain ⟨_, _, ⟨T5, Lq5, kq_5, nq_5⟩, -, X5, ⟨Lc5, hQ5, lq5, yq5, zq5⟩, st5⟩ := Jvm.LawKit.callS X1 hx (y := (⟨"java/lang/StringUTF16", "compress", "([CI[BII)I"⟩ : MethodName)) hown (mvT hZ (own_w hw 22 rfl)) (mvT hZ (own_w hw 23 rfl)) (mvT hZ (own_w hw 19 rfl)) (mvT hZ (own_w hw 24 rfl)) (by decide) (backOf (W := 0) (rmci3_2 l Z a0 hw [] a1 b1 _ _ _ _ _ h1 n0 Zs1 F_3 F_4 ge1 ne1_a1 hc_c0 hc_c1 hc_c2) hZ (own_w hw 24 rfl) (own_w hw 19 rfl) (by decide) (by decide)) (g := (mkF m 9 #[.val (.ref a1), .val (.int (0 : Int32)), .val (.int (3 : Int32)), .val (.ref b1), .unset, .unset] [(.int (3 : Int32)), (.int (0 : Int32)), (.ref b1), (.int (0 : Int32)), (.ref a1)])) rfl (by rw [hml]; rfl) (argsL := [(.ref a1), (.int (0 : Int32)), (.ref b1), (.int (0 : Int32)), (.int (3 : Int32))]) (rest := []) (lenOf pd__CI_BII_I rfl) rfl (by show 2 * 0 + _ ≤ _; exact Nat.le_of_eq rfl) (hb hby dcb3_2_9) (fun _ _ => ⟨rfl, e1, (by decide : 0 + 1 + 0 ≤ _), (by decide : 0 + 3 + 0 ≤ _)⟩)
  dsimp only [Pt.U, Pt.locs, Pt.cells, Pt.slots] at X5 lq5 yq5 zq5 st5 hQ5
  subst lq5 yq5 zq5
  obtain ⟨h5, e5⟩ : ∃ z, T5.heap = z := ⟨_, rfl⟩
  rw [e5] at hQ5
  unfold Qci3_2 at hQ5
  obtain ⟨rfl, Nq5, qh5, G5_0⟩ := hQ5
  have N5 := Fr.app N0 Nq5
  have Zs5 : n0 ≤ h5.size := Nat.le_trans Zs1 qh5.1
  have F_6 := F_2.keep qh5 (allS ge1 all0)
  have F_7 := F_3.keep qh5 (ninS ne1_a1 nin0)
  have K5 : Keep h0 h5 [] := K1.trans qh5 (allS (Or.inr gf1) all0)
  refine own_f T5 (mkF m 12 #[.val (.ref a1), .val (.int (0 : Int32)), .val (.int (3 : Int32)), .val (.ref b1), .unset, .unset] [(.int (2 : Int32))]) st5 ?_
  refine own_f T5 (mkF m 14 #[.val (.ref a1), .val (.int (0 : Int32)), .val (.int (3 : Int32)), .val (.ref b1), .val (.int (2 : Int32)), .unset] []) (fun t k => XS.istore X5.here hx rfl (hb hby dcb3_2_12) rfl (l' := #[.val (.ref a1), .val (.int (0 : Int32)), .val (.int (3 : Int32)), .val (.ref b1), .val (.int (2 : Int32)), .unset]) rfl k) ?_
  refine own_step (fun t k => XS.iload X5.here hx rfl (hb hby dcb3_2_14) rfl k) ?_
  refine own_step (fun t k => XS.iloadN X5.here hx rfl (hb hby dcb3_2_16) rfl k) ?_
  refine own_f T5 (mkF m 20 #[.val (.ref a1), .val (.int (0 : Int32)), .val (.int (3 : Int32)), .val (.ref b1), .val (.int (2 : Int32)), .unset] []) (fun t k => XS.icmpNo X5.here hx rfl (hb hby dcb3_2_17) rfl (XT.ii_eq_f (by decide)) k) ?_
  refine own_step (fun t k => XS.aloadN X5.here hx rfl (hb hby dcb3_2_20) rfl rfl k) ?_
  refine own_step (fun t k => XS.iloadN X5.here hx rfl (hb hby dcb3_2_21) rfl k) ?_
  refine own_f T5 (mkF m 23 #[.val (.ref a1), .val (.int (0 : Int32)), .val (.int (3 : Int32)), .val (.ref b1), .val (.int (2 : Int32)), .unset] [(.int (3 : Int32)), (.int (0 : Int32)), (.ref a1)]) (fun t k => XS.iloadN X5.here hx rfl (hb hby dcb3_2_22) rfl k) ?_
  obtain ⟨_, _, ⟨T8, Lq8, kq_8, nq_8⟩, -, X8, ⟨Lc8, hQ8, lq8, yq8, zq8⟩, st8⟩ := Jvm.LawKit.callS X5 hx (y := (⟨"java/lang/StringUTF16", "toBytes", "([CII)[B"⟩ : MethodName)) hown (mvT hZ (own_w hw 73 rfl)) (mvT hZ (own_w hw 74 rfl)) (mvT hZ (own_w hw 19 rfl)) (mvT hZ (own_w hw 75 rfl)) (by decide) (backOf (W := 0) (rmtb3 l Z a0 hw [] a1 _ _ _ _ h5 n0 Zs5 F_6 F_7 SH SL SA) hZ (own_w hw 75 rfl) (own_w hw 19 rfl) (by decide) (by decide)) (g := (mkF m 23 #[.val (.ref a1), .val (.int (0 : Int32)), .val (.int (3 : Int32)), .val (.ref b1), .val (.int (2 : Int32)), .unset] [(.int (3 : Int32)), (.int (0 : Int32)), (.ref a1)])) rfl (by rw [hml]; rfl) (argsL := [(.ref a1), (.int (0 : Int32)), (.int (3 : Int32))]) (rest := []) (lenOf pd__CII_B rfl) rfl (by show 2 * 0 + _ ≤ _; exact Nat.le_of_eq rfl) (hb hby dcb3_2_23) (fun _ _ => ⟨rfl, e5, (by decide : 0 + 1 + 0 + 1 ≤ _), (by decide : 0 + 3 + 0 + 6 ≤ _)⟩)
  dsimp only [Pt.U, Pt.locs, Pt.cells, Pt.slots] at X8 lq8 yq8 zq8 st8 hQ8
  subst lq8 yq8 zq8
  obtain ⟨h8, e8⟩ : ∃ z, T8.heap = z := ⟨_, rfl⟩
  rw [e8] at hQ8
  unfold Qtb3 at hQ8
  obtain ⟨b8, kb8, rfl, Nq8, qh8, G8_0, H8_0⟩ := hQ8
  have N8 := Fr.app N5 Nq8
  have Zs8 : n0 ≤ h8.size := Nat.le_trans Zs5 qh8.1
  have F_9 := F_6.keep qh8 all0
  have F_10 := F_7.keep qh8 nin0
  have F_11 := G5_0.keep qh8 nin0
  have K8 : Keep h0 h8 [] := K5.trans qh8 all0
  have ne8_a1 : a1 ≠ b8 := Nat.ne_of_lt (Nat.lt_of_lt_of_le F_7.lt H8_0)
  have ne8_b1 : b1 ≠ b8 := Nat.ne_of_lt (Nat.lt_of_lt_of_le G5_0.lt H8_0)
  have ge8 : n0 ≤ b8 := Nat.le_trans Zs5 H8_0
  have gf8 : h0.size ≤ b8 := Nat.le_trans K5.1 H8_0
  refine own_f T8 (mkF m 26 #[.val (.ref a1), .val (.int (0 : Int32)), .val (.int (3 : Int32)), .val (.ref b1), .val (.int (2 : Int32)), .unset] [(.ref b8)]) st8 ?_
  refine own_f T8 (mkF m 28 #[.val (.ref a1), .val (.int (0 : Int32)), .val (.int (3 : Int32)), .val (.ref b1), .val (.int (2 : Int32)), .val (.ref b8)] []) (fun t k => XS.astore X8.here hx rfl (hb hby dcb3_2_26) rfl rfl (l' := #[.val (.ref a1), .val (.int (0 : Int32)), .val (.int (3 : Int32)), .val (.ref b1), .val (.int (2 : Int32)), .val (.ref b8)]) rfl k) ?_
  refine own_step (fun t k => XS.aload X8.here hx rfl (hb hby dcb3_2_28) rfl rfl k) ?_
  refine own_f T8 (mkF m 32 #[.val (.ref a1), .val (.int (0 : Int32)), .val (.int (3 : Int32)), .val (.ref b1), .val (.int (2 : Int32)), .val (.ref b8)] [(.int (2 : Int32)), (.ref b8)]) (fun t k => XS.iload X8.here hx rfl (hb hby dcb3_2_30) rfl k) ?_
  obtain ⟨_, _, ⟨T12, Lq12, kq_12, nq_12⟩, -, X12, ⟨Lc12, hQ12, lq12, yq12, zq12⟩, st12⟩ := Jvm.LawKit.callS X8 hx (y := (⟨"java/lang/StringUTF16", "getChar", "([BI)C"⟩ : MethodName)) hown (mvT hZ (own_w hw 89 rfl)) (mvT hZ (own_w hw 90 rfl)) (mvT hZ (own_w hw 19 rfl)) (mvT hZ (own_w hw 91 rfl)) (by decide) (backOf (W := 0) (rmgc3_2 l Z a0 hw [] b8 _ _ _ _ h8 n0 Zs8 F_9 G8_0 SH SL SA hw_c2) hZ (own_w hw 91 rfl) (own_w hw 19 rfl) (by decide) (by decide)) (g := (mkF m 32 #[.val (.ref a1), .val (.int (0 : Int32)), .val (.int (3 : Int32)), .val (.ref b1), .val (.int (2 : Int32)), .val (.ref b8)] [(.int (2 : Int32)), (.ref b8)])) rfl (by rw [hml]; rfl) (argsL := [(.ref b8), (.int (2 : Int32))]) (rest := []) (lenOf pd__BI_C rfl) rfl (by show 2 * 0 + _ ≤ _; exact Nat.le_of_eq rfl) (hb hby dcb3_2_32) (fun _ _ => ⟨rfl, e8, (by decide : 0 + 1 + 0 + 1 + 0 ≤ _), (by decide : 0 + 3 + 0 + 6 + 0 ≤ _)⟩)
  dsimp only [Pt.U, Pt.locs, Pt.cells, Pt.slots] at X12 lq12 yq12 zq12 st12 hQ12
  subst lq12 yq12 zq12
  obtain ⟨h12, e12⟩ : ∃ z, T12.heap = z := ⟨_, rfl⟩
  rw [e12] at hQ12
  unfold Qgc3_2 at hQ12
  obtain ⟨rfl, Nq12, qh12⟩ := hQ12
  have N12 := Fr.app N8 Nq12
  rw [qh12] at e12
  refine own_f T12 (mkF m 35 #[.val (.ref a1), .val (.int (0 : Int32)), .val (.int (3 : Int32)), .val (.ref b1), .val (.int (2 : Int32)), .val (.ref b8)] [(.int c2)]) st12 ?_
  refine own_step (fun t k => XT.sipushV X12.here hx rfl (255 : Int32) (hb hby dcb3_2_35) (by decide) k) ?_
  refine own_f T12 (mkF m 54 #[.val (.ref a1), .val (.int (0 : Int32)), .val (.int (3 : Int32)), .val (.ref b1), .val (.int (2 : Int32)), .val (.ref b8)] []) (fun t k => XS.icmpYes X12.here hx rfl (pc0 := 38) (pc' := 54) rfl (hb hby dcb3_2_38) rfl (XT.ii_gt_t hc_c2) (by decide) (by decide) k) ?_
  refine own_f T12 (mkF m 56 #[.val (.ref a1), .val (.int (0 : Int32)), .val (.int (3 : Int32)), .val (.ref b1), .val (.int (2 : Int32)), .val (.ref b8)] [(.ref b8)]) (fun t k => XS.aload X12.here hx rfl (hb hby dcb3_2_54) rfl rfl k) ?_
  obtain ⟨fs, hr, hrun, hended, hW, hsame⟩ := X12.leave (v := some (.ref b8)) (fun h => by rw [Bd.returns] at h; cases h)
  refine ⟨_, _, retOut X12 hx Bd.returns (by rfl) (Or.inr (Or.inr (Or.inr (Or.inr ⟨rfl, rfl, rfl⟩)))) (hb hby dcb3_2_56) hr, hrun, hended, _, _, rfl, ?_, ⟨_, rfl⟩, hW, hsame.mono (by decide) (by decide)⟩
  show Qcb3_2 Z a1 k1 c0 c1 c2 h0 n0 _ T12.heap _
  rw [e12]
  exact ⟨b8, kb8, rfl, N12, K8, G8_0, gf8⟩
theorem ds43_2_0 : decode jdk_42_method_149_code 0 = .ok (.aload_n 0, 1) := by decide +kernel
theorem ds43_2_1 : decode jdk_42_method_149_code 1 = .ok (.invokespecial 1, 3) := by decide +kernel
theorem ds43_2_4 : decode jdk_42_method_149_code 4 = .ok (.iload_n 3, 1) := by decide +kernel
theorem ds43_2_5 : decode jdk_42_method_149_code 5 = .ok (.ifCond .ne 22, 3) := by decide +kernel
theorem ds43_2_27 : decode jdk_42_method_149_code 27 = .ok (.getstatic 38, 3) := by decide +kernel
theorem ds43_2_30 : decode jdk_42_method_149_code 30 = .ok (.ifCond .eq 28, 3) := by decide +kernel
theorem ds43_2_33 : decode jdk_42_method_149_code 33 = .ok (.aload_n 1, 1) := by decide +kernel
theorem ds43_2_34 : decode jdk_42_method_149_code 34 = .ok (.iload_n 2, 1) := by decide +kernel
theorem ds43_2_35 : decode jdk_42_method_149_code 35 = .ok (.iload_n 3, 1) := by decide +kernel
theorem ds43_2_36 : decode jdk_42_method_149_code 36 = .ok (.invokestatic 177, 3) := by decide +kernel
theorem ds43_2_39 : decode jdk_42_method_149_code 39 = .ok (.astore 5, 2) := by decide +kernel
theorem ds43_2_41 : decode jdk_42_method_149_code 41 = .ok (.aload_n 0, 1) := by decide +kernel
theorem ds43_2_42 : decode jdk_42_method_149_code 42 = .ok (.aload 5, 2) := by decide +kernel
theorem ds43_2_44 : decode jdk_42_method_149_code 44 = .ok (.iload_n 3, 1) := by decide +kernel
theorem ds43_2_45 : decode jdk_42_method_149_code 45 = .ok (.invokestatic 47, 3) := by decide +kernel
theorem ds43_2_48 : decode jdk_42_method_149_code 48 = .ok (.putfield 15, 3) := by decide +kernel
theorem ds43_2_51 : decode jdk_42_method_149_code 51 = .ok (.aload_n 0, 1) := by decide +kernel
theorem ds43_2_52 : decode jdk_42_method_149_code 52 = .ok (.aload 5, 2) := by decide +kernel
theorem ds43_2_54 : decode jdk_42_method_149_code 54 = .ok (.putfield 9, 3) := by decide +kernel
theorem ds43_2_57 : decode jdk_42_method_149_code 57 = .ok (.return_, 1) := by decide +kernel
theorem pn_s43_2 : plainName "java/lang/String" = true := by first | (simp [plainName, overriddenIn]; done) | decide +kernel
theorem ef_s43_2 (m : MethodId) (x0 : Addr) (x1 : Addr) (x2 : Int32) (x3 : Int32) : entryFrame m #[(.ref x0), (.ref x1), (.int x2), (.int x3), .null] 6 = mkF m 0 #[.val (.ref x0), .val (.ref x1), .val (.int x2), .val (.int x3), .val .null, .unset] [] := by first | (simp [entryFrame, mkF, argsToLocals, Value.category]; done) | rfl
def Qs43_2 (Z : State) (a1 : Addr) (a2 : Addr) (k2 : ClassId) (c0 : Int32) (c1 : Int32) (c2 : Int32) (u0 : Value) (u1 : Value) (wc : Int32) (h0 : Heap) (n0 : Nat) (v : Option Value) (h : Heap) (L : List Loc) : Prop := ∃ (b : Addr) (kb : ClassId), v = none ∧ Fr n0 L ∧ Keep h0 h [a1] ∧ Exa Z h a1 "java/lang/String" ∧ Fld Z h a1 "java/lang/String" "coder" "B" (.int (1 : Int32)) ∧ Fld Z h a1 "java/lang/String" "value" "[B" (.ref b) ∧ Arv Z h b kb .byte (6 : Int32) [.int ((c0 >>> ((0 : Int32) &&& 31)).toInt8.toInt32), .int ((c0 >>> ((8 : Int32) &&& 31)).toInt8.toInt32), .int ((c1 >>> ((0 : Int32) &&& 31)).toInt8.toInt32), .int ((c1 >>> ((8 : Int32) &&& 31)).toInt8.toInt32), .int ((c2 >>> ((0 : Int32) &&& 31)).toInt8.toInt32), .int ((c2 >>> ((8 : Int32) &&& 31)).toInt8.toInt32)] (.int 0) ∧ h0.size ≤ b
set_option maxRecDepth 65536 in
set_option maxHeartbeats 40000000 in
theorem rms43_2 (l : Launch) (Z : State) (a0 : Array Value) (hw : ∀ d ∈ tables_1, d.before a0 Z = true) (ws : List Jvm.Cond) (a1 : Addr) (a2 : Addr) (k2 : ClassId) (c0 : Int32) (c1 : Int32) (c2 : Int32) (u0 : Value) (u1 : Value) (wc : Int32) (h0 : Heap) (n0 : Nat) (Z0 : n0 ≤ h0.size) (F0 : Old Z n0 h0) (F1 : Exa Z h0 a1 "java/lang/String") (F2 : Fld Z h0 a1 "java/lang/String" "value" "[B" u0) (F3 : Fld Z h0 a1 "java/lang/String" "coder" "B" u1) (F4 : Arv Z h0 a2 k2 .char (3 : Int32) [.int c0, .int c1, .int c2] (.int 0)) (ge_a1 : n0 ≤ a1) (SC : Sta Z Z.heap "java/lang/String" "COMPACT_STRINGS" "Z" (.int wc)) (HWC : ¬ (wc = 0)) (SH : Sta Z Z.heap "java/lang/StringUTF16" "HI_BYTE_SHIFT" "I" (.int (0 : Int32))) (SL : Sta Z Z.heap "java/lang/StringUTF16" "LO_BYTE_SHIFT" "I" (.int (8 : Int32))) (SA : Sta Z Z.heap "java/lang/StringUTF16" "$assertionsDisabled" "Z" (.int (1 : Int32))) (hne : a2 ≠ a1) (hc_c0 : ¬ ((255 : Int32) < c0)) (hc_c1 : ¬ ((255 : Int32) < c1)) (hc_c2 : (255 : Int32) < c2) (hw_c2 : own_W c2) :
    MetFree l (⟨"java/lang/String", "<init>", "([CIILjava/lang/Void;)V"⟩ : MethodName) (head1 (Jvm.Cond.code (⟨"java/lang/String", "<init>", "([CIILjava/lang/Void;)V"⟩ : MethodName) jdk_42_method_149_code 6 none :: ws) ({ frames := 4, cells := 2, slots := 9, locals := 57 } : Room)) (fun a U => a = #[(.ref a1), (.ref a2), (.int (0 : Int32)), (.int (3 : Int32)), .null] ∧ Z.Warmed39 U.vm ∧ U.heap = h0) (fun _ _ _ _ _ => True) (fun _ U o U' => ∃ v L, o = .returned v ∧ Qs43_2 Z a1 a2 k2 c0 c1 c2 u0 u1 wc h0 n0 v U'.heap L ∧ FrameEnd U o U' L ({ frames := 4, cells := 2, slots := 9, locals := 57 } : Room).cells ({ frames := 4, cells := 2, slots := 9, locals := 57 } : Room).slots) := by
  refine MetFree.of_bodySF (plainFor_of_name pn_s43_2) hisR ?_
  intro p e s m args below meth c s₁ Bd hml0 hP hK
  obtain ⟨rfl, hZ, hh⟩ := hP
  have hx := Bd.exec
  have hby := Bd.bytes
  have hml : c.maxLocals = 6 := hml0
  have hown : s.vm.findClass "java/lang/String" = some m.cls := findClass_of_methodNamed Bd.named
  have hnm := (name_of_methodNamed Bd.named Bd.method).1
  have X0 : Stand p l e ({ frames := 4, cells := 2, slots := 9, locals := 57 } : Room) s m #[(.ref a1), (.ref a2), (.int (0 : Int32)), (.int (3 : Int32)), .null] below meth c s₁ [] 0 0 := Stand.of_body Bd
  have e0 : s₁.heap = h0 := by rw [← hh, Bd.state]; rfl
  have N0 := Fr.nil n0
  show own_R p.tables e below (own_P s (Qs43_2 Z a1 a2 k2 c0 c1 c2 u0 u1 wc h0 n0) ({ frames := 4, cells := 2, slots := 9, locals := 57 } : Room).cells ({ frames := 4, cells := 2, slots := 9, locals := 57 } : Room).slots) (s₁.setTop (entryFrame m #[(.ref a1), (.ref a2), (.int (0 : Int32)), (.int (3 : Int32)), .null] 6))
  refine own_f s₁ (mkF m 0 #[.val (.ref a1), .val (.ref a2), .val (.int (0 : Int32)), .val (.int (3 : Int32)), .val .null, .unset] []) (fun t k => castTop (ef_s43_2 m a1 a2 (0 : Int32) (3 : Int32)) k) ?_
  refine own_f s₁ (mkF m 1 #[.val (.ref a1), .val (.ref a2), .val (.int (0 : Int32)), .val (.int (3 : Int32)), .val .null, .unset] [(.ref a1)]) (fun t k => XS.aloadN X0.here hx rfl (hb hby ds43_2_0) rfl rfl k) ?_
  obtain ⟨T1, X1, e1, st1⟩ := initO X0 hx hZ hown (own_w hw 13 rfl) (own_w hw 14 rfl) (own_w hw 15 rfl) e0 (g := (mkF m 1 #[.val (.ref a1), .val (.ref a2), .val (.int (0 : Int32)), .val (.int (3 : Int32)), .val .null, .unset] [(.ref a1)])) rfl (by rw [hml]; rfl) rfl (hb hby ds43_2_1) (by decide) (W := 0) (by show 2 * 0 + _ ≤ _; exact Nat.le_of_eq rfl) (by decide)
  refine own_f T1 (mkF m 4 #[.val (.ref a1), .val (.ref a2), .val (.int (0 : Int32)), .val (.int (3 : Int32)), .val .null, .unset] []) st1 ?_
  refine own_step (fun t k => XS.iloadN X1.here hx rfl (hb hby ds43_2_4) rfl k) ?_
  refine own_f T1 (mkF m 27 #[.val (.ref a1), .val (.ref a2), .val (.int (0 : Int32)), .val (.int (3 : Int32)), .val .null, .unset] []) (fun t k => XS.ifYes X1.here hx rfl (pc0 := 5) (pc' := 27) rfl (hb hby ds43_2_5) rfl (XT.i0_ne_t (by decide)) (by decide) (by decide) k) ?_
  have S2 : Sta Z h0 "java/lang/String" "COMPACT_STRINGS" "Z" (.int wc) := SC.ext F0.2
  obtain ⟨T2, X2, e2, st2⟩ := getS X1 hx hZ (host := "") hown (own_w hw 16 rfl) Via.refl e1 S2 (g := (mkF m 27 #[.val (.ref a1), .val (.ref a2), .val (.int (0 : Int32)), .val (.int (3 : Int32)), .val .null, .unset] [])) rfl (hb hby ds43_2_27)
  refine own_f T2 (mkF m 30 #[.val (.ref a1), .val (.ref a2), .val (.int (0 : Int32)), .val (.int (3 : Int32)), .val .null, .unset] [(.int wc)]) st2 ?_
  refine own_f T2 (mkF m 33 #[.val (.ref a1), .val (.ref a2), .val (.int (0 : Int32)), .val (.int (3 : Int32)), .val .null, .unset] []) (fun t k => XS.ifNo X2.here hx rfl (hb hby ds43_2_30) rfl (XT.i0_eq_f HWC) k) ?_
  refine own_step (fun t k => XS.aloadN X2.here hx rfl (hb hby ds43_2_33) rfl rfl k) ?_
  refine own_step (fun t k => XS.iloadN X2.here hx rfl (hb hby ds43_2_34) rfl k) ?_
  refine own_f T2 (mkF m 36 #[.val (.ref a1), .val (.ref a2), .val (.int (0 : Int32)), .val (.int (3 : Int32)), .val .null, .unset] [(.int (3 : Int32)), (.int (0 : Int32)), (.ref a2)]) (fun t k => XS.iloadN X2.here hx rfl (hb hby ds43_2_35) rfl k) ?_
  obtain ⟨_, _, ⟨T3, Lq3, kq_3, nq_3⟩, -, X3, ⟨Lc3, hQ3, lq3, yq3, zq3⟩, st3⟩ := Jvm.LawKit.callS X2 hx (y := (⟨"java/lang/StringUTF16", "compress", "([CII)[B"⟩ : MethodName)) hown (mvT hZ (own_w hw 17 rfl)) (mvT hZ (own_w hw 18 rfl)) (mvT hZ (own_w hw 19 rfl)) (mvT hZ (own_w hw 20 rfl)) (by decide) (backOf (W := 0) (rmcb3_2 l Z a0 hw [] a2 _ _ _ _ h0 n0 Z0 F0 F4 hc_c0 hc_c1 hc_c2 SH SL SA hw_c2) hZ (own_w hw 20 rfl) (own_w hw 19 rfl) (by decide) (by decide)) (g := (mkF m 36 #[.val (.ref a1), .val (.ref a2), .val (.int (0 : Int32)), .val (.int (3 : Int32)), .val .null, .unset] [(.int (3 : Int32)), (.int (0 : Int32)), (.ref a2)])) rfl (by rw [hml]; rfl) (argsL := [(.ref a2), (.int (0 : Int32)), (.int (3 : Int32))]) (rest := []) (lenOf pd__CII_B rfl) rfl (by show 2 * 0 + _ ≤ _; exact Nat.le_of_eq rfl) (hb hby ds43_2_36) (fun _ _ => ⟨rfl, e2, (by decide : 0 + 2 ≤ _), (by decide : 0 + 9 ≤ _)⟩)
  dsimp only [Pt.U, Pt.locs, Pt.cells, Pt.slots] at X3 lq3 yq3 zq3 st3 hQ3
  subst lq3 yq3 zq3
  obtain ⟨h3, e3⟩ : ∃ z, T3.heap = z := ⟨_, rfl⟩
  rw [e3] at hQ3
  unfold Qcb3_2 at hQ3
  obtain ⟨b3, kb3, rfl, Nq3, qh3, G3_0, H3_0⟩ := hQ3
  have N3 := Fr.app N0 Nq3
  have Zs3 : n0 ≤ h3.size := Nat.le_trans Z0 qh3.1
  have F_4 := F0.keep qh3 all0
  have F_5 := F1.keep qh3
  have F_6 := F2.keep qh3 nin0
  have F_7 := F3.keep qh3 nin0
  have F_8 := F4.keep qh3 nin0
  have K3 : Keep h0 h3 [a1] := (Keep.refl h0 [a1]).trans qh3 all0
  have ne3_a1 : a1 ≠ b3 := Nat.ne_of_lt (Nat.lt_of_lt_of_le F1.lt H3_0)
  have ne3_a2 : a2 ≠ b3 := Nat.ne_of_lt (Nat.lt_of_lt_of_le F4.lt H3_0)
  have ge3 : n0 ≤ b3 := Nat.le_trans Z0 H3_0
  have gf3 : h0.size ≤ b3 := Nat.le_trans (Keep.refl h0 [a1]).1 H3_0
  refine own_f T3 (mkF m 39 #[.val (.ref a1), .val (.ref a2), .val (.int (0 : Int32)), .val (.int (3 : Int32)), .val .null, .unset] [(.ref b3)]) st3 ?_
  refine own_f T3 (mkF m 41 #[.val (.ref a1), .val (.ref a2), .val (.int (0 : Int32)), .val (.int (3 : Int32)), .val .null, .val (.ref b3)] []) (fun t k => XS.astore X3.here hx rfl (hb hby ds43_2_39) rfl rfl (l' := #[.val (.ref a1), .val (.ref a2), .val (.int (0 : Int32)), .val (.int (3 : Int32)), .val .null, .val (.ref b3)]) rfl k) ?_
  refine own_step (fun t k => XS.aloadN X3.here hx rfl (hb hby ds43_2_41) rfl rfl k) ?_
  refine own_step (fun t k => XS.aload X3.here hx rfl (hb hby ds43_2_42) rfl rfl k) ?_
  refine own_f T3 (mkF m 45 #[.val (.ref a1), .val (.ref a2), .val (.int (0 : Int32)), .val (.int (3 : Int32)), .val .null, .val (.ref b3)] [(.int (3 : Int32)), (.ref b3), (.ref a1)]) (fun t k => XS.iloadN X3.here hx rfl (hb hby ds43_2_44) rfl k) ?_
  obtain ⟨_, _, ⟨T9, Lq9, kq_9, nq_9⟩, -, X9, ⟨Lc9, hQ9, lq9, yq9, zq9⟩, st9⟩ := Jvm.LawKit.callS X3 hx (y := (⟨"java/lang/StringUTF16", "coderFromArrayLen", "([BI)B"⟩ : MethodName)) hown (mvT hZ (own_w hw 25 rfl)) (mvT hZ (own_w hw 26 rfl)) (mvT hZ (own_w hw 19 rfl)) (mvT hZ (own_w hw 27 rfl)) (by decide) (backOf (W := 1) (rmco3_6 l Z a0 hw [] b3 _ _ h3 n0 Zs3 G3_0) hZ (own_w hw 27 rfl) (own_w hw 19 rfl) (by decide) (by decide)) (g := (mkF m 45 #[.val (.ref a1), .val (.ref a2), .val (.int (0 : Int32)), .val (.int (3 : Int32)), .val .null, .val (.ref b3)] [(.int (3 : Int32)), (.ref b3), (.ref a1)])) rfl (by rw [hml]; rfl) (argsL := [(.ref b3), (.int (3 : Int32))]) (rest := [(.ref a1)]) (lenOf pd__BI_B rfl) rfl (by show 2 * 0 + _ ≤ _; exact Nat.le_of_eq rfl) (hb hby ds43_2_45) (fun _ _ => ⟨rfl, e3, (by decide : 0 + 2 + 0 ≤ _), (by decide : 0 + 9 + 0 ≤ _)⟩)
  dsimp only [Pt.U, Pt.locs, Pt.cells, Pt.slots] at X9 lq9 yq9 zq9 st9 hQ9
  subst lq9 yq9 zq9
  obtain ⟨h9, e9⟩ : ∃ z, T9.heap = z := ⟨_, rfl⟩
  rw [e9] at hQ9
  unfold Qco3_6 at hQ9
  obtain ⟨rfl, Nq9, qh9⟩ := hQ9
  have N9 := Fr.app N3 Nq9
  rw [qh9] at e9
  refine own_f T9 (mkF m 48 #[.val (.ref a1), .val (.ref a2), .val (.int (0 : Int32)), .val (.int (3 : Int32)), .val .null, .val (.ref b3)] [(.int (1 : Int32)), (.ref a1)]) st9 ?_
  obtain ⟨T10, h10, X10, e10, W10, st10⟩ := putF X9 hx hZ hown (host := "") (Or.inl (own_w hw 28 rfl)) Via.refl e9 F_7 F_5 (Or.inr ⟨(own_w hw 29 rfl), rfl, hnm⟩) (own_w hw 3 rfl) (ty := .byte) (by decide) rfl rfl (g := (mkF m 48 #[.val (.ref a1), .val (.ref a2), .val (.int (0 : Int32)), .val (.int (3 : Int32)), .val .null, .val (.ref b3)] [(.int (1 : Int32)), (.ref a1)])) rfl rfl (hb hby ds43_2_48)
  have N10 := Fr.snoc X10 N9 ge_a1
  have Zs10 : n0 ≤ h10.size := by rw [W10.size]; exact Zs3
  have K10 : Keep h0 h10 [a1] := K3.wr W10 (Or.inl (by simp))
  have F_11 := F_4.wr W10 ge_a1
  have F_12 := F_5.wr W10
  have F_13 := F_6.other W10 (Or.inr (slot_ne (Or.inr (own_w hw 31 rfl)) (Or.inr (own_w hw 29 rfl)) (by decide) (t := (.array .byte)) (t' := .byte) (by decide) (by decide)))
  have F_14 := F_7.same W10
  have F_15 := F_8.other W10 hne
  have F_16 := G3_0.other W10 (Ne.symm ne3_a1)
  refine own_f T10 (mkF m 51 #[.val (.ref a1), .val (.ref a2), .val (.int (0 : Int32)), .val (.int (3 : Int32)), .val .null, .val (.ref b3)] []) st10 ?_
  refine own_step (fun t k => XS.aloadN X10.here hx rfl (hb hby ds43_2_51) rfl rfl k) ?_
  refine own_f T10 (mkF m 54 #[.val (.ref a1), .val (.ref a2), .val (.int (0 : Int32)), .val (.int (3 : Int32)), .val .null, .val (.ref b3)] [(.ref b3), (.ref a1)]) (fun t k => XS.aload X10.here hx rfl (hb hby ds43_2_52) rfl rfl k) ?_
  obtain ⟨T17, h17, X17, e17, W17, st17⟩ := putF X10 hx hZ hown (host := "") (Or.inl (own_w hw 30 rfl)) Via.refl e10 F_13 F_12 (Or.inr ⟨(own_w hw 31 rfl), rfl, hnm⟩) (own_w hw 3 rfl) (ty := (.array .byte)) (by decide) rfl rfl (g := (mkF m 54 #[.val (.ref a1), .val (.ref a2), .val (.int (0 : Int32)), .val (.int (3 : Int32)), .val .null, .val (.ref b3)] [(.ref b3), (.ref a1)])) rfl rfl (hb hby ds43_2_54)
  have N17 := Fr.snoc X17 N10 ge_a1
  have Zs17 : n0 ≤ h17.size := by rw [W17.size]; exact Zs10
  have K17 : Keep h0 h17 [a1] := K10.wr W17 (Or.inl (by simp))
  have F_18 := F_11.wr W17 ge_a1
  have F_19 := F_12.wr W17
  have F_20 := F_13.same W17
  have F_21 := F_14.other W17 (Or.inr (slot_ne (Or.inr (own_w hw 29 rfl)) (Or.inr (own_w hw 31 rfl)) (by decide) (t := .byte) (t' := (.array .byte)) (by decide) (by decide)))
  have F_22 := F_15.other W17 hne
  have F_23 := F_16.other W17 (Ne.symm ne3_a1)
  refine own_f T17 (mkF m 57 #[.val (.ref a1), .val (.ref a2), .val (.int (0 : Int32)), .val (.int (3 : Int32)), .val .null, .val (.ref b3)] []) st17 ?_
  obtain ⟨fs, hr, hrun, hended, hW, hsame⟩ := X17.leave (v := none) (fun _ => rfl)
  refine ⟨_, _, X17.returnOut hx Bd.returns (hb hby ds43_2_57) hr, hrun, hended, _, _, rfl, ?_, ⟨_, rfl⟩, hW, hsame.mono (by decide) (by decide)⟩
  show Qs43_2 Z a1 a2 k2 c0 c1 c2 u0 u1 wc h0 n0 _ T17.heap _
  rw [e17]
  exact ⟨b3, kb3, rfl, N17, K17, F_19, F_21, F_20, F_23, gf3⟩
theorem dci3_3_0 : decode jdk_52_method_21_code 0 = .ok (.iconst 0, 1) := by decide +kernel
theorem dci3_3_1 : decode jdk_52_method_21_code 1 = .ok (.istore 5, 2) := by decide +kernel
theorem dci3_3_3 : decode jdk_52_method_21_code 3 = .ok (.iload 5, 2) := by decide +kernel
theorem dci3_3_5 : decode jdk_52_method_21_code 5 = .ok (.iload 4, 2) := by decide +kernel
theorem dci3_3_7 : decode jdk_52_method_21_code 7 = .ok (.if_icmp .ge 37, 3) := by decide +kernel
theorem dci3_3_10 : decode jdk_52_method_21_code 10 = .ok (.aload_n 0, 1) := by decide +kernel
theorem dci3_3_11 : decode jdk_52_method_21_code 11 = .ok (.iload_n 1, 1) := by decide +kernel
theorem dci3_3_12 : decode jdk_52_method_21_code 12 = .ok (.caload, 1) := by decide +kernel
theorem dci3_3_13 : decode jdk_52_method_21_code 13 = .ok (.istore 6, 2) := by decide +kernel
theorem dci3_3_15 : decode jdk_52_method_21_code 15 = .ok (.iload 6, 2) := by decide +kernel
theorem dci3_3_17 : decode jdk_52_method_21_code 17 = .ok (.sipush 255, 3) := by decide +kernel
theorem dci3_3_20 : decode jdk_52_method_21_code 20 = .ok (.if_icmp .le 6, 3) := by decide +kernel
theorem dci3_3_26 : decode jdk_52_method_21_code 26 = .ok (.aload_n 2, 1) := by decide +kernel
theorem dci3_3_27 : decode jdk_52_method_21_code 27 = .ok (.iload_n 3, 1) := by decide +kernel
theorem dci3_3_28 : decode jdk_52_method_21_code 28 = .ok (.iload 6, 2) := by decide +kernel
theorem dci3_3_30 : decode jdk_52_method_21_code 30 = .ok (.i2b, 1) := by decide +kernel
theorem dci3_3_31 : decode jdk_52_method_21_code 31 = .ok (.bastore, 1) := by decide +kernel
theorem dci3_3_32 : decode jdk_52_method_21_code 32 = .ok (.iinc 1 1, 3) := by decide +kernel
theorem dci3_3_35 : decode jdk_52_method_21_code 35 = .ok (.iinc 3 1, 3) := by decide +kernel
theorem dci3_3_38 : decode jdk_52_method_21_code 38 = .ok (.iinc 5 1, 3) := by decide +kernel
theorem dci3_3_41 : decode jdk_52_method_21_code 41 = .ok (.goto (-38), 3) := by decide +kernel
theorem dci3_3_44 : decode jdk_52_method_21_code 44 = .ok (.iload 4, 2) := by decide +kernel
theorem dci3_3_46 : decode jdk_52_method_21_code 46 = .ok (.ireturn, 1) := by decide +kernel
theorem pn_ci3_3 : plainName "java/lang/StringUTF16" = true := by first | (simp [plainName, overriddenIn]; done) | decide +kernel
theorem ef_ci3_3 (m : MethodId) (x0 : Addr) (x1 : Int32) (x2 : Addr) (x3 : Int32) (x4 : Int32) : entryFrame m #[(.ref x0), (.int x1), (.ref x2), (.int x3), (.int x4)] 7 = mkF m 0 #[.val (.ref x0), .val (.int x1), .val (.ref x2), .val (.int x3), .val (.int x4), .unset, .unset] [] := by first | (simp [entryFrame, mkF, argsToLocals, Value.category]; done) | rfl
def Qci3_3 (Z : State) (a1 : Addr) (a2 : Addr) (k1 : ClassId) (k2 : ClassId) (c0 : Int32) (c1 : Int32) (c2 : Int32) (h0 : Heap) (n0 : Nat) (v : Option Value) (h : Heap) (L : List Loc) : Prop := v = some (.int (3 : Int32)) ∧ Fr n0 L ∧ Keep h0 h [a2] ∧ Arv Z h a2 k2 .byte (3 : Int32) [.int (c0.toInt8.toInt32), .int (c1.toInt8.toInt32), .int (c2.toInt8.toInt32)] (.int 0)
set_option maxRecDepth 65536 in
set_option maxHeartbeats 40000000 in
theorem rmci3_3 (l : Launch) (Z : State) (a0 : Array Value) (hw : ∀ d ∈ tables_1, d.before a0 Z = true) (ws : List Jvm.Cond) (a1 : Addr) (a2 : Addr) (k1 : ClassId) (k2 : ClassId) (c0 : Int32) (c1 : Int32) (c2 : Int32) (h0 : Heap) (n0 : Nat) (Z0 : n0 ≤ h0.size) (F0 : Arv Z h0 a1 k1 .char (3 : Int32) [.int c0, .int c1, .int c2] (.int 0)) (F1 : Arv Z h0 a2 k2 .byte (3 : Int32) [.int 0, .int 0, .int 0] (.int 0)) (ge_a2 : n0 ≤ a2) (hne : a1 ≠ a2) (hc_c0 : ¬ ((255 : Int32) < c0)) (hc_c1 : ¬ ((255 : Int32) < c1)) (hc_c2 : ¬ ((255 : Int32) < c2)) :
    MetFree l (⟨"java/lang/StringUTF16", "compress", "([CI[BII)I"⟩ : MethodName) (head1 (Jvm.Cond.code (⟨"java/lang/StringUTF16", "compress", "([CI[BII)I"⟩ : MethodName) jdk_52_method_21_code 7 (some .int) :: ws) ({ frames := 0, cells := 0, slots := 0, locals := 0 } : Room)) (fun a U => a = #[(.ref a1), (.int (0 : Int32)), (.ref a2), (.int (0 : Int32)), (.int (3 : Int32))] ∧ Z.Warmed39 U.vm ∧ U.heap = h0) (fun _ _ _ _ _ => True) (fun _ U o U' => ∃ v L, o = .returned v ∧ Qci3_3 Z a1 a2 k1 k2 c0 c1 c2 h0 n0 v U'.heap L ∧ FrameEnd U o U' L ({ frames := 0, cells := 0, slots := 0, locals := 0 } : Room).cells ({ frames := 0, cells := 0, slots := 0, locals := 0 } : Room).slots) := by
  refine MetFree.of_bodySF (plainFor_of_name pn_ci3_3) hisR ?_
  intro p e s m args below meth c s₁ Bd hml0 hP hK
  obtain ⟨rfl, hZ, hh⟩ := hP
  have hx := Bd.exec
  have hby := Bd.bytes
  have hml : c.maxLocals = 7 := hml0
  have hown : s.vm.findClass "java/lang/StringUTF16" = some m.cls := findClass_of_methodNamed Bd.named
  have hnm := (name_of_methodNamed Bd.named Bd.method).1
  have X0 : Stand p l e ({ frames := 0, cells := 0, slots := 0, locals := 0 } : Room) s m #[(.ref a1), (.int (0 : Int32)), (.ref a2), (.int (0 : Int32)), (.int (3 : Int32))] below meth c s₁ [] 0 0 := Stand.of_body Bd
  have e0 : s₁.heap = h0 := by rw [← hh, Bd.state]; rfl
  have N0 := Fr.nil n0
  show own_R p.tables e below (own_P s (Qci3_3 Z a1 a2 k1 k2 c0 c1 c2 h0 n0) ({ frames := 0, cells := 0, slots := 0, locals := 0 } : Room).cells ({ frames := 0, cells := 0, slots := 0, locals := 0 } : Room).slots) (s₁.setTop (entryFrame m #[(.ref a1), (.int (0 : Int32)), (.ref a2), (.int (0 : Int32)), (.int (3 : Int32))] 7))
  refine own_f s₁ (mkF m 0 #[.val (.ref a1), .val (.int (0 : Int32)), .val (.ref a2), .val (.int (0 : Int32)), .val (.int (3 : Int32)), .unset, .unset] []) (fun t k => castTop (ef_ci3_3 m a1 (0 : Int32) a2 (0 : Int32) (3 : Int32)) k) ?_
  refine own_step (fun t k => XT.iconstV X0.here hx rfl (0 : Int32) (hb hby dci3_3_0) (by decide) k) ?_
  refine own_f s₁ (mkF m 3 #[.val (.ref a1), .val (.int (0 : Int32)), .val (.ref a2), .val (.int (0 : Int32)), .val (.int (3 : Int32)), .val (.int (0 : Int32)), .unset] []) (fun t k => XS.istore X0.here hx rfl (hb hby dci3_3_1) rfl (l' := #[.val (.ref a1), .val (.int (0 : Int32)), .val (.ref a2), .val (.int (0 : Int32)), .val (.int (3 : Int32)), .val (.int (0 : Int32)), .unset]) rfl k) ?_
  refine own_step (fun t k => XS.iload X0.here hx rfl (hb hby dci3_3_3) rfl k) ?_
  refine own_step (fun t k => XS.iload X0.here hx rfl (hb hby dci3_3_5) rfl k) ?_
  refine own_f s₁ (mkF m 10 #[.val (.ref a1), .val (.int (0 : Int32)), .val (.ref a2), .val (.int (0 : Int32)), .val (.int (3 : Int32)), .val (.int (0 : Int32)), .unset] []) (fun t k => XS.icmpNo X0.here hx rfl (hb hby dci3_3_7) rfl (XT.ii_ge_f (by decide)) k) ?_
  refine own_step (fun t k => XS.aloadN X0.here hx rfl (hb hby dci3_3_10) rfl rfl k) ?_
  refine own_f s₁ (mkF m 12 #[.val (.ref a1), .val (.int (0 : Int32)), .val (.ref a2), .val (.int (0 : Int32)), .val (.int (3 : Int32)), .val (.int (0 : Int32)), .unset] [(.int (0 : Int32)), (.ref a1)]) (fun t k => XS.iloadN X0.here hx rfl (hb hby dci3_3_11) rfl k) ?_
  obtain ⟨cl1, Ar1, q11, Sz1, q31, Hs1, Gs1⟩ := id F0
  have hi1 := inb_of (j := (0 : Int32)) Sz1 ⟨by decide, by decide⟩
  refine own_f s₁ (mkF m 13 #[.val (.ref a1), .val (.int (0 : Int32)), .val (.ref a2), .val (.int (0 : Int32)), .val (.int (3 : Int32)), .val (.int (0 : Int32)), .unset] [(.int c0)]) (fun t k => X0.caload hx (j := (0 : Int32)) (v := (.int c0)) (by rw [e0]; exact Ar1.1) (State.isArrayOf_alike hZ.alike Ar1.2.1) Ar1.2.2 hi1 (Has.at Hs1 hi1 rfl) (g := (mkF m 12 #[.val (.ref a1), .val (.int (0 : Int32)), .val (.ref a2), .val (.int (0 : Int32)), .val (.int (3 : Int32)), .val (.int (0 : Int32)), .unset] [(.int (0 : Int32)), (.ref a1)])) rfl rfl (hb hby dci3_3_12) t k) ?_
  refine own_f s₁ (mkF m 15 #[.val (.ref a1), .val (.int (0 : Int32)), .val (.ref a2), .val (.int (0 : Int32)), .val (.int (3 : Int32)), .val (.int (0 : Int32)), .val (.int c0)] []) (fun t k => XS.istore X0.here hx rfl (hb hby dci3_3_13) rfl (l' := #[.val (.ref a1), .val (.int (0 : Int32)), .val (.ref a2), .val (.int (0 : Int32)), .val (.int (3 : Int32)), .val (.int (0 : Int32)), .val (.int c0)]) rfl k) ?_
  refine own_step (fun t k => XS.iload X0.here hx rfl (hb hby dci3_3_15) rfl k) ?_
  refine own_step (fun t k => XT.sipushV X0.here hx rfl (255 : Int32) (hb hby dci3_3_17) (by decide) k) ?_
  refine own_f s₁ (mkF m 26 #[.val (.ref a1), .val (.int (0 : Int32)), .val (.ref a2), .val (.int (0 : Int32)), .val (.int (3 : Int32)), .val (.int (0 : Int32)), .val (.int c0)] []) (fun t k => XS.icmpYes X0.here hx rfl (pc0 := 20) (pc' := 26) rfl (hb hby dci3_3_20) rfl (XT.ii_le_t hc_c0) (by decide) (by decide) k) ?_
  refine own_step (fun t k => XS.aloadN X0.here hx rfl (hb hby dci3_3_26) rfl rfl k) ?_
  refine own_step (fun t k => XS.iloadN X0.here hx rfl (hb hby dci3_3_27) rfl k) ?_
  refine own_step (fun t k => XS.iload X0.here hx rfl (hb hby dci3_3_28) rfl k) ?_
  refine own_f s₁ (mkF m 31 #[.val (.ref a1), .val (.int (0 : Int32)), .val (.ref a2), .val (.int (0 : Int32)), .val (.int (3 : Int32)), .val (.int (0 : Int32)), .val (.int c0)] [(.int (c0.toInt8.toInt32)), (.int (0 : Int32)), (.ref a2)]) (fun t k => XS.i2b X0.here hx rfl (hb hby dci3_3_30) rfl k) ?_
  obtain ⟨cl2, Ar2, q12, Sz2, q32, Hs2, Gs2⟩ := id F1
  obtain ⟨T2, h2, X2, e2, W2, st2⟩ := stB X0 hx hZ e0 Ar2 (j := (0 : Int32)) (inb_of Sz2 ⟨by decide, by decide⟩) (g := (mkF m 31 #[.val (.ref a1), .val (.int (0 : Int32)), .val (.ref a2), .val (.int (0 : Int32)), .val (.int (3 : Int32)), .val (.int (0 : Int32)), .val (.int c0)] [(.int (c0.toInt8.toInt32)), (.int (0 : Int32)), (.ref a2)])) rfl rfl (hb hby dci3_3_31)
  have N2 := Fr.snoc X2 N0 ge_a2
  have Zs2 : n0 ≤ h2.size := by rw [W2.size]; exact Z0
  have K2 : Keep h0 h2 [a2] := (Keep.refl h0 [a2]).wr W2 (Or.inl (by simp))
  have F_3 := F0.other W2 hne
  have F_4 : Arv Z h2 a2 k2 .byte (3 : Int32) [.int (c0.toInt8.toInt32), .int 0, .int 0] (.int 0) := Arv.set Ar2 q12 Sz2 q32 Hs2 Gs2 (by rw [← ((own_narB _) : nar .byte (c0.toInt8.toInt32) = (c0.toInt8.toInt32))]; exact own_fitB _) (by rw [((own_narB _) : nar .byte (c0.toInt8.toInt32) = (c0.toInt8.toInt32))] at W2; exact W2) 0 (by decide) (by simp)
  refine own_f T2 (mkF m 32 #[.val (.ref a1), .val (.int (0 : Int32)), .val (.ref a2), .val (.int (0 : Int32)), .val (.int (3 : Int32)), .val (.int (0 : Int32)), .val (.int c0)] []) st2 ?_
  refine own_f T2 (mkF m 35 #[.val (.ref a1), .val (.int ((0 : Int32) + (1 : Int32))), .val (.ref a2), .val (.int (0 : Int32)), .val (.int (3 : Int32)), .val (.int (0 : Int32)), .val (.int c0)] []) (fun t k => XT.iincV X2.here hx rfl (l' := #[.val (.ref a1), .val (.int ((0 : Int32) + (1 : Int32))), .val (.ref a2), .val (.int (0 : Int32)), .val (.int (3 : Int32)), .val (.int (0 : Int32)), .val (.int c0)]) (1 : Int32) (hb hby dci3_3_32) (by decide) rfl rfl k) ?_
  rw [show ((0 : Int32) + (1 : Int32)) = (1 : Int32) from by decide]
  refine own_f T2 (mkF m 38 #[.val (.ref a1), .val (.int (1 : Int32)), .val (.ref a2), .val (.int ((0 : Int32) + (1 : Int32))), .val (.int (3 : Int32)), .val (.int (0 : Int32)), .val (.int c0)] []) (fun t k => XT.iincV X2.here hx rfl (l' := #[.val (.ref a1), .val (.int (1 : Int32)), .val (.ref a2), .val (.int ((0 : Int32) + (1 : Int32))), .val (.int (3 : Int32)), .val (.int (0 : Int32)), .val (.int c0)]) (1 : Int32) (hb hby dci3_3_35) (by decide) rfl rfl k) ?_
  rw [show ((0 : Int32) + (1 : Int32)) = (1 : Int32) from by decide]
  refine own_f T2 (mkF m 41 #[.val (.ref a1), .val (.int (1 : Int32)), .val (.ref a2), .val (.int (1 : Int32)), .val (.int (3 : Int32)), .val (.int ((0 : Int32) + (1 : Int32))), .val (.int c0)] []) (fun t k => XT.iincV X2.here hx rfl (l' := #[.val (.ref a1), .val (.int (1 : Int32)), .val (.ref a2), .val (.int (1 : Int32)), .val (.int (3 : Int32)), .val (.int ((0 : Int32) + (1 : Int32))), .val (.int c0)]) (1 : Int32) (hb hby dci3_3_38) (by decide) rfl rfl k) ?_
  rw [show ((0 : Int32) + (1 : Int32)) = (1 : Int32) from by decide]
  refine own_step (fun t k => XS.goto X2.here hx rfl (pc0 := 41) (pc' := 3) rfl (hb hby dci3_3_41) (by decide) (by decide) k) ?_
  refine own_step (fun t k => XS.iload X2.here hx rfl (hb hby dci3_3_3) rfl k) ?_
  refine own_step (fun t k => XS.iload X2.here hx rfl (hb hby dci3_3_5) rfl k) ?_
  refine own_f T2 (mkF m 10 #[.val (.ref a1), .val (.int (1 : Int32)), .val (.ref a2), .val (.int (1 : Int32)), .val (.int (3 : Int32)), .val (.int (1 : Int32)), .val (.int c0)] []) (fun t k => XS.icmpNo X2.here hx rfl (hb hby dci3_3_7) rfl (XT.ii_ge_f (by decide)) k) ?_
  refine own_step (fun t k => XS.aloadN X2.here hx rfl (hb hby dci3_3_10) rfl rfl k) ?_
  refine own_f T2 (mkF m 12 #[.val (.ref a1), .val (.int (1 : Int32)), .val (.ref a2), .val (.int (1 : Int32)), .val (.int (3 : Int32)), .val (.int (1 : Int32)), .val (.int c0)] [(.int (1 : Int32)), (.ref a1)]) (fun t k => XS.iloadN X2.here hx rfl (hb hby dci3_3_11) rfl k) ?_
  obtain ⟨cl5, Ar5, q15, Sz5, q35, Hs5, Gs5⟩ := id F_3
  have hi5 := inb_of (j := (1 : Int32)) Sz5 ⟨by decide, by decide⟩
  refine own_f T2 (mkF m 13 #[.val (.ref a1), .val (.int (1 : Int32)), .val (.ref a2), .val (.int (1 : Int32)), .val (.int (3 : Int32)), .val (.int (1 : Int32)), .val (.int c0)] [(.int c1)]) (fun t k => X2.caload hx (j := (1 : Int32)) (v := (.int c1)) (by rw [e2]; exact Ar5.1) (State.isArrayOf_alike hZ.alike Ar5.2.1) Ar5.2.2 hi5 (Has.at Hs5 hi5 rfl) (g := (mkF m 12 #[.val (.ref a1), .val (.int (1 : Int32)), .val (.ref a2), .val (.int (1 : Int32)), .val (.int (3 : Int32)), .val (.int (1 : Int32)), .val (.int c0)] [(.int (1 : Int32)), (.ref a1)])) rfl rfl (hb hby dci3_3_12) t k) ?_
  refine own_f T2 (mkF m 15 #[.val (.ref a1), .val (.int (1 : Int32)), .val (.ref a2), .val (.int (1 : Int32)), .val (.int (3 : Int32)), .val (.int (1 : Int32)), .val (.int c1)] []) (fun t k => XS.istore X2.here hx rfl (hb hby dci3_3_13) rfl (l' := #[.val (.ref a1), .val (.int (1 : Int32)), .val (.ref a2), .val (.int (1 : Int32)), .val (.int (3 : Int32)), .val (.int (1 : Int32)), .val (.int c1)]) rfl k) ?_
  refine own_step (fun t k => XS.iload X2.here hx rfl (hb hby dci3_3_15) rfl k) ?_
  refine own_step (fun t k => XT.sipushV X2.here hx rfl (255 : Int32) (hb hby dci3_3_17) (by decide) k) ?_
  refine own_f T2 (mkF m 26 #[.val (.ref a1), .val (.int (1 : Int32)), .val (.ref a2), .val (.int (1 : Int32)), .val (.int (3 : Int32)), .val (.int (1 : Int32)), .val (.int c1)] []) (fun t k => XS.icmpYes X2.here hx rfl (pc0 := 20) (pc' := 26) rfl (hb hby dci3_3_20) rfl (XT.ii_le_t hc_c1) (by decide) (by decide) k) ?_
  refine own_step (fun t k => XS.aloadN X2.here hx rfl (hb hby dci3_3_26) rfl rfl k) ?_
  refine own_step (fun t k => XS.iloadN X2.here hx rfl (hb hby dci3_3_27) rfl k) ?_
  refine own_step (fun t k => XS.iload X2.here hx rfl (hb hby dci3_3_28) rfl k) ?_
  refine own_f T2 (mkF m 31 #[.val (.ref a1), .val (.int (1 : Int32)), .val (.ref a2), .val (.int (1 : Int32)), .val (.int (3 : Int32)), .val (.int (1 : Int32)), .val (.int c1)] [(.int (c1.toInt8.toInt32)), (.int (1 : Int32)), (.ref a2)]) (fun t k => XS.i2b X2.here hx rfl (hb hby dci3_3_30) rfl k) ?_
  obtain ⟨cl6, Ar6, q16, Sz6, q36, Hs6, Gs6⟩ := id F_4
  obtain ⟨T6, h6, X6, e6, W6, st6⟩ := stB X2 hx hZ e2 Ar6 (j := (1 : Int32)) (inb_of Sz6 ⟨by decide, by decide⟩) (g := (mkF m 31 #[.val (.ref a1), .val (.int (1 : Int32)), .val (.ref a2), .val (.int (1 : Int32)), .val (.int (3 : Int32)), .val (.int (1 : Int32)), .val (.int c1)] [(.int (c1.toInt8.toInt32)), (.int (1 : Int32)), (.ref a2)])) rfl rfl (hb hby dci3_3_31)
  have N6 := Fr.snoc X6 N2 ge_a2
  have Zs6 : n0 ≤ h6.size := by rw [W6.size]; exact Zs2
  have K6 : Keep h0 h6 [a2] := K2.wr W6 (Or.inl (by simp))
  have F_7 := F_3.other W6 hne
  have F_8 : Arv Z h6 a2 k2 .byte (3 : Int32) [.int (c0.toInt8.toInt32), .int (c1.toInt8.toInt32), .int 0] (.int 0) := Arv.set Ar6 q16 Sz6 q36 Hs6 Gs6 (by rw [← ((own_narB _) : nar .byte (c1.toInt8.toInt32) = (c1.toInt8.toInt32))]; exact own_fitB _) (by rw [((own_narB _) : nar .byte (c1.toInt8.toInt32) = (c1.toInt8.toInt32))] at W6; exact W6) 1 (by decide) (by simp)
  refine own_f T6 (mkF m 32 #[.val (.ref a1), .val (.int (1 : Int32)), .val (.ref a2), .val (.int (1 : Int32)), .val (.int (3 : Int32)), .val (.int (1 : Int32)), .val (.int c1)] []) st6 ?_
  refine own_f T6 (mkF m 35 #[.val (.ref a1), .val (.int ((1 : Int32) + (1 : Int32))), .val (.ref a2), .val (.int (1 : Int32)), .val (.int (3 : Int32)), .val (.int (1 : Int32)), .val (.int c1)] []) (fun t k => XT.iincV X6.here hx rfl (l' := #[.val (.ref a1), .val (.int ((1 : Int32) + (1 : Int32))), .val (.ref a2), .val (.int (1 : Int32)), .val (.int (3 : Int32)), .val (.int (1 : Int32)), .val (.int c1)]) (1 : Int32) (hb hby dci3_3_32) (by decide) rfl rfl k) ?_
  rw [show ((1 : Int32) + (1 : Int32)) = (2 : Int32) from by decide]
  refine own_f T6 (mkF m 38 #[.val (.ref a1), .val (.int (2 : Int32)), .val (.ref a2), .val (.int ((1 : Int32) + (1 : Int32))), .val (.int (3 : Int32)), .val (.int (1 : Int32)), .val (.int c1)] []) (fun t k => XT.iincV X6.here hx rfl (l' := #[.val (.ref a1), .val (.int (2 : Int32)), .val (.ref a2), .val (.int ((1 : Int32) + (1 : Int32))), .val (.int (3 : Int32)), .val (.int (1 : Int32)), .val (.int c1)]) (1 : Int32) (hb hby dci3_3_35) (by decide) rfl rfl k) ?_
  rw [show ((1 : Int32) + (1 : Int32)) = (2 : Int32) from by decide]
  refine own_f T6 (mkF m 41 #[.val (.ref a1), .val (.int (2 : Int32)), .val (.ref a2), .val (.int (2 : Int32)), .val (.int (3 : Int32)), .val (.int ((1 : Int32) + (1 : Int32))), .val (.int c1)] []) (fun t k => XT.iincV X6.here hx rfl (l' := #[.val (.ref a1), .val (.int (2 : Int32)), .val (.ref a2), .val (.int (2 : Int32)), .val (.int (3 : Int32)), .val (.int ((1 : Int32) + (1 : Int32))), .val (.int c1)]) (1 : Int32) (hb hby dci3_3_38) (by decide) rfl rfl k) ?_
  rw [show ((1 : Int32) + (1 : Int32)) = (2 : Int32) from by decide]
  refine own_step (fun t k => XS.goto X6.here hx rfl (pc0 := 41) (pc' := 3) rfl (hb hby dci3_3_41) (by decide) (by decide) k) ?_
  refine own_step (fun t k => XS.iload X6.here hx rfl (hb hby dci3_3_3) rfl k) ?_
  refine own_step (fun t k => XS.iload X6.here hx rfl (hb hby dci3_3_5) rfl k) ?_
  refine own_f T6 (mkF m 10 #[.val (.ref a1), .val (.int (2 : Int32)), .val (.ref a2), .val (.int (2 : Int32)), .val (.int (3 : Int32)), .val (.int (2 : Int32)), .val (.int c1)] []) (fun t k => XS.icmpNo X6.here hx rfl (hb hby dci3_3_7) rfl (XT.ii_ge_f (by decide)) k) ?_
  refine own_step (fun t k => XS.aloadN X6.here hx rfl (hb hby dci3_3_10) rfl rfl k) ?_
  refine own_f T6 (mkF m 12 #[.val (.ref a1), .val (.int (2 : Int32)), .val (.ref a2), .val (.int (2 : Int32)), .val (.int (3 : Int32)), .val (.int (2 : Int32)), .val (.int c1)] [(.int (2 : Int32)), (.ref a1)]) (fun t k => XS.iloadN X6.here hx rfl (hb hby dci3_3_11) rfl k) ?_
  obtain ⟨cl9, Ar9, q19, Sz9, q39, Hs9, Gs9⟩ := id F_7
  have hi9 := inb_of (j := (2 : Int32)) Sz9 ⟨by decide, by decide⟩
  refine own_f T6 (mkF m 13 #[.val (.ref a1), .val (.int (2 : Int32)), .val (.ref a2), .val (.int (2 : Int32)), .val (.int (3 : Int32)), .val (.int (2 : Int32)), .val (.int c1)] [(.int c2)]) (fun t k => X6.caload hx (j := (2 : Int32)) (v := (.int c2)) (by rw [e6]; exact Ar9.1) (State.isArrayOf_alike hZ.alike Ar9.2.1) Ar9.2.2 hi9 (Has.at Hs9 hi9 rfl) (g := (mkF m 12 #[.val (.ref a1), .val (.int (2 : Int32)), .val (.ref a2), .val (.int (2 : Int32)), .val (.int (3 : Int32)), .val (.int (2 : Int32)), .val (.int c1)] [(.int (2 : Int32)), (.ref a1)])) rfl rfl (hb hby dci3_3_12) t k) ?_
  refine own_f T6 (mkF m 15 #[.val (.ref a1), .val (.int (2 : Int32)), .val (.ref a2), .val (.int (2 : Int32)), .val (.int (3 : Int32)), .val (.int (2 : Int32)), .val (.int c2)] []) (fun t k => XS.istore X6.here hx rfl (hb hby dci3_3_13) rfl (l' := #[.val (.ref a1), .val (.int (2 : Int32)), .val (.ref a2), .val (.int (2 : Int32)), .val (.int (3 : Int32)), .val (.int (2 : Int32)), .val (.int c2)]) rfl k) ?_
  refine own_step (fun t k => XS.iload X6.here hx rfl (hb hby dci3_3_15) rfl k) ?_
  refine own_step (fun t k => XT.sipushV X6.here hx rfl (255 : Int32) (hb hby dci3_3_17) (by decide) k) ?_
  refine own_f T6 (mkF m 26 #[.val (.ref a1), .val (.int (2 : Int32)), .val (.ref a2), .val (.int (2 : Int32)), .val (.int (3 : Int32)), .val (.int (2 : Int32)), .val (.int c2)] []) (fun t k => XS.icmpYes X6.here hx rfl (pc0 := 20) (pc' := 26) rfl (hb hby dci3_3_20) rfl (XT.ii_le_t hc_c2) (by decide) (by decide) k) ?_
  refine own_step (fun t k => XS.aloadN X6.here hx rfl (hb hby dci3_3_26) rfl rfl k) ?_
  refine own_step (fun t k => XS.iloadN X6.here hx rfl (hb hby dci3_3_27) rfl k) ?_
  refine own_step (fun t k => XS.iload X6.here hx rfl (hb hby dci3_3_28) rfl k) ?_
  refine own_f T6 (mkF m 31 #[.val (.ref a1), .val (.int (2 : Int32)), .val (.ref a2), .val (.int (2 : Int32)), .val (.int (3 : Int32)), .val (.int (2 : Int32)), .val (.int c2)] [(.int (c2.toInt8.toInt32)), (.int (2 : Int32)), (.ref a2)]) (fun t k => XS.i2b X6.here hx rfl (hb hby dci3_3_30) rfl k) ?_
  obtain ⟨cl10, Ar10, q110, Sz10, q310, Hs10, Gs10⟩ := id F_8
  obtain ⟨T10, h10, X10, e10, W10, st10⟩ := stB X6 hx hZ e6 Ar10 (j := (2 : Int32)) (inb_of Sz10 ⟨by decide, by decide⟩) (g := (mkF m 31 #[.val (.ref a1), .val (.int (2 : Int32)), .val (.ref a2), .val (.int (2 : Int32)), .val (.int (3 : Int32)), .val (.int (2 : Int32)), .val (.int c2)] [(.int (c2.toInt8.toInt32)), (.int (2 : Int32)), (.ref a2)])) rfl rfl (hb hby dci3_3_31)
  have N10 := Fr.snoc X10 N6 ge_a2
  have Zs10 : n0 ≤ h10.size := by rw [W10.size]; exact Zs6
  have K10 : Keep h0 h10 [a2] := K6.wr W10 (Or.inl (by simp))
  have F_11 := F_7.other W10 hne
  have F_12 : Arv Z h10 a2 k2 .byte (3 : Int32) [.int (c0.toInt8.toInt32), .int (c1.toInt8.toInt32), .int (c2.toInt8.toInt32)] (.int 0) := Arv.set Ar10 q110 Sz10 q310 Hs10 Gs10 (by rw [← ((own_narB _) : nar .byte (c2.toInt8.toInt32) = (c2.toInt8.toInt32))]; exact own_fitB _) (by rw [((own_narB _) : nar .byte (c2.toInt8.toInt32) = (c2.toInt8.toInt32))] at W10; exact W10) 2 (by decide) (by simp)
  refine own_f T10 (mkF m 32 #[.val (.ref a1), .val (.int (2 : Int32)), .val (.ref a2), .val (.int (2 : Int32)), .val (.int (3 : Int32)), .val (.int (2 : Int32)), .val (.int c2)] []) st10 ?_
  refine own_f T10 (mkF m 35 #[.val (.ref a1), .val (.int ((2 : Int32) + (1 : Int32))), .val (.ref a2), .val (.int (2 : Int32)), .val (.int (3 : Int32)), .val (.int (2 : Int32)), .val (.int c2)] []) (fun t k => XT.iincV X10.here hx rfl (l' := #[.val (.ref a1), .val (.int ((2 : Int32) + (1 : Int32))), .val (.ref a2), .val (.int (2 : Int32)), .val (.int (3 : Int32)), .val (.int (2 : Int32)), .val (.int c2)]) (1 : Int32) (hb hby dci3_3_32) (by decide) rfl rfl k) ?_
  rw [show ((2 : Int32) + (1 : Int32)) = (3 : Int32) from by decide]
  refine own_f T10 (mkF m 38 #[.val (.ref a1), .val (.int (3 : Int32)), .val (.ref a2), .val (.int ((2 : Int32) + (1 : Int32))), .val (.int (3 : Int32)), .val (.int (2 : Int32)), .val (.int c2)] []) (fun t k => XT.iincV X10.here hx rfl (l' := #[.val (.ref a1), .val (.int (3 : Int32)), .val (.ref a2), .val (.int ((2 : Int32) + (1 : Int32))), .val (.int (3 : Int32)), .val (.int (2 : Int32)), .val (.int c2)]) (1 : Int32) (hb hby dci3_3_35) (by decide) rfl rfl k) ?_
  rw [show ((2 : Int32) + (1 : Int32)) = (3 : Int32) from by decide]
  refine own_f T10 (mkF m 41 #[.val (.ref a1), .val (.int (3 : Int32)), .val (.ref a2), .val (.int (3 : Int32)), .val (.int (3 : Int32)), .val (.int ((2 : Int32) + (1 : Int32))), .val (.int c2)] []) (fun t k => XT.iincV X10.here hx rfl (l' := #[.val (.ref a1), .val (.int (3 : Int32)), .val (.ref a2), .val (.int (3 : Int32)), .val (.int (3 : Int32)), .val (.int ((2 : Int32) + (1 : Int32))), .val (.int c2)]) (1 : Int32) (hb hby dci3_3_38) (by decide) rfl rfl k) ?_
  rw [show ((2 : Int32) + (1 : Int32)) = (3 : Int32) from by decide]
  refine own_step (fun t k => XS.goto X10.here hx rfl (pc0 := 41) (pc' := 3) rfl (hb hby dci3_3_41) (by decide) (by decide) k) ?_
  refine own_step (fun t k => XS.iload X10.here hx rfl (hb hby dci3_3_3) rfl k) ?_
  refine own_step (fun t k => XS.iload X10.here hx rfl (hb hby dci3_3_5) rfl k) ?_
  refine own_f T10 (mkF m 44 #[.val (.ref a1), .val (.int (3 : Int32)), .val (.ref a2), .val (.int (3 : Int32)), .val (.int (3 : Int32)), .val (.int (3 : Int32)), .val (.int c2)] []) (fun t k => XS.icmpYes X10.here hx rfl (pc0 := 7) (pc' := 44) rfl (hb hby dci3_3_7) rfl (XT.ii_ge_t (by decide)) (by decide) (by decide) k) ?_
  refine own_f T10 (mkF m 46 #[.val (.ref a1), .val (.int (3 : Int32)), .val (.ref a2), .val (.int (3 : Int32)), .val (.int (3 : Int32)), .val (.int (3 : Int32)), .val (.int c2)] [(.int (3 : Int32))]) (fun t k => XS.iload X10.here hx rfl (hb hby dci3_3_44) rfl k) ?_
  obtain ⟨fs, hr, hrun, hended, hW, hsame⟩ := X10.leave (v := some (.int (3 : Int32))) (fun h => by rw [Bd.returns] at h; cases h)
  refine ⟨_, _, retI X10 hx Bd.returns (hb hby dci3_3_46) hr, hrun, hended, _, _, rfl, ?_, ⟨_, rfl⟩, hW, hsame.mono (by decide) (by decide)⟩
  show Qci3_3 Z a1 a2 k1 k2 c0 c1 c2 h0 n0 _ T10.heap _
  rw [e10]
  exact ⟨rfl, N10, K10, F_12⟩
theorem dcb3_3_0 : decode jdk_52_method_16_code 0 = .ok (.iload_n 2, 1) := by decide +kernel
theorem dcb3_3_1 : decode jdk_52_method_16_code 1 = .ok (.newarray .byte, 2) := by decide +kernel
theorem dcb3_3_3 : decode jdk_52_method_16_code 3 = .ok (.astore_n 3, 1) := by decide +kernel
theorem dcb3_3_4 : decode jdk_52_method_16_code 4 = .ok (.aload_n 0, 1) := by decide +kernel
theorem dcb3_3_5 : decode jdk_52_method_16_code 5 = .ok (.iload_n 1, 1) := by decide +kernel
theorem dcb3_3_6 : decode jdk_52_method_16_code 6 = .ok (.aload_n 3, 1) := by decide +kernel
theorem dcb3_3_7 : decode jdk_52_method_16_code 7 = .ok (.iconst 0, 1) := by decide +kernel
theorem dcb3_3_8 : decode jdk_52_method_16_code 8 = .ok (.iload_n 2, 1) := by decide +kernel
theorem dcb3_3_9 : decode jdk_52_method_16_code 9 = .ok (.invokestatic 115, 3) := by decide +kernel
theorem dcb3_3_12 : decode jdk_52_method_16_code 12 = .ok (.istore 4, 2) := by decide +kernel
theorem dcb3_3_14 : decode jdk_52_method_16_code 14 = .ok (.iload 4, 2) := by decide +kernel
theorem dcb3_3_16 : decode jdk_52_method_16_code 16 = .ok (.iload_n 2, 1) := by decide +kernel
theorem dcb3_3_17 : decode jdk_52_method_16_code 17 = .ok (.if_icmp .eq 40, 3) := by decide +kernel
theorem dcb3_3_57 : decode jdk_52_method_16_code 57 = .ok (.aload_n 3, 1) := by decide +kernel
theorem dcb3_3_58 : decode jdk_52_method_16_code 58 = .ok (.areturn, 1) := by decide +kernel
theorem pn_cb3_3 : plainName "java/lang/StringUTF16" = true := by first | (simp [plainName, overriddenIn]; done) | decide +kernel
theorem ef_cb3_3 (m : MethodId) (x0 : Addr) (x1 : Int32) (x2 : Int32) : entryFrame m #[(.ref x0), (.int x1), (.int x2)] 6 = mkF m 0 #[.val (.ref x0), .val (.int x1), .val (.int x2), .unset, .unset, .unset] [] := by first | (simp [entryFrame, mkF, argsToLocals, Value.category]; done) | rfl
def Qcb3_3 (Z : State) (a1 : Addr) (k1 : ClassId) (c0 : Int32) (c1 : Int32) (c2 : Int32) (h0 : Heap) (n0 : Nat) (v : Option Value) (h : Heap) (L : List Loc) : Prop := ∃ (b : Addr) (kb : ClassId), v = some (.ref b) ∧ Fr n0 L ∧ Keep h0 h [] ∧ Arv Z h b kb .byte (3 : Int32) [.int (c0.toInt8.toInt32), .int (c1.toInt8.toInt32), .int (c2.toInt8.toInt32)] (.int 0) ∧ h0.size ≤ b
set_option maxRecDepth 65536 in
set_option maxHeartbeats 40000000 in
theorem rmcb3_3 (l : Launch) (Z : State) (a0 : Array Value) (hw : ∀ d ∈ tables_1, d.before a0 Z = true) (ws : List Jvm.Cond) (a1 : Addr) (k1 : ClassId) (c0 : Int32) (c1 : Int32) (c2 : Int32) (h0 : Heap) (n0 : Nat) (Z0 : n0 ≤ h0.size) (F0 : Old Z n0 h0) (F1 : Arv Z h0 a1 k1 .char (3 : Int32) [.int c0, .int c1, .int c2] (.int 0)) (hc_c0 : ¬ ((255 : Int32) < c0)) (hc_c1 : ¬ ((255 : Int32) < c1)) (hc_c2 : ¬ ((255 : Int32) < c2)) :
    MetFree l (⟨"java/lang/StringUTF16", "compress", "([CII)[B"⟩ : MethodName) (head1 (Jvm.Cond.code (⟨"java/lang/StringUTF16", "compress", "([CII)[B"⟩ : MethodName) jdk_52_method_16_code 6 (some (.array .byte)) :: ws) ({ frames := 3, cells := 2, slots := 9, locals := 40 } : Room)) (fun a U => a = #[(.ref a1), (.int (0 : Int32)), (.int (3 : Int32))] ∧ Z.Warmed39 U.vm ∧ U.heap = h0) (fun _ _ _ _ _ => True) (fun _ U o U' => ∃ v L, o = .returned v ∧ Qcb3_3 Z a1 k1 c0 c1 c2 h0 n0 v U'.heap L ∧ FrameEnd U o U' L ({ frames := 3, cells := 2, slots := 9, locals := 40 } : Room).cells ({ frames := 3, cells := 2, slots := 9, locals := 40 } : Room).slots) := by
  refine MetFree.of_bodySF (plainFor_of_name pn_cb3_3) hisR ?_
  intro p e s m args below meth c s₁ Bd hml0 hP hK
  obtain ⟨rfl, hZ, hh⟩ := hP
  have hx := Bd.exec
  have hby := Bd.bytes
  have hml : c.maxLocals = 6 := hml0
  have hown : s.vm.findClass "java/lang/StringUTF16" = some m.cls := findClass_of_methodNamed Bd.named
  have hnm := (name_of_methodNamed Bd.named Bd.method).1
  have X0 : Stand p l e ({ frames := 3, cells := 2, slots := 9, locals := 40 } : Room) s m #[(.ref a1), (.int (0 : Int32)), (.int (3 : Int32))] below meth c s₁ [] 0 0 := Stand.of_body Bd
  have e0 : s₁.heap = h0 := by rw [← hh, Bd.state]; rfl
  have N0 := Fr.nil n0
  show own_R p.tables e below (own_P s (Qcb3_3 Z a1 k1 c0 c1 c2 h0 n0) ({ frames := 3, cells := 2, slots := 9, locals := 40 } : Room).cells ({ frames := 3, cells := 2, slots := 9, locals := 40 } : Room).slots) (s₁.setTop (entryFrame m #[(.ref a1), (.int (0 : Int32)), (.int (3 : Int32))] 6))
  refine own_f s₁ (mkF m 0 #[.val (.ref a1), .val (.int (0 : Int32)), .val (.int (3 : Int32)), .unset, .unset, .unset] []) (fun t k => castTop (ef_cb3_3 m a1 (0 : Int32) (3 : Int32)) k) ?_
  refine own_f s₁ (mkF m 1 #[.val (.ref a1), .val (.int (0 : Int32)), .val (.int (3 : Int32)), .unset, .unset, .unset] [(.int (3 : Int32))]) (fun t k => XS.iloadN X0.here hx rfl (hb hby dcb3_3_0) rfl k) ?_
  obtain ⟨T1, h1, kA1, X1, e1, E1, A1, st1⟩ := newP X0 hx hZ (own_w hw 21 rfl) e0 (g := (mkF m 1 #[.val (.ref a1), .val (.int (0 : Int32)), .val (.int (3 : Int32)), .unset, .unset, .unset] [(.int (3 : Int32))])) rfl (hb hby dcb3_3_1) rfl (by decide) (cap := 3) (by decide) (by decide) (by decide) (by decide)
  obtain ⟨b1, g1⟩ : ∃ z, z = h0.size := ⟨_, rfl⟩
  rw [← g1] at A1 st1
  have ne1_a1 : a1 ≠ b1 := by rw [g1]; exact Nat.ne_of_lt F1.lt
  have ge1 : n0 ≤ b1 := by rw [g1]; exact Z0
  have gf1 : h0.size ≤ b1 := by rw [g1]; exact (Keep.refl h0 []).1
  have Zs1 : n0 ≤ h1.size := Nat.le_trans Z0 E1.1
  have F_2 := F0.ext E1
  have F_3 := F1.ext E1
  have K1 : Keep h0 h1 [] := (Keep.refl h0 []).ext E1
  have F_4 : Arv Z h1 b1 kA1 .byte (3 : Int32) [.int 0, .int 0, .int 0] (.int 0) := own_arvnew 3 A1 (by decide)
  refine own_f T1 (mkF m 3 #[.val (.ref a1), .val (.int (0 : Int32)), .val (.int (3 : Int32)), .unset, .unset, .unset] [(.ref b1)]) st1 ?_
  refine own_f T1 (mkF m 4 #[.val (.ref a1), .val (.int (0 : Int32)), .val (.int (3 : Int32)), .val (.ref b1), .unset, .unset] []) (fun t k => XS.astoreN X1.here hx rfl (hb hby dcb3_3_3) rfl rfl (l' := #[.val (.ref a1), .val (.int (0 : Int32)), .val (.int (3 : Int32)), .val (.ref b1), .unset, .unset]) rfl k) ?_
  refine own_step (fun t k => XS.aloadN X1.here hx rfl (hb hby dcb3_3_4) rfl rfl k) ?_
  refine own_step (fun t k => XS.iloadN X1.here hx rfl (hb hby dcb3_3_5) rfl k) ?_
  refine own_step (fun t k => XS.aloadN X1.here hx rfl (hb hby dcb3_3_6) rfl rfl k) ?_
  refine own_step (fun t k => XT.iconstV X1.here hx rfl (0 : Int32) (hb hby dcb3_3_7) (by decide) k) ?_
  refine own_f T1 (mkF m 9 #[.val (.ref a1), .val (.int (0 : Int32)), .val (.int (3 : Int32)), .val (.ref b1), .unset, .unset] [(.int (3 : Int32)), (.int (0 : Int32)), (.ref b1), (.int (0 : Int32)), (.ref a1)]) (fun t k => XS.iloadN X1.here hx rfl (hb hby dcb3_3_8) rfl k) ?_
  obtain ⟨_, _, ⟨T5, Lq5, kq_5, nq_5⟩, -, X5, ⟨Lc5, hQ5, lq5, yq5, zq5⟩, st5⟩ := Jvm.LawKit.callS X1 hx (y := (⟨"java/lang/StringUTF16", "compress", "([CI[BII)I"⟩ : MethodName)) hown (mvT hZ (own_w hw 22 rfl)) (mvT hZ (own_w hw 23 rfl)) (mvT hZ (own_w hw 19 rfl)) (mvT hZ (own_w hw 24 rfl)) (by decide) (backOf (W := 0) (rmci3_3 l Z a0 hw [] a1 b1 _ _ _ _ _ h1 n0 Zs1 F_3 F_4 ge1 ne1_a1 hc_c0 hc_c1 hc_c2) hZ (own_w hw 24 rfl) (own_w hw 19 rfl) (by decide) (by decide)) (g := (mkF m 9 #[.val (.ref a1), .val (.int (0 : Int32)), .val (.int (3 : Int32)), .val (.ref b1), .unset, .unset] [(.int (3 : Int32)), (.int (0 : Int32)), (.ref b1), (.int (0 : Int32)), (.ref a1)])) rfl (by rw [hml]; rfl) (argsL := [(.ref a1), (.int (0 : Int32)), (.ref b1), (.int (0 : Int32)), (.int (3 : Int32))]) (rest := []) (lenOf pd__CI_BII_I rfl) rfl (by show 2 * 0 + _ ≤ _; exact Nat.le_of_eq rfl) (hb hby dcb3_3_9) (fun _ _ => ⟨rfl, e1, (by decide : 0 + 1 + 0 ≤ _), (by decide : 0 + 3 + 0 ≤ _)⟩)
  dsimp only [Pt.U, Pt.locs, Pt.cells, Pt.slots] at X5 lq5 yq5 zq5 st5 hQ5
  subst lq5 yq5 zq5
  obtain ⟨h5, e5⟩ : ∃ z, T5.heap = z := ⟨_, rfl⟩
  rw [e5] at hQ5
  unfold Qci3_3 at hQ5
  obtain ⟨rfl, Nq5, qh5, G5_0⟩ := hQ5
  have N5 := Fr.app N0 Nq5
  have Zs5 : n0 ≤ h5.size := Nat.le_trans Zs1 qh5.1
  have F_6 := F_2.keep qh5 (allS ge1 all0)
  have F_7 := F_3.keep qh5 (ninS ne1_a1 nin0)
  have K5 : Keep h0 h5 [] := K1.trans qh5 (allS (Or.inr gf1) all0)
  refine own_f T5 (mkF m 12 #[.val (.ref a1), .val (.int (0 : Int32)), .val (.int (3 : Int32)), .val (.ref b1), .unset, .unset] [(.int (3 : Int32))]) st5 ?_
  refine own_f T5 (mkF m 14 #[.val (.ref a1), .val (.int (0 : Int32)), .val (.int (3 : Int32)), .val (.ref b1), .val (.int (3 : Int32)), .unset] []) (fun t k => XS.istore X5.here hx rfl (hb hby dcb3_3_12) rfl (l' := #[.val (.ref a1), .val (.int (0 : Int32)), .val (.int (3 : Int32)), .val (.ref b1), .val (.int (3 : Int32)), .unset]) rfl k) ?_
  refine own_step (fun t k => XS.iload X5.here hx rfl (hb hby dcb3_3_14) rfl k) ?_
  refine own_step (fun t k => XS.iloadN X5.here hx rfl (hb hby dcb3_3_16) rfl k) ?_
  refine own_f T5 (mkF m 57 #[.val (.ref a1), .val (.int (0 : Int32)), .val (.int (3 : Int32)), .val (.ref b1), .val (.int (3 : Int32)), .unset] []) (fun t k => XS.icmpYes X5.here hx rfl (pc0 := 17) (pc' := 57) rfl (hb hby dcb3_3_17) rfl (XT.ii_eq_t (by decide)) (by decide) (by decide) k) ?_
  refine own_f T5 (mkF m 58 #[.val (.ref a1), .val (.int (0 : Int32)), .val (.int (3 : Int32)), .val (.ref b1), .val (.int (3 : Int32)), .unset] [(.ref b1)]) (fun t k => XS.aloadN X5.here hx rfl (hb hby dcb3_3_57) rfl rfl k) ?_
  obtain ⟨fs, hr, hrun, hended, hW, hsame⟩ := X5.leave (v := some (.ref b1)) (fun h => by rw [Bd.returns] at h; cases h)
  refine ⟨_, _, retOut X5 hx Bd.returns (by rfl) (Or.inr (Or.inr (Or.inr (Or.inr ⟨rfl, rfl, rfl⟩)))) (hb hby dcb3_3_58) hr, hrun, hended, _, _, rfl, ?_, ⟨_, rfl⟩, hW, hsame.mono (by decide) (by decide)⟩
  show Qcb3_3 Z a1 k1 c0 c1 c2 h0 n0 _ T5.heap _
  rw [e5]
  exact ⟨b1, kA1, rfl, N5, K5, G5_0, gf1⟩
theorem ds43_3_0 : decode jdk_42_method_149_code 0 = .ok (.aload_n 0, 1) := by decide +kernel
theorem ds43_3_1 : decode jdk_42_method_149_code 1 = .ok (.invokespecial 1, 3) := by decide +kernel
theorem ds43_3_4 : decode jdk_42_method_149_code 4 = .ok (.iload_n 3, 1) := by decide +kernel
theorem ds43_3_5 : decode jdk_42_method_149_code 5 = .ok (.ifCond .ne 22, 3) := by decide +kernel
theorem ds43_3_27 : decode jdk_42_method_149_code 27 = .ok (.getstatic 38, 3) := by decide +kernel
theorem ds43_3_30 : decode jdk_42_method_149_code 30 = .ok (.ifCond .eq 28, 3) := by decide +kernel
theorem ds43_3_33 : decode jdk_42_method_149_code 33 = .ok (.aload_n 1, 1) := by decide +kernel
theorem ds43_3_34 : decode jdk_42_method_149_code 34 = .ok (.iload_n 2, 1) := by decide +kernel
theorem ds43_3_35 : decode jdk_42_method_149_code 35 = .ok (.iload_n 3, 1) := by decide +kernel
theorem ds43_3_36 : decode jdk_42_method_149_code 36 = .ok (.invokestatic 177, 3) := by decide +kernel
theorem ds43_3_39 : decode jdk_42_method_149_code 39 = .ok (.astore 5, 2) := by decide +kernel
theorem ds43_3_41 : decode jdk_42_method_149_code 41 = .ok (.aload_n 0, 1) := by decide +kernel
theorem ds43_3_42 : decode jdk_42_method_149_code 42 = .ok (.aload 5, 2) := by decide +kernel
theorem ds43_3_44 : decode jdk_42_method_149_code 44 = .ok (.iload_n 3, 1) := by decide +kernel
theorem ds43_3_45 : decode jdk_42_method_149_code 45 = .ok (.invokestatic 47, 3) := by decide +kernel
theorem ds43_3_48 : decode jdk_42_method_149_code 48 = .ok (.putfield 15, 3) := by decide +kernel
theorem ds43_3_51 : decode jdk_42_method_149_code 51 = .ok (.aload_n 0, 1) := by decide +kernel
theorem ds43_3_52 : decode jdk_42_method_149_code 52 = .ok (.aload 5, 2) := by decide +kernel
theorem ds43_3_54 : decode jdk_42_method_149_code 54 = .ok (.putfield 9, 3) := by decide +kernel
theorem ds43_3_57 : decode jdk_42_method_149_code 57 = .ok (.return_, 1) := by decide +kernel
theorem pn_s43_3 : plainName "java/lang/String" = true := by first | (simp [plainName, overriddenIn]; done) | decide +kernel
theorem ef_s43_3 (m : MethodId) (x0 : Addr) (x1 : Addr) (x2 : Int32) (x3 : Int32) : entryFrame m #[(.ref x0), (.ref x1), (.int x2), (.int x3), .null] 6 = mkF m 0 #[.val (.ref x0), .val (.ref x1), .val (.int x2), .val (.int x3), .val .null, .unset] [] := by first | (simp [entryFrame, mkF, argsToLocals, Value.category]; done) | rfl
def Qs43_3 (Z : State) (a1 : Addr) (a2 : Addr) (k2 : ClassId) (c0 : Int32) (c1 : Int32) (c2 : Int32) (u0 : Value) (u1 : Value) (wc : Int32) (h0 : Heap) (n0 : Nat) (v : Option Value) (h : Heap) (L : List Loc) : Prop := ∃ (b : Addr) (kb : ClassId), v = none ∧ Fr n0 L ∧ Keep h0 h [a1] ∧ Exa Z h a1 "java/lang/String" ∧ Fld Z h a1 "java/lang/String" "coder" "B" (.int (0 : Int32)) ∧ Fld Z h a1 "java/lang/String" "value" "[B" (.ref b) ∧ Arv Z h b kb .byte (3 : Int32) [.int (c0.toInt8.toInt32), .int (c1.toInt8.toInt32), .int (c2.toInt8.toInt32)] (.int 0) ∧ h0.size ≤ b
set_option maxRecDepth 65536 in
set_option maxHeartbeats 40000000 in
theorem rms43_3 (l : Launch) (Z : State) (a0 : Array Value) (hw : ∀ d ∈ tables_1, d.before a0 Z = true) (ws : List Jvm.Cond) (a1 : Addr) (a2 : Addr) (k2 : ClassId) (c0 : Int32) (c1 : Int32) (c2 : Int32) (u0 : Value) (u1 : Value) (wc : Int32) (h0 : Heap) (n0 : Nat) (Z0 : n0 ≤ h0.size) (F0 : Old Z n0 h0) (F1 : Exa Z h0 a1 "java/lang/String") (F2 : Fld Z h0 a1 "java/lang/String" "value" "[B" u0) (F3 : Fld Z h0 a1 "java/lang/String" "coder" "B" u1) (F4 : Arv Z h0 a2 k2 .char (3 : Int32) [.int c0, .int c1, .int c2] (.int 0)) (ge_a1 : n0 ≤ a1) (SC : Sta Z Z.heap "java/lang/String" "COMPACT_STRINGS" "Z" (.int wc)) (HWC : ¬ (wc = 0)) (hne : a2 ≠ a1) (hc_c0 : ¬ ((255 : Int32) < c0)) (hc_c1 : ¬ ((255 : Int32) < c1)) (hc_c2 : ¬ ((255 : Int32) < c2)) :
    MetFree l (⟨"java/lang/String", "<init>", "([CIILjava/lang/Void;)V"⟩ : MethodName) (head1 (Jvm.Cond.code (⟨"java/lang/String", "<init>", "([CIILjava/lang/Void;)V"⟩ : MethodName) jdk_42_method_149_code 6 none :: ws) ({ frames := 4, cells := 2, slots := 9, locals := 57 } : Room)) (fun a U => a = #[(.ref a1), (.ref a2), (.int (0 : Int32)), (.int (3 : Int32)), .null] ∧ Z.Warmed39 U.vm ∧ U.heap = h0) (fun _ _ _ _ _ => True) (fun _ U o U' => ∃ v L, o = .returned v ∧ Qs43_3 Z a1 a2 k2 c0 c1 c2 u0 u1 wc h0 n0 v U'.heap L ∧ FrameEnd U o U' L ({ frames := 4, cells := 2, slots := 9, locals := 57 } : Room).cells ({ frames := 4, cells := 2, slots := 9, locals := 57 } : Room).slots) := by
  refine MetFree.of_bodySF (plainFor_of_name pn_s43_3) hisR ?_
  intro p e s m args below meth c s₁ Bd hml0 hP hK
  obtain ⟨rfl, hZ, hh⟩ := hP
  have hx := Bd.exec
  have hby := Bd.bytes
  have hml : c.maxLocals = 6 := hml0
  have hown : s.vm.findClass "java/lang/String" = some m.cls := findClass_of_methodNamed Bd.named
  have hnm := (name_of_methodNamed Bd.named Bd.method).1
  have X0 : Stand p l e ({ frames := 4, cells := 2, slots := 9, locals := 57 } : Room) s m #[(.ref a1), (.ref a2), (.int (0 : Int32)), (.int (3 : Int32)), .null] below meth c s₁ [] 0 0 := Stand.of_body Bd
  have e0 : s₁.heap = h0 := by rw [← hh, Bd.state]; rfl
  have N0 := Fr.nil n0
  show own_R p.tables e below (own_P s (Qs43_3 Z a1 a2 k2 c0 c1 c2 u0 u1 wc h0 n0) ({ frames := 4, cells := 2, slots := 9, locals := 57 } : Room).cells ({ frames := 4, cells := 2, slots := 9, locals := 57 } : Room).slots) (s₁.setTop (entryFrame m #[(.ref a1), (.ref a2), (.int (0 : Int32)), (.int (3 : Int32)), .null] 6))
  refine own_f s₁ (mkF m 0 #[.val (.ref a1), .val (.ref a2), .val (.int (0 : Int32)), .val (.int (3 : Int32)), .val .null, .unset] []) (fun t k => castTop (ef_s43_3 m a1 a2 (0 : Int32) (3 : Int32)) k) ?_
  refine own_f s₁ (mkF m 1 #[.val (.ref a1), .val (.ref a2), .val (.int (0 : Int32)), .val (.int (3 : Int32)), .val .null, .unset] [(.ref a1)]) (fun t k => XS.aloadN X0.here hx rfl (hb hby ds43_3_0) rfl rfl k) ?_
  obtain ⟨T1, X1, e1, st1⟩ := initO X0 hx hZ hown (own_w hw 13 rfl) (own_w hw 14 rfl) (own_w hw 15 rfl) e0 (g := (mkF m 1 #[.val (.ref a1), .val (.ref a2), .val (.int (0 : Int32)), .val (.int (3 : Int32)), .val .null, .unset] [(.ref a1)])) rfl (by rw [hml]; rfl) rfl (hb hby ds43_3_1) (by decide) (W := 0) (by show 2 * 0 + _ ≤ _; exact Nat.le_of_eq rfl) (by decide)
  refine own_f T1 (mkF m 4 #[.val (.ref a1), .val (.ref a2), .val (.int (0 : Int32)), .val (.int (3 : Int32)), .val .null, .unset] []) st1 ?_
  refine own_step (fun t k => XS.iloadN X1.here hx rfl (hb hby ds43_3_4) rfl k) ?_
  refine own_f T1 (mkF m 27 #[.val (.ref a1), .val (.ref a2), .val (.int (0 : Int32)), .val (.int (3 : Int32)), .val .null, .unset] []) (fun t k => XS.ifYes X1.here hx rfl (pc0 := 5) (pc' := 27) rfl (hb hby ds43_3_5) rfl (XT.i0_ne_t (by decide)) (by decide) (by decide) k) ?_
  have S2 : Sta Z h0 "java/lang/String" "COMPACT_STRINGS" "Z" (.int wc) := SC.ext F0.2
  obtain ⟨T2, X2, e2, st2⟩ := getS X1 hx hZ (host := "") hown (own_w hw 16 rfl) Via.refl e1 S2 (g := (mkF m 27 #[.val (.ref a1), .val (.ref a2), .val (.int (0 : Int32)), .val (.int (3 : Int32)), .val .null, .unset] [])) rfl (hb hby ds43_3_27)
  refine own_f T2 (mkF m 30 #[.val (.ref a1), .val (.ref a2), .val (.int (0 : Int32)), .val (.int (3 : Int32)), .val .null, .unset] [(.int wc)]) st2 ?_
  refine own_f T2 (mkF m 33 #[.val (.ref a1), .val (.ref a2), .val (.int (0 : Int32)), .val (.int (3 : Int32)), .val .null, .unset] []) (fun t k => XS.ifNo X2.here hx rfl (hb hby ds43_3_30) rfl (XT.i0_eq_f HWC) k) ?_
  refine own_step (fun t k => XS.aloadN X2.here hx rfl (hb hby ds43_3_33) rfl rfl k) ?_
  refine own_step (fun t k => XS.iloadN X2.here hx rfl (hb hby ds43_3_34) rfl k) ?_
  refine own_f T2 (mkF m 36 #[.val (.ref a1), .val (.ref a2), .val (.int (0 : Int32)), .val (.int (3 : Int32)), .val .null, .unset] [(.int (3 : Int32)), (.int (0 : Int32)), (.ref a2)]) (fun t k => XS.iloadN X2.here hx rfl (hb hby ds43_3_35) rfl k) ?_
  obtain ⟨_, _, ⟨T3, Lq3, kq_3, nq_3⟩, -, X3, ⟨Lc3, hQ3, lq3, yq3, zq3⟩, st3⟩ := Jvm.LawKit.callS X2 hx (y := (⟨"java/lang/StringUTF16", "compress", "([CII)[B"⟩ : MethodName)) hown (mvT hZ (own_w hw 17 rfl)) (mvT hZ (own_w hw 18 rfl)) (mvT hZ (own_w hw 19 rfl)) (mvT hZ (own_w hw 20 rfl)) (by decide) (backOf (W := 0) (rmcb3_3 l Z a0 hw [] a2 _ _ _ _ h0 n0 Z0 F0 F4 hc_c0 hc_c1 hc_c2) hZ (own_w hw 20 rfl) (own_w hw 19 rfl) (by decide) (by decide)) (g := (mkF m 36 #[.val (.ref a1), .val (.ref a2), .val (.int (0 : Int32)), .val (.int (3 : Int32)), .val .null, .unset] [(.int (3 : Int32)), (.int (0 : Int32)), (.ref a2)])) rfl (by rw [hml]; rfl) (argsL := [(.ref a2), (.int (0 : Int32)), (.int (3 : Int32))]) (rest := []) (lenOf pd__CII_B rfl) rfl (by show 2 * 0 + _ ≤ _; exact Nat.le_of_eq rfl) (hb hby ds43_3_36) (fun _ _ => ⟨rfl, e2, (by decide : 0 + 2 ≤ _), (by decide : 0 + 9 ≤ _)⟩)
  dsimp only [Pt.U, Pt.locs, Pt.cells, Pt.slots] at X3 lq3 yq3 zq3 st3 hQ3
  subst lq3 yq3 zq3
  obtain ⟨h3, e3⟩ : ∃ z, T3.heap = z := ⟨_, rfl⟩
  rw [e3] at hQ3
  unfold Qcb3_3 at hQ3
  obtain ⟨b3, kb3, rfl, Nq3, qh3, G3_0, H3_0⟩ := hQ3
  have N3 := Fr.app N0 Nq3
  have Zs3 : n0 ≤ h3.size := Nat.le_trans Z0 qh3.1
  have F_4 := F0.keep qh3 all0
  have F_5 := F1.keep qh3
  have F_6 := F2.keep qh3 nin0
  have F_7 := F3.keep qh3 nin0
  have F_8 := F4.keep qh3 nin0
  have K3 : Keep h0 h3 [a1] := (Keep.refl h0 [a1]).trans qh3 all0
  have ne3_a1 : a1 ≠ b3 := Nat.ne_of_lt (Nat.lt_of_lt_of_le F1.lt H3_0)
  have ne3_a2 : a2 ≠ b3 := Nat.ne_of_lt (Nat.lt_of_lt_of_le F4.lt H3_0)
  have ge3 : n0 ≤ b3 := Nat.le_trans Z0 H3_0
  have gf3 : h0.size ≤ b3 := Nat.le_trans (Keep.refl h0 [a1]).1 H3_0
  refine own_f T3 (mkF m 39 #[.val (.ref a1), .val (.ref a2), .val (.int (0 : Int32)), .val (.int (3 : Int32)), .val .null, .unset] [(.ref b3)]) st3 ?_
  refine own_f T3 (mkF m 41 #[.val (.ref a1), .val (.ref a2), .val (.int (0 : Int32)), .val (.int (3 : Int32)), .val .null, .val (.ref b3)] []) (fun t k => XS.astore X3.here hx rfl (hb hby ds43_3_39) rfl rfl (l' := #[.val (.ref a1), .val (.ref a2), .val (.int (0 : Int32)), .val (.int (3 : Int32)), .val .null, .val (.ref b3)]) rfl k) ?_
  refine own_step (fun t k => XS.aloadN X3.here hx rfl (hb hby ds43_3_41) rfl rfl k) ?_
  refine own_step (fun t k => XS.aload X3.here hx rfl (hb hby ds43_3_42) rfl rfl k) ?_
  refine own_f T3 (mkF m 45 #[.val (.ref a1), .val (.ref a2), .val (.int (0 : Int32)), .val (.int (3 : Int32)), .val .null, .val (.ref b3)] [(.int (3 : Int32)), (.ref b3), (.ref a1)]) (fun t k => XS.iloadN X3.here hx rfl (hb hby ds43_3_44) rfl k) ?_
  obtain ⟨_, _, ⟨T9, Lq9, kq_9, nq_9⟩, -, X9, ⟨Lc9, hQ9, lq9, yq9, zq9⟩, st9⟩ := Jvm.LawKit.callS X3 hx (y := (⟨"java/lang/StringUTF16", "coderFromArrayLen", "([BI)B"⟩ : MethodName)) hown (mvT hZ (own_w hw 25 rfl)) (mvT hZ (own_w hw 26 rfl)) (mvT hZ (own_w hw 19 rfl)) (mvT hZ (own_w hw 27 rfl)) (by decide) (backOf (W := 1) (rmco3_3 l Z a0 hw [] b3 _ _ h3 n0 Zs3 G3_0) hZ (own_w hw 27 rfl) (own_w hw 19 rfl) (by decide) (by decide)) (g := (mkF m 45 #[.val (.ref a1), .val (.ref a2), .val (.int (0 : Int32)), .val (.int (3 : Int32)), .val .null, .val (.ref b3)] [(.int (3 : Int32)), (.ref b3), (.ref a1)])) rfl (by rw [hml]; rfl) (argsL := [(.ref b3), (.int (3 : Int32))]) (rest := [(.ref a1)]) (lenOf pd__BI_B rfl) rfl (by show 2 * 0 + _ ≤ _; exact Nat.le_of_eq rfl) (hb hby ds43_3_45) (fun _ _ => ⟨rfl, e3, (by decide : 0 + 2 + 0 ≤ _), (by decide : 0 + 9 + 0 ≤ _)⟩)
  dsimp only [Pt.U, Pt.locs, Pt.cells, Pt.slots] at X9 lq9 yq9 zq9 st9 hQ9
  subst lq9 yq9 zq9
  obtain ⟨h9, e9⟩ : ∃ z, T9.heap = z := ⟨_, rfl⟩
  rw [e9] at hQ9
  unfold Qco3_3 at hQ9
  obtain ⟨rfl, Nq9, qh9⟩ := hQ9
  have N9 := Fr.app N3 Nq9
  rw [qh9] at e9
  refine own_f T9 (mkF m 48 #[.val (.ref a1), .val (.ref a2), .val (.int (0 : Int32)), .val (.int (3 : Int32)), .val .null, .val (.ref b3)] [(.int (0 : Int32)), (.ref a1)]) st9 ?_
  obtain ⟨T10, h10, X10, e10, W10, st10⟩ := putF X9 hx hZ hown (host := "") (Or.inl (own_w hw 28 rfl)) Via.refl e9 F_7 F_5 (Or.inr ⟨(own_w hw 29 rfl), rfl, hnm⟩) (own_w hw 3 rfl) (ty := .byte) (by decide) rfl rfl (g := (mkF m 48 #[.val (.ref a1), .val (.ref a2), .val (.int (0 : Int32)), .val (.int (3 : Int32)), .val .null, .val (.ref b3)] [(.int (0 : Int32)), (.ref a1)])) rfl rfl (hb hby ds43_3_48)
  have N10 := Fr.snoc X10 N9 ge_a1
  have Zs10 : n0 ≤ h10.size := by rw [W10.size]; exact Zs3
  have K10 : Keep h0 h10 [a1] := K3.wr W10 (Or.inl (by simp))
  have F_11 := F_4.wr W10 ge_a1
  have F_12 := F_5.wr W10
  have F_13 := F_6.other W10 (Or.inr (slot_ne (Or.inr (own_w hw 31 rfl)) (Or.inr (own_w hw 29 rfl)) (by decide) (t := (.array .byte)) (t' := .byte) (by decide) (by decide)))
  have F_14 := F_7.same W10
  have F_15 := F_8.other W10 hne
  have F_16 := G3_0.other W10 (Ne.symm ne3_a1)
  refine own_f T10 (mkF m 51 #[.val (.ref a1), .val (.ref a2), .val (.int (0 : Int32)), .val (.int (3 : Int32)), .val .null, .val (.ref b3)] []) st10 ?_
  refine own_step (fun t k => XS.aloadN X10.here hx rfl (hb hby ds43_3_51) rfl rfl k) ?_
  refine own_f T10 (mkF m 54 #[.val (.ref a1), .val (.ref a2), .val (.int (0 : Int32)), .val (.int (3 : Int32)), .val .null, .val (.ref b3)] [(.ref b3), (.ref a1)]) (fun t k => XS.aload X10.here hx rfl (hb hby ds43_3_52) rfl rfl k) ?_
  obtain ⟨T17, h17, X17, e17, W17, st17⟩ := putF X10 hx hZ hown (host := "") (Or.inl (own_w hw 30 rfl)) Via.refl e10 F_13 F_12 (Or.inr ⟨(own_w hw 31 rfl), rfl, hnm⟩) (own_w hw 3 rfl) (ty := (.array .byte)) (by decide) rfl rfl (g := (mkF m 54 #[.val (.ref a1), .val (.ref a2), .val (.int (0 : Int32)), .val (.int (3 : Int32)), .val .null, .val (.ref b3)] [(.ref b3), (.ref a1)])) rfl rfl (hb hby ds43_3_54)
  have N17 := Fr.snoc X17 N10 ge_a1
  have Zs17 : n0 ≤ h17.size := by rw [W17.size]; exact Zs10
  have K17 : Keep h0 h17 [a1] := K10.wr W17 (Or.inl (by simp))
  have F_18 := F_11.wr W17 ge_a1
  have F_19 := F_12.wr W17
  have F_20 := F_13.same W17
  have F_21 := F_14.other W17 (Or.inr (slot_ne (Or.inr (own_w hw 29 rfl)) (Or.inr (own_w hw 31 rfl)) (by decide) (t := .byte) (t' := (.array .byte)) (by decide) (by decide)))
  have F_22 := F_15.other W17 hne
  have F_23 := F_16.other W17 (Ne.symm ne3_a1)
  refine own_f T17 (mkF m 57 #[.val (.ref a1), .val (.ref a2), .val (.int (0 : Int32)), .val (.int (3 : Int32)), .val .null, .val (.ref b3)] []) st17 ?_
  obtain ⟨fs, hr, hrun, hended, hW, hsame⟩ := X17.leave (v := none) (fun _ => rfl)
  refine ⟨_, _, X17.returnOut hx Bd.returns (hb hby ds43_3_57) hr, hrun, hended, _, _, rfl, ?_, ⟨_, rfl⟩, hW, hsame.mono (by decide) (by decide)⟩
  show Qs43_3 Z a1 a2 k2 c0 c1 c2 u0 u1 wc h0 n0 _ T17.heap _
  rw [e17]
  exact ⟨b3, kb3, rfl, N17, K17, F_19, F_21, F_20, F_23, gf3⟩
theorem ds40_0 : decode jdk_42_method_149_code 0 = .ok (.aload_n 0, 1) := by decide +kernel
theorem ds40_1 : decode jdk_42_method_149_code 1 = .ok (.invokespecial 1, 3) := by decide +kernel
theorem ds40_4 : decode jdk_42_method_149_code 4 = .ok (.iload_n 3, 1) := by decide +kernel
theorem ds40_5 : decode jdk_42_method_149_code 5 = .ok (.ifCond .ne 22, 3) := by decide +kernel
theorem ds40_8 : decode jdk_42_method_149_code 8 = .ok (.aload_n 0, 1) := by decide +kernel
theorem ds40_9 : decode jdk_42_method_149_code 9 = .ok (.ldc 7, 2) := by decide +kernel
theorem ds40_11 : decode jdk_42_method_149_code 11 = .ok (.getfield 9, 3) := by decide +kernel
theorem ds40_14 : decode jdk_42_method_149_code 14 = .ok (.putfield 9, 3) := by decide +kernel
theorem ds40_17 : decode jdk_42_method_149_code 17 = .ok (.aload_n 0, 1) := by decide +kernel
theorem ds40_18 : decode jdk_42_method_149_code 18 = .ok (.ldc 7, 2) := by decide +kernel
theorem ds40_20 : decode jdk_42_method_149_code 20 = .ok (.getfield 15, 3) := by decide +kernel
theorem ds40_23 : decode jdk_42_method_149_code 23 = .ok (.putfield 15, 3) := by decide +kernel
theorem ds40_26 : decode jdk_42_method_149_code 26 = .ok (.return_, 1) := by decide +kernel
theorem pn_s40 : plainName "java/lang/String" = true := by first | (simp [plainName, overriddenIn]; done) | decide +kernel
theorem ef_s40 (m : MethodId) (x0 : Addr) (x1 : Addr) (x2 : Int32) (x3 : Int32) : entryFrame m #[(.ref x0), (.ref x1), (.int x2), (.int x3), .null] 6 = mkF m 0 #[.val (.ref x0), .val (.ref x1), .val (.int x2), .val (.int x3), .val .null, .unset] [] := by first | (simp [entryFrame, mkF, argsToLocals, Value.category]; done) | rfl
def Qs40 (Z : State) (a1 : Addr) (a2 : Addr) (u1 : Value) (h0 : Heap) (n0 : Nat) (v : Option Value) (h : Heap) (L : List Loc) : Prop := ∃ (b : Addr) (kb : ClassId), v = none ∧ Fr n0 L ∧ Keep h0 h [a1] ∧ Exa Z h a1 "java/lang/String" ∧ Fld Z h a1 "java/lang/String" "coder" "B" (.int (0 : Int32)) ∧ Fld Z h a1 "java/lang/String" "value" "[B" (.ref b) ∧ Arv Z h b kb .byte (0 : Int32) [] (.int 0)
set_option maxRecDepth 65536 in
set_option maxHeartbeats 40000000 in
theorem rms40 (l : Launch) (Z : State) (a0 : Array Value) (hw : ∀ d ∈ tables_1, d.before a0 Z = true) (ws : List Jvm.Cond) (a1 : Addr) (a2 : Addr) (u1 : Value) (h0 : Heap) (n0 : Nat) (Z0 : n0 ≤ h0.size) (F0 : Exa Z h0 a1 "java/lang/String") (F1 : Fld Z h0 a1 "java/lang/String" "value" "[B" .null) (F2 : Fld Z h0 a1 "java/lang/String" "coder" "B" u1) (ge_a1 : n0 ≤ a1) :
    MetFree l (⟨"java/lang/String", "<init>", "([CIILjava/lang/Void;)V"⟩ : MethodName) (head1 (Jvm.Cond.code (⟨"java/lang/String", "<init>", "([CIILjava/lang/Void;)V"⟩ : MethodName) jdk_42_method_149_code 6 none :: ws) ({ frames := 1, cells := 4, slots := 8, locals := 12 } : Room)) (fun a U => a = #[(.ref a1), (.ref a2), (.int (0 : Int32)), (.int (0 : Int32)), .null] ∧ Z.Warmed39 U.vm ∧ U.heap = h0 ∧ CHv Z own_EL U.vm h0) (fun _ _ _ _ _ => True) (fun _ U o U' => ∃ v L, o = .returned v ∧ Qs40 Z a1 a2 u1 h0 n0 v U'.heap L ∧ CHr Z own_EL U.vm U.heap U'.vm U'.heap ∧ ReturnedEndW U o U' L ({ frames := 1, cells := 4, slots := 8, locals := 12 } : Room).cells ({ frames := 1, cells := 4, slots := 8, locals := 12 } : Room).slots) := by
  refine MetFree.of_bodySF (plainFor_of_name pn_s40) hisR ?_
  intro p e s m args below meth c s₁ Bd hml0 hP hK
  obtain ⟨rfl, hZ, hh, hCH⟩ := hP
  have hx := Bd.exec
  have hby := Bd.bytes
  have hml : c.maxLocals = 6 := hml0
  have hown : s.vm.findClass "java/lang/String" = some m.cls := findClass_of_methodNamed Bd.named
  have hnm := (name_of_methodNamed Bd.named Bd.method).1
  have X0 : Stand p l e ({ frames := 1, cells := 4, slots := 8, locals := 12 } : Room) s m #[(.ref a1), (.ref a2), (.int (0 : Int32)), (.int (0 : Int32)), .null] below meth c s₁ [] 0 0 := Stand.of_body Bd
  have e0 : s₁.heap = h0 := by rw [← hh, Bd.state]; rfl
  have N0 := Fr.nil n0
  have hZ0 := hZ
  have hown0 := hown
  have hS : s.Since s.vm 0 := (State.WarmedH.refl s).since 0
  have hk : 0 ≤ h0.size := Nat.zero_le _
  have hR : CHr Z own_EL s.vm h0 s.vm h0 := CHr.refl hCH
  show own_R p.tables e below (own_PH Z s (Qs40 Z a1 a2 u1 h0 n0) ({ frames := 1, cells := 4, slots := 8, locals := 12 } : Room).cells ({ frames := 1, cells := 4, slots := 8, locals := 12 } : Room).slots) (s₁.setTop (entryFrame m #[(.ref a1), (.ref a2), (.int (0 : Int32)), (.int (0 : Int32)), .null] 6))
  refine own_f s₁ (mkF m 0 #[.val (.ref a1), .val (.ref a2), .val (.int (0 : Int32)), .val (.int (0 : Int32)), .val .null, .unset] []) (fun t k => castTop (ef_s40 m a1 a2 (0 : Int32) (0 : Int32)) k) ?_
  have Sf0 := own_safe (EL := own_EL) (vm := s.vm) hZ.alike F0 F1
  refine own_f s₁ (mkF m 1 #[.val (.ref a1), .val (.ref a2), .val (.int (0 : Int32)), .val (.int (0 : Int32)), .val .null, .unset] [(.ref a1)]) (fun t k => XS.aloadN X0.here hx rfl (hb hby ds40_0) rfl rfl k) ?_
  obtain ⟨T1, X1, e1, st1⟩ := initO X0 hx hZ hown (own_w hw 13 rfl) (own_w hw 14 rfl) (own_w hw 15 rfl) e0 (g := (mkF m 1 #[.val (.ref a1), .val (.ref a2), .val (.int (0 : Int32)), .val (.int (0 : Int32)), .val .null, .unset] [(.ref a1)])) rfl (by rw [hml]; rfl) rfl (hb hby ds40_1) (by decide) (W := 0) (by show 2 * 0 + _ ≤ _; exact Nat.le_of_eq rfl) (by decide)
  refine own_f T1 (mkF m 4 #[.val (.ref a1), .val (.ref a2), .val (.int (0 : Int32)), .val (.int (0 : Int32)), .val .null, .unset] []) st1 ?_
  refine own_step (fun t k => XS.iloadN X1.here hx rfl (hb hby ds40_4) rfl k) ?_
  refine own_f T1 (mkF m 8 #[.val (.ref a1), .val (.ref a2), .val (.int (0 : Int32)), .val (.int (0 : Int32)), .val .null, .unset] []) (fun t k => XS.ifNo X1.here hx rfl (hb hby ds40_5) rfl (XT.i0_ne_f (by decide)) k) ?_
  refine own_f T1 (mkF m 9 #[.val (.ref a1), .val (.ref a2), .val (.int (0 : Int32)), .val (.int (0 : Int32)), .val .null, .unset] [(.ref a1)]) (fun t k => XS.aloadN X1.here hx rfl (hb hby ds40_8) rfl rfl k) ?_
  obtain ⟨b2, T2, h2, ks2, c2, kc2, X2, e2, E2, hS, hk, hZ, hown, Ea2, Fc2, Fv2, Av2, -, -, hC2, -, hsf2, st2⟩ := ldcCH (s := s) (vm0 := s.vm) X1 hx hZ hown (own_w hw 70 rfl) (own_str hw) e1 hS hk (own_EW hw) (by decide) hR.1 (vs := []) (z := 0) (by decide) (by decide) (by decide) (g := (mkF m 9 #[.val (.ref a1), .val (.ref a2), .val (.int (0 : Int32)), .val (.int (0 : Int32)), .val .null, .unset] [(.ref a1)])) rfl (hb hby ds40_9) (n := 0) (by decide) (by decide) (by decide) (by decide)
  have Zs2 : n0 ≤ h2.size := Nat.le_trans Z0 E2.1
  have F_3 := F0.ext E2
  have F_4 := F1.ext E2
  have F_5 := F2.ext E2
  have F_6 := hC2.safe F0.lt Sf0
  have hR := hR.trans hC2
  have K2 : Keep h0 h2 [a1] := (Keep.refl h0 [a1]).ext E2
  have nea2 : b2 ≠ a1 := (hsf2 _ F_6).1.symm
  have neb2 : c2 ≠ a1 := (hsf2 _ F_6).2.symm
  refine own_f T2 (mkF m 11 #[.val (.ref a1), .val (.ref a2), .val (.int (0 : Int32)), .val (.int (0 : Int32)), .val .null, .unset] [(.ref b2), (.ref a1)]) st2 ?_
  obtain ⟨T7, X7, e7, st7⟩ := getF X2 hx hZ hown (host := "") (Or.inl (own_w hw 30 rfl)) Via.refl e2 Fv2 (g := (mkF m 11 #[.val (.ref a1), .val (.ref a2), .val (.int (0 : Int32)), .val (.int (0 : Int32)), .val .null, .unset] [(.ref b2), (.ref a1)])) rfl rfl (hb hby ds40_11)
  refine own_f T7 (mkF m 14 #[.val (.ref a1), .val (.ref a2), .val (.int (0 : Int32)), .val (.int (0 : Int32)), .val .null, .unset] [(.ref c2), (.ref a1)]) st7 ?_
  obtain ⟨T8, h8, X8, e8, W8, st8⟩ := putF X7 hx hZ hown (host := "") (Or.inl (own_w hw 30 rfl)) Via.refl e7 F_4 F_3 (Or.inr ⟨(own_w hw 31 rfl), rfl, hnm⟩) (own_w hw 3 rfl) (ty := (.array .byte)) (by decide) rfl rfl (g := (mkF m 14 #[.val (.ref a1), .val (.ref a2), .val (.int (0 : Int32)), .val (.int (0 : Int32)), .val .null, .unset] [(.ref c2), (.ref a1)])) rfl rfl (hb hby ds40_14)
  have N8 := Fr.snoc X8 N0 ge_a1
  have Zs8 : n0 ≤ h8.size := by rw [W8.size]; exact Zs2
  have hk := Nat.le_trans hk (Nat.le_of_eq W8.size.symm)
  have K8 : Keep h0 h8 [a1] := K2.wr W8 (Or.inl (by simp))
  have sfx : Safe Z own_EL T2.vm h2 a1 := F_6
  have F_9 := F_3.wr W8
  have F_10 := F_4.same W8
  have F_11 := F_5.other W8 (Or.inr (slot_ne (Or.inr (own_w hw 29 rfl)) (Or.inr (own_w hw 31 rfl)) (by decide) (t := .byte) (t' := (.array .byte)) (by decide) (by decide)))
  have F_12 := Safe.wr W8 sfx hR.1 F_6
  have F_13 := Ea2.wr W8
  have F_14 := Fc2.other W8 (Or.inl nea2)
  have F_15 := Fv2.other W8 (Or.inl nea2)
  have F_16 := Av2.other W8 neb2
  have hR := hR.trans (CHr.wr W8 sfx hR.1)
  refine own_f T8 (mkF m 17 #[.val (.ref a1), .val (.ref a2), .val (.int (0 : Int32)), .val (.int (0 : Int32)), .val .null, .unset] []) st8 ?_
  refine own_f T8 (mkF m 18 #[.val (.ref a1), .val (.ref a2), .val (.int (0 : Int32)), .val (.int (0 : Int32)), .val .null, .unset] [(.ref a1)]) (fun t k => XS.aloadN X8.here hx rfl (hb hby ds40_17) rfl rfl k) ?_
  obtain ⟨b17, T17, h17, ks17, c17, kc17, X17, e17, E17, hS, hk, hZ, hown, Ea17, Fc17, Fv17, Av17, -, -, hC17, -, hsf17, st17⟩ := ldcCH (s := s) (vm0 := T2.vm) X8 hx hZ hown (own_w hw 70 rfl) (own_str hw) e8 hS hk (own_EW hw) (by decide) hR.1 (vs := []) (z := 0) (by decide) (by decide) (by decide) (g := (mkF m 18 #[.val (.ref a1), .val (.ref a2), .val (.int (0 : Int32)), .val (.int (0 : Int32)), .val .null, .unset] [(.ref a1)])) rfl (hb hby ds40_18) (n := 0) (by decide) (by decide) (by decide) (by decide)
  have Zs17 : n0 ≤ h17.size := Nat.le_trans Zs8 E17.1
  have F_18 := F_9.ext E17
  have F_19 := F_10.ext E17
  have F_20 := F_11.ext E17
  have F_21 := hC17.safe F_9.lt F_12
  have F_22 := F_13.ext E17
  have F_23 := F_14.ext E17
  have F_24 := F_15.ext E17
  have F_25 := F_16.ext E17
  have hR := hR.trans hC17
  have K17 : Keep h0 h17 [a1] := K8.ext E17
  have nea17 : b17 ≠ a1 := (hsf17 _ F_21).1.symm
  have neb17 : c17 ≠ a1 := (hsf17 _ F_21).2.symm
  refine own_f T17 (mkF m 20 #[.val (.ref a1), .val (.ref a2), .val (.int (0 : Int32)), .val (.int (0 : Int32)), .val .null, .unset] [(.ref b17), (.ref a1)]) st17 ?_
  obtain ⟨T26, X26, e26, st26⟩ := getF X17 hx hZ hown (host := "") (Or.inl (own_w hw 28 rfl)) Via.refl e17 Fc17 (g := (mkF m 20 #[.val (.ref a1), .val (.ref a2), .val (.int (0 : Int32)), .val (.int (0 : Int32)), .val .null, .unset] [(.ref b17), (.ref a1)])) rfl rfl (hb hby ds40_20)
  refine own_f T26 (mkF m 23 #[.val (.ref a1), .val (.ref a2), .val (.int (0 : Int32)), .val (.int (0 : Int32)), .val .null, .unset] [(.int 0), (.ref a1)]) st26 ?_
  obtain ⟨T27, h27, X27, e27, W27, st27⟩ := putF X26 hx hZ hown (host := "") (Or.inl (own_w hw 28 rfl)) Via.refl e26 F_20 F_18 (Or.inr ⟨(own_w hw 29 rfl), rfl, hnm⟩) (own_w hw 3 rfl) (ty := .byte) (by decide) rfl rfl (g := (mkF m 23 #[.val (.ref a1), .val (.ref a2), .val (.int (0 : Int32)), .val (.int (0 : Int32)), .val .null, .unset] [(.int 0), (.ref a1)])) rfl rfl (hb hby ds40_23)
  have N27 := Fr.snoc X27 N8 ge_a1
  have Zs27 : n0 ≤ h27.size := by rw [W27.size]; exact Zs17
  have hk := Nat.le_trans hk (Nat.le_of_eq W27.size.symm)
  have K27 : Keep h0 h27 [a1] := K17.wr W27 (Or.inl (by simp))
  have sfx : Safe Z own_EL T17.vm h17 a1 := F_21
  have F_28 := F_18.wr W27
  have F_29 := F_19.other W27 (Or.inr (slot_ne (Or.inr (own_w hw 31 rfl)) (Or.inr (own_w hw 29 rfl)) (by decide) (t := (.array .byte)) (t' := .byte) (by decide) (by decide)))
  have F_30 := F_20.same W27
  have F_31 := Safe.wr W27 sfx hR.1 F_21
  have F_32 := F_22.wr W27
  have F_33 := F_23.other W27 (Or.inl nea2)
  have F_34 := F_24.other W27 (Or.inl nea2)
  have F_35 := F_25.other W27 neb2
  have F_36 := Ea17.wr W27
  have F_37 := Fc17.other W27 (Or.inl nea17)
  have F_38 := Fv17.other W27 (Or.inl nea17)
  have F_39 := Av17.other W27 neb17
  have hR := hR.trans (CHr.wr W27 sfx hR.1)
  refine own_f T27 (mkF m 26 #[.val (.ref a1), .val (.ref a2), .val (.int (0 : Int32)), .val (.int (0 : Int32)), .val .null, .unset] []) st27 ?_
  obtain ⟨fs, hr, hrun, hended, hW⟩ := Stand.leaveW (s := s) (vm₁ := T17.vm) X27 hS (by rw [e27]; exact hk) (v := none) (fun _ => rfl)
  have hCe : CHr Z own_EL s.vm s.heap (T27.setFrames fs).vm (T27.setFrames fs).heap := by show CHr Z own_EL s.vm s.heap T27.vm T27.heap; rw [hh, e27]; exact hR.trans (CHv.at (s := s) (vm0 := T17.vm) X27 hZ (own_EW hw) hR.1)
  refine ⟨_, _, X27.returnOut hx Bd.returns (hb hby ds40_26) hr, hrun, hended, _, _, rfl, ?_, hCe, hW.1, hW.2.1, hW.2.2.1, hW.2.2.2.mono (by decide) (by decide)⟩
  show Qs40 Z a1 a2 u1 h0 n0 _ T27.heap _
  rw [e27]
  exact ⟨c2, kc2, rfl, N27, K27, F_28, F_30, F_29, F_35⟩
theorem ds20_0 : decode jdk_42_method_3_code 0 = .ok (.aload_n 0, 1) := by decide +kernel
theorem ds20_1 : decode jdk_42_method_3_code 1 = .ok (.aload_n 1, 1) := by decide +kernel
theorem ds20_2 : decode jdk_42_method_3_code 2 = .ok (.iconst 0, 1) := by decide +kernel
theorem ds20_3 : decode jdk_42_method_3_code 3 = .ok (.aload_n 1, 1) := by decide +kernel
theorem ds20_4 : decode jdk_42_method_3_code 4 = .ok (.arraylength, 1) := by decide +kernel
theorem ds20_5 : decode jdk_42_method_3_code 5 = .ok (.aconst_null, 1) := by decide +kernel
theorem ds20_6 : decode jdk_42_method_3_code 6 = .ok (.invokespecial 27, 3) := by decide +kernel
theorem ds20_9 : decode jdk_42_method_3_code 9 = .ok (.return_, 1) := by decide +kernel
theorem pn_s20 : plainName "java/lang/String" = true := by first | (simp [plainName, overriddenIn]; done) | decide +kernel
theorem ef_s20 (m : MethodId) (x0 : Addr) (x1 : Addr) : entryFrame m #[(.ref x0), (.ref x1)] 2 = mkF m 0 #[.val (.ref x0), .val (.ref x1)] [] := by first | (simp [entryFrame, mkF, argsToLocals, Value.category]; done) | rfl
def Qs20 (Z : State) (a1 : Addr) (a2 : Addr) (k2 : ClassId) (u1 : Value) (h0 : Heap) (n0 : Nat) (v : Option Value) (h : Heap) (L : List Loc) : Prop := ∃ (b : Addr) (kb : ClassId), v = none ∧ Fr n0 L ∧ Keep h0 h [a1] ∧ Exa Z h a1 "java/lang/String" ∧ Fld Z h a1 "java/lang/String" "coder" "B" (.int (0 : Int32)) ∧ Fld Z h a1 "java/lang/String" "value" "[B" (.ref b) ∧ Arv Z h b kb .byte (0 : Int32) [] (.int 0)
set_option maxRecDepth 65536 in
set_option maxHeartbeats 40000000 in
theorem rms20 (l : Launch) (Z : State) (a0 : Array Value) (hw : ∀ d ∈ tables_1, d.before a0 Z = true) (ws : List Jvm.Cond) (a1 : Addr) (a2 : Addr) (k2 : ClassId) (u1 : Value) (h0 : Heap) (n0 : Nat) (Z0 : n0 ≤ h0.size) (F0 : Exa Z h0 a1 "java/lang/String") (F1 : Fld Z h0 a1 "java/lang/String" "value" "[B" .null) (F2 : Fld Z h0 a1 "java/lang/String" "coder" "B" u1) (F3 : Arv Z h0 a2 k2 .char (0 : Int32) [] (.int 0)) (ge_a1 : n0 ≤ a1) :
    MetFree l (⟨"java/lang/String", "<init>", "([C)V"⟩ : MethodName) (head1 (Jvm.Cond.code (⟨"java/lang/String", "<init>", "([C)V"⟩ : MethodName) jdk_42_method_3_code 2 none :: ws) ({ frames := 2, cells := 4, slots := 8, locals := 29 } : Room)) (fun a U => a = #[(.ref a1), (.ref a2)] ∧ Z.Warmed39 U.vm ∧ U.heap = h0 ∧ CHv Z own_EL U.vm h0) (fun _ _ _ _ _ => True) (fun _ U o U' => ∃ v L, o = .returned v ∧ Qs20 Z a1 a2 k2 u1 h0 n0 v U'.heap L ∧ CHr Z own_EL U.vm U.heap U'.vm U'.heap ∧ ReturnedEndW U o U' L ({ frames := 2, cells := 4, slots := 8, locals := 29 } : Room).cells ({ frames := 2, cells := 4, slots := 8, locals := 29 } : Room).slots) := by
  refine MetFree.of_bodySF (plainFor_of_name pn_s20) hisR ?_
  intro p e s m args below meth c s₁ Bd hml0 hP hK
  obtain ⟨rfl, hZ, hh, hCH⟩ := hP
  have hx := Bd.exec
  have hby := Bd.bytes
  have hml : c.maxLocals = 2 := hml0
  have hown : s.vm.findClass "java/lang/String" = some m.cls := findClass_of_methodNamed Bd.named
  have hnm := (name_of_methodNamed Bd.named Bd.method).1
  have X0 : Stand p l e ({ frames := 2, cells := 4, slots := 8, locals := 29 } : Room) s m #[(.ref a1), (.ref a2)] below meth c s₁ [] 0 0 := Stand.of_body Bd
  have e0 : s₁.heap = h0 := by rw [← hh, Bd.state]; rfl
  have N0 := Fr.nil n0
  have hZ0 := hZ
  have hown0 := hown
  have hS : s.Since s.vm 0 := (State.WarmedH.refl s).since 0
  have hk : 0 ≤ h0.size := Nat.zero_le _
  have hR : CHr Z own_EL s.vm h0 s.vm h0 := CHr.refl hCH
  show own_R p.tables e below (own_PH Z s (Qs20 Z a1 a2 k2 u1 h0 n0) ({ frames := 2, cells := 4, slots := 8, locals := 29 } : Room).cells ({ frames := 2, cells := 4, slots := 8, locals := 29 } : Room).slots) (s₁.setTop (entryFrame m #[(.ref a1), (.ref a2)] 2))
  refine own_f s₁ (mkF m 0 #[.val (.ref a1), .val (.ref a2)] []) (fun t k => castTop (ef_s20 m a1 a2) k) ?_
  refine own_step (fun t k => XS.aloadN X0.here hx rfl (hb hby ds20_0) rfl rfl k) ?_
  refine own_step (fun t k => XS.aloadN X0.here hx rfl (hb hby ds20_1) rfl rfl k) ?_
  refine own_step (fun t k => XT.iconstV X0.here hx rfl (0 : Int32) (hb hby ds20_2) (by decide) k) ?_
  refine own_f s₁ (mkF m 4 #[.val (.ref a1), .val (.ref a2)] [(.ref a2), (.int (0 : Int32)), (.ref a2), (.ref a1)]) (fun t k => XS.aloadN X0.here hx rfl (hb hby ds20_3) rfl rfl k) ?_
  refine own_f s₁ (mkF m 5 #[.val (.ref a1), .val (.ref a2)] [(.int (0 : Int32)), (.int (0 : Int32)), (.ref a2), (.ref a1)]) (fun t k => own_len X0 hx hZ e0 F3 (g := (mkF m 4 #[.val (.ref a1), .val (.ref a2)] [(.ref a2), (.int (0 : Int32)), (.ref a2), (.ref a1)])) rfl rfl (hb hby ds20_4) k) ?_
  refine own_f s₁ (mkF m 6 #[.val (.ref a1), .val (.ref a2)] [.null, (.int (0 : Int32)), (.int (0 : Int32)), (.ref a2), (.ref a1)]) (fun t k => XS.aconstNull X0.here hx rfl (hb hby ds20_5) k) ?_
  obtain ⟨_, _, ⟨T2, Lq2, kq_2, nq_2⟩, -, X2, hSn2, hgr2, ⟨Lc2, hQ2, lq2, yq2, zq2, hC2⟩, st2⟩ := X0.specialBackS hx (y := (⟨"java/lang/String", "<init>", "([CIILjava/lang/Void;)V"⟩ : MethodName)) rfl hown (mvT hZ (own_w hw 9 rfl)) (mvT hZ (own_w hw 10 rfl)) (mvT hZ (own_w hw 12 rfl)) (by decide) (backOfSH (s := s) (vm0 := s.vm) (W := 0) (rms40 l Z a0 hw [] a1 a2 _ h0 n0 Z0 F0 F1 F2 ge_a1) hZ (own_w hw 12 rfl) (own_w hw 4 rfl) (by decide) (by decide) (own_EW hw) hR.1) (g := (mkF m 6 #[.val (.ref a1), .val (.ref a2)] [.null, (.int (0 : Int32)), (.int (0 : Int32)), (.ref a2), (.ref a1)])) rfl (by rw [hml]; rfl) (Steps.refl _) (a := a1) (argsL := [(.ref a2), (.int (0 : Int32)), (.int (0 : Int32)), .null]) (rest := []) (lenOf pd__CIILjava_lang_Void_V rfl) rfl (by show 2 * 0 + _ ≤ _; exact Nat.le_of_eq rfl) (hb hby ds20_6) (fun _ _ => ⟨rfl, e0, (by decide : 0 + 4 ≤ _), (by decide : 0 + 8 ≤ _)⟩)
  dsimp only [Pt.U, Pt.locs, Pt.cells, Pt.slots] at X2 lq2 yq2 zq2 st2 hQ2 hSn2 hgr2 hC2
  subst lq2 yq2 zq2
  obtain ⟨h2, e2⟩ : ∃ z, T2.heap = z := ⟨_, rfl⟩
  rw [e2] at hQ2 hC2
  have hS : s.Since T2.vm T2.heap.size := foldS (T := s₁) (U := T2) hS (by rw [e0]; exact hk) hSn2 hgr2
  have hZ : Z.Warmed39 (s.setVm T2.vm).vm := State.Warmed39.trans hZ0 hS.1
  have hown : (s.setVm T2.vm).vm.findClass "java/lang/String" = some m.cls := by rw [show (s.setVm T2.vm).vm = T2.vm from rfl, hS.1.alike.findClass]; exact hown0
  have X2 : Stand p l e ({ frames := 2, cells := 4, slots := 8, locals := 29 } : Room) (s.setVm T2.vm) m #[(.ref a1), (.ref a2)] below meth c T2 _ _ _ := X2
  rw [e2] at hS
  have hk : h2.size ≤ h2.size := Nat.le_refl _
  unfold Qs40 at hQ2
  obtain ⟨b2, kb2, rfl, Nq2, qh2, G2_0, G2_1, G2_2, G2_3⟩ := hQ2
  have N2 := Fr.app N0 Nq2
  have Zs2 : n0 ≤ h2.size := Nat.le_trans Z0 qh2.1
  have hR := hR.trans hC2
  have K2 : Keep h0 h2 [a1] := (Keep.refl h0 [a1]).trans qh2 (allS (Or.inl (by simp)) all0)
  refine own_g T2 (mkF m 9 #[.val (.ref a1), .val (.ref a2)] []) st2 ?_
  obtain ⟨fs, hr, hrun, hended, hW⟩ := Stand.leaveW (s := s) (vm₁ := T2.vm) X2 hS (by rw [e2]; exact hk) (v := none) (fun _ => rfl)
  have hCe : CHr Z own_EL s.vm s.heap (T2.setFrames fs).vm (T2.setFrames fs).heap := by show CHr Z own_EL s.vm s.heap T2.vm T2.heap; rw [hh, e2]; exact hR.trans (CHv.at (s := s) (vm0 := T2.vm) X2 hZ (own_EW hw) hR.1)
  refine ⟨_, _, X2.returnOut hx Bd.returns (hb hby ds20_9) hr, hrun, hended, _, _, rfl, ?_, hCe, hW.1, hW.2.1, hW.2.2.1, hW.2.2.2.mono (by decide) (by decide)⟩
  show Qs20 Z a1 a2 k2 u1 h0 n0 _ T2.heap _
  rw [e2]
  exact ⟨b2, kb2, rfl, N2, K2, G2_0, G2_1, G2_2, G2_3⟩
def own_T (Z : State) (h : Heap) (a : Addr) (n : Int32) (m : Nat) : Prop := ∃ (d : Addr) (k : ClassId) (cd z : Int32) (vs : List Value), Exa Z h a "java/lang/String" ∧ Fld Z h a "java/lang/String" "coder" "B" (.int cd) ∧ Fld Z h a "java/lang/String" "value" "[B" (.ref d) ∧ Arv Z h d k .byte z vs (.int 0) ∧ ((cd = 0 ∧ z = n) ∨ (cd = 1 ∧ z = n + n)) ∧ a < m ∧ d < m
theorem own_T.ext {Z : State} {h h' : Heap} {a : Addr} {n : Int32} {m : Nat} (G : own_T Z h a n m) (E : Ext h h') : own_T Z h' a n m := by
  obtain ⟨d, k, cd, z, vs, E1, F1, F2, A, r⟩ := G
  exact ⟨d, k, cd, z, vs, E1.ext E, F1.ext E, F2.ext E, A.ext E, r⟩
theorem own_T.keep {Z : State} {h h' : Heap} {a : Addr} {n : Int32} {m : Nat} {ws : List Addr} (G : own_T Z h a n m) (K : Keep h h' ws) (q : ∀ x ∈ ws, m ≤ x) : own_T Z h' a n m := by
  obtain ⟨d, k, cd, z, vs, E1, F1, F2, A, r, l1, l2⟩ := G
  have n1 : a ∉ ws := fun z => absurd l1 (Nat.not_lt.mpr (q a z))
  have n2 : d ∉ ws := fun z => absurd l2 (Nat.not_lt.mpr (q d z))
  exact ⟨d, k, cd, z, vs, E1.keep K, F1.keep K n1, F2.keep K n1, A.keep K n2, r, l1, l2⟩
def Qsu1 (Z : State) (a1 : Addr) (h0 : Heap) (n0 : Nat) (v : Option Value) (h : Heap) (L : List Loc) : Prop := v = none ∧ Fr n0 L ∧ Keep h0 h [a1] ∧ ∃ m : Nat, m = h.size ∧ own_T Z h a1 (1 : Int32) m
theorem own_q1_0 {Z : State} {a1 a2 : Addr} {k2 : ClassId} {c0 : Int32} {u0 u1 : Value} {wc : Int32} {h0 : Heap} {n0 : Nat} {v : Option Value} {h : Heap} {L : List Loc} (q : Qs41_0 Z a1 a2 k2 c0 u0 u1 wc h0 n0 v h L) : Qsu1 Z a1 h0 n0 v h L := by
  obtain ⟨b, kb, h1, h2, h3, h4, h5, h6, h7, h8⟩ := q
  exact ⟨h1, h2, h3, _, rfl, b, kb, _, _, _, h4, h5, h6, h7, Or.inr ⟨rfl, by decide⟩, h4.lt, h7.lt⟩
theorem own_q1_1 {Z : State} {a1 a2 : Addr} {k2 : ClassId} {c0 : Int32} {u0 u1 : Value} {wc : Int32} {h0 : Heap} {n0 : Nat} {v : Option Value} {h : Heap} {L : List Loc} (q : Qs41_1 Z a1 a2 k2 c0 u0 u1 wc h0 n0 v h L) : Qsu1 Z a1 h0 n0 v h L := by
  obtain ⟨b, kb, h1, h2, h3, h4, h5, h6, h7, h8⟩ := q
  exact ⟨h1, h2, h3, _, rfl, b, kb, _, _, _, h4, h5, h6, h7, Or.inl ⟨rfl, rfl⟩, h4.lt, h7.lt⟩
theorem rmsu1 (l : Launch) (Z : State) (a0 : Array Value) (hw : ∀ d ∈ tables_1, d.before a0 Z = true) (ws : List Jvm.Cond) (a1 a2 : Addr) (k2 : ClassId) (c0 : Int32) (u0 u1 : Value) (wc : Int32) (h0 : Heap) (n0 : Nat) (Z0 : n0 ≤ h0.size) (F0 : Old Z n0 h0) (F1 : Exa Z h0 a1 "java/lang/String") (F2 : Fld Z h0 a1 "java/lang/String" "value" "[B" u0) (F3 : Fld Z h0 a1 "java/lang/String" "coder" "B" u1) (F4 : Arv Z h0 a2 k2 .char (1 : Int32) [.int c0] (.int 0)) (ge : n0 ≤ a1) (SC : Sta Z Z.heap "java/lang/String" "COMPACT_STRINGS" "Z" (.int wc)) (HWC : ¬ (wc = 0)) (SH : Sta Z Z.heap "java/lang/StringUTF16" "HI_BYTE_SHIFT" "I" (.int (0 : Int32))) (SL : Sta Z Z.heap "java/lang/StringUTF16" "LO_BYTE_SHIFT" "I" (.int (8 : Int32))) (SA : Sta Z Z.heap "java/lang/StringUTF16" "$assertionsDisabled" "Z" (.int (1 : Int32))) (hne : a2 ≠ a1) (hw0 : own_W c0) :
    MetFree l (⟨"java/lang/String", "<init>", "([CIILjava/lang/Void;)V"⟩ : MethodName) (head1 (Jvm.Cond.code (⟨"java/lang/String", "<init>", "([CIILjava/lang/Void;)V"⟩ : MethodName) jdk_42_method_149_code 6 none :: ws) ({ frames := 4, cells := 2, slots := 3, locals := 57 } : Room)) (fun a U => a = #[(.ref a1), (.ref a2), (.int (0 : Int32)), (.int (1 : Int32)), .null] ∧ Z.Warmed39 U.vm ∧ U.heap = h0) (fun _ _ _ _ _ => True) (fun _ U o U' => ∃ v L, o = .returned v ∧ Qsu1 Z a1 h0 n0 v U'.heap L ∧ FrameEnd U o U' L ({ frames := 4, cells := 2, slots := 3, locals := 57 } : Room).cells ({ frames := 4, cells := 2, slots := 3, locals := 57 } : Room).slots) := by
  by_cases g0 : (255 : Int32) < c0
  · exact own_mono (rms41_0 l Z a0 hw ws a1 a2 k2 c0 u0 u1 wc h0 n0 Z0 F0 F1 F2 F3 F4 ge SC HWC SH SL SA hne g0 hw0) fun _ _ _ q => own_q1_0 q
  exact own_mono (rms41_1 l Z a0 hw ws a1 a2 k2 c0 u0 u1 wc h0 n0 Z0 F0 F1 F2 F3 F4 ge SC HWC hne g0) fun _ _ _ q => own_q1_1 q
def Qsu2 (Z : State) (a1 : Addr) (h0 : Heap) (n0 : Nat) (v : Option Value) (h : Heap) (L : List Loc) : Prop := v = none ∧ Fr n0 L ∧ Keep h0 h [a1] ∧ ∃ m : Nat, m = h.size ∧ own_T Z h a1 (2 : Int32) m
theorem own_q2_0 {Z : State} {a1 a2 : Addr} {k2 : ClassId} {c0 c1 : Int32} {u0 u1 : Value} {wc : Int32} {h0 : Heap} {n0 : Nat} {v : Option Value} {h : Heap} {L : List Loc} (q : Qs42_0 Z a1 a2 k2 c0 c1 u0 u1 wc h0 n0 v h L) : Qsu2 Z a1 h0 n0 v h L := by
  obtain ⟨b, kb, h1, h2, h3, h4, h5, h6, h7, h8⟩ := q
  exact ⟨h1, h2, h3, _, rfl, b, kb, _, _, _, h4, h5, h6, h7, Or.inr ⟨rfl, by decide⟩, h4.lt, h7.lt⟩
theorem own_q2_1 {Z : State} {a1 a2 : Addr} {k2 : ClassId} {c0 c1 : Int32} {u0 u1 : Value} {wc : Int32} {h0 : Heap} {n0 : Nat} {v : Option Value} {h : Heap} {L : List Loc} (q : Qs42_1 Z a1 a2 k2 c0 c1 u0 u1 wc h0 n0 v h L) : Qsu2 Z a1 h0 n0 v h L := by
  obtain ⟨b, kb, h1, h2, h3, h4, h5, h6, h7, h8⟩ := q
  exact ⟨h1, h2, h3, _, rfl, b, kb, _, _, _, h4, h5, h6, h7, Or.inr ⟨rfl, by decide⟩, h4.lt, h7.lt⟩
theorem own_q2_2 {Z : State} {a1 a2 : Addr} {k2 : ClassId} {c0 c1 : Int32} {u0 u1 : Value} {wc : Int32} {h0 : Heap} {n0 : Nat} {v : Option Value} {h : Heap} {L : List Loc} (q : Qs42_2 Z a1 a2 k2 c0 c1 u0 u1 wc h0 n0 v h L) : Qsu2 Z a1 h0 n0 v h L := by
  obtain ⟨b, kb, h1, h2, h3, h4, h5, h6, h7, h8⟩ := q
  exact ⟨h1, h2, h3, _, rfl, b, kb, _, _, _, h4, h5, h6, h7, Or.inl ⟨rfl, rfl⟩, h4.lt, h7.lt⟩
theorem rmsu2 (l : Launch) (Z : State) (a0 : Array Value) (hw : ∀ d ∈ tables_1, d.before a0 Z = true) (ws : List Jvm.Cond) (a1 a2 : Addr) (k2 : ClassId) (c0 c1 : Int32) (u0 u1 : Value) (wc : Int32) (h0 : Heap) (n0 : Nat) (Z0 : n0 ≤ h0.size) (F0 : Old Z n0 h0) (F1 : Exa Z h0 a1 "java/lang/String") (F2 : Fld Z h0 a1 "java/lang/String" "value" "[B" u0) (F3 : Fld Z h0 a1 "java/lang/String" "coder" "B" u1) (F4 : Arv Z h0 a2 k2 .char (2 : Int32) [.int c0, .int c1] (.int 0)) (ge : n0 ≤ a1) (SC : Sta Z Z.heap "java/lang/String" "COMPACT_STRINGS" "Z" (.int wc)) (HWC : ¬ (wc = 0)) (SH : Sta Z Z.heap "java/lang/StringUTF16" "HI_BYTE_SHIFT" "I" (.int (0 : Int32))) (SL : Sta Z Z.heap "java/lang/StringUTF16" "LO_BYTE_SHIFT" "I" (.int (8 : Int32))) (SA : Sta Z Z.heap "java/lang/StringUTF16" "$assertionsDisabled" "Z" (.int (1 : Int32))) (hne : a2 ≠ a1) (hw0 : own_W c0) (hw1 : own_W c1) :
    MetFree l (⟨"java/lang/String", "<init>", "([CIILjava/lang/Void;)V"⟩ : MethodName) (head1 (Jvm.Cond.code (⟨"java/lang/String", "<init>", "([CIILjava/lang/Void;)V"⟩ : MethodName) jdk_42_method_149_code 6 none :: ws) ({ frames := 4, cells := 2, slots := 6, locals := 57 } : Room)) (fun a U => a = #[(.ref a1), (.ref a2), (.int (0 : Int32)), (.int (2 : Int32)), .null] ∧ Z.Warmed39 U.vm ∧ U.heap = h0) (fun _ _ _ _ _ => True) (fun _ U o U' => ∃ v L, o = .returned v ∧ Qsu2 Z a1 h0 n0 v U'.heap L ∧ FrameEnd U o U' L ({ frames := 4, cells := 2, slots := 6, locals := 57 } : Room).cells ({ frames := 4, cells := 2, slots := 6, locals := 57 } : Room).slots) := by
  by_cases g0 : (255 : Int32) < c0
  · exact own_mono (rms42_0 l Z a0 hw ws a1 a2 k2 c0 c1 u0 u1 wc h0 n0 Z0 F0 F1 F2 F3 F4 ge SC HWC SH SL SA hne g0 hw0) fun _ _ _ q => own_q2_0 q
  by_cases g1 : (255 : Int32) < c1
  · exact own_mono (rms42_1 l Z a0 hw ws a1 a2 k2 c0 c1 u0 u1 wc h0 n0 Z0 F0 F1 F2 F3 F4 ge SC HWC SH SL SA hne g0 g1 hw1) fun _ _ _ q => own_q2_1 q
  exact own_mono (rms42_2 l Z a0 hw ws a1 a2 k2 c0 c1 u0 u1 wc h0 n0 Z0 F0 F1 F2 F3 F4 ge SC HWC hne g0 g1) fun _ _ _ q => own_q2_2 q
def Qsu3 (Z : State) (a1 : Addr) (h0 : Heap) (n0 : Nat) (v : Option Value) (h : Heap) (L : List Loc) : Prop := v = none ∧ Fr n0 L ∧ Keep h0 h [a1] ∧ ∃ m : Nat, m = h.size ∧ own_T Z h a1 (3 : Int32) m
theorem own_q3_0 {Z : State} {a1 a2 : Addr} {k2 : ClassId} {c0 c1 c2 : Int32} {u0 u1 : Value} {wc : Int32} {h0 : Heap} {n0 : Nat} {v : Option Value} {h : Heap} {L : List Loc} (q : Qs43_0 Z a1 a2 k2 c0 c1 c2 u0 u1 wc h0 n0 v h L) : Qsu3 Z a1 h0 n0 v h L := by
  obtain ⟨b, kb, h1, h2, h3, h4, h5, h6, h7, h8⟩ := q
  exact ⟨h1, h2, h3, _, rfl, b, kb, _, _, _, h4, h5, h6, h7, Or.inr ⟨rfl, by decide⟩, h4.lt, h7.lt⟩
theorem own_q3_1 {Z : State} {a1 a2 : Addr} {k2 : ClassId} {c0 c1 c2 : Int32} {u0 u1 : Value} {wc : Int32} {h0 : Heap} {n0 : Nat} {v : Option Value} {h : Heap} {L : List Loc} (q : Qs43_1 Z a1 a2 k2 c0 c1 c2 u0 u1 wc h0 n0 v h L) : Qsu3 Z a1 h0 n0 v h L := by
  obtain ⟨b, kb, h1, h2, h3, h4, h5, h6, h7, h8⟩ := q
  exact ⟨h1, h2, h3, _, rfl, b, kb, _, _, _, h4, h5, h6, h7, Or.inr ⟨rfl, by decide⟩, h4.lt, h7.lt⟩
theorem own_q3_2 {Z : State} {a1 a2 : Addr} {k2 : ClassId} {c0 c1 c2 : Int32} {u0 u1 : Value} {wc : Int32} {h0 : Heap} {n0 : Nat} {v : Option Value} {h : Heap} {L : List Loc} (q : Qs43_2 Z a1 a2 k2 c0 c1 c2 u0 u1 wc h0 n0 v h L) : Qsu3 Z a1 h0 n0 v h L := by
  obtain ⟨b, kb, h1, h2, h3, h4, h5, h6, h7, h8⟩ := q
  exact ⟨h1, h2, h3, _, rfl, b, kb, _, _, _, h4, h5, h6, h7, Or.inr ⟨rfl, by decide⟩, h4.lt, h7.lt⟩
theorem own_q3_3 {Z : State} {a1 a2 : Addr} {k2 : ClassId} {c0 c1 c2 : Int32} {u0 u1 : Value} {wc : Int32} {h0 : Heap} {n0 : Nat} {v : Option Value} {h : Heap} {L : List Loc} (q : Qs43_3 Z a1 a2 k2 c0 c1 c2 u0 u1 wc h0 n0 v h L) : Qsu3 Z a1 h0 n0 v h L := by
  obtain ⟨b, kb, h1, h2, h3, h4, h5, h6, h7, h8⟩ := q
  exact ⟨h1, h2, h3, _, rfl, b, kb, _, _, _, h4, h5, h6, h7, Or.inl ⟨rfl, rfl⟩, h4.lt, h7.lt⟩
theorem rmsu3 (l : Launch) (Z : State) (a0 : Array Value) (hw : ∀ d ∈ tables_1, d.before a0 Z = true) (ws : List Jvm.Cond) (a1 a2 : Addr) (k2 : ClassId) (c0 c1 c2 : Int32) (u0 u1 : Value) (wc : Int32) (h0 : Heap) (n0 : Nat) (Z0 : n0 ≤ h0.size) (F0 : Old Z n0 h0) (F1 : Exa Z h0 a1 "java/lang/String") (F2 : Fld Z h0 a1 "java/lang/String" "value" "[B" u0) (F3 : Fld Z h0 a1 "java/lang/String" "coder" "B" u1) (F4 : Arv Z h0 a2 k2 .char (3 : Int32) [.int c0, .int c1, .int c2] (.int 0)) (ge : n0 ≤ a1) (SC : Sta Z Z.heap "java/lang/String" "COMPACT_STRINGS" "Z" (.int wc)) (HWC : ¬ (wc = 0)) (SH : Sta Z Z.heap "java/lang/StringUTF16" "HI_BYTE_SHIFT" "I" (.int (0 : Int32))) (SL : Sta Z Z.heap "java/lang/StringUTF16" "LO_BYTE_SHIFT" "I" (.int (8 : Int32))) (SA : Sta Z Z.heap "java/lang/StringUTF16" "$assertionsDisabled" "Z" (.int (1 : Int32))) (hne : a2 ≠ a1) (hw0 : own_W c0) (hw1 : own_W c1) (hw2 : own_W c2) :
    MetFree l (⟨"java/lang/String", "<init>", "([CIILjava/lang/Void;)V"⟩ : MethodName) (head1 (Jvm.Cond.code (⟨"java/lang/String", "<init>", "([CIILjava/lang/Void;)V"⟩ : MethodName) jdk_42_method_149_code 6 none :: ws) ({ frames := 4, cells := 2, slots := 9, locals := 57 } : Room)) (fun a U => a = #[(.ref a1), (.ref a2), (.int (0 : Int32)), (.int (3 : Int32)), .null] ∧ Z.Warmed39 U.vm ∧ U.heap = h0) (fun _ _ _ _ _ => True) (fun _ U o U' => ∃ v L, o = .returned v ∧ Qsu3 Z a1 h0 n0 v U'.heap L ∧ FrameEnd U o U' L ({ frames := 4, cells := 2, slots := 9, locals := 57 } : Room).cells ({ frames := 4, cells := 2, slots := 9, locals := 57 } : Room).slots) := by
  by_cases g0 : (255 : Int32) < c0
  · exact own_mono (rms43_0 l Z a0 hw ws a1 a2 k2 c0 c1 c2 u0 u1 wc h0 n0 Z0 F0 F1 F2 F3 F4 ge SC HWC SH SL SA hne g0 hw0) fun _ _ _ q => own_q3_0 q
  by_cases g1 : (255 : Int32) < c1
  · exact own_mono (rms43_1 l Z a0 hw ws a1 a2 k2 c0 c1 c2 u0 u1 wc h0 n0 Z0 F0 F1 F2 F3 F4 ge SC HWC SH SL SA hne g0 g1 hw1) fun _ _ _ q => own_q3_1 q
  by_cases g2 : (255 : Int32) < c2
  · exact own_mono (rms43_2 l Z a0 hw ws a1 a2 k2 c0 c1 c2 u0 u1 wc h0 n0 Z0 F0 F1 F2 F3 F4 ge SC HWC SH SL SA hne g0 g1 g2 hw2) fun _ _ _ q => own_q3_2 q
  exact own_mono (rms43_3 l Z a0 hw ws a1 a2 k2 c0 c1 c2 u0 u1 wc h0 n0 Z0 F0 F1 F2 F3 F4 ge SC HWC hne g0 g1 g2) fun _ _ _ q => own_q3_3 q
theorem dt1_0 : decode jdk_42_method_3_code 0 = .ok (.aload_n 0, 1) := by decide +kernel
theorem dt1_1 : decode jdk_42_method_3_code 1 = .ok (.aload_n 1, 1) := by decide +kernel
theorem dt1_2 : decode jdk_42_method_3_code 2 = .ok (.iconst 0, 1) := by decide +kernel
theorem dt1_3 : decode jdk_42_method_3_code 3 = .ok (.aload_n 1, 1) := by decide +kernel
theorem dt1_4 : decode jdk_42_method_3_code 4 = .ok (.arraylength, 1) := by decide +kernel
theorem dt1_5 : decode jdk_42_method_3_code 5 = .ok (.aconst_null, 1) := by decide +kernel
theorem dt1_6 : decode jdk_42_method_3_code 6 = .ok (.invokespecial 27, 3) := by decide +kernel
theorem dt1_9 : decode jdk_42_method_3_code 9 = .ok (.return_, 1) := by decide +kernel
theorem pn_t1 : plainName "java/lang/String" = true := by first | (simp [plainName, overriddenIn]; done) | decide +kernel
theorem ef_t1 (m : MethodId) (x0 : Addr) (x1 : Addr) : entryFrame m #[(.ref x0), (.ref x1)] 2 = mkF m 0 #[.val (.ref x0), .val (.ref x1)] [] := by first | (simp [entryFrame, mkF, argsToLocals, Value.category]; done) | rfl
def Qt1 (Z : State) (a1 : Addr) (a2 : Addr) (k2 : ClassId) (c0 : Int32) (u0 : Value) (u1 : Value) (wc : Int32) (h0 : Heap) (n0 : Nat) (v : Option Value) (h : Heap) (L : List Loc) : Prop := v = none ∧ Fr n0 L ∧ Keep h0 h [a1] ∧ ∃ m : Nat, m = h.size ∧ own_T Z h a1 (1 : Int32) m
set_option maxRecDepth 65536 in
set_option maxHeartbeats 40000000 in
theorem rmt1 (l : Launch) (Z : State) (a0 : Array Value) (hw : ∀ d ∈ tables_1, d.before a0 Z = true) (ws : List Jvm.Cond) (a1 : Addr) (a2 : Addr) (k2 : ClassId) (c0 : Int32) (u0 : Value) (u1 : Value) (wc : Int32) (h0 : Heap) (n0 : Nat) (Z0 : n0 ≤ h0.size) (F0 : Old Z n0 h0) (F1 : Exa Z h0 a1 "java/lang/String") (F2 : Fld Z h0 a1 "java/lang/String" "value" "[B" u0) (F3 : Fld Z h0 a1 "java/lang/String" "coder" "B" u1) (F4 : Arv Z h0 a2 k2 .char (1 : Int32) [.int c0] (.int 0)) (ge_a1 : n0 ≤ a1) (SC : Sta Z Z.heap "java/lang/String" "COMPACT_STRINGS" "Z" (.int wc)) (HWC : ¬ (wc = 0)) (SH : Sta Z Z.heap "java/lang/StringUTF16" "HI_BYTE_SHIFT" "I" (.int (0 : Int32))) (SL : Sta Z Z.heap "java/lang/StringUTF16" "LO_BYTE_SHIFT" "I" (.int (8 : Int32))) (SA : Sta Z Z.heap "java/lang/StringUTF16" "$assertionsDisabled" "Z" (.int (1 : Int32))) (hne : a2 ≠ a1) (hw_c0 : own_W c0) :
    MetFree l (⟨"java/lang/String", "<init>", "([C)V"⟩ : MethodName) (head1 (Jvm.Cond.code (⟨"java/lang/String", "<init>", "([C)V"⟩ : MethodName) jdk_42_method_3_code 2 none :: ws) ({ frames := 5, cells := 2, slots := 3, locals := 74 } : Room)) (fun a U => a = #[(.ref a1), (.ref a2)] ∧ Z.Warmed39 U.vm ∧ U.heap = h0) (fun _ _ _ _ _ => True) (fun _ U o U' => ∃ v L, o = .returned v ∧ Qt1 Z a1 a2 k2 c0 u0 u1 wc h0 n0 v U'.heap L ∧ FrameEnd U o U' L ({ frames := 5, cells := 2, slots := 3, locals := 74 } : Room).cells ({ frames := 5, cells := 2, slots := 3, locals := 74 } : Room).slots) := by
  refine MetFree.of_bodySF (plainFor_of_name pn_t1) hisR ?_
  intro p e s m args below meth c s₁ Bd hml0 hP hK
  obtain ⟨rfl, hZ, hh⟩ := hP
  have hx := Bd.exec
  have hby := Bd.bytes
  have hml : c.maxLocals = 2 := hml0
  have hown : s.vm.findClass "java/lang/String" = some m.cls := findClass_of_methodNamed Bd.named
  have hnm := (name_of_methodNamed Bd.named Bd.method).1
  have X0 : Stand p l e ({ frames := 5, cells := 2, slots := 3, locals := 74 } : Room) s m #[(.ref a1), (.ref a2)] below meth c s₁ [] 0 0 := Stand.of_body Bd
  have e0 : s₁.heap = h0 := by rw [← hh, Bd.state]; rfl
  have N0 := Fr.nil n0
  show own_R p.tables e below (own_P s (Qt1 Z a1 a2 k2 c0 u0 u1 wc h0 n0) ({ frames := 5, cells := 2, slots := 3, locals := 74 } : Room).cells ({ frames := 5, cells := 2, slots := 3, locals := 74 } : Room).slots) (s₁.setTop (entryFrame m #[(.ref a1), (.ref a2)] 2))
  refine own_f s₁ (mkF m 0 #[.val (.ref a1), .val (.ref a2)] []) (fun t k => castTop (ef_t1 m a1 a2) k) ?_
  refine own_step (fun t k => XS.aloadN X0.here hx rfl (hb hby dt1_0) rfl rfl k) ?_
  refine own_step (fun t k => XS.aloadN X0.here hx rfl (hb hby dt1_1) rfl rfl k) ?_
  refine own_step (fun t k => XT.iconstV X0.here hx rfl (0 : Int32) (hb hby dt1_2) (by decide) k) ?_
  refine own_f s₁ (mkF m 4 #[.val (.ref a1), .val (.ref a2)] [(.ref a2), (.int (0 : Int32)), (.ref a2), (.ref a1)]) (fun t k => XS.aloadN X0.here hx rfl (hb hby dt1_3) rfl rfl k) ?_
  refine own_f s₁ (mkF m 5 #[.val (.ref a1), .val (.ref a2)] [(.int (1 : Int32)), (.int (0 : Int32)), (.ref a2), (.ref a1)]) (fun t k => own_len X0 hx hZ e0 F4 (g := (mkF m 4 #[.val (.ref a1), .val (.ref a2)] [(.ref a2), (.int (0 : Int32)), (.ref a2), (.ref a1)])) rfl rfl (hb hby dt1_4) k) ?_
  refine own_f s₁ (mkF m 6 #[.val (.ref a1), .val (.ref a2)] [.null, (.int (1 : Int32)), (.int (0 : Int32)), (.ref a2), (.ref a1)]) (fun t k => XS.aconstNull X0.here hx rfl (hb hby dt1_5) k) ?_
  obtain ⟨_, _, ⟨T2, Lq2, kq_2, nq_2⟩, -, X2, ⟨Lc2, hQ2, lq2, yq2, zq2⟩, st2⟩ := X0.specialBack hx (y := (⟨"java/lang/String", "<init>", "([CIILjava/lang/Void;)V"⟩ : MethodName)) rfl hown (mvT hZ (own_w hw 9 rfl)) (mvT hZ (own_w hw 10 rfl)) (mvT hZ (own_w hw 12 rfl)) (by decide) (backOf (W := 0) (rmsu1 l Z a0 hw [] a1 a2 k2 c0 _ _ wc h0 n0 Z0 F0 F1 F2 F3 F4 ge_a1 SC HWC SH SL SA hne hw_c0) hZ (own_w hw 12 rfl) (own_w hw 4 rfl) (by decide) (by decide)) (g := (mkF m 6 #[.val (.ref a1), .val (.ref a2)] [.null, (.int (1 : Int32)), (.int (0 : Int32)), (.ref a2), (.ref a1)])) rfl (by rw [hml]; rfl) (Steps.refl _) (a := a1) (argsL := [(.ref a2), (.int (0 : Int32)), (.int (1 : Int32)), .null]) (rest := []) (lenOf pd__CIILjava_lang_Void_V rfl) rfl (by show 2 * 0 + _ ≤ _; exact Nat.le_of_eq rfl) (hb hby dt1_6) (fun _ _ => ⟨rfl, e0, (by decide : 0 + 2 ≤ _), (by decide : 0 + 3 ≤ _)⟩)
  dsimp only [Pt.U, Pt.locs, Pt.cells, Pt.slots] at X2 lq2 yq2 zq2 st2 hQ2
  subst lq2 yq2 zq2
  obtain ⟨h2, e2⟩ : ∃ z, T2.heap = z := ⟨_, rfl⟩
  rw [e2] at hQ2
  unfold Qsu1 at hQ2
  obtain ⟨rfl, Nq2, q2, mt, hmt, G2⟩ := hQ2
  have N2 := Fr.app N0 Nq2
  have Zs2 : n0 ≤ h2.size := Nat.le_trans Z0 q2.1
  have F_3 : Old Z n0 h2 := F0.keep q2 (allS ge_a1 all0)
  have K2 : Keep h0 h2 [a1] := (Keep.refl h0 [a1]).trans q2 (allS (Or.inl (by simp)) all0)
  have hm : mt ≤ h2.size := Nat.le_of_eq hmt
  refine own_g T2 (mkF m 9 #[.val (.ref a1), .val (.ref a2)] []) st2 ?_
  obtain ⟨fs, hr, hrun, hended, hW, hsame⟩ := X2.leave (v := none) (fun _ => rfl)
  refine ⟨_, _, X2.returnOut hx Bd.returns (hb hby dt1_9) hr, hrun, hended, _, _, rfl, ?_, ⟨_, rfl⟩, hW, hsame.mono (by decide) (by decide)⟩
  show Qt1 Z a1 a2 k2 c0 u0 u1 wc h0 n0 _ T2.heap _
  rw [e2]
  exact ⟨rfl, N2, K2, mt, hmt, G2⟩
theorem dt2_0 : decode jdk_42_method_3_code 0 = .ok (.aload_n 0, 1) := by decide +kernel
theorem dt2_1 : decode jdk_42_method_3_code 1 = .ok (.aload_n 1, 1) := by decide +kernel
theorem dt2_2 : decode jdk_42_method_3_code 2 = .ok (.iconst 0, 1) := by decide +kernel
theorem dt2_3 : decode jdk_42_method_3_code 3 = .ok (.aload_n 1, 1) := by decide +kernel
theorem dt2_4 : decode jdk_42_method_3_code 4 = .ok (.arraylength, 1) := by decide +kernel
theorem dt2_5 : decode jdk_42_method_3_code 5 = .ok (.aconst_null, 1) := by decide +kernel
theorem dt2_6 : decode jdk_42_method_3_code 6 = .ok (.invokespecial 27, 3) := by decide +kernel
theorem dt2_9 : decode jdk_42_method_3_code 9 = .ok (.return_, 1) := by decide +kernel
theorem pn_t2 : plainName "java/lang/String" = true := by first | (simp [plainName, overriddenIn]; done) | decide +kernel
theorem ef_t2 (m : MethodId) (x0 : Addr) (x1 : Addr) : entryFrame m #[(.ref x0), (.ref x1)] 2 = mkF m 0 #[.val (.ref x0), .val (.ref x1)] [] := by first | (simp [entryFrame, mkF, argsToLocals, Value.category]; done) | rfl
def Qt2 (Z : State) (a1 : Addr) (a2 : Addr) (k2 : ClassId) (c0 : Int32) (c1 : Int32) (u0 : Value) (u1 : Value) (wc : Int32) (h0 : Heap) (n0 : Nat) (v : Option Value) (h : Heap) (L : List Loc) : Prop := v = none ∧ Fr n0 L ∧ Keep h0 h [a1] ∧ ∃ m : Nat, m = h.size ∧ own_T Z h a1 (2 : Int32) m
set_option maxRecDepth 65536 in
set_option maxHeartbeats 40000000 in
theorem rmt2 (l : Launch) (Z : State) (a0 : Array Value) (hw : ∀ d ∈ tables_1, d.before a0 Z = true) (ws : List Jvm.Cond) (a1 : Addr) (a2 : Addr) (k2 : ClassId) (c0 : Int32) (c1 : Int32) (u0 : Value) (u1 : Value) (wc : Int32) (h0 : Heap) (n0 : Nat) (Z0 : n0 ≤ h0.size) (F0 : Old Z n0 h0) (F1 : Exa Z h0 a1 "java/lang/String") (F2 : Fld Z h0 a1 "java/lang/String" "value" "[B" u0) (F3 : Fld Z h0 a1 "java/lang/String" "coder" "B" u1) (F4 : Arv Z h0 a2 k2 .char (2 : Int32) [.int c0, .int c1] (.int 0)) (ge_a1 : n0 ≤ a1) (SC : Sta Z Z.heap "java/lang/String" "COMPACT_STRINGS" "Z" (.int wc)) (HWC : ¬ (wc = 0)) (SH : Sta Z Z.heap "java/lang/StringUTF16" "HI_BYTE_SHIFT" "I" (.int (0 : Int32))) (SL : Sta Z Z.heap "java/lang/StringUTF16" "LO_BYTE_SHIFT" "I" (.int (8 : Int32))) (SA : Sta Z Z.heap "java/lang/StringUTF16" "$assertionsDisabled" "Z" (.int (1 : Int32))) (hne : a2 ≠ a1) (hw_c0 : own_W c0) (hw_c1 : own_W c1) :
    MetFree l (⟨"java/lang/String", "<init>", "([C)V"⟩ : MethodName) (head1 (Jvm.Cond.code (⟨"java/lang/String", "<init>", "([C)V"⟩ : MethodName) jdk_42_method_3_code 2 none :: ws) ({ frames := 5, cells := 2, slots := 6, locals := 74 } : Room)) (fun a U => a = #[(.ref a1), (.ref a2)] ∧ Z.Warmed39 U.vm ∧ U.heap = h0) (fun _ _ _ _ _ => True) (fun _ U o U' => ∃ v L, o = .returned v ∧ Qt2 Z a1 a2 k2 c0 c1 u0 u1 wc h0 n0 v U'.heap L ∧ FrameEnd U o U' L ({ frames := 5, cells := 2, slots := 6, locals := 74 } : Room).cells ({ frames := 5, cells := 2, slots := 6, locals := 74 } : Room).slots) := by
  refine MetFree.of_bodySF (plainFor_of_name pn_t2) hisR ?_
  intro p e s m args below meth c s₁ Bd hml0 hP hK
  obtain ⟨rfl, hZ, hh⟩ := hP
  have hx := Bd.exec
  have hby := Bd.bytes
  have hml : c.maxLocals = 2 := hml0
  have hown : s.vm.findClass "java/lang/String" = some m.cls := findClass_of_methodNamed Bd.named
  have hnm := (name_of_methodNamed Bd.named Bd.method).1
  have X0 : Stand p l e ({ frames := 5, cells := 2, slots := 6, locals := 74 } : Room) s m #[(.ref a1), (.ref a2)] below meth c s₁ [] 0 0 := Stand.of_body Bd
  have e0 : s₁.heap = h0 := by rw [← hh, Bd.state]; rfl
  have N0 := Fr.nil n0
  show own_R p.tables e below (own_P s (Qt2 Z a1 a2 k2 c0 c1 u0 u1 wc h0 n0) ({ frames := 5, cells := 2, slots := 6, locals := 74 } : Room).cells ({ frames := 5, cells := 2, slots := 6, locals := 74 } : Room).slots) (s₁.setTop (entryFrame m #[(.ref a1), (.ref a2)] 2))
  refine own_f s₁ (mkF m 0 #[.val (.ref a1), .val (.ref a2)] []) (fun t k => castTop (ef_t2 m a1 a2) k) ?_
  refine own_step (fun t k => XS.aloadN X0.here hx rfl (hb hby dt2_0) rfl rfl k) ?_
  refine own_step (fun t k => XS.aloadN X0.here hx rfl (hb hby dt2_1) rfl rfl k) ?_
  refine own_step (fun t k => XT.iconstV X0.here hx rfl (0 : Int32) (hb hby dt2_2) (by decide) k) ?_
  refine own_f s₁ (mkF m 4 #[.val (.ref a1), .val (.ref a2)] [(.ref a2), (.int (0 : Int32)), (.ref a2), (.ref a1)]) (fun t k => XS.aloadN X0.here hx rfl (hb hby dt2_3) rfl rfl k) ?_
  refine own_f s₁ (mkF m 5 #[.val (.ref a1), .val (.ref a2)] [(.int (2 : Int32)), (.int (0 : Int32)), (.ref a2), (.ref a1)]) (fun t k => own_len X0 hx hZ e0 F4 (g := (mkF m 4 #[.val (.ref a1), .val (.ref a2)] [(.ref a2), (.int (0 : Int32)), (.ref a2), (.ref a1)])) rfl rfl (hb hby dt2_4) k) ?_
  refine own_f s₁ (mkF m 6 #[.val (.ref a1), .val (.ref a2)] [.null, (.int (2 : Int32)), (.int (0 : Int32)), (.ref a2), (.ref a1)]) (fun t k => XS.aconstNull X0.here hx rfl (hb hby dt2_5) k) ?_
  obtain ⟨_, _, ⟨T2, Lq2, kq_2, nq_2⟩, -, X2, ⟨Lc2, hQ2, lq2, yq2, zq2⟩, st2⟩ := X0.specialBack hx (y := (⟨"java/lang/String", "<init>", "([CIILjava/lang/Void;)V"⟩ : MethodName)) rfl hown (mvT hZ (own_w hw 9 rfl)) (mvT hZ (own_w hw 10 rfl)) (mvT hZ (own_w hw 12 rfl)) (by decide) (backOf (W := 0) (rmsu2 l Z a0 hw [] a1 a2 k2 c0 c1 _ _ wc h0 n0 Z0 F0 F1 F2 F3 F4 ge_a1 SC HWC SH SL SA hne hw_c0 hw_c1) hZ (own_w hw 12 rfl) (own_w hw 4 rfl) (by decide) (by decide)) (g := (mkF m 6 #[.val (.ref a1), .val (.ref a2)] [.null, (.int (2 : Int32)), (.int (0 : Int32)), (.ref a2), (.ref a1)])) rfl (by rw [hml]; rfl) (Steps.refl _) (a := a1) (argsL := [(.ref a2), (.int (0 : Int32)), (.int (2 : Int32)), .null]) (rest := []) (lenOf pd__CIILjava_lang_Void_V rfl) rfl (by show 2 * 0 + _ ≤ _; exact Nat.le_of_eq rfl) (hb hby dt2_6) (fun _ _ => ⟨rfl, e0, (by decide : 0 + 2 ≤ _), (by decide : 0 + 6 ≤ _)⟩)
  dsimp only [Pt.U, Pt.locs, Pt.cells, Pt.slots] at X2 lq2 yq2 zq2 st2 hQ2
  subst lq2 yq2 zq2
  obtain ⟨h2, e2⟩ : ∃ z, T2.heap = z := ⟨_, rfl⟩
  rw [e2] at hQ2
  unfold Qsu2 at hQ2
  obtain ⟨rfl, Nq2, q2, mt, hmt, G2⟩ := hQ2
  have N2 := Fr.app N0 Nq2
  have Zs2 : n0 ≤ h2.size := Nat.le_trans Z0 q2.1
  have F_3 : Old Z n0 h2 := F0.keep q2 (allS ge_a1 all0)
  have K2 : Keep h0 h2 [a1] := (Keep.refl h0 [a1]).trans q2 (allS (Or.inl (by simp)) all0)
  have hm : mt ≤ h2.size := Nat.le_of_eq hmt
  refine own_g T2 (mkF m 9 #[.val (.ref a1), .val (.ref a2)] []) st2 ?_
  obtain ⟨fs, hr, hrun, hended, hW, hsame⟩ := X2.leave (v := none) (fun _ => rfl)
  refine ⟨_, _, X2.returnOut hx Bd.returns (hb hby dt2_9) hr, hrun, hended, _, _, rfl, ?_, ⟨_, rfl⟩, hW, hsame.mono (by decide) (by decide)⟩
  show Qt2 Z a1 a2 k2 c0 c1 u0 u1 wc h0 n0 _ T2.heap _
  rw [e2]
  exact ⟨rfl, N2, K2, mt, hmt, G2⟩
theorem dt3_0 : decode jdk_42_method_3_code 0 = .ok (.aload_n 0, 1) := by decide +kernel
theorem dt3_1 : decode jdk_42_method_3_code 1 = .ok (.aload_n 1, 1) := by decide +kernel
theorem dt3_2 : decode jdk_42_method_3_code 2 = .ok (.iconst 0, 1) := by decide +kernel
theorem dt3_3 : decode jdk_42_method_3_code 3 = .ok (.aload_n 1, 1) := by decide +kernel
theorem dt3_4 : decode jdk_42_method_3_code 4 = .ok (.arraylength, 1) := by decide +kernel
theorem dt3_5 : decode jdk_42_method_3_code 5 = .ok (.aconst_null, 1) := by decide +kernel
theorem dt3_6 : decode jdk_42_method_3_code 6 = .ok (.invokespecial 27, 3) := by decide +kernel
theorem dt3_9 : decode jdk_42_method_3_code 9 = .ok (.return_, 1) := by decide +kernel
theorem pn_t3 : plainName "java/lang/String" = true := by first | (simp [plainName, overriddenIn]; done) | decide +kernel
theorem ef_t3 (m : MethodId) (x0 : Addr) (x1 : Addr) : entryFrame m #[(.ref x0), (.ref x1)] 2 = mkF m 0 #[.val (.ref x0), .val (.ref x1)] [] := by first | (simp [entryFrame, mkF, argsToLocals, Value.category]; done) | rfl
def Qt3 (Z : State) (a1 : Addr) (a2 : Addr) (k2 : ClassId) (c0 : Int32) (c1 : Int32) (c2 : Int32) (u0 : Value) (u1 : Value) (wc : Int32) (h0 : Heap) (n0 : Nat) (v : Option Value) (h : Heap) (L : List Loc) : Prop := v = none ∧ Fr n0 L ∧ Keep h0 h [a1] ∧ ∃ m : Nat, m = h.size ∧ own_T Z h a1 (3 : Int32) m
set_option maxRecDepth 65536 in
set_option maxHeartbeats 40000000 in
theorem rmt3 (l : Launch) (Z : State) (a0 : Array Value) (hw : ∀ d ∈ tables_1, d.before a0 Z = true) (ws : List Jvm.Cond) (a1 : Addr) (a2 : Addr) (k2 : ClassId) (c0 : Int32) (c1 : Int32) (c2 : Int32) (u0 : Value) (u1 : Value) (wc : Int32) (h0 : Heap) (n0 : Nat) (Z0 : n0 ≤ h0.size) (F0 : Old Z n0 h0) (F1 : Exa Z h0 a1 "java/lang/String") (F2 : Fld Z h0 a1 "java/lang/String" "value" "[B" u0) (F3 : Fld Z h0 a1 "java/lang/String" "coder" "B" u1) (F4 : Arv Z h0 a2 k2 .char (3 : Int32) [.int c0, .int c1, .int c2] (.int 0)) (ge_a1 : n0 ≤ a1) (SC : Sta Z Z.heap "java/lang/String" "COMPACT_STRINGS" "Z" (.int wc)) (HWC : ¬ (wc = 0)) (SH : Sta Z Z.heap "java/lang/StringUTF16" "HI_BYTE_SHIFT" "I" (.int (0 : Int32))) (SL : Sta Z Z.heap "java/lang/StringUTF16" "LO_BYTE_SHIFT" "I" (.int (8 : Int32))) (SA : Sta Z Z.heap "java/lang/StringUTF16" "$assertionsDisabled" "Z" (.int (1 : Int32))) (hne : a2 ≠ a1) (hw_c0 : own_W c0) (hw_c1 : own_W c1) (hw_c2 : own_W c2) :
    MetFree l (⟨"java/lang/String", "<init>", "([C)V"⟩ : MethodName) (head1 (Jvm.Cond.code (⟨"java/lang/String", "<init>", "([C)V"⟩ : MethodName) jdk_42_method_3_code 2 none :: ws) ({ frames := 5, cells := 2, slots := 9, locals := 74 } : Room)) (fun a U => a = #[(.ref a1), (.ref a2)] ∧ Z.Warmed39 U.vm ∧ U.heap = h0) (fun _ _ _ _ _ => True) (fun _ U o U' => ∃ v L, o = .returned v ∧ Qt3 Z a1 a2 k2 c0 c1 c2 u0 u1 wc h0 n0 v U'.heap L ∧ FrameEnd U o U' L ({ frames := 5, cells := 2, slots := 9, locals := 74 } : Room).cells ({ frames := 5, cells := 2, slots := 9, locals := 74 } : Room).slots) := by
  refine MetFree.of_bodySF (plainFor_of_name pn_t3) hisR ?_
  intro p e s m args below meth c s₁ Bd hml0 hP hK
  obtain ⟨rfl, hZ, hh⟩ := hP
  have hx := Bd.exec
  have hby := Bd.bytes
  have hml : c.maxLocals = 2 := hml0
  have hown : s.vm.findClass "java/lang/String" = some m.cls := findClass_of_methodNamed Bd.named
  have hnm := (name_of_methodNamed Bd.named Bd.method).1
  have X0 : Stand p l e ({ frames := 5, cells := 2, slots := 9, locals := 74 } : Room) s m #[(.ref a1), (.ref a2)] below meth c s₁ [] 0 0 := Stand.of_body Bd
  have e0 : s₁.heap = h0 := by rw [← hh, Bd.state]; rfl
  have N0 := Fr.nil n0
  show own_R p.tables e below (own_P s (Qt3 Z a1 a2 k2 c0 c1 c2 u0 u1 wc h0 n0) ({ frames := 5, cells := 2, slots := 9, locals := 74 } : Room).cells ({ frames := 5, cells := 2, slots := 9, locals := 74 } : Room).slots) (s₁.setTop (entryFrame m #[(.ref a1), (.ref a2)] 2))
  refine own_f s₁ (mkF m 0 #[.val (.ref a1), .val (.ref a2)] []) (fun t k => castTop (ef_t3 m a1 a2) k) ?_
  refine own_step (fun t k => XS.aloadN X0.here hx rfl (hb hby dt3_0) rfl rfl k) ?_
  refine own_step (fun t k => XS.aloadN X0.here hx rfl (hb hby dt3_1) rfl rfl k) ?_
  refine own_step (fun t k => XT.iconstV X0.here hx rfl (0 : Int32) (hb hby dt3_2) (by decide) k) ?_
  refine own_f s₁ (mkF m 4 #[.val (.ref a1), .val (.ref a2)] [(.ref a2), (.int (0 : Int32)), (.ref a2), (.ref a1)]) (fun t k => XS.aloadN X0.here hx rfl (hb hby dt3_3) rfl rfl k) ?_
  refine own_f s₁ (mkF m 5 #[.val (.ref a1), .val (.ref a2)] [(.int (3 : Int32)), (.int (0 : Int32)), (.ref a2), (.ref a1)]) (fun t k => own_len X0 hx hZ e0 F4 (g := (mkF m 4 #[.val (.ref a1), .val (.ref a2)] [(.ref a2), (.int (0 : Int32)), (.ref a2), (.ref a1)])) rfl rfl (hb hby dt3_4) k) ?_
  refine own_f s₁ (mkF m 6 #[.val (.ref a1), .val (.ref a2)] [.null, (.int (3 : Int32)), (.int (0 : Int32)), (.ref a2), (.ref a1)]) (fun t k => XS.aconstNull X0.here hx rfl (hb hby dt3_5) k) ?_
  obtain ⟨_, _, ⟨T2, Lq2, kq_2, nq_2⟩, -, X2, ⟨Lc2, hQ2, lq2, yq2, zq2⟩, st2⟩ := X0.specialBack hx (y := (⟨"java/lang/String", "<init>", "([CIILjava/lang/Void;)V"⟩ : MethodName)) rfl hown (mvT hZ (own_w hw 9 rfl)) (mvT hZ (own_w hw 10 rfl)) (mvT hZ (own_w hw 12 rfl)) (by decide) (backOf (W := 0) (rmsu3 l Z a0 hw [] a1 a2 k2 c0 c1 c2 _ _ wc h0 n0 Z0 F0 F1 F2 F3 F4 ge_a1 SC HWC SH SL SA hne hw_c0 hw_c1 hw_c2) hZ (own_w hw 12 rfl) (own_w hw 4 rfl) (by decide) (by decide)) (g := (mkF m 6 #[.val (.ref a1), .val (.ref a2)] [.null, (.int (3 : Int32)), (.int (0 : Int32)), (.ref a2), (.ref a1)])) rfl (by rw [hml]; rfl) (Steps.refl _) (a := a1) (argsL := [(.ref a2), (.int (0 : Int32)), (.int (3 : Int32)), .null]) (rest := []) (lenOf pd__CIILjava_lang_Void_V rfl) rfl (by show 2 * 0 + _ ≤ _; exact Nat.le_of_eq rfl) (hb hby dt3_6) (fun _ _ => ⟨rfl, e0, (by decide : 0 + 2 ≤ _), (by decide : 0 + 9 ≤ _)⟩)
  dsimp only [Pt.U, Pt.locs, Pt.cells, Pt.slots] at X2 lq2 yq2 zq2 st2 hQ2
  subst lq2 yq2 zq2
  obtain ⟨h2, e2⟩ : ∃ z, T2.heap = z := ⟨_, rfl⟩
  rw [e2] at hQ2
  unfold Qsu3 at hQ2
  obtain ⟨rfl, Nq2, q2, mt, hmt, G2⟩ := hQ2
  have N2 := Fr.app N0 Nq2
  have Zs2 : n0 ≤ h2.size := Nat.le_trans Z0 q2.1
  have F_3 : Old Z n0 h2 := F0.keep q2 (allS ge_a1 all0)
  have K2 : Keep h0 h2 [a1] := (Keep.refl h0 [a1]).trans q2 (allS (Or.inl (by simp)) all0)
  have hm : mt ≤ h2.size := Nat.le_of_eq hmt
  refine own_g T2 (mkF m 9 #[.val (.ref a1), .val (.ref a2)] []) st2 ?_
  obtain ⟨fs, hr, hrun, hended, hW, hsame⟩ := X2.leave (v := none) (fun _ => rfl)
  refine ⟨_, _, X2.returnOut hx Bd.returns (hb hby dt3_9) hr, hrun, hended, _, _, rfl, ?_, ⟨_, rfl⟩, hW, hsame.mono (by decide) (by decide)⟩
  show Qt3 Z a1 a2 k2 c0 c1 c2 u0 u1 wc h0 n0 _ T2.heap _
  rw [e2]
  exact ⟨rfl, N2, K2, mt, hmt, G2⟩
theorem dce_0 : decode jdk_43_method_3_code 0 = .ok (.iload_n 0, 1) := by decide +kernel
theorem dce_1 : decode jdk_43_method_3_code 1 = .ok (.sipush 255, 3) := by decide +kernel
theorem dce_4 : decode jdk_43_method_3_code 4 = .ok (.if_icmp .gt 7, 3) := by decide +kernel
theorem dce_7 : decode jdk_43_method_3_code 7 = .ok (.iconst 1, 1) := by decide +kernel
theorem dce_8 : decode jdk_43_method_3_code 8 = .ok (.goto 4, 3) := by decide +kernel
theorem dce_11 : decode jdk_43_method_3_code 11 = .ok (.iconst 0, 1) := by decide +kernel
theorem dce_12 : decode jdk_43_method_3_code 12 = .ok (.ireturn, 1) := by decide +kernel
theorem pn_ce : plainName "java/lang/StringLatin1" = true := by first | (simp [plainName, overriddenIn]; done) | decide +kernel
theorem ef_ce (m : MethodId) (x0 : Int32) : entryFrame m #[(.int x0)] 1 = mkF m 0 #[.val (.int x0)] [] := by first | (simp [entryFrame, mkF, argsToLocals, Value.category]; done) | rfl
def Qce (Z : State) (cc : Int32) (h0 : Heap) (n0 : Nat) (v : Option Value) (h : Heap) (L : List Loc) : Prop := v = some (.int (own_le cc)) ∧ Fr n0 L ∧ h = h0
set_option maxRecDepth 65536 in
set_option maxHeartbeats 40000000 in
theorem rmce (l : Launch) (Z : State) (a0 : Array Value) (hw : ∀ d ∈ tables_1, d.before a0 Z = true) (ws : List Jvm.Cond) (cc : Int32) (h0 : Heap) (n0 : Nat) (Z0 : n0 ≤ h0.size) :
    MetFree l (⟨"java/lang/StringLatin1", "canEncode", "(C)Z"⟩ : MethodName) (head1 (Jvm.Cond.code (⟨"java/lang/StringLatin1", "canEncode", "(C)Z"⟩ : MethodName) jdk_43_method_3_code 1 (some .boolean) :: ws) ({ frames := 0, cells := 0, slots := 0, locals := 0 } : Room)) (fun a U => a = #[(.int cc)] ∧ Z.Warmed39 U.vm ∧ U.heap = h0) (fun _ _ _ _ _ => True) (fun _ U o U' => ∃ v L, o = .returned v ∧ Qce Z cc h0 n0 v U'.heap L ∧ FrameEnd U o U' L ({ frames := 0, cells := 0, slots := 0, locals := 0 } : Room).cells ({ frames := 0, cells := 0, slots := 0, locals := 0 } : Room).slots) := by
  refine MetFree.of_bodySF (plainFor_of_name pn_ce) hisR ?_
  intro p e s m args below meth c s₁ Bd hml0 hP hK
  obtain ⟨rfl, hZ, hh⟩ := hP
  have hx := Bd.exec
  have hby := Bd.bytes
  have hml : c.maxLocals = 1 := hml0
  have hown : s.vm.findClass "java/lang/StringLatin1" = some m.cls := findClass_of_methodNamed Bd.named
  have hnm := (name_of_methodNamed Bd.named Bd.method).1
  have X0 : Stand p l e ({ frames := 0, cells := 0, slots := 0, locals := 0 } : Room) s m #[(.int cc)] below meth c s₁ [] 0 0 := Stand.of_body Bd
  have e0 : s₁.heap = h0 := by rw [← hh, Bd.state]; rfl
  have N0 := Fr.nil n0
  show own_R p.tables e below (own_P s (Qce Z cc h0 n0) ({ frames := 0, cells := 0, slots := 0, locals := 0 } : Room).cells ({ frames := 0, cells := 0, slots := 0, locals := 0 } : Room).slots) (s₁.setTop (entryFrame m #[(.int cc)] 1))
  refine own_f s₁ (mkF m 0 #[.val (.int cc)] []) (fun t k => castTop (ef_ce m cc) k) ?_
  refine own_step (fun t k => XS.iloadN X0.here hx rfl (hb hby dce_0) rfl k) ?_
  refine own_step (fun t k => XT.sipushV X0.here hx rfl (255 : Int32) (hb hby dce_1) (by decide) k) ?_
  by_cases hc1 : (255 : Int32) < cc
  · skip
    refine own_f s₁ (mkF m 11 #[.val (.int cc)] []) (fun t k => XS.icmpYes X0.here hx rfl (pc0 := 4) (pc' := 11) rfl (hb hby dce_4) rfl (XT.ii_gt_t hc1) (by decide) (by decide) k) ?_
    refine own_f s₁ (mkF m 12 #[.val (.int cc)] [(.int (0 : Int32))]) (fun t k => XT.iconstV X0.here hx rfl (0 : Int32) (hb hby dce_11) (by decide) k) ?_
    obtain ⟨fs, hr, hrun, hended, hW, hsame⟩ := X0.leave (v := some (.int (0 : Int32))) (fun h => by rw [Bd.returns] at h; cases h)
    refine ⟨_, _, retN X0 hx (t := .boolean) Bd.returns (by simp) (hb hby dce_12) hr, hrun, hended, _, _, rfl, ?_, ⟨_, rfl⟩, hW, hsame.mono (by decide) (by decide)⟩
    show Qce Z cc h0 n0 _ s₁.heap _
    rw [e0]
    exact ⟨by rw [own_le, if_pos hc1] <;> rfl, N0, rfl⟩
  · skip
    refine own_f s₁ (mkF m 7 #[.val (.int cc)] []) (fun t k => XS.icmpNo X0.here hx rfl (hb hby dce_4) rfl (XT.ii_gt_f hc1) k) ?_
    refine own_step (fun t k => XT.iconstV X0.here hx rfl (1 : Int32) (hb hby dce_7) (by decide) k) ?_
    refine own_f s₁ (mkF m 12 #[.val (.int cc)] [(.int (1 : Int32))]) (fun t k => XS.goto X0.here hx rfl (pc0 := 8) (pc' := 12) rfl (hb hby dce_8) (by decide) (by decide) k) ?_
    obtain ⟨fs, hr, hrun, hended, hW, hsame⟩ := X0.leave (v := some (.int (1 : Int32))) (fun h => by rw [Bd.returns] at h; cases h)
    refine ⟨_, _, retN X0 hx (t := .boolean) Bd.returns (by simp) (hb hby dce_12) hr, hrun, hended, _, _, rfl, ?_, ⟨_, rfl⟩, hW, hsame.mono (by decide) (by decide)⟩
    show Qce Z cc h0 n0 _ s₁.heap _
    rw [e0]
    exact ⟨by rw [own_le, if_neg hc1] <;> rfl, N0, rfl⟩
theorem dlt_0 : decode jdk_43_method_46_code 0 = .ok (.iconst 1, 1) := by decide +kernel
theorem dlt_1 : decode jdk_43_method_46_code 1 = .ok (.newarray .byte, 2) := by decide +kernel
theorem dlt_3 : decode jdk_43_method_46_code 3 = .ok (.dup, 1) := by decide +kernel
theorem dlt_4 : decode jdk_43_method_46_code 4 = .ok (.iconst 0, 1) := by decide +kernel
theorem dlt_5 : decode jdk_43_method_46_code 5 = .ok (.iload_n 0, 1) := by decide +kernel
theorem dlt_6 : decode jdk_43_method_46_code 6 = .ok (.i2b, 1) := by decide +kernel
theorem dlt_7 : decode jdk_43_method_46_code 7 = .ok (.bastore, 1) := by decide +kernel
theorem dlt_8 : decode jdk_43_method_46_code 8 = .ok (.areturn, 1) := by decide +kernel
theorem pn_lt : plainName "java/lang/StringLatin1" = true := by first | (simp [plainName, overriddenIn]; done) | decide +kernel
theorem ef_lt (m : MethodId) (x0 : Int32) : entryFrame m #[(.int x0)] 1 = mkF m 0 #[.val (.int x0)] [] := by first | (simp [entryFrame, mkF, argsToLocals, Value.category]; done) | rfl
def Qlt (Z : State) (cc : Int32) (h0 : Heap) (n0 : Nat) (v : Option Value) (h : Heap) (L : List Loc) : Prop := ∃ b : Addr, v = some (.ref b) ∧ Fr n0 L ∧ Keep h0 h []
set_option maxRecDepth 65536 in
set_option maxHeartbeats 40000000 in
theorem rmlt (l : Launch) (Z : State) (a0 : Array Value) (hw : ∀ d ∈ tables_1, d.before a0 Z = true) (ws : List Jvm.Cond) (cc : Int32) (h0 : Heap) (n0 : Nat) (Z0 : n0 ≤ h0.size) (F0 : Old Z n0 h0) :
    MetFree l (⟨"java/lang/StringLatin1", "toBytes", "(C)[B"⟩ : MethodName) (head1 (Jvm.Cond.code (⟨"java/lang/StringLatin1", "toBytes", "(C)[B"⟩ : MethodName) jdk_43_method_46_code 1 (some (.array .byte)) :: ws) ({ frames := 1, cells := 1, slots := 1, locals := 14 } : Room)) (fun a U => a = #[(.int cc)] ∧ Z.Warmed39 U.vm ∧ U.heap = h0) (fun _ _ _ _ _ => True) (fun _ U o U' => ∃ v L, o = .returned v ∧ Qlt Z cc h0 n0 v U'.heap L ∧ FrameEnd U o U' L ({ frames := 1, cells := 1, slots := 1, locals := 14 } : Room).cells ({ frames := 1, cells := 1, slots := 1, locals := 14 } : Room).slots) := by
  refine MetFree.of_bodySF (plainFor_of_name pn_lt) hisR ?_
  intro p e s m args below meth c s₁ Bd hml0 hP hK
  obtain ⟨rfl, hZ, hh⟩ := hP
  have hx := Bd.exec
  have hby := Bd.bytes
  have hml : c.maxLocals = 1 := hml0
  have hown : s.vm.findClass "java/lang/StringLatin1" = some m.cls := findClass_of_methodNamed Bd.named
  have hnm := (name_of_methodNamed Bd.named Bd.method).1
  have X0 : Stand p l e ({ frames := 1, cells := 1, slots := 1, locals := 14 } : Room) s m #[(.int cc)] below meth c s₁ [] 0 0 := Stand.of_body Bd
  have e0 : s₁.heap = h0 := by rw [← hh, Bd.state]; rfl
  have N0 := Fr.nil n0
  show own_R p.tables e below (own_P s (Qlt Z cc h0 n0) ({ frames := 1, cells := 1, slots := 1, locals := 14 } : Room).cells ({ frames := 1, cells := 1, slots := 1, locals := 14 } : Room).slots) (s₁.setTop (entryFrame m #[(.int cc)] 1))
  refine own_f s₁ (mkF m 0 #[.val (.int cc)] []) (fun t k => castTop (ef_lt m cc) k) ?_
  refine own_f s₁ (mkF m 1 #[.val (.int cc)] [(.int (1 : Int32))]) (fun t k => XT.iconstV X0.here hx rfl (1 : Int32) (hb hby dlt_0) (by decide) k) ?_
  obtain ⟨T1, h1, kA1, X1, e1, E1, A1, st1⟩ := newP X0 hx hZ (own_w hw 21 rfl) e0 (g := (mkF m 1 #[.val (.int cc)] [(.int (1 : Int32))])) rfl (hb hby dlt_1) rfl (by decide) (cap := 1) (by decide) (by decide) (by decide) (by decide)
  obtain ⟨b1, g1⟩ : ∃ z, z = h0.size := ⟨_, rfl⟩
  rw [← g1] at A1 st1
  have ge1 : n0 ≤ b1 := by rw [g1]; exact Z0
  have gf1 : h0.size ≤ b1 := by rw [g1]; exact (Keep.refl h0 []).1
  have Zs1 : n0 ≤ h1.size := Nat.le_trans Z0 E1.1
  have F_2 := F0.ext E1
  have K1 : Keep h0 h1 [] := (Keep.refl h0 []).ext E1
  have F_3 : Arv Z h1 b1 kA1 .byte (1 : Int32) [.int 0] (.int 0) := own_arvnew 1 A1 (by decide)
  refine own_f T1 (mkF m 3 #[.val (.int cc)] [(.ref b1)]) st1 ?_
  refine own_step (fun t k => XS.dup X1.here hx rfl (hb hby dlt_3) rfl rfl k) ?_
  refine own_step (fun t k => XT.iconstV X1.here hx rfl (0 : Int32) (hb hby dlt_4) (by decide) k) ?_
  refine own_step (fun t k => XS.iloadN X1.here hx rfl (hb hby dlt_5) rfl k) ?_
  refine own_f T1 (mkF m 7 #[.val (.int cc)] [(.int (cc.toInt8.toInt32)), (.int (0 : Int32)), (.ref b1), (.ref b1)]) (fun t k => XS.i2b X1.here hx rfl (hb hby dlt_6) rfl k) ?_
  obtain ⟨cl4, Ar4, q14, Sz4, q34, Hs4, Gs4⟩ := id F_3
  obtain ⟨T4, h4, X4, e4, W4, st4⟩ := stB X1 hx hZ e1 Ar4 (j := (0 : Int32)) (inb_of Sz4 ⟨by decide, by decide⟩) (g := (mkF m 7 #[.val (.int cc)] [(.int (cc.toInt8.toInt32)), (.int (0 : Int32)), (.ref b1), (.ref b1)])) rfl rfl (hb hby dlt_7)
  have N4 := Fr.snoc X4 N0 ge1
  have Zs4 : n0 ≤ h4.size := by rw [W4.size]; exact Zs1
  have K4 : Keep h0 h4 [] := K1.wr W4 (Or.inr gf1)
  have F_5 := F_2.wr W4 ge1
  have F_6 : Arv Z h4 b1 kA1 .byte (1 : Int32) [.int (cc.toInt8.toInt32)] (.int 0) := Arv.set Ar4 q14 Sz4 q34 Hs4 Gs4 (by rw [← ((own_narB _) : nar .byte (cc.toInt8.toInt32) = (cc.toInt8.toInt32))]; exact own_fitB _) (by rw [((own_narB _) : nar .byte (cc.toInt8.toInt32) = (cc.toInt8.toInt32))] at W4; exact W4) 0 (by decide) (by simp)
  refine own_f T4 (mkF m 8 #[.val (.int cc)] [(.ref b1)]) st4 ?_
  obtain ⟨fs, hr, hrun, hended, hW, hsame⟩ := X4.leave (v := some (.ref b1)) (fun h => by rw [Bd.returns] at h; cases h)
  refine ⟨_, _, retOut X4 hx Bd.returns (by rfl) (Or.inr (Or.inr (Or.inr (Or.inr ⟨rfl, rfl, rfl⟩)))) (hb hby dlt_8) hr, hrun, hended, _, _, rfl, ?_, ⟨_, rfl⟩, hW, hsame.mono (by decide) (by decide)⟩
  show Qlt Z cc h0 n0 _ T4.heap _
  rw [e4]
  exact ⟨b1, rfl, N4, K4⟩
theorem dut_0 : decode jdk_52_method_24_code 0 = .ok (.iconst 2, 1) := by decide +kernel
theorem dut_1 : decode jdk_52_method_24_code 1 = .ok (.newarray .byte, 2) := by decide +kernel
theorem dut_3 : decode jdk_52_method_24_code 3 = .ok (.astore_n 1, 1) := by decide +kernel
theorem dut_4 : decode jdk_52_method_24_code 4 = .ok (.aload_n 1, 1) := by decide +kernel
theorem dut_5 : decode jdk_52_method_24_code 5 = .ok (.iconst 0, 1) := by decide +kernel
theorem dut_6 : decode jdk_52_method_24_code 6 = .ok (.iload_n 0, 1) := by decide +kernel
theorem dut_7 : decode jdk_52_method_24_code 7 = .ok (.invokestatic 111, 3) := by decide +kernel
theorem dut_10 : decode jdk_52_method_24_code 10 = .ok (.aload_n 1, 1) := by decide +kernel
theorem dut_11 : decode jdk_52_method_24_code 11 = .ok (.areturn, 1) := by decide +kernel
theorem pn_ut : plainName "java/lang/StringUTF16" = true := by first | (simp [plainName, overriddenIn]; done) | decide +kernel
theorem ef_ut (m : MethodId) (x0 : Int32) : entryFrame m #[(.int x0)] 2 = mkF m 0 #[.val (.int x0), .unset] [] := by first | (simp [entryFrame, mkF, argsToLocals, Value.category]; done) | rfl
def Qut (Z : State) (cc : Int32) (h0 : Heap) (n0 : Nat) (v : Option Value) (h : Heap) (L : List Loc) : Prop := ∃ b : Addr, v = some (.ref b) ∧ Fr n0 L ∧ Keep h0 h []
set_option maxRecDepth 65536 in
set_option maxHeartbeats 40000000 in
theorem rmut (l : Launch) (Z : State) (a0 : Array Value) (hw : ∀ d ∈ tables_1, d.before a0 Z = true) (ws : List Jvm.Cond) (cc : Int32) (h0 : Heap) (n0 : Nat) (Z0 : n0 ≤ h0.size) (F0 : Old Z n0 h0) (SH : Sta Z Z.heap "java/lang/StringUTF16" "HI_BYTE_SHIFT" "I" (.int (0 : Int32))) (SL : Sta Z Z.heap "java/lang/StringUTF16" "LO_BYTE_SHIFT" "I" (.int (8 : Int32))) (SA : Sta Z Z.heap "java/lang/StringUTF16" "$assertionsDisabled" "Z" (.int (1 : Int32))) :
    MetFree l (⟨"java/lang/StringUTF16", "toBytes", "(C)[B"⟩ : MethodName) (head1 (Jvm.Cond.code (⟨"java/lang/StringUTF16", "toBytes", "(C)[B"⟩ : MethodName) jdk_52_method_24_code 2 (some (.array .byte)) :: ws) ({ frames := 1, cells := 1, slots := 2, locals := 14 } : Room)) (fun a U => a = #[(.int cc)] ∧ Z.Warmed39 U.vm ∧ U.heap = h0) (fun _ _ _ _ _ => True) (fun _ U o U' => ∃ v L, o = .returned v ∧ Qut Z cc h0 n0 v U'.heap L ∧ FrameEnd U o U' L ({ frames := 1, cells := 1, slots := 2, locals := 14 } : Room).cells ({ frames := 1, cells := 1, slots := 2, locals := 14 } : Room).slots) := by
  refine MetFree.of_bodySF (plainFor_of_name pn_ut) hisR ?_
  intro p e s m args below meth c s₁ Bd hml0 hP hK
  obtain ⟨rfl, hZ, hh⟩ := hP
  have hx := Bd.exec
  have hby := Bd.bytes
  have hml : c.maxLocals = 2 := hml0
  have hown : s.vm.findClass "java/lang/StringUTF16" = some m.cls := findClass_of_methodNamed Bd.named
  have hnm := (name_of_methodNamed Bd.named Bd.method).1
  have X0 : Stand p l e ({ frames := 1, cells := 1, slots := 2, locals := 14 } : Room) s m #[(.int cc)] below meth c s₁ [] 0 0 := Stand.of_body Bd
  have e0 : s₁.heap = h0 := by rw [← hh, Bd.state]; rfl
  have N0 := Fr.nil n0
  show own_R p.tables e below (own_P s (Qut Z cc h0 n0) ({ frames := 1, cells := 1, slots := 2, locals := 14 } : Room).cells ({ frames := 1, cells := 1, slots := 2, locals := 14 } : Room).slots) (s₁.setTop (entryFrame m #[(.int cc)] 2))
  refine own_f s₁ (mkF m 0 #[.val (.int cc), .unset] []) (fun t k => castTop (ef_ut m cc) k) ?_
  refine own_f s₁ (mkF m 1 #[.val (.int cc), .unset] [(.int (2 : Int32))]) (fun t k => XT.iconstV X0.here hx rfl (2 : Int32) (hb hby dut_0) (by decide) k) ?_
  obtain ⟨T1, h1, kA1, X1, e1, E1, A1, st1⟩ := newP X0 hx hZ (own_w hw 21 rfl) e0 (g := (mkF m 1 #[.val (.int cc), .unset] [(.int (2 : Int32))])) rfl (hb hby dut_1) rfl (by decide) (cap := 2) (by decide) (by decide) (by decide) (by decide)
  obtain ⟨b1, g1⟩ : ∃ z, z = h0.size := ⟨_, rfl⟩
  rw [← g1] at A1 st1
  have ge1 : n0 ≤ b1 := by rw [g1]; exact Z0
  have gf1 : h0.size ≤ b1 := by rw [g1]; exact (Keep.refl h0 []).1
  have Zs1 : n0 ≤ h1.size := Nat.le_trans Z0 E1.1
  have F_2 := F0.ext E1
  have K1 : Keep h0 h1 [] := (Keep.refl h0 []).ext E1
  have F_3 : Arv Z h1 b1 kA1 .byte (2 : Int32) [.int 0, .int 0] (.int 0) := own_arvnew 2 A1 (by decide)
  refine own_f T1 (mkF m 3 #[.val (.int cc), .unset] [(.ref b1)]) st1 ?_
  refine own_f T1 (mkF m 4 #[.val (.int cc), .val (.ref b1)] []) (fun t k => XS.astoreN X1.here hx rfl (hb hby dut_3) rfl rfl (l' := #[.val (.int cc), .val (.ref b1)]) rfl k) ?_
  refine own_step (fun t k => XS.aloadN X1.here hx rfl (hb hby dut_4) rfl rfl k) ?_
  refine own_step (fun t k => XT.iconstV X1.here hx rfl (0 : Int32) (hb hby dut_5) (by decide) k) ?_
  refine own_f T1 (mkF m 7 #[.val (.int cc), .val (.ref b1)] [(.int cc), (.int (0 : Int32)), (.ref b1)]) (fun t k => XS.iloadN X1.here hx rfl (hb hby dut_6) rfl k) ?_
  obtain ⟨_, _, ⟨T4, Lq4, kq_4, nq_4⟩, -, X4, ⟨Lc4, hQ4, lq4, yq4, zq4⟩, st4⟩ := Jvm.LawKit.callS X1 hx (y := (⟨"java/lang/StringUTF16", "putChar", "([BII)V"⟩ : MethodName)) hown (mvT hZ (own_w hw 83 rfl)) (mvT hZ (own_w hw 84 rfl)) (mvT hZ (own_w hw 19 rfl)) (mvT hZ (own_w hw 85 rfl)) (by decide) (backOf (W := 0) (rmpc1_0 l Z a0 hw [] b1 _ cc _ _ h1 n0 Zs1 F_2 F_3 ge1 SH SL SA) hZ (own_w hw 85 rfl) (own_w hw 19 rfl) (by decide) (by decide)) (g := (mkF m 7 #[.val (.int cc), .val (.ref b1)] [(.int cc), (.int (0 : Int32)), (.ref b1)])) rfl (by rw [hml]; rfl) (argsL := [(.ref b1), (.int (0 : Int32)), (.int cc)]) (rest := []) (lenOf pd__BII_V rfl) rfl (by show 2 * 0 + _ ≤ _; exact Nat.le_of_eq rfl) (hb hby dut_7) (fun _ _ => ⟨rfl, e1, (by decide : 0 + 1 + 0 ≤ _), (by decide : 0 + 2 + 0 ≤ _)⟩)
  dsimp only [Pt.U, Pt.locs, Pt.cells, Pt.slots] at X4 lq4 yq4 zq4 st4 hQ4
  subst lq4 yq4 zq4
  obtain ⟨h4, e4⟩ : ∃ z, T4.heap = z := ⟨_, rfl⟩
  rw [e4] at hQ4
  unfold Qpc1_0 at hQ4
  obtain ⟨rfl, Nq4, qh4, G4_0⟩ := hQ4
  have N4 := Fr.app N0 Nq4
  have Zs4 : n0 ≤ h4.size := Nat.le_trans Zs1 qh4.1
  have F_5 := F_2.keep qh4 (allS ge1 all0)
  have K4 : Keep h0 h4 [] := K1.trans qh4 (allS (Or.inr gf1) all0)
  refine own_f T4 (mkF m 10 #[.val (.int cc), .val (.ref b1)] []) st4 ?_
  refine own_f T4 (mkF m 11 #[.val (.int cc), .val (.ref b1)] [(.ref b1)]) (fun t k => XS.aloadN X4.here hx rfl (hb hby dut_10) rfl rfl k) ?_
  obtain ⟨fs, hr, hrun, hended, hW, hsame⟩ := X4.leave (v := some (.ref b1)) (fun h => by rw [Bd.returns] at h; cases h)
  refine ⟨_, _, retOut X4 hx Bd.returns (by rfl) (Or.inr (Or.inr (Or.inr (Or.inr ⟨rfl, rfl, rfl⟩)))) (hb hby dut_11) hr, hrun, hended, _, _, rfl, ?_, ⟨_, rfl⟩, hW, hsame.mono (by decide) (by decide)⟩
  show Qut Z cc h0 n0 _ T4.heap _
  rw [e4]
  exact ⟨b1, rfl, N4, K4⟩
theorem dbb0_0 : decode jdk_42_method_151_code 0 = .ok (.aload_n 0, 1) := by decide +kernel
theorem dbb0_1 : decode jdk_42_method_151_code 1 = .ok (.invokespecial 1, 3) := by decide +kernel
theorem dbb0_4 : decode jdk_42_method_151_code 4 = .ok (.aload_n 0, 1) := by decide +kernel
theorem dbb0_5 : decode jdk_42_method_151_code 5 = .ok (.aload_n 1, 1) := by decide +kernel
theorem dbb0_6 : decode jdk_42_method_151_code 6 = .ok (.putfield 9, 3) := by decide +kernel
theorem dbb0_9 : decode jdk_42_method_151_code 9 = .ok (.aload_n 0, 1) := by decide +kernel
theorem dbb0_10 : decode jdk_42_method_151_code 10 = .ok (.iload_n 2, 1) := by decide +kernel
theorem dbb0_11 : decode jdk_42_method_151_code 11 = .ok (.putfield 15, 3) := by decide +kernel
theorem dbb0_14 : decode jdk_42_method_151_code 14 = .ok (.return_, 1) := by decide +kernel
theorem pn_bb0 : plainName "java/lang/String" = true := by first | (simp [plainName, overriddenIn]; done) | decide +kernel
theorem ef_bb0 (m : MethodId) (x0 : Addr) (x1 : Addr) (x2 : Int32) : entryFrame m #[(.ref x0), (.ref x1), (.int x2)] 3 = mkF m 0 #[.val (.ref x0), .val (.ref x1), .val (.int x2)] [] := by first | (simp [entryFrame, mkF, argsToLocals, Value.category]; done) | rfl
def Qbb0 (Z : State) (a1 : Addr) (a2 : Addr) (u0 : Value) (u1 : Value) (h0 : Heap) (n0 : Nat) (v : Option Value) (h : Heap) (L : List Loc) : Prop := v = none ∧ Fr n0 L ∧ Keep h0 h [a1]
set_option maxRecDepth 65536 in
set_option maxHeartbeats 40000000 in
theorem rmbb0 (l : Launch) (Z : State) (a0 : Array Value) (hw : ∀ d ∈ tables_1, d.before a0 Z = true) (ws : List Jvm.Cond) (a1 : Addr) (a2 : Addr) (u0 : Value) (u1 : Value) (h0 : Heap) (n0 : Nat) (Z0 : n0 ≤ h0.size) (F0 : Exa Z h0 a1 "java/lang/String") (F1 : Fld Z h0 a1 "java/lang/String" "value" "[B" u0) (F2 : Fld Z h0 a1 "java/lang/String" "coder" "B" u1) (ge_a1 : n0 ≤ a1) :
    MetFree l (⟨"java/lang/String", "<init>", "([BB)V"⟩ : MethodName) (head1 (Jvm.Cond.code (⟨"java/lang/String", "<init>", "([BB)V"⟩ : MethodName) jdk_42_method_151_code 3 none :: ws) ({ frames := 1, cells := 0, slots := 0, locals := 12 } : Room)) (fun a U => a = #[(.ref a1), (.ref a2), (.int (0 : Int32))] ∧ Z.Warmed39 U.vm ∧ U.heap = h0) (fun _ _ _ _ _ => True) (fun _ U o U' => ∃ v L, o = .returned v ∧ Qbb0 Z a1 a2 u0 u1 h0 n0 v U'.heap L ∧ FrameEnd U o U' L ({ frames := 1, cells := 0, slots := 0, locals := 12 } : Room).cells ({ frames := 1, cells := 0, slots := 0, locals := 12 } : Room).slots) := by
  refine MetFree.of_bodySF (plainFor_of_name pn_bb0) hisR ?_
  intro p e s m args below meth c s₁ Bd hml0 hP hK
  obtain ⟨rfl, hZ, hh⟩ := hP
  have hx := Bd.exec
  have hby := Bd.bytes
  have hml : c.maxLocals = 3 := hml0
  have hown : s.vm.findClass "java/lang/String" = some m.cls := findClass_of_methodNamed Bd.named
  have hnm := (name_of_methodNamed Bd.named Bd.method).1
  have X0 : Stand p l e ({ frames := 1, cells := 0, slots := 0, locals := 12 } : Room) s m #[(.ref a1), (.ref a2), (.int (0 : Int32))] below meth c s₁ [] 0 0 := Stand.of_body Bd
  have e0 : s₁.heap = h0 := by rw [← hh, Bd.state]; rfl
  have N0 := Fr.nil n0
  show own_R p.tables e below (own_P s (Qbb0 Z a1 a2 u0 u1 h0 n0) ({ frames := 1, cells := 0, slots := 0, locals := 12 } : Room).cells ({ frames := 1, cells := 0, slots := 0, locals := 12 } : Room).slots) (s₁.setTop (entryFrame m #[(.ref a1), (.ref a2), (.int (0 : Int32))] 3))
  refine own_f s₁ (mkF m 0 #[.val (.ref a1), .val (.ref a2), .val (.int (0 : Int32))] []) (fun t k => castTop (ef_bb0 m a1 a2 (0 : Int32)) k) ?_
  refine own_f s₁ (mkF m 1 #[.val (.ref a1), .val (.ref a2), .val (.int (0 : Int32))] [(.ref a1)]) (fun t k => XS.aloadN X0.here hx rfl (hb hby dbb0_0) rfl rfl k) ?_
  obtain ⟨T1, X1, e1, st1⟩ := initO X0 hx hZ hown (own_w hw 13 rfl) (own_w hw 14 rfl) (own_w hw 15 rfl) e0 (g := (mkF m 1 #[.val (.ref a1), .val (.ref a2), .val (.int (0 : Int32))] [(.ref a1)])) rfl (by rw [hml]; rfl) rfl (hb hby dbb0_1) (by decide) (W := 0) (by show 2 * 0 + _ ≤ _; exact Nat.le_of_eq rfl) (by decide)
  refine own_f T1 (mkF m 4 #[.val (.ref a1), .val (.ref a2), .val (.int (0 : Int32))] []) st1 ?_
  refine own_step (fun t k => XS.aloadN X1.here hx rfl (hb hby dbb0_4) rfl rfl k) ?_
  refine own_f T1 (mkF m 6 #[.val (.ref a1), .val (.ref a2), .val (.int (0 : Int32))] [(.ref a2), (.ref a1)]) (fun t k => XS.aloadN X1.here hx rfl (hb hby dbb0_5) rfl rfl k) ?_
  obtain ⟨T2, h2, X2, e2, W2, st2⟩ := putF X1 hx hZ hown (host := "") (Or.inl (own_w hw 30 rfl)) Via.refl e1 F1 F0 (Or.inr ⟨(own_w hw 31 rfl), rfl, hnm⟩) (own_w hw 3 rfl) (ty := (.array .byte)) (by decide) rfl rfl (g := (mkF m 6 #[.val (.ref a1), .val (.ref a2), .val (.int (0 : Int32))] [(.ref a2), (.ref a1)])) rfl rfl (hb hby dbb0_6)
  have N2 := Fr.snoc X2 N0 ge_a1
  have Zs2 : n0 ≤ h2.size := by rw [W2.size]; exact Z0
  have K2 : Keep h0 h2 [a1] := (Keep.refl h0 [a1]).wr W2 (Or.inl (by simp))
  have F_3 := F0.wr W2
  have F_4 := F1.same W2
  have F_5 := F2.other W2 (Or.inr (slot_ne (Or.inr (own_w hw 29 rfl)) (Or.inr (own_w hw 31 rfl)) (by decide) (t := .byte) (t' := (.array .byte)) (by decide) (by decide)))
  refine own_f T2 (mkF m 9 #[.val (.ref a1), .val (.ref a2), .val (.int (0 : Int32))] []) st2 ?_
  refine own_step (fun t k => XS.aloadN X2.here hx rfl (hb hby dbb0_9) rfl rfl k) ?_
  refine own_f T2 (mkF m 11 #[.val (.ref a1), .val (.ref a2), .val (.int (0 : Int32))] [(.int (0 : Int32)), (.ref a1)]) (fun t k => XS.iloadN X2.here hx rfl (hb hby dbb0_10) rfl k) ?_
  obtain ⟨T6, h6, X6, e6, W6, st6⟩ := putF X2 hx hZ hown (host := "") (Or.inl (own_w hw 28 rfl)) Via.refl e2 F_5 F_3 (Or.inr ⟨(own_w hw 29 rfl), rfl, hnm⟩) (own_w hw 3 rfl) (ty := .byte) (by decide) rfl rfl (g := (mkF m 11 #[.val (.ref a1), .val (.ref a2), .val (.int (0 : Int32))] [(.int (0 : Int32)), (.ref a1)])) rfl rfl (hb hby dbb0_11)
  have N6 := Fr.snoc X6 N2 ge_a1
  have Zs6 : n0 ≤ h6.size := by rw [W6.size]; exact Zs2
  have K6 : Keep h0 h6 [a1] := K2.wr W6 (Or.inl (by simp))
  have F_7 := F_3.wr W6
  have F_8 := F_4.other W6 (Or.inr (slot_ne (Or.inr (own_w hw 31 rfl)) (Or.inr (own_w hw 29 rfl)) (by decide) (t := (.array .byte)) (t' := .byte) (by decide) (by decide)))
  have F_9 := F_5.same W6
  refine own_f T6 (mkF m 14 #[.val (.ref a1), .val (.ref a2), .val (.int (0 : Int32))] []) st6 ?_
  obtain ⟨fs, hr, hrun, hended, hW, hsame⟩ := X6.leave (v := none) (fun _ => rfl)
  refine ⟨_, _, X6.returnOut hx Bd.returns (hb hby dbb0_14) hr, hrun, hended, _, _, rfl, ?_, ⟨_, rfl⟩, hW, hsame.mono (by decide) (by decide)⟩
  show Qbb0 Z a1 a2 u0 u1 h0 n0 _ T6.heap _
  rw [e6]
  exact ⟨rfl, N6, K6⟩
theorem dbb1_0 : decode jdk_42_method_151_code 0 = .ok (.aload_n 0, 1) := by decide +kernel
theorem dbb1_1 : decode jdk_42_method_151_code 1 = .ok (.invokespecial 1, 3) := by decide +kernel
theorem dbb1_4 : decode jdk_42_method_151_code 4 = .ok (.aload_n 0, 1) := by decide +kernel
theorem dbb1_5 : decode jdk_42_method_151_code 5 = .ok (.aload_n 1, 1) := by decide +kernel
theorem dbb1_6 : decode jdk_42_method_151_code 6 = .ok (.putfield 9, 3) := by decide +kernel
theorem dbb1_9 : decode jdk_42_method_151_code 9 = .ok (.aload_n 0, 1) := by decide +kernel
theorem dbb1_10 : decode jdk_42_method_151_code 10 = .ok (.iload_n 2, 1) := by decide +kernel
theorem dbb1_11 : decode jdk_42_method_151_code 11 = .ok (.putfield 15, 3) := by decide +kernel
theorem dbb1_14 : decode jdk_42_method_151_code 14 = .ok (.return_, 1) := by decide +kernel
theorem pn_bb1 : plainName "java/lang/String" = true := by first | (simp [plainName, overriddenIn]; done) | decide +kernel
theorem ef_bb1 (m : MethodId) (x0 : Addr) (x1 : Addr) (x2 : Int32) : entryFrame m #[(.ref x0), (.ref x1), (.int x2)] 3 = mkF m 0 #[.val (.ref x0), .val (.ref x1), .val (.int x2)] [] := by first | (simp [entryFrame, mkF, argsToLocals, Value.category]; done) | rfl
def Qbb1 (Z : State) (a1 : Addr) (a2 : Addr) (u0 : Value) (u1 : Value) (h0 : Heap) (n0 : Nat) (v : Option Value) (h : Heap) (L : List Loc) : Prop := v = none ∧ Fr n0 L ∧ Keep h0 h [a1]
set_option maxRecDepth 65536 in
set_option maxHeartbeats 40000000 in
theorem rmbb1 (l : Launch) (Z : State) (a0 : Array Value) (hw : ∀ d ∈ tables_1, d.before a0 Z = true) (ws : List Jvm.Cond) (a1 : Addr) (a2 : Addr) (u0 : Value) (u1 : Value) (h0 : Heap) (n0 : Nat) (Z0 : n0 ≤ h0.size) (F0 : Exa Z h0 a1 "java/lang/String") (F1 : Fld Z h0 a1 "java/lang/String" "value" "[B" u0) (F2 : Fld Z h0 a1 "java/lang/String" "coder" "B" u1) (ge_a1 : n0 ≤ a1) :
    MetFree l (⟨"java/lang/String", "<init>", "([BB)V"⟩ : MethodName) (head1 (Jvm.Cond.code (⟨"java/lang/String", "<init>", "([BB)V"⟩ : MethodName) jdk_42_method_151_code 3 none :: ws) ({ frames := 1, cells := 0, slots := 0, locals := 12 } : Room)) (fun a U => a = #[(.ref a1), (.ref a2), (.int (1 : Int32))] ∧ Z.Warmed39 U.vm ∧ U.heap = h0) (fun _ _ _ _ _ => True) (fun _ U o U' => ∃ v L, o = .returned v ∧ Qbb1 Z a1 a2 u0 u1 h0 n0 v U'.heap L ∧ FrameEnd U o U' L ({ frames := 1, cells := 0, slots := 0, locals := 12 } : Room).cells ({ frames := 1, cells := 0, slots := 0, locals := 12 } : Room).slots) := by
  refine MetFree.of_bodySF (plainFor_of_name pn_bb1) hisR ?_
  intro p e s m args below meth c s₁ Bd hml0 hP hK
  obtain ⟨rfl, hZ, hh⟩ := hP
  have hx := Bd.exec
  have hby := Bd.bytes
  have hml : c.maxLocals = 3 := hml0
  have hown : s.vm.findClass "java/lang/String" = some m.cls := findClass_of_methodNamed Bd.named
  have hnm := (name_of_methodNamed Bd.named Bd.method).1
  have X0 : Stand p l e ({ frames := 1, cells := 0, slots := 0, locals := 12 } : Room) s m #[(.ref a1), (.ref a2), (.int (1 : Int32))] below meth c s₁ [] 0 0 := Stand.of_body Bd
  have e0 : s₁.heap = h0 := by rw [← hh, Bd.state]; rfl
  have N0 := Fr.nil n0
  show own_R p.tables e below (own_P s (Qbb1 Z a1 a2 u0 u1 h0 n0) ({ frames := 1, cells := 0, slots := 0, locals := 12 } : Room).cells ({ frames := 1, cells := 0, slots := 0, locals := 12 } : Room).slots) (s₁.setTop (entryFrame m #[(.ref a1), (.ref a2), (.int (1 : Int32))] 3))
  refine own_f s₁ (mkF m 0 #[.val (.ref a1), .val (.ref a2), .val (.int (1 : Int32))] []) (fun t k => castTop (ef_bb1 m a1 a2 (1 : Int32)) k) ?_
  refine own_f s₁ (mkF m 1 #[.val (.ref a1), .val (.ref a2), .val (.int (1 : Int32))] [(.ref a1)]) (fun t k => XS.aloadN X0.here hx rfl (hb hby dbb1_0) rfl rfl k) ?_
  obtain ⟨T1, X1, e1, st1⟩ := initO X0 hx hZ hown (own_w hw 13 rfl) (own_w hw 14 rfl) (own_w hw 15 rfl) e0 (g := (mkF m 1 #[.val (.ref a1), .val (.ref a2), .val (.int (1 : Int32))] [(.ref a1)])) rfl (by rw [hml]; rfl) rfl (hb hby dbb1_1) (by decide) (W := 0) (by show 2 * 0 + _ ≤ _; exact Nat.le_of_eq rfl) (by decide)
  refine own_f T1 (mkF m 4 #[.val (.ref a1), .val (.ref a2), .val (.int (1 : Int32))] []) st1 ?_
  refine own_step (fun t k => XS.aloadN X1.here hx rfl (hb hby dbb1_4) rfl rfl k) ?_
  refine own_f T1 (mkF m 6 #[.val (.ref a1), .val (.ref a2), .val (.int (1 : Int32))] [(.ref a2), (.ref a1)]) (fun t k => XS.aloadN X1.here hx rfl (hb hby dbb1_5) rfl rfl k) ?_
  obtain ⟨T2, h2, X2, e2, W2, st2⟩ := putF X1 hx hZ hown (host := "") (Or.inl (own_w hw 30 rfl)) Via.refl e1 F1 F0 (Or.inr ⟨(own_w hw 31 rfl), rfl, hnm⟩) (own_w hw 3 rfl) (ty := (.array .byte)) (by decide) rfl rfl (g := (mkF m 6 #[.val (.ref a1), .val (.ref a2), .val (.int (1 : Int32))] [(.ref a2), (.ref a1)])) rfl rfl (hb hby dbb1_6)
  have N2 := Fr.snoc X2 N0 ge_a1
  have Zs2 : n0 ≤ h2.size := by rw [W2.size]; exact Z0
  have K2 : Keep h0 h2 [a1] := (Keep.refl h0 [a1]).wr W2 (Or.inl (by simp))
  have F_3 := F0.wr W2
  have F_4 := F1.same W2
  have F_5 := F2.other W2 (Or.inr (slot_ne (Or.inr (own_w hw 29 rfl)) (Or.inr (own_w hw 31 rfl)) (by decide) (t := .byte) (t' := (.array .byte)) (by decide) (by decide)))
  refine own_f T2 (mkF m 9 #[.val (.ref a1), .val (.ref a2), .val (.int (1 : Int32))] []) st2 ?_
  refine own_step (fun t k => XS.aloadN X2.here hx rfl (hb hby dbb1_9) rfl rfl k) ?_
  refine own_f T2 (mkF m 11 #[.val (.ref a1), .val (.ref a2), .val (.int (1 : Int32))] [(.int (1 : Int32)), (.ref a1)]) (fun t k => XS.iloadN X2.here hx rfl (hb hby dbb1_10) rfl k) ?_
  obtain ⟨T6, h6, X6, e6, W6, st6⟩ := putF X2 hx hZ hown (host := "") (Or.inl (own_w hw 28 rfl)) Via.refl e2 F_5 F_3 (Or.inr ⟨(own_w hw 29 rfl), rfl, hnm⟩) (own_w hw 3 rfl) (ty := .byte) (by decide) rfl rfl (g := (mkF m 11 #[.val (.ref a1), .val (.ref a2), .val (.int (1 : Int32))] [(.int (1 : Int32)), (.ref a1)])) rfl rfl (hb hby dbb1_11)
  have N6 := Fr.snoc X6 N2 ge_a1
  have Zs6 : n0 ≤ h6.size := by rw [W6.size]; exact Zs2
  have K6 : Keep h0 h6 [a1] := K2.wr W6 (Or.inl (by simp))
  have F_7 := F_3.wr W6
  have F_8 := F_4.other W6 (Or.inr (slot_ne (Or.inr (own_w hw 31 rfl)) (Or.inr (own_w hw 29 rfl)) (by decide) (t := (.array .byte)) (t' := .byte) (by decide) (by decide)))
  have F_9 := F_5.same W6
  refine own_f T6 (mkF m 14 #[.val (.ref a1), .val (.ref a2), .val (.int (1 : Int32))] []) st6 ?_
  obtain ⟨fs, hr, hrun, hended, hW, hsame⟩ := X6.leave (v := none) (fun _ => rfl)
  refine ⟨_, _, X6.returnOut hx Bd.returns (hb hby dbb1_14) hr, hrun, hended, _, _, rfl, ?_, ⟨_, rfl⟩, hW, hsame.mono (by decide) (by decide)⟩
  show Qbb1 Z a1 a2 u0 u1 h0 n0 _ T6.heap _
  rw [e6]
  exact ⟨rfl, N6, K6⟩
theorem dvo_0 : decode jdk_42_method_139_code 0 = .ok (.getstatic 38, 3) := by decide +kernel
theorem dvo_3 : decode jdk_42_method_139_code 3 = .ok (.ifCond .eq 23, 3) := by decide +kernel
theorem dvo_6 : decode jdk_42_method_139_code 6 = .ok (.iload_n 0, 1) := by decide +kernel
theorem dvo_7 : decode jdk_42_method_139_code 7 = .ok (.invokestatic 1015, 3) := by decide +kernel
theorem dvo_10 : decode jdk_42_method_139_code 10 = .ok (.ifCond .eq 16, 3) := by decide +kernel
theorem dvo_13 : decode jdk_42_method_139_code 13 = .ok (.new 10, 3) := by decide +kernel
theorem dvo_16 : decode jdk_42_method_139_code 16 = .ok (.dup, 1) := by decide +kernel
theorem dvo_17 : decode jdk_42_method_139_code 17 = .ok (.iload_n 0, 1) := by decide +kernel
theorem dvo_18 : decode jdk_42_method_139_code 18 = .ok (.invokestatic 1018, 3) := by decide +kernel
theorem dvo_21 : decode jdk_42_method_139_code 21 = .ok (.iconst 0, 1) := by decide +kernel
theorem dvo_22 : decode jdk_42_method_139_code 22 = .ok (.invokespecial 209, 3) := by decide +kernel
theorem dvo_25 : decode jdk_42_method_139_code 25 = .ok (.areturn, 1) := by decide +kernel
theorem dvo_26 : decode jdk_42_method_139_code 26 = .ok (.new 10, 3) := by decide +kernel
theorem dvo_29 : decode jdk_42_method_139_code 29 = .ok (.dup, 1) := by decide +kernel
theorem dvo_30 : decode jdk_42_method_139_code 30 = .ok (.iload_n 0, 1) := by decide +kernel
theorem dvo_31 : decode jdk_42_method_139_code 31 = .ok (.invokestatic 1021, 3) := by decide +kernel
theorem dvo_34 : decode jdk_42_method_139_code 34 = .ok (.iconst 1, 1) := by decide +kernel
theorem dvo_35 : decode jdk_42_method_139_code 35 = .ok (.invokespecial 209, 3) := by decide +kernel
theorem dvo_38 : decode jdk_42_method_139_code 38 = .ok (.areturn, 1) := by decide +kernel
theorem pn_vo : plainName "java/lang/String" = true := by first | (simp [plainName, overriddenIn]; done) | decide +kernel
theorem ef_vo (m : MethodId) (x0 : Int32) : entryFrame m #[(.int x0)] 1 = mkF m 0 #[.val (.int x0)] [] := by first | (simp [entryFrame, mkF, argsToLocals, Value.category]; done) | rfl
def Qvo (Z : State) (cc : Int32) (wc : Int32) (h0 : Heap) (n0 : Nat) (v : Option Value) (h : Heap) (L : List Loc) : Prop := ∃ b : Addr, v = some (.ref b) ∧ Fr n0 L ∧ Keep h0 h []
set_option maxRecDepth 65536 in
set_option maxHeartbeats 40000000 in
theorem rmvo (l : Launch) (Z : State) (a0 : Array Value) (hw : ∀ d ∈ tables_1, d.before a0 Z = true) (ws : List Jvm.Cond) (cc : Int32) (wc : Int32) (h0 : Heap) (n0 : Nat) (Z0 : n0 ≤ h0.size) (F0 : Old Z n0 h0) (SC : Sta Z Z.heap "java/lang/String" "COMPACT_STRINGS" "Z" (.int wc)) (HWC : ¬ (wc = 0)) (SH : Sta Z Z.heap "java/lang/StringUTF16" "HI_BYTE_SHIFT" "I" (.int (0 : Int32))) (SL : Sta Z Z.heap "java/lang/StringUTF16" "LO_BYTE_SHIFT" "I" (.int (8 : Int32))) (SA : Sta Z Z.heap "java/lang/StringUTF16" "$assertionsDisabled" "Z" (.int (1 : Int32))) :
    MetFree l (⟨"java/lang/String", "valueOf", "(C)Ljava/lang/String;"⟩ : MethodName) (head1 (Jvm.Cond.code (⟨"java/lang/String", "valueOf", "(C)Ljava/lang/String;"⟩ : MethodName) jdk_42_method_139_code 1 (some (.object "java/lang/String")) :: ws) ({ frames := 2, cells := 2, slots := 6, locals := 40 } : Room)) (fun a U => a = #[(.int cc)] ∧ Z.Warmed39 U.vm ∧ U.heap = h0) (fun _ _ _ _ _ => True) (fun _ U o U' => ∃ v L, o = .returned v ∧ Qvo Z cc wc h0 n0 v U'.heap L ∧ FrameEnd U o U' L ({ frames := 2, cells := 2, slots := 6, locals := 40 } : Room).cells ({ frames := 2, cells := 2, slots := 6, locals := 40 } : Room).slots) := by
  refine MetFree.of_bodySF (plainFor_of_name pn_vo) hisR ?_
  intro p e s m args below meth c s₁ Bd hml0 hP hK
  obtain ⟨rfl, hZ, hh⟩ := hP
  have hx := Bd.exec
  have hby := Bd.bytes
  have hml : c.maxLocals = 1 := hml0
  have hown : s.vm.findClass "java/lang/String" = some m.cls := findClass_of_methodNamed Bd.named
  have hnm := (name_of_methodNamed Bd.named Bd.method).1
  have X0 : Stand p l e ({ frames := 2, cells := 2, slots := 6, locals := 40 } : Room) s m #[(.int cc)] below meth c s₁ [] 0 0 := Stand.of_body Bd
  have e0 : s₁.heap = h0 := by rw [← hh, Bd.state]; rfl
  have N0 := Fr.nil n0
  show own_R p.tables e below (own_P s (Qvo Z cc wc h0 n0) ({ frames := 2, cells := 2, slots := 6, locals := 40 } : Room).cells ({ frames := 2, cells := 2, slots := 6, locals := 40 } : Room).slots) (s₁.setTop (entryFrame m #[(.int cc)] 1))
  refine own_f s₁ (mkF m 0 #[.val (.int cc)] []) (fun t k => castTop (ef_vo m cc) k) ?_
  have S1 : Sta Z h0 "java/lang/String" "COMPACT_STRINGS" "Z" (.int wc) := SC.ext F0.2
  obtain ⟨T1, X1, e1, st1⟩ := getS X0 hx hZ (host := "") hown (own_w hw 16 rfl) Via.refl e0 S1 (g := (mkF m 0 #[.val (.int cc)] [])) rfl (hb hby dvo_0)
  refine own_f T1 (mkF m 3 #[.val (.int cc)] [(.int wc)]) st1 ?_
  refine own_f T1 (mkF m 6 #[.val (.int cc)] []) (fun t k => XS.ifNo X1.here hx rfl (hb hby dvo_3) rfl (XT.i0_eq_f HWC) k) ?_
  refine own_f T1 (mkF m 7 #[.val (.int cc)] [(.int cc)]) (fun t k => XS.iloadN X1.here hx rfl (hb hby dvo_6) rfl k) ?_
  obtain ⟨_, _, ⟨T2, Lq2, kq_2, nq_2⟩, -, X2, ⟨Lc2, hQ2, lq2, yq2, zq2⟩, st2⟩ := Jvm.LawKit.callS X1 hx (y := (⟨"java/lang/StringLatin1", "canEncode", "(C)Z"⟩ : MethodName)) hown (mvT hZ (own_w hw 35 rfl)) (mvT hZ (own_w hw 36 rfl)) (mvT hZ (own_w hw 37 rfl)) (mvT hZ (own_w hw 38 rfl)) (by decide) (backOf (W := 0) (rmce l Z a0 hw [] cc h0 n0 Z0 ) hZ (own_w hw 38 rfl) (own_w hw 37 rfl) (by decide) (by decide)) (g := (mkF m 7 #[.val (.int cc)] [(.int cc)])) rfl (by rw [hml]; rfl) (argsL := [(.int cc)]) (rest := []) (lenOf pd__C_Z rfl) rfl (by show 2 * 0 + _ ≤ _; exact Nat.le_of_eq rfl) (hb hby dvo_7) (fun _ _ => ⟨rfl, e1, (by decide : 0 + 0 ≤ _), (by decide : 0 + 0 ≤ _)⟩)
  dsimp only [Pt.U, Pt.locs, Pt.cells, Pt.slots] at X2 lq2 yq2 zq2 st2 hQ2
  subst lq2 yq2 zq2
  obtain ⟨h2, e2⟩ : ∃ z, T2.heap = z := ⟨_, rfl⟩
  rw [e2] at hQ2
  unfold Qce at hQ2
  obtain ⟨rfl, Nq2, qh2⟩ := hQ2
  have N2 := Fr.app N0 Nq2
  rw [qh2] at e2
  refine own_f T2 (mkF m 10 #[.val (.int cc)] [(.int (own_le cc))]) st2 ?_
  by_cases hc3 : (own_le cc) = 0
  · skip
    refine own_f T2 (mkF m 26 #[.val (.int cc)] []) (fun t k => XS.ifYes X2.here hx rfl (pc0 := 10) (pc' := 26) rfl (hb hby dvo_10) rfl (XT.i0_eq_t hc3) (by decide) (by decide) k) ?_
    obtain ⟨T4, h4, X4, e4, E4, A4, D4, U4, st4⟩ := newO X2 hx hZ hown (own_w hw 39 rfl) (own_w hw 3 rfl) (own_w hw 4 rfl) e2 (g := (mkF m 26 #[.val (.int cc)] [])) rfl (hb hby dvo_26) (by decide) (by decide)
    obtain ⟨b4, g4⟩ : ∃ z, z = h0.size := ⟨_, rfl⟩
    rw [← g4] at A4 D4 st4
    have ge4 : n0 ≤ b4 := by rw [g4]; exact Z0
    have gf4 : h0.size ≤ b4 := by rw [g4]; exact (Keep.refl h0 []).1
    have Zs4 : n0 ≤ h4.size := Nat.le_trans Z0 E4.1
    have F_5 := F0.ext E4
    have K4 : Keep h0 h4 [] := (Keep.refl h0 []).ext E4
    have F_6 : Fld Z h4 b4 "java/lang/String" "coder" "B" (.int 0) := D4 (Or.inr (own_w hw 29 rfl)) (ty := .byte) (by decide)
    have F_7 : Fld Z h4 b4 "java/lang/String" "value" "[B" .null := D4 (Or.inr (own_w hw 31 rfl)) (ty := (.array .byte)) (by decide)
    refine own_f T4 (mkF m 29 #[.val (.int cc)] [(.ref b4)]) st4 ?_
    refine own_step (fun t k => XS.dup X4.here hx rfl (hb hby dvo_29) rfl rfl k) ?_
    refine own_f T4 (mkF m 31 #[.val (.int cc)] [(.int cc), (.ref b4), (.ref b4)]) (fun t k => XS.iloadN X4.here hx rfl (hb hby dvo_30) rfl k) ?_
    obtain ⟨_, _, ⟨T8, Lq8, kq_8, nq_8⟩, -, X8, ⟨Lc8, hQ8, lq8, yq8, zq8⟩, st8⟩ := Jvm.LawKit.callS X4 hx (y := (⟨"java/lang/StringUTF16", "toBytes", "(C)[B"⟩ : MethodName)) hown (mvT hZ (own_w hw 92 rfl)) (mvT hZ (own_w hw 93 rfl)) (mvT hZ (own_w hw 19 rfl)) (mvT hZ (own_w hw 94 rfl)) (by decide) (backOf (W := 2) (rmut l Z a0 hw [] cc h4 n0 Zs4 F_5 SH SL SA) hZ (own_w hw 94 rfl) (own_w hw 19 rfl) (by decide) (by decide)) (g := (mkF m 31 #[.val (.int cc)] [(.int cc), (.ref b4), (.ref b4)])) rfl (by rw [hml]; rfl) (argsL := [(.int cc)]) (rest := [(.ref b4), (.ref b4)]) (lenOf pd__C_B rfl) rfl (by show 2 * 0 + _ ≤ _; exact Nat.le_of_eq rfl) (hb hby dvo_31) (fun _ _ => ⟨rfl, e4, (by decide : 0 + 0 + 1 + 1 ≤ _), (by decide : 0 + 0 + 4 + 2 ≤ _)⟩)
    dsimp only [Pt.U, Pt.locs, Pt.cells, Pt.slots] at X8 lq8 yq8 zq8 st8 hQ8
    subst lq8 yq8 zq8
    obtain ⟨h8, e8⟩ : ∃ z, T8.heap = z := ⟨_, rfl⟩
    rw [e8] at hQ8
    unfold Qut at hQ8
    obtain ⟨b8, rfl, Nq8, qh8⟩ := hQ8
    have N8 := Fr.app N2 Nq8
    have Zs8 : n0 ≤ h8.size := Nat.le_trans Zs4 qh8.1
    have F_9 := F_5.keep qh8 all0
    have F_10 := A4.keep qh8
    have F_11 := F_6.keep qh8 nin0
    have F_12 := F_7.keep qh8 nin0
    have K8 : Keep h0 h8 [] := K4.trans qh8 all0
    refine own_f T8 (mkF m 34 #[.val (.int cc)] [(.ref b8), (.ref b4), (.ref b4)]) st8 ?_
    refine own_f T8 (mkF m 35 #[.val (.int cc)] [(.int (1 : Int32)), (.ref b8), (.ref b4), (.ref b4)]) (fun t k => XT.iconstV X8.here hx rfl (1 : Int32) (hb hby dvo_34) (by decide) k) ?_
    obtain ⟨_, _, ⟨T13, Lq13, kq_13, nq_13⟩, -, X13, ⟨Lc13, hQ13, lq13, yq13, zq13⟩, st13⟩ := X8.specialBack hx (y := (⟨"java/lang/String", "<init>", "([BB)V"⟩ : MethodName)) rfl hown (mvT hZ (own_w hw 43 rfl)) (mvT hZ (own_w hw 44 rfl)) (mvT hZ (own_w hw 45 rfl)) (by decide) (backOf (W := 1) (rmbb1 l Z a0 hw [] b4 b8 _ _ h8 n0 Zs8 F_10 F_12 F_11 ge4) hZ (own_w hw 45 rfl) (own_w hw 4 rfl) (by decide) (by decide)) (g := (mkF m 35 #[.val (.int cc)] [(.int (1 : Int32)), (.ref b8), (.ref b4), (.ref b4)])) rfl (by rw [hml]; rfl) (Steps.refl _) (a := b4) (argsL := [(.ref b8), (.int (1 : Int32))]) (rest := [(.ref b4)]) (lenOf pd__BB_V rfl) rfl (by show 2 * 0 + _ ≤ _; exact Nat.le_of_eq rfl) (hb hby dvo_35) (fun _ _ => ⟨rfl, e8, (by decide : 0 + 0 + 1 + 1 + 0 ≤ _), (by decide : 0 + 0 + 4 + 2 + 0 ≤ _)⟩)
    dsimp only [Pt.U, Pt.locs, Pt.cells, Pt.slots] at X13 lq13 yq13 zq13 st13 hQ13
    subst lq13 yq13 zq13
    obtain ⟨h13, e13⟩ : ∃ z, T13.heap = z := ⟨_, rfl⟩
    rw [e13] at hQ13
    unfold Qbb1 at hQ13
    obtain ⟨rfl, Nq13, qh13⟩ := hQ13
    have N13 := Fr.app N8 Nq13
    have Zs13 : n0 ≤ h13.size := Nat.le_trans Zs8 qh13.1
    have F_14 := F_9.keep qh13 (allS ge4 all0)
    have F_15 := F_10.keep qh13
    have K13 : Keep h0 h13 [] := K8.trans qh13 (allS (Or.inr gf4) all0)
    refine own_g T13 (mkF m 38 #[.val (.int cc)] [(.ref b4)]) st13 ?_
    obtain ⟨fs, hr, hrun, hended, hW, hsame⟩ := X13.leave (v := some (.ref b4)) (fun h => by rw [Bd.returns] at h; cases h)
    refine ⟨_, _, retOut X13 hx Bd.returns (by rfl) (Or.inr (Or.inr (Or.inr (Or.inr ⟨rfl, rfl, rfl⟩)))) (hb hby dvo_38) hr, hrun, hended, _, _, rfl, ?_, ⟨_, rfl⟩, hW, hsame.mono (by decide) (by decide)⟩
    show Qvo Z cc wc h0 n0 _ T13.heap _
    rw [e13]
    exact ⟨b4, rfl, N13, K13⟩
  · skip
    refine own_f T2 (mkF m 13 #[.val (.int cc)] []) (fun t k => XS.ifNo X2.here hx rfl (hb hby dvo_10) rfl (XT.i0_eq_f hc3) k) ?_
    obtain ⟨T16, h16, X16, e16, E16, A16, D16, U16, st16⟩ := newO X2 hx hZ hown (own_w hw 39 rfl) (own_w hw 3 rfl) (own_w hw 4 rfl) e2 (g := (mkF m 13 #[.val (.int cc)] [])) rfl (hb hby dvo_13) (by decide) (by decide)
    obtain ⟨b16, g16⟩ : ∃ z, z = h0.size := ⟨_, rfl⟩
    rw [← g16] at A16 D16 st16
    have ge16 : n0 ≤ b16 := by rw [g16]; exact Z0
    have gf16 : h0.size ≤ b16 := by rw [g16]; exact (Keep.refl h0 []).1
    have Zs16 : n0 ≤ h16.size := Nat.le_trans Z0 E16.1
    have F_17 := F0.ext E16
    have K16 : Keep h0 h16 [] := (Keep.refl h0 []).ext E16
    have F_18 : Fld Z h16 b16 "java/lang/String" "coder" "B" (.int 0) := D16 (Or.inr (own_w hw 29 rfl)) (ty := .byte) (by decide)
    have F_19 : Fld Z h16 b16 "java/lang/String" "value" "[B" .null := D16 (Or.inr (own_w hw 31 rfl)) (ty := (.array .byte)) (by decide)
    refine own_f T16 (mkF m 16 #[.val (.int cc)] [(.ref b16)]) st16 ?_
    refine own_step (fun t k => XS.dup X16.here hx rfl (hb hby dvo_16) rfl rfl k) ?_
    refine own_f T16 (mkF m 18 #[.val (.int cc)] [(.int cc), (.ref b16), (.ref b16)]) (fun t k => XS.iloadN X16.here hx rfl (hb hby dvo_17) rfl k) ?_
    obtain ⟨_, _, ⟨T20, Lq20, kq_20, nq_20⟩, -, X20, ⟨Lc20, hQ20, lq20, yq20, zq20⟩, st20⟩ := Jvm.LawKit.callS X16 hx (y := (⟨"java/lang/StringLatin1", "toBytes", "(C)[B"⟩ : MethodName)) hown (mvT hZ (own_w hw 40 rfl)) (mvT hZ (own_w hw 41 rfl)) (mvT hZ (own_w hw 37 rfl)) (mvT hZ (own_w hw 42 rfl)) (by decide) (backOf (W := 2) (rmlt l Z a0 hw [] cc h16 n0 Zs16 F_17) hZ (own_w hw 42 rfl) (own_w hw 37 rfl) (by decide) (by decide)) (g := (mkF m 18 #[.val (.int cc)] [(.int cc), (.ref b16), (.ref b16)])) rfl (by rw [hml]; rfl) (argsL := [(.int cc)]) (rest := [(.ref b16), (.ref b16)]) (lenOf pd__C_B rfl) rfl (by show 2 * 0 + _ ≤ _; exact Nat.le_of_eq rfl) (hb hby dvo_18) (fun _ _ => ⟨rfl, e16, (by decide : 0 + 0 + 1 + 1 ≤ _), (by decide : 0 + 0 + 4 + 1 ≤ _)⟩)
    dsimp only [Pt.U, Pt.locs, Pt.cells, Pt.slots] at X20 lq20 yq20 zq20 st20 hQ20
    subst lq20 yq20 zq20
    obtain ⟨h20, e20⟩ : ∃ z, T20.heap = z := ⟨_, rfl⟩
    rw [e20] at hQ20
    unfold Qlt at hQ20
    obtain ⟨b20, rfl, Nq20, qh20⟩ := hQ20
    have N20 := Fr.app N2 Nq20
    have Zs20 : n0 ≤ h20.size := Nat.le_trans Zs16 qh20.1
    have F_21 := F_17.keep qh20 all0
    have F_22 := A16.keep qh20
    have F_23 := F_18.keep qh20 nin0
    have F_24 := F_19.keep qh20 nin0
    have K20 : Keep h0 h20 [] := K16.trans qh20 all0
    refine own_f T20 (mkF m 21 #[.val (.int cc)] [(.ref b20), (.ref b16), (.ref b16)]) st20 ?_
    refine own_f T20 (mkF m 22 #[.val (.int cc)] [(.int (0 : Int32)), (.ref b20), (.ref b16), (.ref b16)]) (fun t k => XT.iconstV X20.here hx rfl (0 : Int32) (hb hby dvo_21) (by decide) k) ?_
    obtain ⟨_, _, ⟨T25, Lq25, kq_25, nq_25⟩, -, X25, ⟨Lc25, hQ25, lq25, yq25, zq25⟩, st25⟩ := X20.specialBack hx (y := (⟨"java/lang/String", "<init>", "([BB)V"⟩ : MethodName)) rfl hown (mvT hZ (own_w hw 43 rfl)) (mvT hZ (own_w hw 44 rfl)) (mvT hZ (own_w hw 45 rfl)) (by decide) (backOf (W := 1) (rmbb0 l Z a0 hw [] b16 b20 _ _ h20 n0 Zs20 F_22 F_24 F_23 ge16) hZ (own_w hw 45 rfl) (own_w hw 4 rfl) (by decide) (by decide)) (g := (mkF m 22 #[.val (.int cc)] [(.int (0 : Int32)), (.ref b20), (.ref b16), (.ref b16)])) rfl (by rw [hml]; rfl) (Steps.refl _) (a := b16) (argsL := [(.ref b20), (.int (0 : Int32))]) (rest := [(.ref b16)]) (lenOf pd__BB_V rfl) rfl (by show 2 * 0 + _ ≤ _; exact Nat.le_of_eq rfl) (hb hby dvo_22) (fun _ _ => ⟨rfl, e20, (by decide : 0 + 0 + 1 + 1 + 0 ≤ _), (by decide : 0 + 0 + 4 + 1 + 0 ≤ _)⟩)
    dsimp only [Pt.U, Pt.locs, Pt.cells, Pt.slots] at X25 lq25 yq25 zq25 st25 hQ25
    subst lq25 yq25 zq25
    obtain ⟨h25, e25⟩ : ∃ z, T25.heap = z := ⟨_, rfl⟩
    rw [e25] at hQ25
    unfold Qbb0 at hQ25
    obtain ⟨rfl, Nq25, qh25⟩ := hQ25
    have N25 := Fr.app N20 Nq25
    have Zs25 : n0 ≤ h25.size := Nat.le_trans Zs20 qh25.1
    have F_26 := F_21.keep qh25 (allS ge16 all0)
    have F_27 := F_22.keep qh25
    have K25 : Keep h0 h25 [] := K20.trans qh25 (allS (Or.inr gf16) all0)
    refine own_g T25 (mkF m 25 #[.val (.int cc)] [(.ref b16)]) st25 ?_
    obtain ⟨fs, hr, hrun, hended, hW, hsame⟩ := X25.leave (v := some (.ref b16)) (fun h => by rw [Bd.returns] at h; cases h)
    refine ⟨_, _, retOut X25 hx Bd.returns (by rfl) (Or.inr (Or.inr (Or.inr (Or.inr ⟨rfl, rfl, rfl⟩)))) (hb hby dvo_25) hr, hrun, hended, _, _, rfl, ?_, ⟨_, rfl⟩, hW, hsame.mono (by decide) (by decide)⟩
    show Qvo Z cc wc h0 n0 _ T25.heap _
    rw [e25]
    exact ⟨b16, rfl, N25, K25⟩
theorem die_0 : decode jdk_42_method_55_code 0 = .ok (.aload_n 0, 1) := by decide +kernel
theorem die_1 : decode jdk_42_method_55_code 1 = .ok (.getfield 9, 3) := by decide +kernel
theorem die_4 : decode jdk_42_method_55_code 4 = .ok (.arraylength, 1) := by decide +kernel
theorem die_5 : decode jdk_42_method_55_code 5 = .ok (.ifCond .ne 7, 3) := by decide +kernel
theorem die_12 : decode jdk_42_method_55_code 12 = .ok (.iconst 0, 1) := by decide +kernel
theorem die_13 : decode jdk_42_method_55_code 13 = .ok (.ireturn, 1) := by decide +kernel
theorem pn_ie : plainName "java/lang/String" = true := by first | (simp [plainName, overriddenIn]; done) | decide +kernel
theorem ef_ie (m : MethodId) (x0 : Addr) : entryFrame m #[(.ref x0)] 1 = mkF m 0 #[.val (.ref x0)] [] := by first | (simp [entryFrame, mkF, argsToLocals, Value.category]; done) | rfl
def Qie (Z : State) (a1 : Addr) (b1 : Addr) (kk : ClassId) (zz : Int32) (vv : List Value) (h0 : Heap) (n0 : Nat) (v : Option Value) (h : Heap) (L : List Loc) : Prop := v = some (.int (0 : Int32)) ∧ Fr n0 L ∧ h = h0
set_option maxRecDepth 65536 in
set_option maxHeartbeats 40000000 in
theorem rmie (l : Launch) (Z : State) (a0 : Array Value) (hw : ∀ d ∈ tables_1, d.before a0 Z = true) (ws : List Jvm.Cond) (a1 : Addr) (b1 : Addr) (kk : ClassId) (zz : Int32) (vv : List Value) (h0 : Heap) (n0 : Nat) (Z0 : n0 ≤ h0.size) (F0 : Fld Z h0 a1 "java/lang/String" "value" "[B" (.ref b1)) (F1 : Arv Z h0 b1 kk .byte zz vv (.int 0)) (hz : ¬ (zz = 0)) :
    MetFree l (⟨"java/lang/String", "isEmpty", "()Z"⟩ : MethodName) (head1 (Jvm.Cond.code (⟨"java/lang/String", "isEmpty", "()Z"⟩ : MethodName) jdk_42_method_55_code 1 (some .boolean) :: ws) ({ frames := 0, cells := 0, slots := 0, locals := 0 } : Room)) (fun a U => a = #[(.ref a1)] ∧ Z.Warmed39 U.vm ∧ U.heap = h0) (fun _ _ _ _ _ => True) (fun _ U o U' => ∃ v L, o = .returned v ∧ Qie Z a1 b1 kk zz vv h0 n0 v U'.heap L ∧ FrameEnd U o U' L ({ frames := 0, cells := 0, slots := 0, locals := 0 } : Room).cells ({ frames := 0, cells := 0, slots := 0, locals := 0 } : Room).slots) := by
  refine MetFree.of_bodySF (plainFor_of_name pn_ie) hisR ?_
  intro p e s m args below meth c s₁ Bd hml0 hP hK
  obtain ⟨rfl, hZ, hh⟩ := hP
  have hx := Bd.exec
  have hby := Bd.bytes
  have hml : c.maxLocals = 1 := hml0
  have hown : s.vm.findClass "java/lang/String" = some m.cls := findClass_of_methodNamed Bd.named
  have hnm := (name_of_methodNamed Bd.named Bd.method).1
  have X0 : Stand p l e ({ frames := 0, cells := 0, slots := 0, locals := 0 } : Room) s m #[(.ref a1)] below meth c s₁ [] 0 0 := Stand.of_body Bd
  have e0 : s₁.heap = h0 := by rw [← hh, Bd.state]; rfl
  have N0 := Fr.nil n0
  show own_R p.tables e below (own_P s (Qie Z a1 b1 kk zz vv h0 n0) ({ frames := 0, cells := 0, slots := 0, locals := 0 } : Room).cells ({ frames := 0, cells := 0, slots := 0, locals := 0 } : Room).slots) (s₁.setTop (entryFrame m #[(.ref a1)] 1))
  refine own_f s₁ (mkF m 0 #[.val (.ref a1)] []) (fun t k => castTop (ef_ie m a1) k) ?_
  refine own_f s₁ (mkF m 1 #[.val (.ref a1)] [(.ref a1)]) (fun t k => XS.aloadN X0.here hx rfl (hb hby die_0) rfl rfl k) ?_
  obtain ⟨T1, X1, e1, st1⟩ := getF X0 hx hZ hown (host := "") (Or.inl (own_w hw 30 rfl)) Via.refl e0 F0 (g := (mkF m 1 #[.val (.ref a1)] [(.ref a1)])) rfl rfl (hb hby die_1)
  refine own_f T1 (mkF m 4 #[.val (.ref a1)] [(.ref b1)]) st1 ?_
  refine own_f T1 (mkF m 5 #[.val (.ref a1)] [(.int zz)]) (fun t k => own_len X1 hx hZ e1 F1 (g := (mkF m 4 #[.val (.ref a1)] [(.ref b1)])) rfl rfl (hb hby die_4) k) ?_
  have hc3 : ¬ (zz = 0) := hz
  refine own_f T1 (mkF m 12 #[.val (.ref a1)] []) (fun t k => XS.ifYes X1.here hx rfl (pc0 := 5) (pc' := 12) rfl (hb hby die_5) rfl (XT.i0_ne_t hc3) (by decide) (by decide) k) ?_
  refine own_f T1 (mkF m 13 #[.val (.ref a1)] [(.int (0 : Int32))]) (fun t k => XT.iconstV X1.here hx rfl (0 : Int32) (hb hby die_12) (by decide) k) ?_
  obtain ⟨fs, hr, hrun, hended, hW, hsame⟩ := X1.leave (v := some (.int (0 : Int32))) (fun h => by rw [Bd.returns] at h; cases h)
  refine ⟨_, _, retN X1 hx (t := .boolean) Bd.returns (by simp) (hb hby die_13) hr, hrun, hended, _, _, rfl, ?_, ⟨_, rfl⟩, hW, hsame.mono (by decide) (by decide)⟩
  show Qie Z a1 b1 kk zz vv h0 n0 _ T1.heap _
  rw [e1]
  exact ⟨rfl, N0, rfl⟩
theorem dne_0 : decode prog_73_method_7_code 0 = .ok (.aload_n 1, 1) := by decide +kernel
theorem dne_1 : decode prog_73_method_7_code 1 = .ok (.invokevirtual 76, 3) := by decide +kernel
theorem dne_4 : decode prog_73_method_7_code 4 = .ok (.ifCond .eq 17, 3) := by decide +kernel
theorem dne_21 : decode prog_73_method_7_code 21 = .ok (.aload_n 1, 1) := by decide +kernel
theorem dne_22 : decode prog_73_method_7_code 22 = .ok (.areturn, 1) := by decide +kernel
theorem pn_ne : plainName "com/example/rulecart/rulecart/Require" = true := by first | (simp [plainName, overriddenIn]; done) | decide +kernel
theorem ef_ne (m : MethodId) (x0 : Addr) (x1 : Addr) : entryFrame m #[(.ref x0), (.ref x1)] 2 = mkF m 0 #[.val (.ref x0), .val (.ref x1)] [] := by first | (simp [entryFrame, mkF, argsToLocals, Value.category]; done) | rfl
def Qne (Z : State) (a1 : Addr) (a2 : Addr) (nn : Int32) (mt : Nat) (h0 : Heap) (n0 : Nat) (v : Option Value) (h : Heap) (L : List Loc) : Prop := v = some (.ref a2) ∧ Fr n0 L ∧ h = h0
set_option maxRecDepth 65536 in
set_option maxHeartbeats 40000000 in
theorem rmne (l : Launch) (Z : State) (a0 : Array Value) (hw : ∀ d ∈ tables_1, d.before a0 Z = true) (ws : List Jvm.Cond) (a1 : Addr) (a2 : Addr) (nn : Int32) (mt : Nat) (h0 : Heap) (n0 : Nat) (Z0 : n0 ≤ h0.size) (G : own_T Z h0 a2 nn mt) (hnn : nn = 1 ∨ nn = 2 ∨ nn = 3) :
    MetFree l (⟨"com/example/rulecart/rulecart/Require", "nonEmpty", "(Ljava/lang/String;Ljava/lang/String;)Ljava/lang/String;"⟩ : MethodName) (head1 (Jvm.Cond.code (⟨"com/example/rulecart/rulecart/Require", "nonEmpty", "(Ljava/lang/String;Ljava/lang/String;)Ljava/lang/String;"⟩ : MethodName) prog_73_method_7_code 2 (some (.object "java/lang/String")) :: ws) ({ frames := 1, cells := 0, slots := 0, locals := 12 } : Room)) (fun a U => a = #[(.ref a1), (.ref a2)] ∧ Z.Warmed39 U.vm ∧ U.heap = h0) (fun _ _ _ _ _ => True) (fun _ U o U' => ∃ v L, o = .returned v ∧ Qne Z a1 a2 nn mt h0 n0 v U'.heap L ∧ FrameEnd U o U' L ({ frames := 1, cells := 0, slots := 0, locals := 12 } : Room).cells ({ frames := 1, cells := 0, slots := 0, locals := 12 } : Room).slots) := by
  refine MetFree.of_bodySF (plainFor_of_name pn_ne) hisR ?_
  intro p e s m args below meth c s₁ Bd hml0 hP hK
  obtain ⟨rfl, hZ, hh⟩ := hP
  have hx := Bd.exec
  have hby := Bd.bytes
  have hml : c.maxLocals = 2 := hml0
  have hown : s.vm.findClass "com/example/rulecart/rulecart/Require" = some m.cls := findClass_of_methodNamed Bd.named
  have hnm := (name_of_methodNamed Bd.named Bd.method).1
  have X0 : Stand p l e ({ frames := 1, cells := 0, slots := 0, locals := 12 } : Room) s m #[(.ref a1), (.ref a2)] below meth c s₁ [] 0 0 := Stand.of_body Bd
  have e0 : s₁.heap = h0 := by rw [← hh, Bd.state]; rfl
  have N0 := Fr.nil n0
  show own_R p.tables e below (own_P s (Qne Z a1 a2 nn mt h0 n0) ({ frames := 1, cells := 0, slots := 0, locals := 12 } : Room).cells ({ frames := 1, cells := 0, slots := 0, locals := 12 } : Room).slots) (s₁.setTop (entryFrame m #[(.ref a1), (.ref a2)] 2))
  refine own_f s₁ (mkF m 0 #[.val (.ref a1), .val (.ref a2)] []) (fun t k => castTop (ef_ne m a1 a2) k) ?_
  obtain ⟨dd, kk, cd, zz, vv, TE, TC, TV, TA, Tr, -, -⟩ := id G
  have hze : ¬ (zz = 0) := own_znz hnn Tr
  refine own_f s₁ (mkF m 1 #[.val (.ref a1), .val (.ref a2)] [(.ref a2)]) (fun t k => XS.aloadN X0.here hx rfl (hb hby dne_0) rfl rfl k) ?_
  obtain ⟨cq1, kq1, qa1, qb1, qc1⟩ := isOf hZ e0 TE
  obtain ⟨_, _, ⟨T1, Lq1, kq_1, nq_1⟩, -, X1, ⟨Lc1, hQ1, lq1, yq1, zq1⟩, st1⟩ := X0.virtualBack hx (y := (⟨"java/lang/String", "isEmpty", "()Z"⟩ : MethodName)) (z := (⟨"java/lang/String", "isEmpty", "()Z"⟩ : MethodName)) hown (mvT hZ (own_w hw 50 rfl)) (mvT hZ (own_w hw 51 rfl)) (notFace_of_selects (args := #[]) (mvT hZ (own_w hw 53 rfl))) (mvT hZ (own_w hw 53 rfl)) (mvT hZ (own_w hw 52 rfl)) (by decide) (backOf (W := 0) (rmie l Z a0 hw [] a2 _ _ _ _ h0 n0 Z0 TV TA hze) hZ (own_w hw 54 rfl) (own_w hw 4 rfl) (by decide) (by decide)) qa1 qc1 (g := (mkF m 1 #[.val (.ref a1), .val (.ref a2)] [(.ref a2)])) rfl (by rw [hml]; rfl) (Steps.refl _) (argsL := []) (rest := []) (lenOf pd__Z rfl) rfl (by show 2 * 0 + _ ≤ _; exact Nat.le_of_eq rfl) (hb hby dne_1) (fun _ _ => ⟨rfl, e0, (by decide : 0 + 0 ≤ _), (by decide : 0 + 0 ≤ _)⟩)
  dsimp only [Pt.U, Pt.locs, Pt.cells, Pt.slots] at X1 lq1 yq1 zq1 st1 hQ1
  subst lq1 yq1 zq1
  obtain ⟨h1, e1⟩ : ∃ z, T1.heap = z := ⟨_, rfl⟩
  rw [e1] at hQ1
  unfold Qie at hQ1
  obtain ⟨rfl, Nq1, qh1⟩ := hQ1
  have N1 := Fr.app N0 Nq1
  rw [qh1] at e1
  refine own_g T1 (mkF m 4 #[.val (.ref a1), .val (.ref a2)] [(.int (0 : Int32))]) st1 ?_
  refine own_f T1 (mkF m 21 #[.val (.ref a1), .val (.ref a2)] []) (fun t k => XS.ifYes X1.here hx rfl (pc0 := 4) (pc' := 21) rfl (hb hby dne_4) rfl (XT.i0_eq_t (by decide)) (by decide) (by decide) k) ?_
  refine own_f T1 (mkF m 22 #[.val (.ref a1), .val (.ref a2)] [(.ref a2)]) (fun t k => XS.aloadN X1.here hx rfl (hb hby dne_21) rfl rfl k) ?_
  obtain ⟨fs, hr, hrun, hended, hW, hsame⟩ := X1.leave (v := some (.ref a2)) (fun h => by rw [Bd.returns] at h; cases h)
  refine ⟨_, _, retOut X1 hx Bd.returns (by rfl) (Or.inr (Or.inr (Or.inr (Or.inr ⟨rfl, rfl, rfl⟩)))) (hb hby dne_22) hr, hrun, hended, _, _, rfl, ?_, ⟨_, rfl⟩, hW, hsame.mono (by decide) (by decide)⟩
  show Qne Z a1 a2 nn mt h0 n0 _ T1.heap _
  rw [e1]
  exact ⟨rfl, N1, rfl⟩
theorem dcr_0 : decode jdk_42_method_152_code 0 = .ok (.getstatic 38, 3) := by decide +kernel
theorem dcr_3 : decode jdk_42_method_152_code 3 = .ok (.ifCond .eq 10, 3) := by decide +kernel
theorem dcr_6 : decode jdk_42_method_152_code 6 = .ok (.aload_n 0, 1) := by decide +kernel
theorem dcr_7 : decode jdk_42_method_152_code 7 = .ok (.getfield 15, 3) := by decide +kernel
theorem dcr_10 : decode jdk_42_method_152_code 10 = .ok (.goto 4, 3) := by decide +kernel
theorem dcr_14 : decode jdk_42_method_152_code 14 = .ok (.ireturn, 1) := by decide +kernel
theorem pn_cr : plainName "java/lang/String" = true := by first | (simp [plainName, overriddenIn]; done) | decide +kernel
theorem ef_cr (m : MethodId) (x0 : Addr) : entryFrame m #[(.ref x0)] 1 = mkF m 0 #[.val (.ref x0)] [] := by first | (simp [entryFrame, mkF, argsToLocals, Value.category]; done) | rfl
def Qcr (Z : State) (a1 : Addr) (cd : Int32) (wc : Int32) (h0 : Heap) (n0 : Nat) (v : Option Value) (h : Heap) (L : List Loc) : Prop := v = some (.int cd) ∧ Fr n0 L ∧ h = h0
set_option maxRecDepth 65536 in
set_option maxHeartbeats 40000000 in
theorem rmcr (l : Launch) (Z : State) (a0 : Array Value) (hw : ∀ d ∈ tables_1, d.before a0 Z = true) (ws : List Jvm.Cond) (a1 : Addr) (cd : Int32) (wc : Int32) (h0 : Heap) (n0 : Nat) (Z0 : n0 ≤ h0.size) (F0 : Old Z n0 h0) (F1 : Fld Z h0 a1 "java/lang/String" "coder" "B" (.int cd)) (SC : Sta Z Z.heap "java/lang/String" "COMPACT_STRINGS" "Z" (.int wc)) (HWC : ¬ (wc = 0)) (hcd : cd = 0 ∨ cd = 1) :
    MetFree l (⟨"java/lang/String", "coder", "()B"⟩ : MethodName) (head1 (Jvm.Cond.code (⟨"java/lang/String", "coder", "()B"⟩ : MethodName) jdk_42_method_152_code 1 (some .byte) :: ws) ({ frames := 0, cells := 0, slots := 0, locals := 0 } : Room)) (fun a U => a = #[(.ref a1)] ∧ Z.Warmed39 U.vm ∧ U.heap = h0) (fun _ _ _ _ _ => True) (fun _ U o U' => ∃ v L, o = .returned v ∧ Qcr Z a1 cd wc h0 n0 v U'.heap L ∧ FrameEnd U o U' L ({ frames := 0, cells := 0, slots := 0, locals := 0 } : Room).cells ({ frames := 0, cells := 0, slots := 0, locals := 0 } : Room).slots) := by
  refine MetFree.of_bodySF (plainFor_of_name pn_cr) hisR ?_
  intro p e s m args below meth c s₁ Bd hml0 hP hK
  obtain ⟨rfl, hZ, hh⟩ := hP
  have hx := Bd.exec
  have hby := Bd.bytes
  have hml : c.maxLocals = 1 := hml0
  have hown : s.vm.findClass "java/lang/String" = some m.cls := findClass_of_methodNamed Bd.named
  have hnm := (name_of_methodNamed Bd.named Bd.method).1
  have X0 : Stand p l e ({ frames := 0, cells := 0, slots := 0, locals := 0 } : Room) s m #[(.ref a1)] below meth c s₁ [] 0 0 := Stand.of_body Bd
  have e0 : s₁.heap = h0 := by rw [← hh, Bd.state]; rfl
  have N0 := Fr.nil n0
  show own_R p.tables e below (own_P s (Qcr Z a1 cd wc h0 n0) ({ frames := 0, cells := 0, slots := 0, locals := 0 } : Room).cells ({ frames := 0, cells := 0, slots := 0, locals := 0 } : Room).slots) (s₁.setTop (entryFrame m #[(.ref a1)] 1))
  refine own_f s₁ (mkF m 0 #[.val (.ref a1)] []) (fun t k => castTop (ef_cr m a1) k) ?_
  have S1 : Sta Z h0 "java/lang/String" "COMPACT_STRINGS" "Z" (.int wc) := SC.ext F0.2
  obtain ⟨T1, X1, e1, st1⟩ := getS X0 hx hZ (host := "") hown (own_w hw 16 rfl) Via.refl e0 S1 (g := (mkF m 0 #[.val (.ref a1)] [])) rfl (hb hby dcr_0)
  refine own_f T1 (mkF m 3 #[.val (.ref a1)] [(.int wc)]) st1 ?_
  refine own_f T1 (mkF m 6 #[.val (.ref a1)] []) (fun t k => XS.ifNo X1.here hx rfl (hb hby dcr_3) rfl (XT.i0_eq_f HWC) k) ?_
  refine own_f T1 (mkF m 7 #[.val (.ref a1)] [(.ref a1)]) (fun t k => XS.aloadN X1.here hx rfl (hb hby dcr_6) rfl rfl k) ?_
  obtain ⟨T2, X2, e2, st2⟩ := getF X1 hx hZ hown (host := "") (Or.inl (own_w hw 28 rfl)) Via.refl e1 F1 (g := (mkF m 7 #[.val (.ref a1)] [(.ref a1)])) rfl rfl (hb hby dcr_7)
  refine own_f T2 (mkF m 10 #[.val (.ref a1)] [(.int cd)]) st2 ?_
  refine own_f T2 (mkF m 14 #[.val (.ref a1)] [(.int cd)]) (fun t k => XS.goto X2.here hx rfl (pc0 := 10) (pc' := 14) rfl (hb hby dcr_10) (by decide) (by decide) k) ?_
  obtain ⟨fs, hr, hrun, hended, hW, hsame⟩ := X2.leave (v := some (.int cd)) (fun h => by rw [Bd.returns] at h; cases h)
  refine ⟨_, _, own_retB X2 hx (t := .byte) Bd.returns (by simp) (own_nar8 hcd) (hb hby dcr_14) hr, hrun, hended, _, _, rfl, ?_, ⟨_, rfl⟩, hW, hsame.mono (by decide) (by decide)⟩
  show Qcr Z a1 cd wc h0 n0 _ T2.heap _
  rw [e2]
  exact ⟨rfl, N0, rfl⟩
theorem dln_0 : decode jdk_42_method_54_code 0 = .ok (.aload_n 0, 1) := by decide +kernel
theorem dln_1 : decode jdk_42_method_54_code 1 = .ok (.getfield 9, 3) := by decide +kernel
theorem dln_4 : decode jdk_42_method_54_code 4 = .ok (.arraylength, 1) := by decide +kernel
theorem dln_5 : decode jdk_42_method_54_code 5 = .ok (.aload_n 0, 1) := by decide +kernel
theorem dln_6 : decode jdk_42_method_54_code 6 = .ok (.invokevirtual 335, 3) := by decide +kernel
theorem dln_9 : decode jdk_42_method_54_code 9 = .ok (.ishr, 1) := by decide +kernel
theorem dln_10 : decode jdk_42_method_54_code 10 = .ok (.ireturn, 1) := by decide +kernel
theorem pn_ln : plainName "java/lang/String" = true := by first | (simp [plainName, overriddenIn]; done) | decide +kernel
theorem ef_ln (m : MethodId) (x0 : Addr) : entryFrame m #[(.ref x0)] 1 = mkF m 0 #[.val (.ref x0)] [] := by first | (simp [entryFrame, mkF, argsToLocals, Value.category]; done) | rfl
def Qln (Z : State) (a1 : Addr) (nn : Int32) (mt : Nat) (wc : Int32) (h0 : Heap) (n0 : Nat) (v : Option Value) (h : Heap) (L : List Loc) : Prop := v = some (.int nn) ∧ Fr n0 L ∧ h = h0
set_option maxRecDepth 65536 in
set_option maxHeartbeats 40000000 in
theorem rmln (l : Launch) (Z : State) (a0 : Array Value) (hw : ∀ d ∈ tables_1, d.before a0 Z = true) (ws : List Jvm.Cond) (a1 : Addr) (nn : Int32) (mt : Nat) (wc : Int32) (h0 : Heap) (n0 : Nat) (Z0 : n0 ≤ h0.size) (F0 : Old Z n0 h0) (G : own_T Z h0 a1 nn mt) (hnn : nn = 1 ∨ nn = 2 ∨ nn = 3) (SC : Sta Z Z.heap "java/lang/String" "COMPACT_STRINGS" "Z" (.int wc)) (HWC : ¬ (wc = 0)) :
    MetFree l (⟨"java/lang/String", "length", "()I"⟩ : MethodName) (head1 (Jvm.Cond.code (⟨"java/lang/String", "length", "()I"⟩ : MethodName) jdk_42_method_54_code 1 (some .int) :: ws) ({ frames := 1, cells := 0, slots := 0, locals := 14 } : Room)) (fun a U => a = #[(.ref a1)] ∧ Z.Warmed39 U.vm ∧ U.heap = h0) (fun _ _ _ _ _ => True) (fun _ U o U' => ∃ v L, o = .returned v ∧ Qln Z a1 nn mt wc h0 n0 v U'.heap L ∧ FrameEnd U o U' L ({ frames := 1, cells := 0, slots := 0, locals := 14 } : Room).cells ({ frames := 1, cells := 0, slots := 0, locals := 14 } : Room).slots) := by
  refine MetFree.of_bodySF (plainFor_of_name pn_ln) hisR ?_
  intro p e s m args below meth c s₁ Bd hml0 hP hK
  obtain ⟨rfl, hZ, hh⟩ := hP
  have hx := Bd.exec
  have hby := Bd.bytes
  have hml : c.maxLocals = 1 := hml0
  have hown : s.vm.findClass "java/lang/String" = some m.cls := findClass_of_methodNamed Bd.named
  have hnm := (name_of_methodNamed Bd.named Bd.method).1
  have X0 : Stand p l e ({ frames := 1, cells := 0, slots := 0, locals := 14 } : Room) s m #[(.ref a1)] below meth c s₁ [] 0 0 := Stand.of_body Bd
  have e0 : s₁.heap = h0 := by rw [← hh, Bd.state]; rfl
  have N0 := Fr.nil n0
  show own_R p.tables e below (own_P s (Qln Z a1 nn mt wc h0 n0) ({ frames := 1, cells := 0, slots := 0, locals := 14 } : Room).cells ({ frames := 1, cells := 0, slots := 0, locals := 14 } : Room).slots) (s₁.setTop (entryFrame m #[(.ref a1)] 1))
  refine own_f s₁ (mkF m 0 #[.val (.ref a1)] []) (fun t k => castTop (ef_ln m a1) k) ?_
  obtain ⟨dd, kk, cd, zz, vv, TE, TC, TV, TA, Tr, -, -⟩ := id G
  have hze : ¬ (zz = 0) := own_znz hnn Tr
  refine own_f s₁ (mkF m 1 #[.val (.ref a1)] [(.ref a1)]) (fun t k => XS.aloadN X0.here hx rfl (hb hby dln_0) rfl rfl k) ?_
  obtain ⟨T1, X1, e1, st1⟩ := getF X0 hx hZ hown (host := "") (Or.inl (own_w hw 30 rfl)) Via.refl e0 TV (g := (mkF m 1 #[.val (.ref a1)] [(.ref a1)])) rfl rfl (hb hby dln_1)
  refine own_f T1 (mkF m 4 #[.val (.ref a1)] [(.ref dd)]) st1 ?_
  refine own_f T1 (mkF m 5 #[.val (.ref a1)] [(.int zz)]) (fun t k => own_len X1 hx hZ e1 TA (g := (mkF m 4 #[.val (.ref a1)] [(.ref dd)])) rfl rfl (hb hby dln_4) k) ?_
  refine own_f T1 (mkF m 6 #[.val (.ref a1)] [(.ref a1), (.int zz)]) (fun t k => XS.aloadN X1.here hx rfl (hb hby dln_5) rfl rfl k) ?_
  obtain ⟨cq3, kq3, qa3, qb3, qc3⟩ := isOf hZ e1 TE
  obtain ⟨_, _, ⟨T3, Lq3, kq_3, nq_3⟩, -, X3, ⟨Lc3, hQ3, lq3, yq3, zq3⟩, st3⟩ := X1.virtualBack hx (y := (⟨"java/lang/String", "coder", "()B"⟩ : MethodName)) (z := (⟨"java/lang/String", "coder", "()B"⟩ : MethodName)) hown (mvT hZ (own_w hw 60 rfl)) (mvT hZ (own_w hw 61 rfl)) (notFace_of_selects (args := #[]) (mvT hZ (own_w hw 63 rfl))) (mvT hZ (own_w hw 63 rfl)) (mvT hZ (own_w hw 62 rfl)) (by decide) (backOf (W := 1) (rmcr l Z a0 hw [] a1 _ _ h0 n0 Z0 F0 TC SC HWC (own_cd Tr)) hZ (own_w hw 64 rfl) (own_w hw 4 rfl) (by decide) (by decide)) qa3 qc3 (g := (mkF m 6 #[.val (.ref a1)] [(.ref a1), (.int zz)])) rfl (by rw [hml]; rfl) (Steps.refl _) (argsL := []) (rest := [(.int zz)]) (lenOf pd__B rfl) rfl (by show 2 * 0 + _ ≤ _; exact Nat.le_of_eq rfl) (hb hby dln_6) (fun _ _ => ⟨rfl, e1, (by decide : 0 + 0 ≤ _), (by decide : 0 + 0 ≤ _)⟩)
  dsimp only [Pt.U, Pt.locs, Pt.cells, Pt.slots] at X3 lq3 yq3 zq3 st3 hQ3
  subst lq3 yq3 zq3
  obtain ⟨h3, e3⟩ : ∃ z, T3.heap = z := ⟨_, rfl⟩
  rw [e3] at hQ3
  unfold Qcr at hQ3
  obtain ⟨rfl, Nq3, qh3⟩ := hQ3
  have N3 := Fr.app N0 Nq3
  rw [qh3] at e3
  refine own_g T3 (mkF m 9 #[.val (.ref a1)] [(.int cd), (.int zz)]) st3 ?_
  refine own_f T3 (mkF m 10 #[.val (.ref a1)] [(.int (zz >>> (cd &&& 31)))]) (fun t k => XS.ishr X3.here hx rfl (hb hby dln_9) rfl k) ?_
  obtain ⟨fs, hr, hrun, hended, hW, hsame⟩ := X3.leave (v := some (.int (zz >>> (cd &&& 31)))) (fun h => by rw [Bd.returns] at h; cases h)
  refine ⟨_, _, retI X3 hx Bd.returns (hb hby dln_10) hr, hrun, hended, _, _, rfl, ?_, ⟨_, rfl⟩, hW, hsame.mono (by decide) (by decide)⟩
  show Qln Z a1 nn mt wc h0 n0 _ T3.heap _
  rw [e3]
  exact ⟨by rw [own_len2 hnn Tr], N3, rfl⟩
theorem deq_0 : decode jdk_42_method_66_code 0 = .ok (.aload_n 0, 1) := by decide +kernel
theorem deq_1 : decode jdk_42_method_66_code 1 = .ok (.aload_n 1, 1) := by decide +kernel
theorem deq_2 : decode jdk_42_method_66_code 2 = .ok (.if_acmp .ne 5, 3) := by decide +kernel
theorem deq_5 : decode jdk_42_method_66_code 5 = .ok (.iconst 1, 1) := by decide +kernel
theorem deq_6 : decode jdk_42_method_66_code 6 = .ok (.ireturn, 1) := by decide +kernel
theorem pn_eq : plainName "java/lang/String" = true := by first | (simp [plainName, overriddenIn]; done) | decide +kernel
theorem ef_eq (m : MethodId) (x0 : Addr) (x1 : Addr) : entryFrame m #[(.ref x0), (.ref x1)] 3 = mkF m 0 #[.val (.ref x0), .val (.ref x1), .unset] [] := by first | (simp [entryFrame, mkF, argsToLocals, Value.category]; done) | rfl
def Qeq (Z : State) (a1 : Addr) (h0 : Heap) (n0 : Nat) (v : Option Value) (h : Heap) (L : List Loc) : Prop := v = some (.int (1 : Int32)) ∧ Fr n0 L ∧ h = h0
set_option maxRecDepth 65536 in
set_option maxHeartbeats 40000000 in
theorem rmeq (l : Launch) (Z : State) (a0 : Array Value) (hw : ∀ d ∈ tables_1, d.before a0 Z = true) (ws : List Jvm.Cond) (a1 : Addr) (h0 : Heap) (n0 : Nat) (Z0 : n0 ≤ h0.size) :
    MetFree l (⟨"java/lang/String", "equals", "(Ljava/lang/Object;)Z"⟩ : MethodName) (head1 (Jvm.Cond.code (⟨"java/lang/String", "equals", "(Ljava/lang/Object;)Z"⟩ : MethodName) jdk_42_method_66_code 3 (some .boolean) :: ws) ({ frames := 0, cells := 0, slots := 0, locals := 0 } : Room)) (fun a U => a = #[(.ref a1), (.ref a1)] ∧ Z.Warmed39 U.vm ∧ U.heap = h0) (fun _ _ _ _ _ => True) (fun _ U o U' => ∃ v L, o = .returned v ∧ Qeq Z a1 h0 n0 v U'.heap L ∧ FrameEnd U o U' L ({ frames := 0, cells := 0, slots := 0, locals := 0 } : Room).cells ({ frames := 0, cells := 0, slots := 0, locals := 0 } : Room).slots) := by
  refine MetFree.of_bodySF (plainFor_of_name pn_eq) hisR ?_
  intro p e s m args below meth c s₁ Bd hml0 hP hK
  obtain ⟨rfl, hZ, hh⟩ := hP
  have hx := Bd.exec
  have hby := Bd.bytes
  have hml : c.maxLocals = 3 := hml0
  have hown : s.vm.findClass "java/lang/String" = some m.cls := findClass_of_methodNamed Bd.named
  have hnm := (name_of_methodNamed Bd.named Bd.method).1
  have X0 : Stand p l e ({ frames := 0, cells := 0, slots := 0, locals := 0 } : Room) s m #[(.ref a1), (.ref a1)] below meth c s₁ [] 0 0 := Stand.of_body Bd
  have e0 : s₁.heap = h0 := by rw [← hh, Bd.state]; rfl
  have N0 := Fr.nil n0
  show own_R p.tables e below (own_P s (Qeq Z a1 h0 n0) ({ frames := 0, cells := 0, slots := 0, locals := 0 } : Room).cells ({ frames := 0, cells := 0, slots := 0, locals := 0 } : Room).slots) (s₁.setTop (entryFrame m #[(.ref a1), (.ref a1)] 3))
  refine own_f s₁ (mkF m 0 #[.val (.ref a1), .val (.ref a1), .unset] []) (fun t k => castTop (ef_eq m a1 a1) k) ?_
  refine own_step (fun t k => XS.aloadN X0.here hx rfl (hb hby deq_0) rfl rfl k) ?_
  refine own_f s₁ (mkF m 2 #[.val (.ref a1), .val (.ref a1), .unset] [(.ref a1), (.ref a1)]) (fun t k => XS.aloadN X0.here hx rfl (hb hby deq_1) rfl rfl k) ?_
  refine own_f s₁ (mkF m 5 #[.val (.ref a1), .val (.ref a1), .unset] []) (fun t k => XT.acmpNo X0.here hx rfl (hb hby deq_2) rfl rfl rfl (XT.aa_ne_f rfl) k) ?_
  refine own_f s₁ (mkF m 6 #[.val (.ref a1), .val (.ref a1), .unset] [(.int (1 : Int32))]) (fun t k => XT.iconstV X0.here hx rfl (1 : Int32) (hb hby deq_5) (by decide) k) ?_
  obtain ⟨fs, hr, hrun, hended, hW, hsame⟩ := X0.leave (v := some (.int (1 : Int32))) (fun h => by rw [Bd.returns] at h; cases h)
  refine ⟨_, _, retN X0 hx (t := .boolean) Bd.returns (by simp) (hb hby deq_6) hr, hrun, hended, _, _, rfl, ?_, ⟨_, rfl⟩, hW, hsame.mono (by decide) (by decide)⟩
  show Qeq Z a1 h0 n0 _ s₁.heap _
  rw [e0]
  exact ⟨rfl, N0, rfl⟩
theorem pn_0 : plainName "com/example/rulecart/rulecart/RequireNonEmptyPinLaw" = true := by first | (simp [plainName, overriddenIn]; done) | decide +kernel
theorem ef_0 (m : MethodId) (x0 : Int32) (x1 : Int32) (x2 : Int32) (x3 : Int32) (x4 : Int32) : entryFrame m #[(.int x0), (.int x1), (.int x2), (.int x3), (.int x4)] maxLocals = mkF m 0 #[.val (.int x0), .val (.int x1), .val (.int x2), .val (.int x3), .val (.int x4), .unset, .unset, .unset, .unset, .unset, .unset, .unset] [] := by first | (simp [entryFrame, mkF, argsToLocals, Value.category, maxLocals]; done) | rfl
def Q0 (Z : State) (p1 : Int32) (p2 : Int32) (p3 : Int32) (p4 : Int32) (p5 : Int32) (wc : Int32) (h0 : Heap) (n0 : Nat) (v : Option Value) (h : Heap) (L : List Loc) : Prop := v = some (.int 1) ∧ Fr n0 L
set_option maxRecDepth 65536 in
set_option maxHeartbeats 40000000 in
theorem rm0 (l : Launch) (Z : State) (a0 : Array Value) (hw : ∀ d ∈ tables_1, d.before a0 Z = true) (ws : List Jvm.Cond) (p1 : Int32) (p2 : Int32) (p3 : Int32) (p4 : Int32) (p5 : Int32) (wc : Int32) (h0 : Heap) (n0 : Nat) (Z0 : n0 ≤ h0.size) (F0 : Old Z n0 h0) (SC : Sta Z Z.heap "java/lang/String" "COMPACT_STRINGS" "Z" (.int wc)) (HWC : ¬ (wc = 0)) (SH : Sta Z Z.heap "java/lang/StringUTF16" "HI_BYTE_SHIFT" "I" (.int (0 : Int32))) (SL : Sta Z Z.heap "java/lang/StringUTF16" "LO_BYTE_SHIFT" "I" (.int (8 : Int32))) (SA : Sta Z Z.heap "java/lang/StringUTF16" "$assertionsDisabled" "Z" (.int (1 : Int32))) :
    MetFree l x (head1 (Jvm.Cond.code x code maxLocals ret :: ws) room_1) (fun a U => a = #[(.int p1), (.int p2), (.int p3), (.int p4), (.int p5)] ∧ Z.Warmed39 U.vm ∧ U.heap = h0 ∧ CHv Z own_EL U.vm h0) (fun _ _ _ _ _ => True) (fun _ U o U' => ∃ v L, o = .returned v ∧ Q0 Z p1 p2 p3 p4 p5 wc h0 n0 v U'.heap L ∧ ReturnedEndW U o U' L room_1.cells room_1.slots) := by
  refine MetFree.of_bodySF (plainFor_of_name pn_0) hisR ?_
  intro p e s m args below meth c s₁ Bd hml0 hP hK
  obtain ⟨rfl, hZ, hh, hCH⟩ := hP
  have hx := Bd.exec
  have hby := Bd.bytes
  have hml : c.maxLocals = 12 := hml0
  have hown : s.vm.findClass "com/example/rulecart/rulecart/RequireNonEmptyPinLaw" = some m.cls := findClass_of_methodNamed Bd.named
  have hnm := (name_of_methodNamed Bd.named Bd.method).1
  have X0 : Stand p l e room_1 s m #[(.int p1), (.int p2), (.int p3), (.int p4), (.int p5)] below meth c s₁ [] 0 0 := Stand.of_body Bd
  have e0 : s₁.heap = h0 := by rw [← hh, Bd.state]; rfl
  have N0 := Fr.nil n0
  have hZ0 := hZ
  have hown0 := hown
  have hS : s.Since s.vm 0 := (State.WarmedH.refl s).since 0
  have hk : 0 ≤ h0.size := Nat.zero_le _
  have hR : CHr Z own_EL s.vm h0 s.vm h0 := CHr.refl hCH
  show own_R p.tables e below (own_PW s (Q0 Z p1 p2 p3 p4 p5 wc h0 n0) room_1.cells room_1.slots) (s₁.setTop (entryFrame m #[(.int p1), (.int p2), (.int p3), (.int p4), (.int p5)] maxLocals))
  refine own_f s₁ (mkF m 0 #[.val (.int p1), .val (.int p2), .val (.int p3), .val (.int p4), .val (.int p5), .unset, .unset, .unset, .unset, .unset, .unset, .unset] []) (fun t k => castTop (ef_0 m p1 p2 p3 p4 p5) k) ?_
  refine own_f s₁ (mkF m 1 #[.val (.int p1), .val (.int p2), .val (.int p3), .val (.int p4), .val (.int p5), .unset, .unset, .unset, .unset, .unset, .unset, .unset] [(.int p1)]) (fun t k => XS.iloadN X0.here hx rfl (hb hby at_0) rfl k) ?_
  refine own_f s₁ (mkF m 3 #[.val (.int p1), .val (.int p2), .val (.int p3), .val (.int p4), .val (.int p5), .unset, .unset, .unset, .unset, .unset, .unset, .unset] [(.int (65535 : Int32)), (.int p1)]) (fun t k => X0.ldcI hx hown (mvT hZ (own_w hw 0 rfl)) rfl (hb hby at_1) k) ?_
  refine own_f s₁ (mkF m 4 #[.val (.int p1), .val (.int p2), .val (.int p3), .val (.int p4), .val (.int p5), .unset, .unset, .unset, .unset, .unset, .unset, .unset] [(.int (p1 &&& (65535 : Int32)))]) (fun t k => XS.iand X0.here hx rfl (hb hby at_3) rfl k) ?_
  refine own_f s₁ (mkF m 5 #[.val (.int p1), .val (.int p2), .val (.int p3), .val (.int p4), .val (.int p5), .unset, .unset, .unset, .unset, .unset, .unset, .unset] [(.int ((p1 &&& (65535 : Int32)).toUInt32.toUInt16.toUInt32.toInt32))]) (fun t k => XS.i2c X0.here hx rfl (hb hby at_4) rfl k) ?_
  refine own_f s₁ (mkF m 7 #[.val (.int p1), .val (.int p2), .val (.int p3), .val (.int p4), .val (.int p5), .val (.int ((p1 &&& (65535 : Int32)).toUInt32.toUInt16.toUInt32.toInt32)), .unset, .unset, .unset, .unset, .unset, .unset] []) (fun t k => XS.istore X0.here hx rfl (hb hby at_5) rfl (l' := #[.val (.int p1), .val (.int p2), .val (.int p3), .val (.int p4), .val (.int p5), .val (.int ((p1 &&& (65535 : Int32)).toUInt32.toUInt16.toUInt32.toInt32)), .unset, .unset, .unset, .unset, .unset, .unset]) rfl k) ?_
  obtain ⟨cx, jqcx⟩ : ∃ z, z = ((p1 &&& (65535 : Int32)).toUInt32.toUInt16.toUInt32.toInt32) := ⟨_, rfl⟩
  have jx : own_W cx := by rw [jqcx]; exact own_Wc _
  rw [← jqcx]
  refine own_f s₁ (mkF m 8 #[.val (.int p1), .val (.int p2), .val (.int p3), .val (.int p4), .val (.int p5), .val (.int cx), .unset, .unset, .unset, .unset, .unset, .unset] [(.int p2)]) (fun t k => XS.iloadN X0.here hx rfl (hb hby at_7) rfl k) ?_
  refine own_f s₁ (mkF m 10 #[.val (.int p1), .val (.int p2), .val (.int p3), .val (.int p4), .val (.int p5), .val (.int cx), .unset, .unset, .unset, .unset, .unset, .unset] [(.int (65535 : Int32)), (.int p2)]) (fun t k => X0.ldcI hx hown (mvT hZ (own_w hw 0 rfl)) rfl (hb hby at_8) k) ?_
  refine own_f s₁ (mkF m 11 #[.val (.int p1), .val (.int p2), .val (.int p3), .val (.int p4), .val (.int p5), .val (.int cx), .unset, .unset, .unset, .unset, .unset, .unset] [(.int (p2 &&& (65535 : Int32)))]) (fun t k => XS.iand X0.here hx rfl (hb hby at_10) rfl k) ?_
  refine own_f s₁ (mkF m 12 #[.val (.int p1), .val (.int p2), .val (.int p3), .val (.int p4), .val (.int p5), .val (.int cx), .unset, .unset, .unset, .unset, .unset, .unset] [(.int ((p2 &&& (65535 : Int32)).toUInt32.toUInt16.toUInt32.toInt32))]) (fun t k => XS.i2c X0.here hx rfl (hb hby at_11) rfl k) ?_
  refine own_f s₁ (mkF m 14 #[.val (.int p1), .val (.int p2), .val (.int p3), .val (.int p4), .val (.int p5), .val (.int cx), .val (.int ((p2 &&& (65535 : Int32)).toUInt32.toUInt16.toUInt32.toInt32)), .unset, .unset, .unset, .unset, .unset] []) (fun t k => XS.istore X0.here hx rfl (hb hby at_12) rfl (l' := #[.val (.int p1), .val (.int p2), .val (.int p3), .val (.int p4), .val (.int p5), .val (.int cx), .val (.int ((p2 &&& (65535 : Int32)).toUInt32.toUInt16.toUInt32.toInt32)), .unset, .unset, .unset, .unset, .unset]) rfl k) ?_
  obtain ⟨cy, jqcy⟩ : ∃ z, z = ((p2 &&& (65535 : Int32)).toUInt32.toUInt16.toUInt32.toInt32) := ⟨_, rfl⟩
  have jy : own_W cy := by rw [jqcy]; exact own_Wc _
  rw [← jqcy]
  refine own_f s₁ (mkF m 15 #[.val (.int p1), .val (.int p2), .val (.int p3), .val (.int p4), .val (.int p5), .val (.int cx), .val (.int cy), .unset, .unset, .unset, .unset, .unset] [(.int p3)]) (fun t k => XS.iloadN X0.here hx rfl (hb hby at_14) rfl k) ?_
  refine own_f s₁ (mkF m 17 #[.val (.int p1), .val (.int p2), .val (.int p3), .val (.int p4), .val (.int p5), .val (.int cx), .val (.int cy), .unset, .unset, .unset, .unset, .unset] [(.int (65535 : Int32)), (.int p3)]) (fun t k => X0.ldcI hx hown (mvT hZ (own_w hw 0 rfl)) rfl (hb hby at_15) k) ?_
  refine own_f s₁ (mkF m 18 #[.val (.int p1), .val (.int p2), .val (.int p3), .val (.int p4), .val (.int p5), .val (.int cx), .val (.int cy), .unset, .unset, .unset, .unset, .unset] [(.int (p3 &&& (65535 : Int32)))]) (fun t k => XS.iand X0.here hx rfl (hb hby at_17) rfl k) ?_
  refine own_f s₁ (mkF m 19 #[.val (.int p1), .val (.int p2), .val (.int p3), .val (.int p4), .val (.int p5), .val (.int cx), .val (.int cy), .unset, .unset, .unset, .unset, .unset] [(.int ((p3 &&& (65535 : Int32)).toUInt32.toUInt16.toUInt32.toInt32))]) (fun t k => XS.i2c X0.here hx rfl (hb hby at_18) rfl k) ?_
  refine own_f s₁ (mkF m 21 #[.val (.int p1), .val (.int p2), .val (.int p3), .val (.int p4), .val (.int p5), .val (.int cx), .val (.int cy), .val (.int ((p3 &&& (65535 : Int32)).toUInt32.toUInt16.toUInt32.toInt32)), .unset, .unset, .unset, .unset] []) (fun t k => XS.istore X0.here hx rfl (hb hby at_19) rfl (l' := #[.val (.int p1), .val (.int p2), .val (.int p3), .val (.int p4), .val (.int p5), .val (.int cx), .val (.int cy), .val (.int ((p3 &&& (65535 : Int32)).toUInt32.toUInt16.toUInt32.toInt32)), .unset, .unset, .unset, .unset]) rfl k) ?_
  obtain ⟨cz, jqcz⟩ : ∃ z, z = ((p3 &&& (65535 : Int32)).toUInt32.toUInt16.toUInt32.toInt32) := ⟨_, rfl⟩
  have jz : own_W cz := by rw [jqcz]; exact own_Wc _
  rw [← jqcz]
  refine own_step (fun t k => XT.iconstV X0.here hx rfl (1 : Int32) (hb hby at_21) (by decide) k) ?_
  refine own_f s₁ (mkF m 23 #[.val (.int p1), .val (.int p2), .val (.int p3), .val (.int p4), .val (.int p5), .val (.int cx), .val (.int cy), .val (.int cz), .unset, .unset, .unset, .unset] [(.int p4), (.int (1 : Int32))]) (fun t k => XS.iloadN X0.here hx rfl (hb hby at_22) rfl k) ?_
  refine own_f s₁ (mkF m 25 #[.val (.int p1), .val (.int p2), .val (.int p3), .val (.int p4), .val (.int p5), .val (.int cx), .val (.int cy), .val (.int cz), .unset, .unset, .unset, .unset] [(.int (2147483647 : Int32)), (.int p4), (.int (1 : Int32))]) (fun t k => X0.ldcI hx hown (mvT hZ (own_w hw 1 rfl)) rfl (hb hby at_23) k) ?_
  refine own_f s₁ (mkF m 26 #[.val (.int p1), .val (.int p2), .val (.int p3), .val (.int p4), .val (.int p5), .val (.int cx), .val (.int cy), .val (.int cz), .unset, .unset, .unset, .unset] [(.int (p4 &&& (2147483647 : Int32))), (.int (1 : Int32))]) (fun t k => XS.iand X0.here hx rfl (hb hby at_25) rfl k) ?_
  refine own_f s₁ (mkF m 27 #[.val (.int p1), .val (.int p2), .val (.int p3), .val (.int p4), .val (.int p5), .val (.int cx), .val (.int cy), .val (.int cz), .unset, .unset, .unset, .unset] [(.int (3 : Int32)), (.int (p4 &&& (2147483647 : Int32))), (.int (1 : Int32))]) (fun t k => XT.iconstV X0.here hx rfl (3 : Int32) (hb hby at_26) (by decide) k) ?_
  refine own_f s₁ (mkF m 28 #[.val (.int p1), .val (.int p2), .val (.int p3), .val (.int p4), .val (.int p5), .val (.int cx), .val (.int cy), .val (.int cz), .unset, .unset, .unset, .unset] [(.int ((p4 &&& (2147483647 : Int32)) % (3 : Int32))), (.int (1 : Int32))]) (fun t k => iremM X0 hx rfl (hb hby at_27) rfl (by decide) k) ?_
  refine own_f s₁ (mkF m 29 #[.val (.int p1), .val (.int p2), .val (.int p3), .val (.int p4), .val (.int p5), .val (.int cx), .val (.int cy), .val (.int cz), .unset, .unset, .unset, .unset] [(.int ((1 : Int32) + ((p4 &&& (2147483647 : Int32)) % (3 : Int32))))]) (fun t k => XS.iadd X0.here hx rfl (hb hby at_28) rfl k) ?_
  refine own_f s₁ (mkF m 31 #[.val (.int p1), .val (.int p2), .val (.int p3), .val (.int p4), .val (.int p5), .val (.int cx), .val (.int cy), .val (.int cz), .val (.int ((1 : Int32) + ((p4 &&& (2147483647 : Int32)) % (3 : Int32)))), .unset, .unset, .unset] []) (fun t k => XS.istore X0.here hx rfl (hb hby at_29) rfl (l' := #[.val (.int p1), .val (.int p2), .val (.int p3), .val (.int p4), .val (.int p5), .val (.int cx), .val (.int cy), .val (.int cz), .val (.int ((1 : Int32) + ((p4 &&& (2147483647 : Int32)) % (3 : Int32)))), .unset, .unset, .unset]) rfl k) ?_
  obtain ⟨ln, jqln⟩ : ∃ z, z = ((1 : Int32) + ((p4 &&& (2147483647 : Int32)) % (3 : Int32))) := ⟨_, rfl⟩
  have jl : ln = 1 ∨ ln = 2 ∨ ln = 3 := by rw [jqln]; exact own_ln _
  rw [← jqln]
  refine own_step (fun t k => XS.iload X0.here hx rfl (hb hby at_31) rfl k) ?_
  refine own_step (fun t k => XT.iconstV X0.here hx rfl (1 : Int32) (hb hby at_33) (by decide) k) ?_
  by_cases hc1 : ln = (1 : Int32)
  · skip
    refine own_f s₁ (mkF m 37 #[.val (.int p1), .val (.int p2), .val (.int p3), .val (.int p4), .val (.int p5), .val (.int cx), .val (.int cy), .val (.int cz), .val (.int ln), .unset, .unset, .unset] []) (fun t k => XS.icmpNo X0.here hx rfl (hb hby at_34) rfl (XT.ii_ne_f hc1) k) ?_
    obtain ⟨T2, h2, X2, e2, E2, A2, D2, U2, st2⟩ := newO X0 hx hZ hown (own_w hw 2 rfl) (own_w hw 3 rfl) (own_w hw 4 rfl) e0 (g := (mkF m 37 #[.val (.int p1), .val (.int p2), .val (.int p3), .val (.int p4), .val (.int p5), .val (.int cx), .val (.int cy), .val (.int cz), .val (.int ln), .unset, .unset, .unset] [])) rfl (hb hby at_37) (by decide) (by decide)
    obtain ⟨b2, g2⟩ : ∃ z, z = h0.size := ⟨_, rfl⟩
    rw [← g2] at A2 D2 st2
    have ge2 : n0 ≤ b2 := by rw [g2]; exact Z0
    have Zs2 : n0 ≤ h2.size := Nat.le_trans Z0 E2.1
    have hk := Nat.le_trans hk E2.1
    have F_3 := F0.ext E2
    have hR := hR.trans (CHr.ext E2 hR.1)
    have F_4 : Fld Z h2 b2 "java/lang/String" "coder" "B" (.int 0) := D2 (Or.inr (own_w hw 29 rfl)) (ty := .byte) (by decide)
    have F_5 : Fld Z h2 b2 "java/lang/String" "value" "[B" .null := D2 (Or.inr (own_w hw 31 rfl)) (ty := (.array .byte)) (by decide)
    refine own_f T2 (mkF m 40 #[.val (.int p1), .val (.int p2), .val (.int p3), .val (.int p4), .val (.int p5), .val (.int cx), .val (.int cy), .val (.int cz), .val (.int ln), .unset, .unset, .unset] [(.ref b2)]) st2 ?_
    refine own_step (fun t k => XS.dup X2.here hx rfl (hb hby at_40) rfl rfl k) ?_
    refine own_f T2 (mkF m 42 #[.val (.int p1), .val (.int p2), .val (.int p3), .val (.int p4), .val (.int p5), .val (.int cx), .val (.int cy), .val (.int cz), .val (.int ln), .unset, .unset, .unset] [(.int (1 : Int32)), (.ref b2), (.ref b2)]) (fun t k => XT.iconstV X2.here hx rfl (1 : Int32) (hb hby at_41) (by decide) k) ?_
    obtain ⟨T6, h6, kA6, X6, e6, E6, A6, st6⟩ := newP X2 hx hZ (own_w hw 5 rfl) e2 (g := (mkF m 42 #[.val (.int p1), .val (.int p2), .val (.int p3), .val (.int p4), .val (.int p5), .val (.int cx), .val (.int cy), .val (.int cz), .val (.int ln), .unset, .unset, .unset] [(.int (1 : Int32)), (.ref b2), (.ref b2)])) rfl (hb hby at_42) rfl (by decide) (cap := 1) (by decide) (by decide) (by decide) (by decide)
    obtain ⟨b6, g6⟩ : ∃ z, z = h2.size := ⟨_, rfl⟩
    rw [← g6] at A6 st6
    have ne6_b2 : b2 ≠ b6 := by rw [g6]; exact Nat.ne_of_lt A2.lt
    have ge6 : n0 ≤ b6 := by rw [g6]; exact Zs2
    have Zs6 : n0 ≤ h6.size := Nat.le_trans Zs2 E6.1
    have hk := Nat.le_trans hk E6.1
    have F_7 := F_3.ext E6
    have F_8 := A2.ext E6
    have F_9 := F_4.ext E6
    have F_10 := F_5.ext E6
    have hR := hR.trans (CHr.ext E6 hR.1)
    have F_11 : Arv Z h6 b6 kA6 .char (1 : Int32) [.int 0] (.int 0) := own_arvnew 1 A6 (by decide)
    refine own_f T6 (mkF m 44 #[.val (.int p1), .val (.int p2), .val (.int p3), .val (.int p4), .val (.int p5), .val (.int cx), .val (.int cy), .val (.int cz), .val (.int ln), .unset, .unset, .unset] [(.ref b6), (.ref b2), (.ref b2)]) st6 ?_
    refine own_step (fun t k => XS.dup X6.here hx rfl (hb hby at_44) rfl rfl k) ?_
    refine own_step (fun t k => XT.iconstV X6.here hx rfl (0 : Int32) (hb hby at_45) (by decide) k) ?_
    refine own_f T6 (mkF m 48 #[.val (.int p1), .val (.int p2), .val (.int p3), .val (.int p4), .val (.int p5), .val (.int cx), .val (.int cy), .val (.int cz), .val (.int ln), .unset, .unset, .unset] [(.int cx), (.int (0 : Int32)), (.ref b6), (.ref b6), (.ref b2), (.ref b2)]) (fun t k => XS.iload X6.here hx rfl (hb hby at_46) rfl k) ?_
    obtain ⟨cl12, Ar12, q112, Sz12, q312, Hs12, Gs12⟩ := id F_11
    obtain ⟨T12, h12, X12, e12, W12, st12⟩ := stC X6 hx hZ e6 Ar12 (j := (0 : Int32)) (inb_of Sz12 ⟨by decide, by decide⟩) (g := (mkF m 48 #[.val (.int p1), .val (.int p2), .val (.int p3), .val (.int p4), .val (.int p5), .val (.int cx), .val (.int cy), .val (.int cz), .val (.int ln), .unset, .unset, .unset] [(.int cx), (.int (0 : Int32)), (.ref b6), (.ref b6), (.ref b2), (.ref b2)])) rfl rfl (hb hby at_48)
    have N12 := Fr.snoc X12 N0 ge6
    have Zs12 : n0 ≤ h12.size := by rw [W12.size]; exact Zs6
    have hk := Nat.le_trans hk (Nat.le_of_eq W12.size.symm)
    have sfx : Safe Z own_EL s.vm h6 b6 := (Safe.arv hZ.alike F_11 (by decide))
    have F_13 := F_7.wr W12 ge6
    have F_14 := F_8.wr W12
    have F_15 := F_9.other W12 (Or.inl ne6_b2)
    have F_16 := F_10.other W12 (Or.inl ne6_b2)
    have F_17 : Arv Z h12 b6 kA6 .char (1 : Int32) [.int cx] (.int 0) := Arv.set Ar12 q112 Sz12 q312 Hs12 Gs12 (by rw [← (jx.nar : nar .char cx = cx)]; exact fits_nar_char _) (by rw [(jx.nar : nar .char cx = cx)] at W12; exact W12) 0 (by decide) (by simp)
    have hR := hR.trans (CHr.wr W12 sfx hR.1)
    refine own_f T12 (mkF m 49 #[.val (.int p1), .val (.int p2), .val (.int p3), .val (.int p4), .val (.int p5), .val (.int cx), .val (.int cy), .val (.int cz), .val (.int ln), .unset, .unset, .unset] [(.ref b6), (.ref b2), (.ref b2)]) st12 ?_
    obtain ⟨_, _, ⟨T18, Lq18, kq_18, nq_18⟩, -, X18, ⟨Lc18, hQ18, lq18, yq18, zq18⟩, st18⟩ := X12.specialBack hx (y := (⟨"java/lang/String", "<init>", "([C)V"⟩ : MethodName)) rfl hown (mvT hZ (own_w hw 6 rfl)) (mvT hZ (own_w hw 7 rfl)) (mvT hZ (own_w hw 8 rfl)) (by decide) (backOf (W := 1) (rmt1 l Z a0 hw [] b2 b6 kA6 cx _ _ wc h12 n0 Zs12 F_13 F_14 F_16 F_15 F_17 ge2 SC HWC SH SL SA (Ne.symm ne6_b2) jx) hZ (own_w hw 8 rfl) (own_w hw 4 rfl) (by decide) (by decide)) (g := (mkF m 49 #[.val (.int p1), .val (.int p2), .val (.int p3), .val (.int p4), .val (.int p5), .val (.int cx), .val (.int cy), .val (.int cz), .val (.int ln), .unset, .unset, .unset] [(.ref b6), (.ref b2), (.ref b2)])) rfl (by rw [hml]; rfl) (Steps.refl _) (a := b2) (argsL := [(.ref b6)]) (rest := [(.ref b2)]) (lenOf pd__C_V rfl) rfl (by show 2 * 0 + _ ≤ _; exact Nat.le_of_eq rfl) (hb hby at_49) (fun _ _ => ⟨rfl, e12, (by decide : 0 + 1 + 1 + 2 ≤ _), (by decide : 0 + 4 + 1 + 3 ≤ _)⟩)
    dsimp only [Pt.U, Pt.locs, Pt.cells, Pt.slots] at X18 lq18 yq18 zq18 st18 hQ18
    subst lq18 yq18 zq18
    obtain ⟨h18, e18⟩ : ∃ z, T18.heap = z := ⟨_, rfl⟩
    rw [e18] at hQ18
    unfold Qt1 at hQ18
    obtain ⟨rfl, Nq18, q18, mt, hmt, G18⟩ := hQ18
    have N18 := Fr.app N12 Nq18
    have Zs18 : n0 ≤ h18.size := Nat.le_trans Zs12 q18.1
    have F_19 : Old Z n0 h18 := F_13.keep q18 (allS ge2 all0)
    have hk := Nat.le_trans hk q18.1
    have hsf : ∀ x ∈ ([b2] : List Addr), Safe Z own_EL s.vm h12 x := sfS (own_safe hZ.alike F_14 F_16) sf0
    have hR := hR.trans (CHr.keep q18 hsf hR.1)
    have hm : mt ≤ h18.size := Nat.le_of_eq hmt
    refine own_g T18 (mkF m 52 #[.val (.int p1), .val (.int p2), .val (.int p3), .val (.int p4), .val (.int p5), .val (.int cx), .val (.int cy), .val (.int cz), .val (.int ln), .unset, .unset, .unset] [(.ref b2)]) st18 ?_
    refine own_f T18 (mkF m 54 #[.val (.int p1), .val (.int p2), .val (.int p3), .val (.int p4), .val (.int p5), .val (.int cx), .val (.int cy), .val (.int cz), .val (.int ln), .val (.ref b2), .unset, .unset] []) (fun t k => XS.astore X18.here hx rfl (hb hby at_52) rfl rfl (l' := #[.val (.int p1), .val (.int p2), .val (.int p3), .val (.int p4), .val (.int p5), .val (.int cx), .val (.int cy), .val (.int cz), .val (.int ln), .val (.ref b2), .unset, .unset]) rfl k) ?_
    refine own_step (fun t k => XS.goto X18.here hx rfl (pc0 := 54) (pc' := 115) rfl (hb hby at_54) (by decide) (by decide) k) ?_
    refine own_step (fun t k => XS.iload X18.here hx rfl (hb hby at_115) rfl k) ?_
    refine own_step (fun t k => XT.iconstV X18.here hx rfl (1 : Int32) (hb hby at_117) (by decide) k) ?_
    refine own_f T18 (mkF m 119 #[.val (.int p1), .val (.int p2), .val (.int p3), .val (.int p4), .val (.int p5), .val (.int cx), .val (.int cy), .val (.int cz), .val (.int ln), .val (.ref b2), .unset, .unset] [(.int (p5 &&& (1 : Int32)))]) (fun t k => XS.iand X18.here hx rfl (hb hby at_118) rfl k) ?_
    by_cases hc20 : (p5 &&& (1 : Int32)) = 0
    · skip
      refine own_f T18 (mkF m 137 #[.val (.int p1), .val (.int p2), .val (.int p3), .val (.int p4), .val (.int p5), .val (.int cx), .val (.int cy), .val (.int cz), .val (.int ln), .val (.ref b2), .unset, .unset] []) (fun t k => XS.ifYes X18.here hx rfl (pc0 := 119) (pc' := 137) rfl (hb hby at_119) rfl (XT.i0_eq_t hc20) (by decide) (by decide) k) ?_
      refine own_step (fun t k => XS.iload X18.here hx rfl (hb hby at_137) rfl k) ?_
      refine own_step (fun t k => XT.iconstV X18.here hx rfl (1 : Int32) (hb hby at_139) (by decide) k) ?_
      refine own_f T18 (mkF m 141 #[.val (.int p1), .val (.int p2), .val (.int p3), .val (.int p4), .val (.int p5), .val (.int cx), .val (.int cy), .val (.int cz), .val (.int ln), .val (.ref b2), .unset, .unset] [(.int ((p5.toUInt32 >>> ((1 : Int32) &&& 31).toUInt32).toInt32))]) (fun t k => XS.iushr X18.here hx rfl (hb hby at_140) rfl k) ?_
      refine own_f T18 (mkF m 143 #[.val (.int p1), .val (.int p2), .val (.int p3), .val (.int p4), .val (.int p5), .val (.int cx), .val (.int cy), .val (.int cz), .val (.int ln), .val (.ref b2), .unset, .unset] [(.int (65535 : Int32)), (.int ((p5.toUInt32 >>> ((1 : Int32) &&& 31).toUInt32).toInt32))]) (fun t k => X18.ldcI hx hown (mvT hZ (own_w hw 0 rfl)) rfl (hb hby at_141) k) ?_
      refine own_f T18 (mkF m 144 #[.val (.int p1), .val (.int p2), .val (.int p3), .val (.int p4), .val (.int p5), .val (.int cx), .val (.int cy), .val (.int cz), .val (.int ln), .val (.ref b2), .unset, .unset] [(.int (((p5.toUInt32 >>> ((1 : Int32) &&& 31).toUInt32).toInt32) &&& (65535 : Int32)))]) (fun t k => XS.iand X18.here hx rfl (hb hby at_143) rfl k) ?_
      refine own_f T18 (mkF m 145 #[.val (.int p1), .val (.int p2), .val (.int p3), .val (.int p4), .val (.int p5), .val (.int cx), .val (.int cy), .val (.int cz), .val (.int ln), .val (.ref b2), .unset, .unset] [(.int ((((p5.toUInt32 >>> ((1 : Int32) &&& 31).toUInt32).toInt32) &&& (65535 : Int32)).toUInt32.toUInt16.toUInt32.toInt32))]) (fun t k => XS.i2c X18.here hx rfl (hb hby at_144) rfl k) ?_
      obtain ⟨_, _, ⟨T21, Lq21, kq_21, nq_21⟩, -, X21, ⟨Lc21, hQ21, lq21, yq21, zq21⟩, st21⟩ := Jvm.LawKit.callS X18 hx (y := (⟨"java/lang/String", "valueOf", "(C)Ljava/lang/String;"⟩ : MethodName)) hown (mvT hZ (own_w hw 32 rfl)) (mvT hZ (own_w hw 33 rfl)) (mvT hZ (own_w hw 4 rfl)) (mvT hZ (own_w hw 34 rfl)) (by decide) (backOf (W := 0) (rmvo l Z a0 hw [] ((((p5.toUInt32 >>> ((1 : Int32) &&& 31).toUInt32).toInt32) &&& (65535 : Int32)).toUInt32.toUInt16.toUInt32.toInt32) _ h18 n0 Zs18 F_19 SC HWC SH SL SA) hZ (own_w hw 34 rfl) (own_w hw 4 rfl) (by decide) (by decide)) (g := (mkF m 145 #[.val (.int p1), .val (.int p2), .val (.int p3), .val (.int p4), .val (.int p5), .val (.int cx), .val (.int cy), .val (.int cz), .val (.int ln), .val (.ref b2), .unset, .unset] [(.int ((((p5.toUInt32 >>> ((1 : Int32) &&& 31).toUInt32).toInt32) &&& (65535 : Int32)).toUInt32.toUInt16.toUInt32.toInt32))])) rfl (by rw [hml]; rfl) (argsL := [(.int ((((p5.toUInt32 >>> ((1 : Int32) &&& 31).toUInt32).toInt32) &&& (65535 : Int32)).toUInt32.toUInt16.toUInt32.toInt32))]) (rest := []) (lenOf pd__C_Ljava_lang_String_ rfl) rfl (by show 2 * 0 + _ ≤ _; exact Nat.le_of_eq rfl) (hb hby at_145) (fun _ _ => ⟨rfl, e18, (by decide : 0 + 1 + 1 + 2 + 2 ≤ _), (by decide : 0 + 4 + 1 + 3 + 6 ≤ _)⟩)
      dsimp only [Pt.U, Pt.locs, Pt.cells, Pt.slots] at X21 lq21 yq21 zq21 st21 hQ21
      subst lq21 yq21 zq21
      obtain ⟨h21, e21⟩ : ∃ z, T21.heap = z := ⟨_, rfl⟩
      rw [e21] at hQ21
      unfold Qvo at hQ21
      obtain ⟨b21, rfl, Nq21, qh21⟩ := hQ21
      have N21 := Fr.app N18 Nq21
      have Zs21 : n0 ≤ h21.size := Nat.le_trans Zs18 qh21.1
      have hk := Nat.le_trans hk qh21.1
      have hm := Nat.le_trans hm qh21.1
      have hsf : ∀ x ∈ ([] : List Addr), Safe Z own_EL s.vm h18 x := sf0
      have F_22 := F_19.keep qh21 all0
      have F_23 := G18.keep qh21 all0
      have hR := hR.trans (CHr.keep qh21 hsf hR.1)
      refine own_f T21 (mkF m 148 #[.val (.int p1), .val (.int p2), .val (.int p3), .val (.int p4), .val (.int p5), .val (.int cx), .val (.int cy), .val (.int cz), .val (.int ln), .val (.ref b2), .unset, .unset] [(.ref b21)]) st21 ?_
      refine own_f T21 (mkF m 150 #[.val (.int p1), .val (.int p2), .val (.int p3), .val (.int p4), .val (.int p5), .val (.int cx), .val (.int cy), .val (.int cz), .val (.int ln), .val (.ref b2), .val (.ref b21), .unset] []) (fun t k => XS.astore X21.here hx rfl (hb hby at_148) rfl rfl (l' := #[.val (.int p1), .val (.int p2), .val (.int p3), .val (.int p4), .val (.int p5), .val (.int cx), .val (.int cy), .val (.int cz), .val (.int ln), .val (.ref b2), .val (.ref b21), .unset]) rfl k) ?_
      refine own_step (fun t k => XS.aload X21.here hx rfl (hb hby at_150) rfl rfl k) ?_
      refine own_f T21 (mkF m 154 #[.val (.int p1), .val (.int p2), .val (.int p3), .val (.int p4), .val (.int p5), .val (.int cx), .val (.int cy), .val (.int cz), .val (.int ln), .val (.ref b2), .val (.ref b21), .unset] [(.ref b2), (.ref b21)]) (fun t k => XS.aload X21.here hx rfl (hb hby at_152) rfl rfl k) ?_
      obtain ⟨_, _, ⟨T24, Lq24, kq_24, nq_24⟩, -, X24, ⟨Lc24, hQ24, lq24, yq24, zq24⟩, st24⟩ := Jvm.LawKit.callS X21 hx (y := (⟨"com/example/rulecart/rulecart/Require", "nonEmpty", "(Ljava/lang/String;Ljava/lang/String;)Ljava/lang/String;"⟩ : MethodName)) hown (mvT hZ (own_w hw 46 rfl)) (mvT hZ (own_w hw 47 rfl)) (mvT hZ (own_w hw 48 rfl)) (mvT hZ (own_w hw 49 rfl)) (by decide) (backOf (W := 0) (rmne l Z a0 hw [] b21 b2 _ _ h21 n0 Zs21 F_23 (by decide)) hZ (own_w hw 49 rfl) (own_w hw 48 rfl) (by decide) (by decide)) (g := (mkF m 154 #[.val (.int p1), .val (.int p2), .val (.int p3), .val (.int p4), .val (.int p5), .val (.int cx), .val (.int cy), .val (.int cz), .val (.int ln), .val (.ref b2), .val (.ref b21), .unset] [(.ref b2), (.ref b21)])) rfl (by rw [hml]; rfl) (argsL := [(.ref b21), (.ref b2)]) (rest := []) (lenOf pd__Ljava_lang_String_Ljava_lang_String_Ljava_lang_String_ rfl) rfl (by show 2 * 0 + _ ≤ _; exact Nat.le_of_eq rfl) (hb hby at_154) (fun _ _ => ⟨rfl, e21, (by decide : 0 + 1 + 1 + 2 + 2 + 0 ≤ _), (by decide : 0 + 4 + 1 + 3 + 6 + 0 ≤ _)⟩)
      dsimp only [Pt.U, Pt.locs, Pt.cells, Pt.slots] at X24 lq24 yq24 zq24 st24 hQ24
      subst lq24 yq24 zq24
      obtain ⟨h24, e24⟩ : ∃ z, T24.heap = z := ⟨_, rfl⟩
      rw [e24] at hQ24
      unfold Qne at hQ24
      obtain ⟨rfl, Nq24, qh24⟩ := hQ24
      have N24 := Fr.app N21 Nq24
      rw [qh24] at e24
      refine own_f T24 (mkF m 157 #[.val (.int p1), .val (.int p2), .val (.int p3), .val (.int p4), .val (.int p5), .val (.int cx), .val (.int cy), .val (.int cz), .val (.int ln), .val (.ref b2), .val (.ref b21), .unset] [(.ref b2)]) st24 ?_
      refine own_f T24 (mkF m 159 #[.val (.int p1), .val (.int p2), .val (.int p3), .val (.int p4), .val (.int p5), .val (.int cx), .val (.int cy), .val (.int cz), .val (.int ln), .val (.ref b2), .val (.ref b21), .val (.ref b2)] []) (fun t k => XS.astore X24.here hx rfl (hb hby at_157) rfl rfl (l' := #[.val (.int p1), .val (.int p2), .val (.int p3), .val (.int p4), .val (.int p5), .val (.int cx), .val (.int cy), .val (.int cz), .val (.int ln), .val (.ref b2), .val (.ref b21), .val (.ref b2)]) rfl k) ?_
      refine own_step (fun t k => XS.aload X24.here hx rfl (hb hby at_159) rfl rfl k) ?_
      refine own_f T24 (mkF m 163 #[.val (.int p1), .val (.int p2), .val (.int p3), .val (.int p4), .val (.int p5), .val (.int cx), .val (.int cy), .val (.int cz), .val (.int ln), .val (.ref b2), .val (.ref b21), .val (.ref b2)] [(.ref b2), (.ref b2)]) (fun t k => XS.aload X24.here hx rfl (hb hby at_161) rfl rfl k) ?_
      refine own_f T24 (mkF m 166 #[.val (.int p1), .val (.int p2), .val (.int p3), .val (.int p4), .val (.int p5), .val (.int cx), .val (.int cy), .val (.int cz), .val (.int ln), .val (.ref b2), .val (.ref b21), .val (.ref b2)] []) (fun t k => XT.acmpNo X24.here hx rfl (hb hby at_163) rfl rfl rfl (XT.aa_ne_f rfl) k) ?_
      refine own_f T24 (mkF m 168 #[.val (.int p1), .val (.int p2), .val (.int p3), .val (.int p4), .val (.int p5), .val (.int cx), .val (.int cy), .val (.int cz), .val (.int ln), .val (.ref b2), .val (.ref b21), .val (.ref b2)] [(.ref b2)]) (fun t k => XS.aload X24.here hx rfl (hb hby at_166) rfl rfl k) ?_
      obtain ⟨_, _, _, _, _, TE25, -⟩ := id F_23
      obtain ⟨cq26, kq26, qa26, qb26, qc26⟩ := isOf hZ e24 TE25
      obtain ⟨_, _, ⟨T26, Lq26, kq_26, nq_26⟩, -, X26, ⟨Lc26, hQ26, lq26, yq26, zq26⟩, st26⟩ := X24.virtualBack hx (y := (⟨"java/lang/String", "length", "()I"⟩ : MethodName)) (z := (⟨"java/lang/String", "length", "()I"⟩ : MethodName)) hown (mvT hZ (own_w hw 55 rfl)) (mvT hZ (own_w hw 56 rfl)) (notFace_of_selects (args := #[]) (mvT hZ (own_w hw 58 rfl))) (mvT hZ (own_w hw 58 rfl)) (mvT hZ (own_w hw 57 rfl)) (by decide) (backOf (W := 0) (rmln l Z a0 hw [] b2 _ _ _ h21 n0 Zs21 F_22 F_23 (by decide) SC HWC) hZ (own_w hw 59 rfl) (own_w hw 4 rfl) (by decide) (by decide)) qa26 qc26 (g := (mkF m 168 #[.val (.int p1), .val (.int p2), .val (.int p3), .val (.int p4), .val (.int p5), .val (.int cx), .val (.int cy), .val (.int cz), .val (.int ln), .val (.ref b2), .val (.ref b21), .val (.ref b2)] [(.ref b2)])) rfl (by rw [hml]; rfl) (Steps.refl _) (argsL := []) (rest := []) (lenOf pd__I rfl) rfl (by show 2 * 0 + _ ≤ _; exact Nat.le_of_eq rfl) (hb hby at_168) (fun _ _ => ⟨rfl, e24, (by decide : 0 + 1 + 1 + 2 + 2 + 0 + 0 ≤ _), (by decide : 0 + 4 + 1 + 3 + 6 + 0 + 0 ≤ _)⟩)
      dsimp only [Pt.U, Pt.locs, Pt.cells, Pt.slots] at X26 lq26 yq26 zq26 st26 hQ26
      subst lq26 yq26 zq26
      obtain ⟨h26, e26⟩ : ∃ z, T26.heap = z := ⟨_, rfl⟩
      rw [e26] at hQ26
      unfold Qln at hQ26
      obtain ⟨rfl, Nq26, qh26⟩ := hQ26
      have N26 := Fr.app N24 Nq26
      rw [qh26] at e26
      refine own_g T26 (mkF m 171 #[.val (.int p1), .val (.int p2), .val (.int p3), .val (.int p4), .val (.int p5), .val (.int cx), .val (.int cy), .val (.int cz), .val (.int ln), .val (.ref b2), .val (.ref b21), .val (.ref b2)] [(.int (1 : Int32))]) st26 ?_
      refine own_step (fun t k => XS.iload X26.here hx rfl (hb hby at_171) rfl k) ?_
      have hc27 : (1 : Int32) = ln := hc1.symm
      refine own_f T26 (mkF m 176 #[.val (.int p1), .val (.int p2), .val (.int p3), .val (.int p4), .val (.int p5), .val (.int cx), .val (.int cy), .val (.int cz), .val (.int ln), .val (.ref b2), .val (.ref b21), .val (.ref b2)] []) (fun t k => XS.icmpNo X26.here hx rfl (hb hby at_173) rfl (XT.ii_ne_f hc27) k) ?_
      refine own_step (fun t k => XS.aload X26.here hx rfl (hb hby at_176) rfl rfl k) ?_
      refine own_f T26 (mkF m 180 #[.val (.int p1), .val (.int p2), .val (.int p3), .val (.int p4), .val (.int p5), .val (.int cx), .val (.int cy), .val (.int cz), .val (.int ln), .val (.ref b2), .val (.ref b21), .val (.ref b2)] [(.ref b2), (.ref b2)]) (fun t k => XS.aload X26.here hx rfl (hb hby at_178) rfl rfl k) ?_
      obtain ⟨cq28, kq28, qa28, qb28, qc28⟩ := isOf hZ e26 TE25
      obtain ⟨_, _, ⟨T28, Lq28, kq_28, nq_28⟩, -, X28, ⟨Lc28, hQ28, lq28, yq28, zq28⟩, st28⟩ := X26.virtualBack hx (y := (⟨"java/lang/String", "equals", "(Ljava/lang/Object;)Z"⟩ : MethodName)) (z := (⟨"java/lang/String", "equals", "(Ljava/lang/Object;)Z"⟩ : MethodName)) hown (mvT hZ (own_w hw 65 rfl)) (mvT hZ (own_w hw 66 rfl)) (notFace_of_selects (args := #[]) (mvT hZ (own_w hw 68 rfl))) (mvT hZ (own_w hw 68 rfl)) (mvT hZ (own_w hw 67 rfl)) (by decide) (backOf (W := 0) (rmeq l Z a0 hw [] b2 h21 n0 Zs21 ) hZ (own_w hw 69 rfl) (own_w hw 4 rfl) (by decide) (by decide)) qa28 qc28 (g := (mkF m 180 #[.val (.int p1), .val (.int p2), .val (.int p3), .val (.int p4), .val (.int p5), .val (.int cx), .val (.int cy), .val (.int cz), .val (.int ln), .val (.ref b2), .val (.ref b21), .val (.ref b2)] [(.ref b2), (.ref b2)])) rfl (by rw [hml]; rfl) (Steps.refl _) (argsL := [(.ref b2)]) (rest := []) (lenOf pd__Ljava_lang_Object_Z rfl) rfl (by show 2 * 0 + _ ≤ _; exact Nat.le_of_eq rfl) (hb hby at_180) (fun _ _ => ⟨rfl, e26, (by decide : 0 + 1 + 1 + 2 + 2 + 0 + 0 + 0 ≤ _), (by decide : 0 + 4 + 1 + 3 + 6 + 0 + 0 + 0 ≤ _)⟩)
      dsimp only [Pt.U, Pt.locs, Pt.cells, Pt.slots] at X28 lq28 yq28 zq28 st28 hQ28
      subst lq28 yq28 zq28
      obtain ⟨h28, e28⟩ : ∃ z, T28.heap = z := ⟨_, rfl⟩
      rw [e28] at hQ28
      unfold Qeq at hQ28
      obtain ⟨rfl, Nq28, qh28⟩ := hQ28
      have N28 := Fr.app N26 Nq28
      rw [qh28] at e28
      refine own_g T28 (mkF m 183 #[.val (.int p1), .val (.int p2), .val (.int p3), .val (.int p4), .val (.int p5), .val (.int cx), .val (.int cy), .val (.int cz), .val (.int ln), .val (.ref b2), .val (.ref b21), .val (.ref b2)] [(.int (1 : Int32))]) st28 ?_
      refine own_f T28 (mkF m 186 #[.val (.int p1), .val (.int p2), .val (.int p3), .val (.int p4), .val (.int p5), .val (.int cx), .val (.int cy), .val (.int cz), .val (.int ln), .val (.ref b2), .val (.ref b21), .val (.ref b2)] []) (fun t k => XS.ifNo X28.here hx rfl (hb hby at_183) rfl (XT.i0_eq_f (by decide)) k) ?_
      refine own_step (fun t k => XT.iconstV X28.here hx rfl (1 : Int32) (hb hby at_186) (by decide) k) ?_
      refine own_f T28 (mkF m 191 #[.val (.int p1), .val (.int p2), .val (.int p3), .val (.int p4), .val (.int p5), .val (.int cx), .val (.int cy), .val (.int cz), .val (.int ln), .val (.ref b2), .val (.ref b21), .val (.ref b2)] [(.int (1 : Int32))]) (fun t k => XS.goto X28.here hx rfl (pc0 := 187) (pc' := 191) rfl (hb hby at_187) (by decide) (by decide) k) ?_
      obtain ⟨fs, hr, hrun, hended, hW⟩ := Stand.leaveW (s := s) (vm₁ := s.vm) X28 hS (by rw [e28]; exact hk) (v := some (.int (1 : Int32))) (fun h => by rw [Bd.returns] at h; cases h)
      refine ⟨_, _, retN X28 hx (t := .boolean) Bd.returns (by simp) (hb hby at_191) hr, hrun, hended, _, _, rfl, ?_, hW.1, hW.2.1, hW.2.2.1, hW.2.2.2.mono (by decide) (by decide)⟩
      show Q0 Z p1 p2 p3 p4 p5 wc h0 n0 _ T28.heap _
      rw [e28]
      exact ⟨rfl, N28⟩
    · skip
      refine own_f T18 (mkF m 122 #[.val (.int p1), .val (.int p2), .val (.int p3), .val (.int p4), .val (.int p5), .val (.int cx), .val (.int cy), .val (.int cz), .val (.int ln), .val (.ref b2), .unset, .unset] []) (fun t k => XS.ifNo X18.here hx rfl (hb hby at_119) rfl (XT.i0_eq_f hc20) k) ?_
      obtain ⟨T29, h29, X29, e29, E29, A29, D29, U29, st29⟩ := newO X18 hx hZ hown (own_w hw 2 rfl) (own_w hw 3 rfl) (own_w hw 4 rfl) e18 (g := (mkF m 122 #[.val (.int p1), .val (.int p2), .val (.int p3), .val (.int p4), .val (.int p5), .val (.int cx), .val (.int cy), .val (.int cz), .val (.int ln), .val (.ref b2), .unset, .unset] [])) rfl (hb hby at_122) (by decide) (by decide)
      obtain ⟨b29, g29⟩ : ∃ z, z = h18.size := ⟨_, rfl⟩
      rw [← g29] at A29 D29 st29
      have ge29 : n0 ≤ b29 := by rw [g29]; exact Zs18
      have Zs29 : n0 ≤ h29.size := Nat.le_trans Zs18 E29.1
      have hk := Nat.le_trans hk E29.1
      have gm29 : mt ≤ b29 := by rw [g29]; exact hm
      have hm := Nat.le_trans hm E29.1
      have F_30 := F_19.ext E29
      have F_31 := G18.ext E29
      have hR := hR.trans (CHr.ext E29 hR.1)
      have F_32 : Fld Z h29 b29 "java/lang/String" "coder" "B" (.int 0) := D29 (Or.inr (own_w hw 29 rfl)) (ty := .byte) (by decide)
      have F_33 : Fld Z h29 b29 "java/lang/String" "value" "[B" .null := D29 (Or.inr (own_w hw 31 rfl)) (ty := (.array .byte)) (by decide)
      refine own_f T29 (mkF m 125 #[.val (.int p1), .val (.int p2), .val (.int p3), .val (.int p4), .val (.int p5), .val (.int cx), .val (.int cy), .val (.int cz), .val (.int ln), .val (.ref b2), .unset, .unset] [(.ref b29)]) st29 ?_
      refine own_step (fun t k => XS.dup X29.here hx rfl (hb hby at_125) rfl rfl k) ?_
      refine own_f T29 (mkF m 127 #[.val (.int p1), .val (.int p2), .val (.int p3), .val (.int p4), .val (.int p5), .val (.int cx), .val (.int cy), .val (.int cz), .val (.int ln), .val (.ref b2), .unset, .unset] [(.int (0 : Int32)), (.ref b29), (.ref b29)]) (fun t k => XT.iconstV X29.here hx rfl (0 : Int32) (hb hby at_126) (by decide) k) ?_
      obtain ⟨T34, h34, kA34, X34, e34, E34, A34, st34⟩ := newP X29 hx hZ (own_w hw 5 rfl) e29 (g := (mkF m 127 #[.val (.int p1), .val (.int p2), .val (.int p3), .val (.int p4), .val (.int p5), .val (.int cx), .val (.int cy), .val (.int cz), .val (.int ln), .val (.ref b2), .unset, .unset] [(.int (0 : Int32)), (.ref b29), (.ref b29)])) rfl (hb hby at_127) rfl (by decide) (cap := 0) (by decide) (by decide) (by decide) (by decide)
      obtain ⟨b34, g34⟩ : ∃ z, z = h29.size := ⟨_, rfl⟩
      rw [← g34] at A34 st34
      have ne34_b29 : b29 ≠ b34 := by rw [g34]; exact Nat.ne_of_lt A29.lt
      have ge34 : n0 ≤ b34 := by rw [g34]; exact Zs29
      have Zs34 : n0 ≤ h34.size := Nat.le_trans Zs29 E34.1
      have hk := Nat.le_trans hk E34.1
      have gm34 : mt ≤ b34 := by rw [g34]; exact hm
      have hm := Nat.le_trans hm E34.1
      have F_35 := F_30.ext E34
      have F_36 := F_31.ext E34
      have F_37 := A29.ext E34
      have F_38 := F_32.ext E34
      have F_39 := F_33.ext E34
      have hR := hR.trans (CHr.ext E34 hR.1)
      have F_40 : Arv Z h34 b34 kA34 .char (0 : Int32) [] (.int 0) := own_arvnew 0 A34 (by decide)
      refine own_f T34 (mkF m 129 #[.val (.int p1), .val (.int p2), .val (.int p3), .val (.int p4), .val (.int p5), .val (.int cx), .val (.int cy), .val (.int cz), .val (.int ln), .val (.ref b2), .unset, .unset] [(.ref b34), (.ref b29), (.ref b29)]) st34 ?_
      obtain ⟨_, _, ⟨T41, Lq41, kq_41, nq_41⟩, -, X41, hSn41, hgr41, ⟨Lc41, hQ41, lq41, yq41, zq41, hC41⟩, st41⟩ := X34.specialBackS hx (y := (⟨"java/lang/String", "<init>", "([C)V"⟩ : MethodName)) rfl hown (mvT hZ (own_w hw 6 rfl)) (mvT hZ (own_w hw 7 rfl)) (mvT hZ (own_w hw 8 rfl)) (by decide) (backOfSH (s := s) (vm0 := s.vm) (W := 1) (rms20 l Z a0 hw [] b29 b34 _ _ h34 n0 Zs34 F_37 F_39 F_38 F_40 ge29) hZ (own_w hw 8 rfl) (own_w hw 4 rfl) (by decide) (by decide) (own_EW hw) hR.1) (g := (mkF m 129 #[.val (.int p1), .val (.int p2), .val (.int p3), .val (.int p4), .val (.int p5), .val (.int cx), .val (.int cy), .val (.int cz), .val (.int ln), .val (.ref b2), .unset, .unset] [(.ref b34), (.ref b29), (.ref b29)])) rfl (by rw [hml]; rfl) (Steps.refl _) (a := b29) (argsL := [(.ref b34)]) (rest := [(.ref b29)]) (lenOf pd__C_V rfl) rfl (by show 2 * 0 + _ ≤ _; exact Nat.le_of_eq rfl) (hb hby at_129) (fun _ _ => ⟨rfl, e34, (by decide : 0 + 1 + 1 + 2 + 1 + 1 + 4 ≤ _), (by decide : 0 + 4 + 1 + 3 + 4 + 0 + 8 ≤ _)⟩)
      dsimp only [Pt.U, Pt.locs, Pt.cells, Pt.slots] at X41 lq41 yq41 zq41 st41 hQ41 hSn41 hgr41 hC41
      subst lq41 yq41 zq41
      obtain ⟨h41, e41⟩ : ∃ z, T41.heap = z := ⟨_, rfl⟩
      rw [e41] at hQ41 hC41
      have hS : s.Since T41.vm T41.heap.size := foldS (T := T34) (U := T41) hS (by rw [e34]; exact hk) hSn41 hgr41
      have hZ : Z.Warmed39 (s.setVm T41.vm).vm := State.Warmed39.trans hZ0 hS.1
      have hown : (s.setVm T41.vm).vm.findClass "com/example/rulecart/rulecart/RequireNonEmptyPinLaw" = some m.cls := by rw [show (s.setVm T41.vm).vm = T41.vm from rfl, hS.1.alike.findClass]; exact hown0
      have X41 : Stand p l e room_1 (s.setVm T41.vm) m #[(.int p1), (.int p2), (.int p3), (.int p4), (.int p5)] below meth c T41 _ _ _ := X41
      rw [e41] at hS
      have hk : h41.size ≤ h41.size := Nat.le_refl _
      unfold Qs20 at hQ41
      obtain ⟨b41, kb41, rfl, Nq41, qh41, G41_0, G41_1, G41_2, G41_3⟩ := hQ41
      have N41 := Fr.app N18 Nq41
      have Zs41 : n0 ≤ h41.size := Nat.le_trans Zs34 qh41.1
      have hm := Nat.le_trans hm qh41.1
      have F_42 := F_35.keep qh41 (allS ge29 all0)
      have F_43 := F_36.keep qh41 (allS gm29 all0)
      have F_44 := F_40.keep qh41 (ninS (Ne.symm ne34_b29) nin0)
      have hR := hR.trans hC41
      refine own_g T41 (mkF m 132 #[.val (.int p1), .val (.int p2), .val (.int p3), .val (.int p4), .val (.int p5), .val (.int cx), .val (.int cy), .val (.int cz), .val (.int ln), .val (.ref b2), .unset, .unset] [(.ref b29)]) st41 ?_
      refine own_f T41 (mkF m 134 #[.val (.int p1), .val (.int p2), .val (.int p3), .val (.int p4), .val (.int p5), .val (.int cx), .val (.int cy), .val (.int cz), .val (.int ln), .val (.ref b2), .val (.ref b29), .unset] []) (fun t k => XS.astore X41.here hx rfl (hb hby at_132) rfl rfl (l' := #[.val (.int p1), .val (.int p2), .val (.int p3), .val (.int p4), .val (.int p5), .val (.int cx), .val (.int cy), .val (.int cz), .val (.int ln), .val (.ref b2), .val (.ref b29), .unset]) rfl k) ?_
      refine own_f T41 (mkF m 150 #[.val (.int p1), .val (.int p2), .val (.int p3), .val (.int p4), .val (.int p5), .val (.int cx), .val (.int cy), .val (.int cz), .val (.int ln), .val (.ref b2), .val (.ref b29), .unset] []) (fun t k => XS.goto X41.here hx rfl (pc0 := 134) (pc' := 150) rfl (hb hby at_134) (by decide) (by decide) k) ?_
      refine own_step (fun t k => XS.aload X41.here hx rfl (hb hby at_150) rfl rfl k) ?_
      refine own_f T41 (mkF m 154 #[.val (.int p1), .val (.int p2), .val (.int p3), .val (.int p4), .val (.int p5), .val (.int cx), .val (.int cy), .val (.int cz), .val (.int ln), .val (.ref b2), .val (.ref b29), .unset] [(.ref b2), (.ref b29)]) (fun t k => XS.aload X41.here hx rfl (hb hby at_152) rfl rfl k) ?_
      obtain ⟨_, _, ⟨T45, Lq45, kq_45, nq_45⟩, -, X45, ⟨Lc45, hQ45, lq45, yq45, zq45⟩, st45⟩ := Jvm.LawKit.callS X41 hx (y := (⟨"com/example/rulecart/rulecart/Require", "nonEmpty", "(Ljava/lang/String;Ljava/lang/String;)Ljava/lang/String;"⟩ : MethodName)) hown (mvT hZ (own_w hw 46 rfl)) (mvT hZ (own_w hw 47 rfl)) (mvT hZ (own_w hw 48 rfl)) (mvT hZ (own_w hw 49 rfl)) (by decide) (backOf (W := 0) (rmne l Z a0 hw [] b29 b2 _ _ h41 n0 Zs41 F_43 (by decide)) hZ (own_w hw 49 rfl) (own_w hw 48 rfl) (by decide) (by decide)) (g := (mkF m 154 #[.val (.int p1), .val (.int p2), .val (.int p3), .val (.int p4), .val (.int p5), .val (.int cx), .val (.int cy), .val (.int cz), .val (.int ln), .val (.ref b2), .val (.ref b29), .unset] [(.ref b2), (.ref b29)])) rfl (by rw [hml]; rfl) (argsL := [(.ref b29), (.ref b2)]) (rest := []) (lenOf pd__Ljava_lang_String_Ljava_lang_String_Ljava_lang_String_ rfl) rfl (by show 2 * 0 + _ ≤ _; exact Nat.le_of_eq rfl) (hb hby at_154) (fun _ _ => ⟨rfl, e41, (by decide : 0 + 1 + 1 + 2 + 1 + 1 + 4 + 0 ≤ _), (by decide : 0 + 4 + 1 + 3 + 4 + 0 + 8 + 0 ≤ _)⟩)
      dsimp only [Pt.U, Pt.locs, Pt.cells, Pt.slots] at X45 lq45 yq45 zq45 st45 hQ45
      subst lq45 yq45 zq45
      obtain ⟨h45, e45⟩ : ∃ z, T45.heap = z := ⟨_, rfl⟩
      rw [e45] at hQ45
      unfold Qne at hQ45
      obtain ⟨rfl, Nq45, qh45⟩ := hQ45
      have N45 := Fr.app N41 Nq45
      rw [qh45] at e45
      refine own_f T45 (mkF m 157 #[.val (.int p1), .val (.int p2), .val (.int p3), .val (.int p4), .val (.int p5), .val (.int cx), .val (.int cy), .val (.int cz), .val (.int ln), .val (.ref b2), .val (.ref b29), .unset] [(.ref b2)]) st45 ?_
      refine own_f T45 (mkF m 159 #[.val (.int p1), .val (.int p2), .val (.int p3), .val (.int p4), .val (.int p5), .val (.int cx), .val (.int cy), .val (.int cz), .val (.int ln), .val (.ref b2), .val (.ref b29), .val (.ref b2)] []) (fun t k => XS.astore X45.here hx rfl (hb hby at_157) rfl rfl (l' := #[.val (.int p1), .val (.int p2), .val (.int p3), .val (.int p4), .val (.int p5), .val (.int cx), .val (.int cy), .val (.int cz), .val (.int ln), .val (.ref b2), .val (.ref b29), .val (.ref b2)]) rfl k) ?_
      refine own_step (fun t k => XS.aload X45.here hx rfl (hb hby at_159) rfl rfl k) ?_
      refine own_f T45 (mkF m 163 #[.val (.int p1), .val (.int p2), .val (.int p3), .val (.int p4), .val (.int p5), .val (.int cx), .val (.int cy), .val (.int cz), .val (.int ln), .val (.ref b2), .val (.ref b29), .val (.ref b2)] [(.ref b2), (.ref b2)]) (fun t k => XS.aload X45.here hx rfl (hb hby at_161) rfl rfl k) ?_
      refine own_f T45 (mkF m 166 #[.val (.int p1), .val (.int p2), .val (.int p3), .val (.int p4), .val (.int p5), .val (.int cx), .val (.int cy), .val (.int cz), .val (.int ln), .val (.ref b2), .val (.ref b29), .val (.ref b2)] []) (fun t k => XT.acmpNo X45.here hx rfl (hb hby at_163) rfl rfl rfl (XT.aa_ne_f rfl) k) ?_
      refine own_f T45 (mkF m 168 #[.val (.int p1), .val (.int p2), .val (.int p3), .val (.int p4), .val (.int p5), .val (.int cx), .val (.int cy), .val (.int cz), .val (.int ln), .val (.ref b2), .val (.ref b29), .val (.ref b2)] [(.ref b2)]) (fun t k => XS.aload X45.here hx rfl (hb hby at_166) rfl rfl k) ?_
      obtain ⟨_, _, _, _, _, TE46, -⟩ := id F_43
      obtain ⟨cq47, kq47, qa47, qb47, qc47⟩ := isOf hZ e45 TE46
      obtain ⟨_, _, ⟨T47, Lq47, kq_47, nq_47⟩, -, X47, ⟨Lc47, hQ47, lq47, yq47, zq47⟩, st47⟩ := X45.virtualBack hx (y := (⟨"java/lang/String", "length", "()I"⟩ : MethodName)) (z := (⟨"java/lang/String", "length", "()I"⟩ : MethodName)) hown (mvT hZ (own_w hw 55 rfl)) (mvT hZ (own_w hw 56 rfl)) (notFace_of_selects (args := #[]) (mvT hZ (own_w hw 58 rfl))) (mvT hZ (own_w hw 58 rfl)) (mvT hZ (own_w hw 57 rfl)) (by decide) (backOf (W := 0) (rmln l Z a0 hw [] b2 _ _ _ h41 n0 Zs41 F_42 F_43 (by decide) SC HWC) hZ (own_w hw 59 rfl) (own_w hw 4 rfl) (by decide) (by decide)) qa47 qc47 (g := (mkF m 168 #[.val (.int p1), .val (.int p2), .val (.int p3), .val (.int p4), .val (.int p5), .val (.int cx), .val (.int cy), .val (.int cz), .val (.int ln), .val (.ref b2), .val (.ref b29), .val (.ref b2)] [(.ref b2)])) rfl (by rw [hml]; rfl) (Steps.refl _) (argsL := []) (rest := []) (lenOf pd__I rfl) rfl (by show 2 * 0 + _ ≤ _; exact Nat.le_of_eq rfl) (hb hby at_168) (fun _ _ => ⟨rfl, e45, (by decide : 0 + 1 + 1 + 2 + 1 + 1 + 4 + 0 + 0 ≤ _), (by decide : 0 + 4 + 1 + 3 + 4 + 0 + 8 + 0 + 0 ≤ _)⟩)
      dsimp only [Pt.U, Pt.locs, Pt.cells, Pt.slots] at X47 lq47 yq47 zq47 st47 hQ47
      subst lq47 yq47 zq47
      obtain ⟨h47, e47⟩ : ∃ z, T47.heap = z := ⟨_, rfl⟩
      rw [e47] at hQ47
      unfold Qln at hQ47
      obtain ⟨rfl, Nq47, qh47⟩ := hQ47
      have N47 := Fr.app N45 Nq47
      rw [qh47] at e47
      refine own_g T47 (mkF m 171 #[.val (.int p1), .val (.int p2), .val (.int p3), .val (.int p4), .val (.int p5), .val (.int cx), .val (.int cy), .val (.int cz), .val (.int ln), .val (.ref b2), .val (.ref b29), .val (.ref b2)] [(.int (1 : Int32))]) st47 ?_
      refine own_step (fun t k => XS.iload X47.here hx rfl (hb hby at_171) rfl k) ?_
      have hc48 : (1 : Int32) = ln := hc1.symm
      refine own_f T47 (mkF m 176 #[.val (.int p1), .val (.int p2), .val (.int p3), .val (.int p4), .val (.int p5), .val (.int cx), .val (.int cy), .val (.int cz), .val (.int ln), .val (.ref b2), .val (.ref b29), .val (.ref b2)] []) (fun t k => XS.icmpNo X47.here hx rfl (hb hby at_173) rfl (XT.ii_ne_f hc48) k) ?_
      refine own_step (fun t k => XS.aload X47.here hx rfl (hb hby at_176) rfl rfl k) ?_
      refine own_f T47 (mkF m 180 #[.val (.int p1), .val (.int p2), .val (.int p3), .val (.int p4), .val (.int p5), .val (.int cx), .val (.int cy), .val (.int cz), .val (.int ln), .val (.ref b2), .val (.ref b29), .val (.ref b2)] [(.ref b2), (.ref b2)]) (fun t k => XS.aload X47.here hx rfl (hb hby at_178) rfl rfl k) ?_
      obtain ⟨cq49, kq49, qa49, qb49, qc49⟩ := isOf hZ e47 TE46
      obtain ⟨_, _, ⟨T49, Lq49, kq_49, nq_49⟩, -, X49, ⟨Lc49, hQ49, lq49, yq49, zq49⟩, st49⟩ := X47.virtualBack hx (y := (⟨"java/lang/String", "equals", "(Ljava/lang/Object;)Z"⟩ : MethodName)) (z := (⟨"java/lang/String", "equals", "(Ljava/lang/Object;)Z"⟩ : MethodName)) hown (mvT hZ (own_w hw 65 rfl)) (mvT hZ (own_w hw 66 rfl)) (notFace_of_selects (args := #[]) (mvT hZ (own_w hw 68 rfl))) (mvT hZ (own_w hw 68 rfl)) (mvT hZ (own_w hw 67 rfl)) (by decide) (backOf (W := 0) (rmeq l Z a0 hw [] b2 h41 n0 Zs41 ) hZ (own_w hw 69 rfl) (own_w hw 4 rfl) (by decide) (by decide)) qa49 qc49 (g := (mkF m 180 #[.val (.int p1), .val (.int p2), .val (.int p3), .val (.int p4), .val (.int p5), .val (.int cx), .val (.int cy), .val (.int cz), .val (.int ln), .val (.ref b2), .val (.ref b29), .val (.ref b2)] [(.ref b2), (.ref b2)])) rfl (by rw [hml]; rfl) (Steps.refl _) (argsL := [(.ref b2)]) (rest := []) (lenOf pd__Ljava_lang_Object_Z rfl) rfl (by show 2 * 0 + _ ≤ _; exact Nat.le_of_eq rfl) (hb hby at_180) (fun _ _ => ⟨rfl, e47, (by decide : 0 + 1 + 1 + 2 + 1 + 1 + 4 + 0 + 0 + 0 ≤ _), (by decide : 0 + 4 + 1 + 3 + 4 + 0 + 8 + 0 + 0 + 0 ≤ _)⟩)
      dsimp only [Pt.U, Pt.locs, Pt.cells, Pt.slots] at X49 lq49 yq49 zq49 st49 hQ49
      subst lq49 yq49 zq49
      obtain ⟨h49, e49⟩ : ∃ z, T49.heap = z := ⟨_, rfl⟩
      rw [e49] at hQ49
      unfold Qeq at hQ49
      obtain ⟨rfl, Nq49, qh49⟩ := hQ49
      have N49 := Fr.app N47 Nq49
      rw [qh49] at e49
      refine own_g T49 (mkF m 183 #[.val (.int p1), .val (.int p2), .val (.int p3), .val (.int p4), .val (.int p5), .val (.int cx), .val (.int cy), .val (.int cz), .val (.int ln), .val (.ref b2), .val (.ref b29), .val (.ref b2)] [(.int (1 : Int32))]) st49 ?_
      refine own_f T49 (mkF m 186 #[.val (.int p1), .val (.int p2), .val (.int p3), .val (.int p4), .val (.int p5), .val (.int cx), .val (.int cy), .val (.int cz), .val (.int ln), .val (.ref b2), .val (.ref b29), .val (.ref b2)] []) (fun t k => XS.ifNo X49.here hx rfl (hb hby at_183) rfl (XT.i0_eq_f (by decide)) k) ?_
      refine own_step (fun t k => XT.iconstV X49.here hx rfl (1 : Int32) (hb hby at_186) (by decide) k) ?_
      refine own_f T49 (mkF m 191 #[.val (.int p1), .val (.int p2), .val (.int p3), .val (.int p4), .val (.int p5), .val (.int cx), .val (.int cy), .val (.int cz), .val (.int ln), .val (.ref b2), .val (.ref b29), .val (.ref b2)] [(.int (1 : Int32))]) (fun t k => XS.goto X49.here hx rfl (pc0 := 187) (pc' := 191) rfl (hb hby at_187) (by decide) (by decide) k) ?_
      obtain ⟨fs, hr, hrun, hended, hW⟩ := Stand.leaveW (s := s) (vm₁ := T41.vm) X49 hS (by rw [e49]; exact hk) (v := some (.int (1 : Int32))) (fun h => by rw [Bd.returns] at h; cases h)
      refine ⟨_, _, retN X49 hx (t := .boolean) Bd.returns (by simp) (hb hby at_191) hr, hrun, hended, _, _, rfl, ?_, hW.1, hW.2.1, hW.2.2.1, hW.2.2.2.mono (by decide) (by decide)⟩
      show Q0 Z p1 p2 p3 p4 p5 wc h0 n0 _ T49.heap _
      rw [e49]
      exact ⟨rfl, N49⟩
  · skip
    refine own_f s₁ (mkF m 57 #[.val (.int p1), .val (.int p2), .val (.int p3), .val (.int p4), .val (.int p5), .val (.int cx), .val (.int cy), .val (.int cz), .val (.int ln), .unset, .unset, .unset] []) (fun t k => XS.icmpYes X0.here hx rfl (pc0 := 34) (pc' := 57) rfl (hb hby at_34) rfl (XT.ii_ne_t hc1) (by decide) (by decide) k) ?_
    refine own_step (fun t k => XS.iload X0.here hx rfl (hb hby at_57) rfl k) ?_
    refine own_step (fun t k => XT.iconstV X0.here hx rfl (2 : Int32) (hb hby at_59) (by decide) k) ?_
    by_cases hc50 : ln = (2 : Int32)
    · skip
      refine own_f s₁ (mkF m 63 #[.val (.int p1), .val (.int p2), .val (.int p3), .val (.int p4), .val (.int p5), .val (.int cx), .val (.int cy), .val (.int cz), .val (.int ln), .unset, .unset, .unset] []) (fun t k => XS.icmpNo X0.here hx rfl (hb hby at_60) rfl (XT.ii_ne_f hc50) k) ?_
      obtain ⟨T51, h51, X51, e51, E51, A51, D51, U51, st51⟩ := newO X0 hx hZ hown (own_w hw 2 rfl) (own_w hw 3 rfl) (own_w hw 4 rfl) e0 (g := (mkF m 63 #[.val (.int p1), .val (.int p2), .val (.int p3), .val (.int p4), .val (.int p5), .val (.int cx), .val (.int cy), .val (.int cz), .val (.int ln), .unset, .unset, .unset] [])) rfl (hb hby at_63) (by decide) (by decide)
      obtain ⟨b51, g51⟩ : ∃ z, z = h0.size := ⟨_, rfl⟩
      rw [← g51] at A51 D51 st51
      have ge51 : n0 ≤ b51 := by rw [g51]; exact Z0
      have Zs51 : n0 ≤ h51.size := Nat.le_trans Z0 E51.1
      have hk := Nat.le_trans hk E51.1
      have F_52 := F0.ext E51
      have hR := hR.trans (CHr.ext E51 hR.1)
      have F_53 : Fld Z h51 b51 "java/lang/String" "coder" "B" (.int 0) := D51 (Or.inr (own_w hw 29 rfl)) (ty := .byte) (by decide)
      have F_54 : Fld Z h51 b51 "java/lang/String" "value" "[B" .null := D51 (Or.inr (own_w hw 31 rfl)) (ty := (.array .byte)) (by decide)
      refine own_f T51 (mkF m 66 #[.val (.int p1), .val (.int p2), .val (.int p3), .val (.int p4), .val (.int p5), .val (.int cx), .val (.int cy), .val (.int cz), .val (.int ln), .unset, .unset, .unset] [(.ref b51)]) st51 ?_
      refine own_step (fun t k => XS.dup X51.here hx rfl (hb hby at_66) rfl rfl k) ?_
      refine own_f T51 (mkF m 68 #[.val (.int p1), .val (.int p2), .val (.int p3), .val (.int p4), .val (.int p5), .val (.int cx), .val (.int cy), .val (.int cz), .val (.int ln), .unset, .unset, .unset] [(.int (2 : Int32)), (.ref b51), (.ref b51)]) (fun t k => XT.iconstV X51.here hx rfl (2 : Int32) (hb hby at_67) (by decide) k) ?_
      obtain ⟨T55, h55, kA55, X55, e55, E55, A55, st55⟩ := newP X51 hx hZ (own_w hw 5 rfl) e51 (g := (mkF m 68 #[.val (.int p1), .val (.int p2), .val (.int p3), .val (.int p4), .val (.int p5), .val (.int cx), .val (.int cy), .val (.int cz), .val (.int ln), .unset, .unset, .unset] [(.int (2 : Int32)), (.ref b51), (.ref b51)])) rfl (hb hby at_68) rfl (by decide) (cap := 2) (by decide) (by decide) (by decide) (by decide)
      obtain ⟨b55, g55⟩ : ∃ z, z = h51.size := ⟨_, rfl⟩
      rw [← g55] at A55 st55
      have ne55_b51 : b51 ≠ b55 := by rw [g55]; exact Nat.ne_of_lt A51.lt
      have ge55 : n0 ≤ b55 := by rw [g55]; exact Zs51
      have Zs55 : n0 ≤ h55.size := Nat.le_trans Zs51 E55.1
      have hk := Nat.le_trans hk E55.1
      have F_56 := F_52.ext E55
      have F_57 := A51.ext E55
      have F_58 := F_53.ext E55
      have F_59 := F_54.ext E55
      have hR := hR.trans (CHr.ext E55 hR.1)
      have F_60 : Arv Z h55 b55 kA55 .char (2 : Int32) [.int 0, .int 0] (.int 0) := own_arvnew 2 A55 (by decide)
      refine own_f T55 (mkF m 70 #[.val (.int p1), .val (.int p2), .val (.int p3), .val (.int p4), .val (.int p5), .val (.int cx), .val (.int cy), .val (.int cz), .val (.int ln), .unset, .unset, .unset] [(.ref b55), (.ref b51), (.ref b51)]) st55 ?_
      refine own_step (fun t k => XS.dup X55.here hx rfl (hb hby at_70) rfl rfl k) ?_
      refine own_step (fun t k => XT.iconstV X55.here hx rfl (0 : Int32) (hb hby at_71) (by decide) k) ?_
      refine own_f T55 (mkF m 74 #[.val (.int p1), .val (.int p2), .val (.int p3), .val (.int p4), .val (.int p5), .val (.int cx), .val (.int cy), .val (.int cz), .val (.int ln), .unset, .unset, .unset] [(.int cx), (.int (0 : Int32)), (.ref b55), (.ref b55), (.ref b51), (.ref b51)]) (fun t k => XS.iload X55.here hx rfl (hb hby at_72) rfl k) ?_
      obtain ⟨cl61, Ar61, q161, Sz61, q361, Hs61, Gs61⟩ := id F_60
      obtain ⟨T61, h61, X61, e61, W61, st61⟩ := stC X55 hx hZ e55 Ar61 (j := (0 : Int32)) (inb_of Sz61 ⟨by decide, by decide⟩) (g := (mkF m 74 #[.val (.int p1), .val (.int p2), .val (.int p3), .val (.int p4), .val (.int p5), .val (.int cx), .val (.int cy), .val (.int cz), .val (.int ln), .unset, .unset, .unset] [(.int cx), (.int (0 : Int32)), (.ref b55), (.ref b55), (.ref b51), (.ref b51)])) rfl rfl (hb hby at_74)
      have N61 := Fr.snoc X61 N0 ge55
      have Zs61 : n0 ≤ h61.size := by rw [W61.size]; exact Zs55
      have hk := Nat.le_trans hk (Nat.le_of_eq W61.size.symm)
      have sfx : Safe Z own_EL s.vm h55 b55 := (Safe.arv hZ.alike F_60 (by decide))
      have F_62 := F_56.wr W61 ge55
      have F_63 := F_57.wr W61
      have F_64 := F_58.other W61 (Or.inl ne55_b51)
      have F_65 := F_59.other W61 (Or.inl ne55_b51)
      have F_66 : Arv Z h61 b55 kA55 .char (2 : Int32) [.int cx, .int 0] (.int 0) := Arv.set Ar61 q161 Sz61 q361 Hs61 Gs61 (by rw [← (jx.nar : nar .char cx = cx)]; exact fits_nar_char _) (by rw [(jx.nar : nar .char cx = cx)] at W61; exact W61) 0 (by decide) (by simp)
      have hR := hR.trans (CHr.wr W61 sfx hR.1)
      refine own_f T61 (mkF m 75 #[.val (.int p1), .val (.int p2), .val (.int p3), .val (.int p4), .val (.int p5), .val (.int cx), .val (.int cy), .val (.int cz), .val (.int ln), .unset, .unset, .unset] [(.ref b55), (.ref b51), (.ref b51)]) st61 ?_
      refine own_step (fun t k => XS.dup X61.here hx rfl (hb hby at_75) rfl rfl k) ?_
      refine own_step (fun t k => XT.iconstV X61.here hx rfl (1 : Int32) (hb hby at_76) (by decide) k) ?_
      refine own_f T61 (mkF m 79 #[.val (.int p1), .val (.int p2), .val (.int p3), .val (.int p4), .val (.int p5), .val (.int cx), .val (.int cy), .val (.int cz), .val (.int ln), .unset, .unset, .unset] [(.int cy), (.int (1 : Int32)), (.ref b55), (.ref b55), (.ref b51), (.ref b51)]) (fun t k => XS.iload X61.here hx rfl (hb hby at_77) rfl k) ?_
      obtain ⟨cl67, Ar67, q167, Sz67, q367, Hs67, Gs67⟩ := id F_66
      obtain ⟨T67, h67, X67, e67, W67, st67⟩ := stC X61 hx hZ e61 Ar67 (j := (1 : Int32)) (inb_of Sz67 ⟨by decide, by decide⟩) (g := (mkF m 79 #[.val (.int p1), .val (.int p2), .val (.int p3), .val (.int p4), .val (.int p5), .val (.int cx), .val (.int cy), .val (.int cz), .val (.int ln), .unset, .unset, .unset] [(.int cy), (.int (1 : Int32)), (.ref b55), (.ref b55), (.ref b51), (.ref b51)])) rfl rfl (hb hby at_79)
      have N67 := Fr.snoc X67 N61 ge55
      have Zs67 : n0 ≤ h67.size := by rw [W67.size]; exact Zs61
      have hk := Nat.le_trans hk (Nat.le_of_eq W67.size.symm)
      have sfx : Safe Z own_EL s.vm h61 b55 := (Safe.arv hZ.alike F_66 (by decide))
      have F_68 := F_62.wr W67 ge55
      have F_69 := F_63.wr W67
      have F_70 := F_64.other W67 (Or.inl ne55_b51)
      have F_71 := F_65.other W67 (Or.inl ne55_b51)
      have F_72 : Arv Z h67 b55 kA55 .char (2 : Int32) [.int cx, .int cy] (.int 0) := Arv.set Ar67 q167 Sz67 q367 Hs67 Gs67 (by rw [← (jy.nar : nar .char cy = cy)]; exact fits_nar_char _) (by rw [(jy.nar : nar .char cy = cy)] at W67; exact W67) 1 (by decide) (by simp)
      have hR := hR.trans (CHr.wr W67 sfx hR.1)
      refine own_f T67 (mkF m 80 #[.val (.int p1), .val (.int p2), .val (.int p3), .val (.int p4), .val (.int p5), .val (.int cx), .val (.int cy), .val (.int cz), .val (.int ln), .unset, .unset, .unset] [(.ref b55), (.ref b51), (.ref b51)]) st67 ?_
      obtain ⟨_, _, ⟨T73, Lq73, kq_73, nq_73⟩, -, X73, ⟨Lc73, hQ73, lq73, yq73, zq73⟩, st73⟩ := X67.specialBack hx (y := (⟨"java/lang/String", "<init>", "([C)V"⟩ : MethodName)) rfl hown (mvT hZ (own_w hw 6 rfl)) (mvT hZ (own_w hw 7 rfl)) (mvT hZ (own_w hw 8 rfl)) (by decide) (backOf (W := 1) (rmt2 l Z a0 hw [] b51 b55 kA55 cx cy _ _ wc h67 n0 Zs67 F_68 F_69 F_71 F_70 F_72 ge51 SC HWC SH SL SA (Ne.symm ne55_b51) jx jy) hZ (own_w hw 8 rfl) (own_w hw 4 rfl) (by decide) (by decide)) (g := (mkF m 80 #[.val (.int p1), .val (.int p2), .val (.int p3), .val (.int p4), .val (.int p5), .val (.int cx), .val (.int cy), .val (.int cz), .val (.int ln), .unset, .unset, .unset] [(.ref b55), (.ref b51), (.ref b51)])) rfl (by rw [hml]; rfl) (Steps.refl _) (a := b51) (argsL := [(.ref b55)]) (rest := [(.ref b51)]) (lenOf pd__C_V rfl) rfl (by show 2 * 0 + _ ≤ _; exact Nat.le_of_eq rfl) (hb hby at_80) (fun _ _ => ⟨rfl, e67, (by decide : 0 + 1 + 1 + 2 ≤ _), (by decide : 0 + 4 + 2 + 6 ≤ _)⟩)
      dsimp only [Pt.U, Pt.locs, Pt.cells, Pt.slots] at X73 lq73 yq73 zq73 st73 hQ73
      subst lq73 yq73 zq73
      obtain ⟨h73, e73⟩ : ∃ z, T73.heap = z := ⟨_, rfl⟩
      rw [e73] at hQ73
      unfold Qt2 at hQ73
      obtain ⟨rfl, Nq73, q73, mt, hmt, G73⟩ := hQ73
      have N73 := Fr.app N67 Nq73
      have Zs73 : n0 ≤ h73.size := Nat.le_trans Zs67 q73.1
      have F_74 : Old Z n0 h73 := F_68.keep q73 (allS ge51 all0)
      have hk := Nat.le_trans hk q73.1
      have hsf : ∀ x ∈ ([b51] : List Addr), Safe Z own_EL s.vm h67 x := sfS (own_safe hZ.alike F_69 F_71) sf0
      have hR := hR.trans (CHr.keep q73 hsf hR.1)
      have hm : mt ≤ h73.size := Nat.le_of_eq hmt
      refine own_g T73 (mkF m 83 #[.val (.int p1), .val (.int p2), .val (.int p3), .val (.int p4), .val (.int p5), .val (.int cx), .val (.int cy), .val (.int cz), .val (.int ln), .unset, .unset, .unset] [(.ref b51)]) st73 ?_
      refine own_f T73 (mkF m 85 #[.val (.int p1), .val (.int p2), .val (.int p3), .val (.int p4), .val (.int p5), .val (.int cx), .val (.int cy), .val (.int cz), .val (.int ln), .val (.ref b51), .unset, .unset] []) (fun t k => XS.astore X73.here hx rfl (hb hby at_83) rfl rfl (l' := #[.val (.int p1), .val (.int p2), .val (.int p3), .val (.int p4), .val (.int p5), .val (.int cx), .val (.int cy), .val (.int cz), .val (.int ln), .val (.ref b51), .unset, .unset]) rfl k) ?_
      refine own_step (fun t k => XS.goto X73.here hx rfl (pc0 := 85) (pc' := 115) rfl (hb hby at_85) (by decide) (by decide) k) ?_
      refine own_step (fun t k => XS.iload X73.here hx rfl (hb hby at_115) rfl k) ?_
      refine own_step (fun t k => XT.iconstV X73.here hx rfl (1 : Int32) (hb hby at_117) (by decide) k) ?_
      refine own_f T73 (mkF m 119 #[.val (.int p1), .val (.int p2), .val (.int p3), .val (.int p4), .val (.int p5), .val (.int cx), .val (.int cy), .val (.int cz), .val (.int ln), .val (.ref b51), .unset, .unset] [(.int (p5 &&& (1 : Int32)))]) (fun t k => XS.iand X73.here hx rfl (hb hby at_118) rfl k) ?_
      by_cases hc75 : (p5 &&& (1 : Int32)) = 0
      · skip
        refine own_f T73 (mkF m 137 #[.val (.int p1), .val (.int p2), .val (.int p3), .val (.int p4), .val (.int p5), .val (.int cx), .val (.int cy), .val (.int cz), .val (.int ln), .val (.ref b51), .unset, .unset] []) (fun t k => XS.ifYes X73.here hx rfl (pc0 := 119) (pc' := 137) rfl (hb hby at_119) rfl (XT.i0_eq_t hc75) (by decide) (by decide) k) ?_
        refine own_step (fun t k => XS.iload X73.here hx rfl (hb hby at_137) rfl k) ?_
        refine own_step (fun t k => XT.iconstV X73.here hx rfl (1 : Int32) (hb hby at_139) (by decide) k) ?_
        refine own_f T73 (mkF m 141 #[.val (.int p1), .val (.int p2), .val (.int p3), .val (.int p4), .val (.int p5), .val (.int cx), .val (.int cy), .val (.int cz), .val (.int ln), .val (.ref b51), .unset, .unset] [(.int ((p5.toUInt32 >>> ((1 : Int32) &&& 31).toUInt32).toInt32))]) (fun t k => XS.iushr X73.here hx rfl (hb hby at_140) rfl k) ?_
        refine own_f T73 (mkF m 143 #[.val (.int p1), .val (.int p2), .val (.int p3), .val (.int p4), .val (.int p5), .val (.int cx), .val (.int cy), .val (.int cz), .val (.int ln), .val (.ref b51), .unset, .unset] [(.int (65535 : Int32)), (.int ((p5.toUInt32 >>> ((1 : Int32) &&& 31).toUInt32).toInt32))]) (fun t k => X73.ldcI hx hown (mvT hZ (own_w hw 0 rfl)) rfl (hb hby at_141) k) ?_
        refine own_f T73 (mkF m 144 #[.val (.int p1), .val (.int p2), .val (.int p3), .val (.int p4), .val (.int p5), .val (.int cx), .val (.int cy), .val (.int cz), .val (.int ln), .val (.ref b51), .unset, .unset] [(.int (((p5.toUInt32 >>> ((1 : Int32) &&& 31).toUInt32).toInt32) &&& (65535 : Int32)))]) (fun t k => XS.iand X73.here hx rfl (hb hby at_143) rfl k) ?_
        refine own_f T73 (mkF m 145 #[.val (.int p1), .val (.int p2), .val (.int p3), .val (.int p4), .val (.int p5), .val (.int cx), .val (.int cy), .val (.int cz), .val (.int ln), .val (.ref b51), .unset, .unset] [(.int ((((p5.toUInt32 >>> ((1 : Int32) &&& 31).toUInt32).toInt32) &&& (65535 : Int32)).toUInt32.toUInt16.toUInt32.toInt32))]) (fun t k => XS.i2c X73.here hx rfl (hb hby at_144) rfl k) ?_
        obtain ⟨_, _, ⟨T76, Lq76, kq_76, nq_76⟩, -, X76, ⟨Lc76, hQ76, lq76, yq76, zq76⟩, st76⟩ := Jvm.LawKit.callS X73 hx (y := (⟨"java/lang/String", "valueOf", "(C)Ljava/lang/String;"⟩ : MethodName)) hown (mvT hZ (own_w hw 32 rfl)) (mvT hZ (own_w hw 33 rfl)) (mvT hZ (own_w hw 4 rfl)) (mvT hZ (own_w hw 34 rfl)) (by decide) (backOf (W := 0) (rmvo l Z a0 hw [] ((((p5.toUInt32 >>> ((1 : Int32) &&& 31).toUInt32).toInt32) &&& (65535 : Int32)).toUInt32.toUInt16.toUInt32.toInt32) _ h73 n0 Zs73 F_74 SC HWC SH SL SA) hZ (own_w hw 34 rfl) (own_w hw 4 rfl) (by decide) (by decide)) (g := (mkF m 145 #[.val (.int p1), .val (.int p2), .val (.int p3), .val (.int p4), .val (.int p5), .val (.int cx), .val (.int cy), .val (.int cz), .val (.int ln), .val (.ref b51), .unset, .unset] [(.int ((((p5.toUInt32 >>> ((1 : Int32) &&& 31).toUInt32).toInt32) &&& (65535 : Int32)).toUInt32.toUInt16.toUInt32.toInt32))])) rfl (by rw [hml]; rfl) (argsL := [(.int ((((p5.toUInt32 >>> ((1 : Int32) &&& 31).toUInt32).toInt32) &&& (65535 : Int32)).toUInt32.toUInt16.toUInt32.toInt32))]) (rest := []) (lenOf pd__C_Ljava_lang_String_ rfl) rfl (by show 2 * 0 + _ ≤ _; exact Nat.le_of_eq rfl) (hb hby at_145) (fun _ _ => ⟨rfl, e73, (by decide : 0 + 1 + 1 + 2 + 2 ≤ _), (by decide : 0 + 4 + 2 + 6 + 6 ≤ _)⟩)
        dsimp only [Pt.U, Pt.locs, Pt.cells, Pt.slots] at X76 lq76 yq76 zq76 st76 hQ76
        subst lq76 yq76 zq76
        obtain ⟨h76, e76⟩ : ∃ z, T76.heap = z := ⟨_, rfl⟩
        rw [e76] at hQ76
        unfold Qvo at hQ76
        obtain ⟨b76, rfl, Nq76, qh76⟩ := hQ76
        have N76 := Fr.app N73 Nq76
        have Zs76 : n0 ≤ h76.size := Nat.le_trans Zs73 qh76.1
        have hk := Nat.le_trans hk qh76.1
        have hm := Nat.le_trans hm qh76.1
        have hsf : ∀ x ∈ ([] : List Addr), Safe Z own_EL s.vm h73 x := sf0
        have F_77 := F_74.keep qh76 all0
        have F_78 := G73.keep qh76 all0
        have hR := hR.trans (CHr.keep qh76 hsf hR.1)
        refine own_f T76 (mkF m 148 #[.val (.int p1), .val (.int p2), .val (.int p3), .val (.int p4), .val (.int p5), .val (.int cx), .val (.int cy), .val (.int cz), .val (.int ln), .val (.ref b51), .unset, .unset] [(.ref b76)]) st76 ?_
        refine own_f T76 (mkF m 150 #[.val (.int p1), .val (.int p2), .val (.int p3), .val (.int p4), .val (.int p5), .val (.int cx), .val (.int cy), .val (.int cz), .val (.int ln), .val (.ref b51), .val (.ref b76), .unset] []) (fun t k => XS.astore X76.here hx rfl (hb hby at_148) rfl rfl (l' := #[.val (.int p1), .val (.int p2), .val (.int p3), .val (.int p4), .val (.int p5), .val (.int cx), .val (.int cy), .val (.int cz), .val (.int ln), .val (.ref b51), .val (.ref b76), .unset]) rfl k) ?_
        refine own_step (fun t k => XS.aload X76.here hx rfl (hb hby at_150) rfl rfl k) ?_
        refine own_f T76 (mkF m 154 #[.val (.int p1), .val (.int p2), .val (.int p3), .val (.int p4), .val (.int p5), .val (.int cx), .val (.int cy), .val (.int cz), .val (.int ln), .val (.ref b51), .val (.ref b76), .unset] [(.ref b51), (.ref b76)]) (fun t k => XS.aload X76.here hx rfl (hb hby at_152) rfl rfl k) ?_
        obtain ⟨_, _, ⟨T79, Lq79, kq_79, nq_79⟩, -, X79, ⟨Lc79, hQ79, lq79, yq79, zq79⟩, st79⟩ := Jvm.LawKit.callS X76 hx (y := (⟨"com/example/rulecart/rulecart/Require", "nonEmpty", "(Ljava/lang/String;Ljava/lang/String;)Ljava/lang/String;"⟩ : MethodName)) hown (mvT hZ (own_w hw 46 rfl)) (mvT hZ (own_w hw 47 rfl)) (mvT hZ (own_w hw 48 rfl)) (mvT hZ (own_w hw 49 rfl)) (by decide) (backOf (W := 0) (rmne l Z a0 hw [] b76 b51 _ _ h76 n0 Zs76 F_78 (by decide)) hZ (own_w hw 49 rfl) (own_w hw 48 rfl) (by decide) (by decide)) (g := (mkF m 154 #[.val (.int p1), .val (.int p2), .val (.int p3), .val (.int p4), .val (.int p5), .val (.int cx), .val (.int cy), .val (.int cz), .val (.int ln), .val (.ref b51), .val (.ref b76), .unset] [(.ref b51), (.ref b76)])) rfl (by rw [hml]; rfl) (argsL := [(.ref b76), (.ref b51)]) (rest := []) (lenOf pd__Ljava_lang_String_Ljava_lang_String_Ljava_lang_String_ rfl) rfl (by show 2 * 0 + _ ≤ _; exact Nat.le_of_eq rfl) (hb hby at_154) (fun _ _ => ⟨rfl, e76, (by decide : 0 + 1 + 1 + 2 + 2 + 0 ≤ _), (by decide : 0 + 4 + 2 + 6 + 6 + 0 ≤ _)⟩)
        dsimp only [Pt.U, Pt.locs, Pt.cells, Pt.slots] at X79 lq79 yq79 zq79 st79 hQ79
        subst lq79 yq79 zq79
        obtain ⟨h79, e79⟩ : ∃ z, T79.heap = z := ⟨_, rfl⟩
        rw [e79] at hQ79
        unfold Qne at hQ79
        obtain ⟨rfl, Nq79, qh79⟩ := hQ79
        have N79 := Fr.app N76 Nq79
        rw [qh79] at e79
        refine own_f T79 (mkF m 157 #[.val (.int p1), .val (.int p2), .val (.int p3), .val (.int p4), .val (.int p5), .val (.int cx), .val (.int cy), .val (.int cz), .val (.int ln), .val (.ref b51), .val (.ref b76), .unset] [(.ref b51)]) st79 ?_
        refine own_f T79 (mkF m 159 #[.val (.int p1), .val (.int p2), .val (.int p3), .val (.int p4), .val (.int p5), .val (.int cx), .val (.int cy), .val (.int cz), .val (.int ln), .val (.ref b51), .val (.ref b76), .val (.ref b51)] []) (fun t k => XS.astore X79.here hx rfl (hb hby at_157) rfl rfl (l' := #[.val (.int p1), .val (.int p2), .val (.int p3), .val (.int p4), .val (.int p5), .val (.int cx), .val (.int cy), .val (.int cz), .val (.int ln), .val (.ref b51), .val (.ref b76), .val (.ref b51)]) rfl k) ?_
        refine own_step (fun t k => XS.aload X79.here hx rfl (hb hby at_159) rfl rfl k) ?_
        refine own_f T79 (mkF m 163 #[.val (.int p1), .val (.int p2), .val (.int p3), .val (.int p4), .val (.int p5), .val (.int cx), .val (.int cy), .val (.int cz), .val (.int ln), .val (.ref b51), .val (.ref b76), .val (.ref b51)] [(.ref b51), (.ref b51)]) (fun t k => XS.aload X79.here hx rfl (hb hby at_161) rfl rfl k) ?_
        refine own_f T79 (mkF m 166 #[.val (.int p1), .val (.int p2), .val (.int p3), .val (.int p4), .val (.int p5), .val (.int cx), .val (.int cy), .val (.int cz), .val (.int ln), .val (.ref b51), .val (.ref b76), .val (.ref b51)] []) (fun t k => XT.acmpNo X79.here hx rfl (hb hby at_163) rfl rfl rfl (XT.aa_ne_f rfl) k) ?_
        refine own_f T79 (mkF m 168 #[.val (.int p1), .val (.int p2), .val (.int p3), .val (.int p4), .val (.int p5), .val (.int cx), .val (.int cy), .val (.int cz), .val (.int ln), .val (.ref b51), .val (.ref b76), .val (.ref b51)] [(.ref b51)]) (fun t k => XS.aload X79.here hx rfl (hb hby at_166) rfl rfl k) ?_
        obtain ⟨_, _, _, _, _, TE80, -⟩ := id F_78
        obtain ⟨cq81, kq81, qa81, qb81, qc81⟩ := isOf hZ e79 TE80
        obtain ⟨_, _, ⟨T81, Lq81, kq_81, nq_81⟩, -, X81, ⟨Lc81, hQ81, lq81, yq81, zq81⟩, st81⟩ := X79.virtualBack hx (y := (⟨"java/lang/String", "length", "()I"⟩ : MethodName)) (z := (⟨"java/lang/String", "length", "()I"⟩ : MethodName)) hown (mvT hZ (own_w hw 55 rfl)) (mvT hZ (own_w hw 56 rfl)) (notFace_of_selects (args := #[]) (mvT hZ (own_w hw 58 rfl))) (mvT hZ (own_w hw 58 rfl)) (mvT hZ (own_w hw 57 rfl)) (by decide) (backOf (W := 0) (rmln l Z a0 hw [] b51 _ _ _ h76 n0 Zs76 F_77 F_78 (by decide) SC HWC) hZ (own_w hw 59 rfl) (own_w hw 4 rfl) (by decide) (by decide)) qa81 qc81 (g := (mkF m 168 #[.val (.int p1), .val (.int p2), .val (.int p3), .val (.int p4), .val (.int p5), .val (.int cx), .val (.int cy), .val (.int cz), .val (.int ln), .val (.ref b51), .val (.ref b76), .val (.ref b51)] [(.ref b51)])) rfl (by rw [hml]; rfl) (Steps.refl _) (argsL := []) (rest := []) (lenOf pd__I rfl) rfl (by show 2 * 0 + _ ≤ _; exact Nat.le_of_eq rfl) (hb hby at_168) (fun _ _ => ⟨rfl, e79, (by decide : 0 + 1 + 1 + 2 + 2 + 0 + 0 ≤ _), (by decide : 0 + 4 + 2 + 6 + 6 + 0 + 0 ≤ _)⟩)
        dsimp only [Pt.U, Pt.locs, Pt.cells, Pt.slots] at X81 lq81 yq81 zq81 st81 hQ81
        subst lq81 yq81 zq81
        obtain ⟨h81, e81⟩ : ∃ z, T81.heap = z := ⟨_, rfl⟩
        rw [e81] at hQ81
        unfold Qln at hQ81
        obtain ⟨rfl, Nq81, qh81⟩ := hQ81
        have N81 := Fr.app N79 Nq81
        rw [qh81] at e81
        refine own_g T81 (mkF m 171 #[.val (.int p1), .val (.int p2), .val (.int p3), .val (.int p4), .val (.int p5), .val (.int cx), .val (.int cy), .val (.int cz), .val (.int ln), .val (.ref b51), .val (.ref b76), .val (.ref b51)] [(.int (2 : Int32))]) st81 ?_
        refine own_step (fun t k => XS.iload X81.here hx rfl (hb hby at_171) rfl k) ?_
        have hc82 : (2 : Int32) = ln := hc50.symm
        refine own_f T81 (mkF m 176 #[.val (.int p1), .val (.int p2), .val (.int p3), .val (.int p4), .val (.int p5), .val (.int cx), .val (.int cy), .val (.int cz), .val (.int ln), .val (.ref b51), .val (.ref b76), .val (.ref b51)] []) (fun t k => XS.icmpNo X81.here hx rfl (hb hby at_173) rfl (XT.ii_ne_f hc82) k) ?_
        refine own_step (fun t k => XS.aload X81.here hx rfl (hb hby at_176) rfl rfl k) ?_
        refine own_f T81 (mkF m 180 #[.val (.int p1), .val (.int p2), .val (.int p3), .val (.int p4), .val (.int p5), .val (.int cx), .val (.int cy), .val (.int cz), .val (.int ln), .val (.ref b51), .val (.ref b76), .val (.ref b51)] [(.ref b51), (.ref b51)]) (fun t k => XS.aload X81.here hx rfl (hb hby at_178) rfl rfl k) ?_
        obtain ⟨cq83, kq83, qa83, qb83, qc83⟩ := isOf hZ e81 TE80
        obtain ⟨_, _, ⟨T83, Lq83, kq_83, nq_83⟩, -, X83, ⟨Lc83, hQ83, lq83, yq83, zq83⟩, st83⟩ := X81.virtualBack hx (y := (⟨"java/lang/String", "equals", "(Ljava/lang/Object;)Z"⟩ : MethodName)) (z := (⟨"java/lang/String", "equals", "(Ljava/lang/Object;)Z"⟩ : MethodName)) hown (mvT hZ (own_w hw 65 rfl)) (mvT hZ (own_w hw 66 rfl)) (notFace_of_selects (args := #[]) (mvT hZ (own_w hw 68 rfl))) (mvT hZ (own_w hw 68 rfl)) (mvT hZ (own_w hw 67 rfl)) (by decide) (backOf (W := 0) (rmeq l Z a0 hw [] b51 h76 n0 Zs76 ) hZ (own_w hw 69 rfl) (own_w hw 4 rfl) (by decide) (by decide)) qa83 qc83 (g := (mkF m 180 #[.val (.int p1), .val (.int p2), .val (.int p3), .val (.int p4), .val (.int p5), .val (.int cx), .val (.int cy), .val (.int cz), .val (.int ln), .val (.ref b51), .val (.ref b76), .val (.ref b51)] [(.ref b51), (.ref b51)])) rfl (by rw [hml]; rfl) (Steps.refl _) (argsL := [(.ref b51)]) (rest := []) (lenOf pd__Ljava_lang_Object_Z rfl) rfl (by show 2 * 0 + _ ≤ _; exact Nat.le_of_eq rfl) (hb hby at_180) (fun _ _ => ⟨rfl, e81, (by decide : 0 + 1 + 1 + 2 + 2 + 0 + 0 + 0 ≤ _), (by decide : 0 + 4 + 2 + 6 + 6 + 0 + 0 + 0 ≤ _)⟩)
        dsimp only [Pt.U, Pt.locs, Pt.cells, Pt.slots] at X83 lq83 yq83 zq83 st83 hQ83
        subst lq83 yq83 zq83
        obtain ⟨h83, e83⟩ : ∃ z, T83.heap = z := ⟨_, rfl⟩
        rw [e83] at hQ83
        unfold Qeq at hQ83
        obtain ⟨rfl, Nq83, qh83⟩ := hQ83
        have N83 := Fr.app N81 Nq83
        rw [qh83] at e83
        refine own_g T83 (mkF m 183 #[.val (.int p1), .val (.int p2), .val (.int p3), .val (.int p4), .val (.int p5), .val (.int cx), .val (.int cy), .val (.int cz), .val (.int ln), .val (.ref b51), .val (.ref b76), .val (.ref b51)] [(.int (1 : Int32))]) st83 ?_
        refine own_f T83 (mkF m 186 #[.val (.int p1), .val (.int p2), .val (.int p3), .val (.int p4), .val (.int p5), .val (.int cx), .val (.int cy), .val (.int cz), .val (.int ln), .val (.ref b51), .val (.ref b76), .val (.ref b51)] []) (fun t k => XS.ifNo X83.here hx rfl (hb hby at_183) rfl (XT.i0_eq_f (by decide)) k) ?_
        refine own_step (fun t k => XT.iconstV X83.here hx rfl (1 : Int32) (hb hby at_186) (by decide) k) ?_
        refine own_f T83 (mkF m 191 #[.val (.int p1), .val (.int p2), .val (.int p3), .val (.int p4), .val (.int p5), .val (.int cx), .val (.int cy), .val (.int cz), .val (.int ln), .val (.ref b51), .val (.ref b76), .val (.ref b51)] [(.int (1 : Int32))]) (fun t k => XS.goto X83.here hx rfl (pc0 := 187) (pc' := 191) rfl (hb hby at_187) (by decide) (by decide) k) ?_
        obtain ⟨fs, hr, hrun, hended, hW⟩ := Stand.leaveW (s := s) (vm₁ := s.vm) X83 hS (by rw [e83]; exact hk) (v := some (.int (1 : Int32))) (fun h => by rw [Bd.returns] at h; cases h)
        refine ⟨_, _, retN X83 hx (t := .boolean) Bd.returns (by simp) (hb hby at_191) hr, hrun, hended, _, _, rfl, ?_, hW.1, hW.2.1, hW.2.2.1, hW.2.2.2.mono (by decide) (by decide)⟩
        show Q0 Z p1 p2 p3 p4 p5 wc h0 n0 _ T83.heap _
        rw [e83]
        exact ⟨rfl, N83⟩
      · skip
        refine own_f T73 (mkF m 122 #[.val (.int p1), .val (.int p2), .val (.int p3), .val (.int p4), .val (.int p5), .val (.int cx), .val (.int cy), .val (.int cz), .val (.int ln), .val (.ref b51), .unset, .unset] []) (fun t k => XS.ifNo X73.here hx rfl (hb hby at_119) rfl (XT.i0_eq_f hc75) k) ?_
        obtain ⟨T84, h84, X84, e84, E84, A84, D84, U84, st84⟩ := newO X73 hx hZ hown (own_w hw 2 rfl) (own_w hw 3 rfl) (own_w hw 4 rfl) e73 (g := (mkF m 122 #[.val (.int p1), .val (.int p2), .val (.int p3), .val (.int p4), .val (.int p5), .val (.int cx), .val (.int cy), .val (.int cz), .val (.int ln), .val (.ref b51), .unset, .unset] [])) rfl (hb hby at_122) (by decide) (by decide)
        obtain ⟨b84, g84⟩ : ∃ z, z = h73.size := ⟨_, rfl⟩
        rw [← g84] at A84 D84 st84
        have ge84 : n0 ≤ b84 := by rw [g84]; exact Zs73
        have Zs84 : n0 ≤ h84.size := Nat.le_trans Zs73 E84.1
        have hk := Nat.le_trans hk E84.1
        have gm84 : mt ≤ b84 := by rw [g84]; exact hm
        have hm := Nat.le_trans hm E84.1
        have F_85 := F_74.ext E84
        have F_86 := G73.ext E84
        have hR := hR.trans (CHr.ext E84 hR.1)
        have F_87 : Fld Z h84 b84 "java/lang/String" "coder" "B" (.int 0) := D84 (Or.inr (own_w hw 29 rfl)) (ty := .byte) (by decide)
        have F_88 : Fld Z h84 b84 "java/lang/String" "value" "[B" .null := D84 (Or.inr (own_w hw 31 rfl)) (ty := (.array .byte)) (by decide)
        refine own_f T84 (mkF m 125 #[.val (.int p1), .val (.int p2), .val (.int p3), .val (.int p4), .val (.int p5), .val (.int cx), .val (.int cy), .val (.int cz), .val (.int ln), .val (.ref b51), .unset, .unset] [(.ref b84)]) st84 ?_
        refine own_step (fun t k => XS.dup X84.here hx rfl (hb hby at_125) rfl rfl k) ?_
        refine own_f T84 (mkF m 127 #[.val (.int p1), .val (.int p2), .val (.int p3), .val (.int p4), .val (.int p5), .val (.int cx), .val (.int cy), .val (.int cz), .val (.int ln), .val (.ref b51), .unset, .unset] [(.int (0 : Int32)), (.ref b84), (.ref b84)]) (fun t k => XT.iconstV X84.here hx rfl (0 : Int32) (hb hby at_126) (by decide) k) ?_
        obtain ⟨T89, h89, kA89, X89, e89, E89, A89, st89⟩ := newP X84 hx hZ (own_w hw 5 rfl) e84 (g := (mkF m 127 #[.val (.int p1), .val (.int p2), .val (.int p3), .val (.int p4), .val (.int p5), .val (.int cx), .val (.int cy), .val (.int cz), .val (.int ln), .val (.ref b51), .unset, .unset] [(.int (0 : Int32)), (.ref b84), (.ref b84)])) rfl (hb hby at_127) rfl (by decide) (cap := 0) (by decide) (by decide) (by decide) (by decide)
        obtain ⟨b89, g89⟩ : ∃ z, z = h84.size := ⟨_, rfl⟩
        rw [← g89] at A89 st89
        have ne89_b84 : b84 ≠ b89 := by rw [g89]; exact Nat.ne_of_lt A84.lt
        have ge89 : n0 ≤ b89 := by rw [g89]; exact Zs84
        have Zs89 : n0 ≤ h89.size := Nat.le_trans Zs84 E89.1
        have hk := Nat.le_trans hk E89.1
        have gm89 : mt ≤ b89 := by rw [g89]; exact hm
        have hm := Nat.le_trans hm E89.1
        have F_90 := F_85.ext E89
        have F_91 := F_86.ext E89
        have F_92 := A84.ext E89
        have F_93 := F_87.ext E89
        have F_94 := F_88.ext E89
        have hR := hR.trans (CHr.ext E89 hR.1)
        have F_95 : Arv Z h89 b89 kA89 .char (0 : Int32) [] (.int 0) := own_arvnew 0 A89 (by decide)
        refine own_f T89 (mkF m 129 #[.val (.int p1), .val (.int p2), .val (.int p3), .val (.int p4), .val (.int p5), .val (.int cx), .val (.int cy), .val (.int cz), .val (.int ln), .val (.ref b51), .unset, .unset] [(.ref b89), (.ref b84), (.ref b84)]) st89 ?_
        obtain ⟨_, _, ⟨T96, Lq96, kq_96, nq_96⟩, -, X96, hSn96, hgr96, ⟨Lc96, hQ96, lq96, yq96, zq96, hC96⟩, st96⟩ := X89.specialBackS hx (y := (⟨"java/lang/String", "<init>", "([C)V"⟩ : MethodName)) rfl hown (mvT hZ (own_w hw 6 rfl)) (mvT hZ (own_w hw 7 rfl)) (mvT hZ (own_w hw 8 rfl)) (by decide) (backOfSH (s := s) (vm0 := s.vm) (W := 1) (rms20 l Z a0 hw [] b84 b89 _ _ h89 n0 Zs89 F_92 F_94 F_93 F_95 ge84) hZ (own_w hw 8 rfl) (own_w hw 4 rfl) (by decide) (by decide) (own_EW hw) hR.1) (g := (mkF m 129 #[.val (.int p1), .val (.int p2), .val (.int p3), .val (.int p4), .val (.int p5), .val (.int cx), .val (.int cy), .val (.int cz), .val (.int ln), .val (.ref b51), .unset, .unset] [(.ref b89), (.ref b84), (.ref b84)])) rfl (by rw [hml]; rfl) (Steps.refl _) (a := b84) (argsL := [(.ref b89)]) (rest := [(.ref b84)]) (lenOf pd__C_V rfl) rfl (by show 2 * 0 + _ ≤ _; exact Nat.le_of_eq rfl) (hb hby at_129) (fun _ _ => ⟨rfl, e89, (by decide : 0 + 1 + 1 + 2 + 1 + 1 + 4 ≤ _), (by decide : 0 + 4 + 2 + 6 + 4 + 0 + 8 ≤ _)⟩)
        dsimp only [Pt.U, Pt.locs, Pt.cells, Pt.slots] at X96 lq96 yq96 zq96 st96 hQ96 hSn96 hgr96 hC96
        subst lq96 yq96 zq96
        obtain ⟨h96, e96⟩ : ∃ z, T96.heap = z := ⟨_, rfl⟩
        rw [e96] at hQ96 hC96
        have hS : s.Since T96.vm T96.heap.size := foldS (T := T89) (U := T96) hS (by rw [e89]; exact hk) hSn96 hgr96
        have hZ : Z.Warmed39 (s.setVm T96.vm).vm := State.Warmed39.trans hZ0 hS.1
        have hown : (s.setVm T96.vm).vm.findClass "com/example/rulecart/rulecart/RequireNonEmptyPinLaw" = some m.cls := by rw [show (s.setVm T96.vm).vm = T96.vm from rfl, hS.1.alike.findClass]; exact hown0
        have X96 : Stand p l e room_1 (s.setVm T96.vm) m #[(.int p1), (.int p2), (.int p3), (.int p4), (.int p5)] below meth c T96 _ _ _ := X96
        rw [e96] at hS
        have hk : h96.size ≤ h96.size := Nat.le_refl _
        unfold Qs20 at hQ96
        obtain ⟨b96, kb96, rfl, Nq96, qh96, G96_0, G96_1, G96_2, G96_3⟩ := hQ96
        have N96 := Fr.app N73 Nq96
        have Zs96 : n0 ≤ h96.size := Nat.le_trans Zs89 qh96.1
        have hm := Nat.le_trans hm qh96.1
        have F_97 := F_90.keep qh96 (allS ge84 all0)
        have F_98 := F_91.keep qh96 (allS gm84 all0)
        have F_99 := F_95.keep qh96 (ninS (Ne.symm ne89_b84) nin0)
        have hR := hR.trans hC96
        refine own_g T96 (mkF m 132 #[.val (.int p1), .val (.int p2), .val (.int p3), .val (.int p4), .val (.int p5), .val (.int cx), .val (.int cy), .val (.int cz), .val (.int ln), .val (.ref b51), .unset, .unset] [(.ref b84)]) st96 ?_
        refine own_f T96 (mkF m 134 #[.val (.int p1), .val (.int p2), .val (.int p3), .val (.int p4), .val (.int p5), .val (.int cx), .val (.int cy), .val (.int cz), .val (.int ln), .val (.ref b51), .val (.ref b84), .unset] []) (fun t k => XS.astore X96.here hx rfl (hb hby at_132) rfl rfl (l' := #[.val (.int p1), .val (.int p2), .val (.int p3), .val (.int p4), .val (.int p5), .val (.int cx), .val (.int cy), .val (.int cz), .val (.int ln), .val (.ref b51), .val (.ref b84), .unset]) rfl k) ?_
        refine own_f T96 (mkF m 150 #[.val (.int p1), .val (.int p2), .val (.int p3), .val (.int p4), .val (.int p5), .val (.int cx), .val (.int cy), .val (.int cz), .val (.int ln), .val (.ref b51), .val (.ref b84), .unset] []) (fun t k => XS.goto X96.here hx rfl (pc0 := 134) (pc' := 150) rfl (hb hby at_134) (by decide) (by decide) k) ?_
        refine own_step (fun t k => XS.aload X96.here hx rfl (hb hby at_150) rfl rfl k) ?_
        refine own_f T96 (mkF m 154 #[.val (.int p1), .val (.int p2), .val (.int p3), .val (.int p4), .val (.int p5), .val (.int cx), .val (.int cy), .val (.int cz), .val (.int ln), .val (.ref b51), .val (.ref b84), .unset] [(.ref b51), (.ref b84)]) (fun t k => XS.aload X96.here hx rfl (hb hby at_152) rfl rfl k) ?_
        obtain ⟨_, _, ⟨T100, Lq100, kq_100, nq_100⟩, -, X100, ⟨Lc100, hQ100, lq100, yq100, zq100⟩, st100⟩ := Jvm.LawKit.callS X96 hx (y := (⟨"com/example/rulecart/rulecart/Require", "nonEmpty", "(Ljava/lang/String;Ljava/lang/String;)Ljava/lang/String;"⟩ : MethodName)) hown (mvT hZ (own_w hw 46 rfl)) (mvT hZ (own_w hw 47 rfl)) (mvT hZ (own_w hw 48 rfl)) (mvT hZ (own_w hw 49 rfl)) (by decide) (backOf (W := 0) (rmne l Z a0 hw [] b84 b51 _ _ h96 n0 Zs96 F_98 (by decide)) hZ (own_w hw 49 rfl) (own_w hw 48 rfl) (by decide) (by decide)) (g := (mkF m 154 #[.val (.int p1), .val (.int p2), .val (.int p3), .val (.int p4), .val (.int p5), .val (.int cx), .val (.int cy), .val (.int cz), .val (.int ln), .val (.ref b51), .val (.ref b84), .unset] [(.ref b51), (.ref b84)])) rfl (by rw [hml]; rfl) (argsL := [(.ref b84), (.ref b51)]) (rest := []) (lenOf pd__Ljava_lang_String_Ljava_lang_String_Ljava_lang_String_ rfl) rfl (by show 2 * 0 + _ ≤ _; exact Nat.le_of_eq rfl) (hb hby at_154) (fun _ _ => ⟨rfl, e96, (by decide : 0 + 1 + 1 + 2 + 1 + 1 + 4 + 0 ≤ _), (by decide : 0 + 4 + 2 + 6 + 4 + 0 + 8 + 0 ≤ _)⟩)
        dsimp only [Pt.U, Pt.locs, Pt.cells, Pt.slots] at X100 lq100 yq100 zq100 st100 hQ100
        subst lq100 yq100 zq100
        obtain ⟨h100, e100⟩ : ∃ z, T100.heap = z := ⟨_, rfl⟩
        rw [e100] at hQ100
        unfold Qne at hQ100
        obtain ⟨rfl, Nq100, qh100⟩ := hQ100
        have N100 := Fr.app N96 Nq100
        rw [qh100] at e100
        refine own_f T100 (mkF m 157 #[.val (.int p1), .val (.int p2), .val (.int p3), .val (.int p4), .val (.int p5), .val (.int cx), .val (.int cy), .val (.int cz), .val (.int ln), .val (.ref b51), .val (.ref b84), .unset] [(.ref b51)]) st100 ?_
        refine own_f T100 (mkF m 159 #[.val (.int p1), .val (.int p2), .val (.int p3), .val (.int p4), .val (.int p5), .val (.int cx), .val (.int cy), .val (.int cz), .val (.int ln), .val (.ref b51), .val (.ref b84), .val (.ref b51)] []) (fun t k => XS.astore X100.here hx rfl (hb hby at_157) rfl rfl (l' := #[.val (.int p1), .val (.int p2), .val (.int p3), .val (.int p4), .val (.int p5), .val (.int cx), .val (.int cy), .val (.int cz), .val (.int ln), .val (.ref b51), .val (.ref b84), .val (.ref b51)]) rfl k) ?_
        refine own_step (fun t k => XS.aload X100.here hx rfl (hb hby at_159) rfl rfl k) ?_
        refine own_f T100 (mkF m 163 #[.val (.int p1), .val (.int p2), .val (.int p3), .val (.int p4), .val (.int p5), .val (.int cx), .val (.int cy), .val (.int cz), .val (.int ln), .val (.ref b51), .val (.ref b84), .val (.ref b51)] [(.ref b51), (.ref b51)]) (fun t k => XS.aload X100.here hx rfl (hb hby at_161) rfl rfl k) ?_
        refine own_f T100 (mkF m 166 #[.val (.int p1), .val (.int p2), .val (.int p3), .val (.int p4), .val (.int p5), .val (.int cx), .val (.int cy), .val (.int cz), .val (.int ln), .val (.ref b51), .val (.ref b84), .val (.ref b51)] []) (fun t k => XT.acmpNo X100.here hx rfl (hb hby at_163) rfl rfl rfl (XT.aa_ne_f rfl) k) ?_
        refine own_f T100 (mkF m 168 #[.val (.int p1), .val (.int p2), .val (.int p3), .val (.int p4), .val (.int p5), .val (.int cx), .val (.int cy), .val (.int cz), .val (.int ln), .val (.ref b51), .val (.ref b84), .val (.ref b51)] [(.ref b51)]) (fun t k => XS.aload X100.here hx rfl (hb hby at_166) rfl rfl k) ?_
        obtain ⟨_, _, _, _, _, TE101, -⟩ := id F_98
        obtain ⟨cq102, kq102, qa102, qb102, qc102⟩ := isOf hZ e100 TE101
        obtain ⟨_, _, ⟨T102, Lq102, kq_102, nq_102⟩, -, X102, ⟨Lc102, hQ102, lq102, yq102, zq102⟩, st102⟩ := X100.virtualBack hx (y := (⟨"java/lang/String", "length", "()I"⟩ : MethodName)) (z := (⟨"java/lang/String", "length", "()I"⟩ : MethodName)) hown (mvT hZ (own_w hw 55 rfl)) (mvT hZ (own_w hw 56 rfl)) (notFace_of_selects (args := #[]) (mvT hZ (own_w hw 58 rfl))) (mvT hZ (own_w hw 58 rfl)) (mvT hZ (own_w hw 57 rfl)) (by decide) (backOf (W := 0) (rmln l Z a0 hw [] b51 _ _ _ h96 n0 Zs96 F_97 F_98 (by decide) SC HWC) hZ (own_w hw 59 rfl) (own_w hw 4 rfl) (by decide) (by decide)) qa102 qc102 (g := (mkF m 168 #[.val (.int p1), .val (.int p2), .val (.int p3), .val (.int p4), .val (.int p5), .val (.int cx), .val (.int cy), .val (.int cz), .val (.int ln), .val (.ref b51), .val (.ref b84), .val (.ref b51)] [(.ref b51)])) rfl (by rw [hml]; rfl) (Steps.refl _) (argsL := []) (rest := []) (lenOf pd__I rfl) rfl (by show 2 * 0 + _ ≤ _; exact Nat.le_of_eq rfl) (hb hby at_168) (fun _ _ => ⟨rfl, e100, (by decide : 0 + 1 + 1 + 2 + 1 + 1 + 4 + 0 + 0 ≤ _), (by decide : 0 + 4 + 2 + 6 + 4 + 0 + 8 + 0 + 0 ≤ _)⟩)
        dsimp only [Pt.U, Pt.locs, Pt.cells, Pt.slots] at X102 lq102 yq102 zq102 st102 hQ102
        subst lq102 yq102 zq102
        obtain ⟨h102, e102⟩ : ∃ z, T102.heap = z := ⟨_, rfl⟩
        rw [e102] at hQ102
        unfold Qln at hQ102
        obtain ⟨rfl, Nq102, qh102⟩ := hQ102
        have N102 := Fr.app N100 Nq102
        rw [qh102] at e102
        refine own_g T102 (mkF m 171 #[.val (.int p1), .val (.int p2), .val (.int p3), .val (.int p4), .val (.int p5), .val (.int cx), .val (.int cy), .val (.int cz), .val (.int ln), .val (.ref b51), .val (.ref b84), .val (.ref b51)] [(.int (2 : Int32))]) st102 ?_
        refine own_step (fun t k => XS.iload X102.here hx rfl (hb hby at_171) rfl k) ?_
        have hc103 : (2 : Int32) = ln := hc50.symm
        refine own_f T102 (mkF m 176 #[.val (.int p1), .val (.int p2), .val (.int p3), .val (.int p4), .val (.int p5), .val (.int cx), .val (.int cy), .val (.int cz), .val (.int ln), .val (.ref b51), .val (.ref b84), .val (.ref b51)] []) (fun t k => XS.icmpNo X102.here hx rfl (hb hby at_173) rfl (XT.ii_ne_f hc103) k) ?_
        refine own_step (fun t k => XS.aload X102.here hx rfl (hb hby at_176) rfl rfl k) ?_
        refine own_f T102 (mkF m 180 #[.val (.int p1), .val (.int p2), .val (.int p3), .val (.int p4), .val (.int p5), .val (.int cx), .val (.int cy), .val (.int cz), .val (.int ln), .val (.ref b51), .val (.ref b84), .val (.ref b51)] [(.ref b51), (.ref b51)]) (fun t k => XS.aload X102.here hx rfl (hb hby at_178) rfl rfl k) ?_
        obtain ⟨cq104, kq104, qa104, qb104, qc104⟩ := isOf hZ e102 TE101
        obtain ⟨_, _, ⟨T104, Lq104, kq_104, nq_104⟩, -, X104, ⟨Lc104, hQ104, lq104, yq104, zq104⟩, st104⟩ := X102.virtualBack hx (y := (⟨"java/lang/String", "equals", "(Ljava/lang/Object;)Z"⟩ : MethodName)) (z := (⟨"java/lang/String", "equals", "(Ljava/lang/Object;)Z"⟩ : MethodName)) hown (mvT hZ (own_w hw 65 rfl)) (mvT hZ (own_w hw 66 rfl)) (notFace_of_selects (args := #[]) (mvT hZ (own_w hw 68 rfl))) (mvT hZ (own_w hw 68 rfl)) (mvT hZ (own_w hw 67 rfl)) (by decide) (backOf (W := 0) (rmeq l Z a0 hw [] b51 h96 n0 Zs96 ) hZ (own_w hw 69 rfl) (own_w hw 4 rfl) (by decide) (by decide)) qa104 qc104 (g := (mkF m 180 #[.val (.int p1), .val (.int p2), .val (.int p3), .val (.int p4), .val (.int p5), .val (.int cx), .val (.int cy), .val (.int cz), .val (.int ln), .val (.ref b51), .val (.ref b84), .val (.ref b51)] [(.ref b51), (.ref b51)])) rfl (by rw [hml]; rfl) (Steps.refl _) (argsL := [(.ref b51)]) (rest := []) (lenOf pd__Ljava_lang_Object_Z rfl) rfl (by show 2 * 0 + _ ≤ _; exact Nat.le_of_eq rfl) (hb hby at_180) (fun _ _ => ⟨rfl, e102, (by decide : 0 + 1 + 1 + 2 + 1 + 1 + 4 + 0 + 0 + 0 ≤ _), (by decide : 0 + 4 + 2 + 6 + 4 + 0 + 8 + 0 + 0 + 0 ≤ _)⟩)
        dsimp only [Pt.U, Pt.locs, Pt.cells, Pt.slots] at X104 lq104 yq104 zq104 st104 hQ104
        subst lq104 yq104 zq104
        obtain ⟨h104, e104⟩ : ∃ z, T104.heap = z := ⟨_, rfl⟩
        rw [e104] at hQ104
        unfold Qeq at hQ104
        obtain ⟨rfl, Nq104, qh104⟩ := hQ104
        have N104 := Fr.app N102 Nq104
        rw [qh104] at e104
        refine own_g T104 (mkF m 183 #[.val (.int p1), .val (.int p2), .val (.int p3), .val (.int p4), .val (.int p5), .val (.int cx), .val (.int cy), .val (.int cz), .val (.int ln), .val (.ref b51), .val (.ref b84), .val (.ref b51)] [(.int (1 : Int32))]) st104 ?_
        refine own_f T104 (mkF m 186 #[.val (.int p1), .val (.int p2), .val (.int p3), .val (.int p4), .val (.int p5), .val (.int cx), .val (.int cy), .val (.int cz), .val (.int ln), .val (.ref b51), .val (.ref b84), .val (.ref b51)] []) (fun t k => XS.ifNo X104.here hx rfl (hb hby at_183) rfl (XT.i0_eq_f (by decide)) k) ?_
        refine own_step (fun t k => XT.iconstV X104.here hx rfl (1 : Int32) (hb hby at_186) (by decide) k) ?_
        refine own_f T104 (mkF m 191 #[.val (.int p1), .val (.int p2), .val (.int p3), .val (.int p4), .val (.int p5), .val (.int cx), .val (.int cy), .val (.int cz), .val (.int ln), .val (.ref b51), .val (.ref b84), .val (.ref b51)] [(.int (1 : Int32))]) (fun t k => XS.goto X104.here hx rfl (pc0 := 187) (pc' := 191) rfl (hb hby at_187) (by decide) (by decide) k) ?_
        obtain ⟨fs, hr, hrun, hended, hW⟩ := Stand.leaveW (s := s) (vm₁ := T96.vm) X104 hS (by rw [e104]; exact hk) (v := some (.int (1 : Int32))) (fun h => by rw [Bd.returns] at h; cases h)
        refine ⟨_, _, retN X104 hx (t := .boolean) Bd.returns (by simp) (hb hby at_191) hr, hrun, hended, _, _, rfl, ?_, hW.1, hW.2.1, hW.2.2.1, hW.2.2.2.mono (by decide) (by decide)⟩
        show Q0 Z p1 p2 p3 p4 p5 wc h0 n0 _ T104.heap _
        rw [e104]
        exact ⟨rfl, N104⟩
    · skip
      refine own_f s₁ (mkF m 88 #[.val (.int p1), .val (.int p2), .val (.int p3), .val (.int p4), .val (.int p5), .val (.int cx), .val (.int cy), .val (.int cz), .val (.int ln), .unset, .unset, .unset] []) (fun t k => XS.icmpYes X0.here hx rfl (pc0 := 60) (pc' := 88) rfl (hb hby at_60) rfl (XT.ii_ne_t hc50) (by decide) (by decide) k) ?_
      obtain ⟨T105, h105, X105, e105, E105, A105, D105, U105, st105⟩ := newO X0 hx hZ hown (own_w hw 2 rfl) (own_w hw 3 rfl) (own_w hw 4 rfl) e0 (g := (mkF m 88 #[.val (.int p1), .val (.int p2), .val (.int p3), .val (.int p4), .val (.int p5), .val (.int cx), .val (.int cy), .val (.int cz), .val (.int ln), .unset, .unset, .unset] [])) rfl (hb hby at_88) (by decide) (by decide)
      obtain ⟨b105, g105⟩ : ∃ z, z = h0.size := ⟨_, rfl⟩
      rw [← g105] at A105 D105 st105
      have ge105 : n0 ≤ b105 := by rw [g105]; exact Z0
      have Zs105 : n0 ≤ h105.size := Nat.le_trans Z0 E105.1
      have hk := Nat.le_trans hk E105.1
      have F_106 := F0.ext E105
      have hR := hR.trans (CHr.ext E105 hR.1)
      have F_107 : Fld Z h105 b105 "java/lang/String" "coder" "B" (.int 0) := D105 (Or.inr (own_w hw 29 rfl)) (ty := .byte) (by decide)
      have F_108 : Fld Z h105 b105 "java/lang/String" "value" "[B" .null := D105 (Or.inr (own_w hw 31 rfl)) (ty := (.array .byte)) (by decide)
      refine own_f T105 (mkF m 91 #[.val (.int p1), .val (.int p2), .val (.int p3), .val (.int p4), .val (.int p5), .val (.int cx), .val (.int cy), .val (.int cz), .val (.int ln), .unset, .unset, .unset] [(.ref b105)]) st105 ?_
      refine own_step (fun t k => XS.dup X105.here hx rfl (hb hby at_91) rfl rfl k) ?_
      refine own_f T105 (mkF m 93 #[.val (.int p1), .val (.int p2), .val (.int p3), .val (.int p4), .val (.int p5), .val (.int cx), .val (.int cy), .val (.int cz), .val (.int ln), .unset, .unset, .unset] [(.int (3 : Int32)), (.ref b105), (.ref b105)]) (fun t k => XT.iconstV X105.here hx rfl (3 : Int32) (hb hby at_92) (by decide) k) ?_
      obtain ⟨T109, h109, kA109, X109, e109, E109, A109, st109⟩ := newP X105 hx hZ (own_w hw 5 rfl) e105 (g := (mkF m 93 #[.val (.int p1), .val (.int p2), .val (.int p3), .val (.int p4), .val (.int p5), .val (.int cx), .val (.int cy), .val (.int cz), .val (.int ln), .unset, .unset, .unset] [(.int (3 : Int32)), (.ref b105), (.ref b105)])) rfl (hb hby at_93) rfl (by decide) (cap := 3) (by decide) (by decide) (by decide) (by decide)
      obtain ⟨b109, g109⟩ : ∃ z, z = h105.size := ⟨_, rfl⟩
      rw [← g109] at A109 st109
      have ne109_b105 : b105 ≠ b109 := by rw [g109]; exact Nat.ne_of_lt A105.lt
      have ge109 : n0 ≤ b109 := by rw [g109]; exact Zs105
      have Zs109 : n0 ≤ h109.size := Nat.le_trans Zs105 E109.1
      have hk := Nat.le_trans hk E109.1
      have F_110 := F_106.ext E109
      have F_111 := A105.ext E109
      have F_112 := F_107.ext E109
      have F_113 := F_108.ext E109
      have hR := hR.trans (CHr.ext E109 hR.1)
      have F_114 : Arv Z h109 b109 kA109 .char (3 : Int32) [.int 0, .int 0, .int 0] (.int 0) := own_arvnew 3 A109 (by decide)
      refine own_f T109 (mkF m 95 #[.val (.int p1), .val (.int p2), .val (.int p3), .val (.int p4), .val (.int p5), .val (.int cx), .val (.int cy), .val (.int cz), .val (.int ln), .unset, .unset, .unset] [(.ref b109), (.ref b105), (.ref b105)]) st109 ?_
      refine own_step (fun t k => XS.dup X109.here hx rfl (hb hby at_95) rfl rfl k) ?_
      refine own_step (fun t k => XT.iconstV X109.here hx rfl (0 : Int32) (hb hby at_96) (by decide) k) ?_
      refine own_f T109 (mkF m 99 #[.val (.int p1), .val (.int p2), .val (.int p3), .val (.int p4), .val (.int p5), .val (.int cx), .val (.int cy), .val (.int cz), .val (.int ln), .unset, .unset, .unset] [(.int cx), (.int (0 : Int32)), (.ref b109), (.ref b109), (.ref b105), (.ref b105)]) (fun t k => XS.iload X109.here hx rfl (hb hby at_97) rfl k) ?_
      obtain ⟨cl115, Ar115, q1115, Sz115, q3115, Hs115, Gs115⟩ := id F_114
      obtain ⟨T115, h115, X115, e115, W115, st115⟩ := stC X109 hx hZ e109 Ar115 (j := (0 : Int32)) (inb_of Sz115 ⟨by decide, by decide⟩) (g := (mkF m 99 #[.val (.int p1), .val (.int p2), .val (.int p3), .val (.int p4), .val (.int p5), .val (.int cx), .val (.int cy), .val (.int cz), .val (.int ln), .unset, .unset, .unset] [(.int cx), (.int (0 : Int32)), (.ref b109), (.ref b109), (.ref b105), (.ref b105)])) rfl rfl (hb hby at_99)
      have N115 := Fr.snoc X115 N0 ge109
      have Zs115 : n0 ≤ h115.size := by rw [W115.size]; exact Zs109
      have hk := Nat.le_trans hk (Nat.le_of_eq W115.size.symm)
      have sfx : Safe Z own_EL s.vm h109 b109 := (Safe.arv hZ.alike F_114 (by decide))
      have F_116 := F_110.wr W115 ge109
      have F_117 := F_111.wr W115
      have F_118 := F_112.other W115 (Or.inl ne109_b105)
      have F_119 := F_113.other W115 (Or.inl ne109_b105)
      have F_120 : Arv Z h115 b109 kA109 .char (3 : Int32) [.int cx, .int 0, .int 0] (.int 0) := Arv.set Ar115 q1115 Sz115 q3115 Hs115 Gs115 (by rw [← (jx.nar : nar .char cx = cx)]; exact fits_nar_char _) (by rw [(jx.nar : nar .char cx = cx)] at W115; exact W115) 0 (by decide) (by simp)
      have hR := hR.trans (CHr.wr W115 sfx hR.1)
      refine own_f T115 (mkF m 100 #[.val (.int p1), .val (.int p2), .val (.int p3), .val (.int p4), .val (.int p5), .val (.int cx), .val (.int cy), .val (.int cz), .val (.int ln), .unset, .unset, .unset] [(.ref b109), (.ref b105), (.ref b105)]) st115 ?_
      refine own_step (fun t k => XS.dup X115.here hx rfl (hb hby at_100) rfl rfl k) ?_
      refine own_step (fun t k => XT.iconstV X115.here hx rfl (1 : Int32) (hb hby at_101) (by decide) k) ?_
      refine own_f T115 (mkF m 104 #[.val (.int p1), .val (.int p2), .val (.int p3), .val (.int p4), .val (.int p5), .val (.int cx), .val (.int cy), .val (.int cz), .val (.int ln), .unset, .unset, .unset] [(.int cy), (.int (1 : Int32)), (.ref b109), (.ref b109), (.ref b105), (.ref b105)]) (fun t k => XS.iload X115.here hx rfl (hb hby at_102) rfl k) ?_
      obtain ⟨cl121, Ar121, q1121, Sz121, q3121, Hs121, Gs121⟩ := id F_120
      obtain ⟨T121, h121, X121, e121, W121, st121⟩ := stC X115 hx hZ e115 Ar121 (j := (1 : Int32)) (inb_of Sz121 ⟨by decide, by decide⟩) (g := (mkF m 104 #[.val (.int p1), .val (.int p2), .val (.int p3), .val (.int p4), .val (.int p5), .val (.int cx), .val (.int cy), .val (.int cz), .val (.int ln), .unset, .unset, .unset] [(.int cy), (.int (1 : Int32)), (.ref b109), (.ref b109), (.ref b105), (.ref b105)])) rfl rfl (hb hby at_104)
      have N121 := Fr.snoc X121 N115 ge109
      have Zs121 : n0 ≤ h121.size := by rw [W121.size]; exact Zs115
      have hk := Nat.le_trans hk (Nat.le_of_eq W121.size.symm)
      have sfx : Safe Z own_EL s.vm h115 b109 := (Safe.arv hZ.alike F_120 (by decide))
      have F_122 := F_116.wr W121 ge109
      have F_123 := F_117.wr W121
      have F_124 := F_118.other W121 (Or.inl ne109_b105)
      have F_125 := F_119.other W121 (Or.inl ne109_b105)
      have F_126 : Arv Z h121 b109 kA109 .char (3 : Int32) [.int cx, .int cy, .int 0] (.int 0) := Arv.set Ar121 q1121 Sz121 q3121 Hs121 Gs121 (by rw [← (jy.nar : nar .char cy = cy)]; exact fits_nar_char _) (by rw [(jy.nar : nar .char cy = cy)] at W121; exact W121) 1 (by decide) (by simp)
      have hR := hR.trans (CHr.wr W121 sfx hR.1)
      refine own_f T121 (mkF m 105 #[.val (.int p1), .val (.int p2), .val (.int p3), .val (.int p4), .val (.int p5), .val (.int cx), .val (.int cy), .val (.int cz), .val (.int ln), .unset, .unset, .unset] [(.ref b109), (.ref b105), (.ref b105)]) st121 ?_
      refine own_step (fun t k => XS.dup X121.here hx rfl (hb hby at_105) rfl rfl k) ?_
      refine own_step (fun t k => XT.iconstV X121.here hx rfl (2 : Int32) (hb hby at_106) (by decide) k) ?_
      refine own_f T121 (mkF m 109 #[.val (.int p1), .val (.int p2), .val (.int p3), .val (.int p4), .val (.int p5), .val (.int cx), .val (.int cy), .val (.int cz), .val (.int ln), .unset, .unset, .unset] [(.int cz), (.int (2 : Int32)), (.ref b109), (.ref b109), (.ref b105), (.ref b105)]) (fun t k => XS.iload X121.here hx rfl (hb hby at_107) rfl k) ?_
      obtain ⟨cl127, Ar127, q1127, Sz127, q3127, Hs127, Gs127⟩ := id F_126
      obtain ⟨T127, h127, X127, e127, W127, st127⟩ := stC X121 hx hZ e121 Ar127 (j := (2 : Int32)) (inb_of Sz127 ⟨by decide, by decide⟩) (g := (mkF m 109 #[.val (.int p1), .val (.int p2), .val (.int p3), .val (.int p4), .val (.int p5), .val (.int cx), .val (.int cy), .val (.int cz), .val (.int ln), .unset, .unset, .unset] [(.int cz), (.int (2 : Int32)), (.ref b109), (.ref b109), (.ref b105), (.ref b105)])) rfl rfl (hb hby at_109)
      have N127 := Fr.snoc X127 N121 ge109
      have Zs127 : n0 ≤ h127.size := by rw [W127.size]; exact Zs121
      have hk := Nat.le_trans hk (Nat.le_of_eq W127.size.symm)
      have sfx : Safe Z own_EL s.vm h121 b109 := (Safe.arv hZ.alike F_126 (by decide))
      have F_128 := F_122.wr W127 ge109
      have F_129 := F_123.wr W127
      have F_130 := F_124.other W127 (Or.inl ne109_b105)
      have F_131 := F_125.other W127 (Or.inl ne109_b105)
      have F_132 : Arv Z h127 b109 kA109 .char (3 : Int32) [.int cx, .int cy, .int cz] (.int 0) := Arv.set Ar127 q1127 Sz127 q3127 Hs127 Gs127 (by rw [← (jz.nar : nar .char cz = cz)]; exact fits_nar_char _) (by rw [(jz.nar : nar .char cz = cz)] at W127; exact W127) 2 (by decide) (by simp)
      have hR := hR.trans (CHr.wr W127 sfx hR.1)
      refine own_f T127 (mkF m 110 #[.val (.int p1), .val (.int p2), .val (.int p3), .val (.int p4), .val (.int p5), .val (.int cx), .val (.int cy), .val (.int cz), .val (.int ln), .unset, .unset, .unset] [(.ref b109), (.ref b105), (.ref b105)]) st127 ?_
      obtain ⟨_, _, ⟨T133, Lq133, kq_133, nq_133⟩, -, X133, ⟨Lc133, hQ133, lq133, yq133, zq133⟩, st133⟩ := X127.specialBack hx (y := (⟨"java/lang/String", "<init>", "([C)V"⟩ : MethodName)) rfl hown (mvT hZ (own_w hw 6 rfl)) (mvT hZ (own_w hw 7 rfl)) (mvT hZ (own_w hw 8 rfl)) (by decide) (backOf (W := 1) (rmt3 l Z a0 hw [] b105 b109 kA109 cx cy cz _ _ wc h127 n0 Zs127 F_128 F_129 F_131 F_130 F_132 ge105 SC HWC SH SL SA (Ne.symm ne109_b105) jx jy jz) hZ (own_w hw 8 rfl) (own_w hw 4 rfl) (by decide) (by decide)) (g := (mkF m 110 #[.val (.int p1), .val (.int p2), .val (.int p3), .val (.int p4), .val (.int p5), .val (.int cx), .val (.int cy), .val (.int cz), .val (.int ln), .unset, .unset, .unset] [(.ref b109), (.ref b105), (.ref b105)])) rfl (by rw [hml]; rfl) (Steps.refl _) (a := b105) (argsL := [(.ref b109)]) (rest := [(.ref b105)]) (lenOf pd__C_V rfl) rfl (by show 2 * 0 + _ ≤ _; exact Nat.le_of_eq rfl) (hb hby at_110) (fun _ _ => ⟨rfl, e127, (by decide : 0 + 1 + 1 + 2 ≤ _), (by decide : 0 + 4 + 3 + 9 ≤ _)⟩)
      dsimp only [Pt.U, Pt.locs, Pt.cells, Pt.slots] at X133 lq133 yq133 zq133 st133 hQ133
      subst lq133 yq133 zq133
      obtain ⟨h133, e133⟩ : ∃ z, T133.heap = z := ⟨_, rfl⟩
      rw [e133] at hQ133
      unfold Qt3 at hQ133
      obtain ⟨rfl, Nq133, q133, mt, hmt, G133⟩ := hQ133
      have N133 := Fr.app N127 Nq133
      have Zs133 : n0 ≤ h133.size := Nat.le_trans Zs127 q133.1
      have F_134 : Old Z n0 h133 := F_128.keep q133 (allS ge105 all0)
      have hk := Nat.le_trans hk q133.1
      have hsf : ∀ x ∈ ([b105] : List Addr), Safe Z own_EL s.vm h127 x := sfS (own_safe hZ.alike F_129 F_131) sf0
      have hR := hR.trans (CHr.keep q133 hsf hR.1)
      have hm : mt ≤ h133.size := Nat.le_of_eq hmt
      refine own_g T133 (mkF m 113 #[.val (.int p1), .val (.int p2), .val (.int p3), .val (.int p4), .val (.int p5), .val (.int cx), .val (.int cy), .val (.int cz), .val (.int ln), .unset, .unset, .unset] [(.ref b105)]) st133 ?_
      refine own_f T133 (mkF m 115 #[.val (.int p1), .val (.int p2), .val (.int p3), .val (.int p4), .val (.int p5), .val (.int cx), .val (.int cy), .val (.int cz), .val (.int ln), .val (.ref b105), .unset, .unset] []) (fun t k => XS.astore X133.here hx rfl (hb hby at_113) rfl rfl (l' := #[.val (.int p1), .val (.int p2), .val (.int p3), .val (.int p4), .val (.int p5), .val (.int cx), .val (.int cy), .val (.int cz), .val (.int ln), .val (.ref b105), .unset, .unset]) rfl k) ?_
      refine own_step (fun t k => XS.iload X133.here hx rfl (hb hby at_115) rfl k) ?_
      refine own_step (fun t k => XT.iconstV X133.here hx rfl (1 : Int32) (hb hby at_117) (by decide) k) ?_
      refine own_f T133 (mkF m 119 #[.val (.int p1), .val (.int p2), .val (.int p3), .val (.int p4), .val (.int p5), .val (.int cx), .val (.int cy), .val (.int cz), .val (.int ln), .val (.ref b105), .unset, .unset] [(.int (p5 &&& (1 : Int32)))]) (fun t k => XS.iand X133.here hx rfl (hb hby at_118) rfl k) ?_
      by_cases hc135 : (p5 &&& (1 : Int32)) = 0
      · skip
        refine own_f T133 (mkF m 137 #[.val (.int p1), .val (.int p2), .val (.int p3), .val (.int p4), .val (.int p5), .val (.int cx), .val (.int cy), .val (.int cz), .val (.int ln), .val (.ref b105), .unset, .unset] []) (fun t k => XS.ifYes X133.here hx rfl (pc0 := 119) (pc' := 137) rfl (hb hby at_119) rfl (XT.i0_eq_t hc135) (by decide) (by decide) k) ?_
        refine own_step (fun t k => XS.iload X133.here hx rfl (hb hby at_137) rfl k) ?_
        refine own_step (fun t k => XT.iconstV X133.here hx rfl (1 : Int32) (hb hby at_139) (by decide) k) ?_
        refine own_f T133 (mkF m 141 #[.val (.int p1), .val (.int p2), .val (.int p3), .val (.int p4), .val (.int p5), .val (.int cx), .val (.int cy), .val (.int cz), .val (.int ln), .val (.ref b105), .unset, .unset] [(.int ((p5.toUInt32 >>> ((1 : Int32) &&& 31).toUInt32).toInt32))]) (fun t k => XS.iushr X133.here hx rfl (hb hby at_140) rfl k) ?_
        refine own_f T133 (mkF m 143 #[.val (.int p1), .val (.int p2), .val (.int p3), .val (.int p4), .val (.int p5), .val (.int cx), .val (.int cy), .val (.int cz), .val (.int ln), .val (.ref b105), .unset, .unset] [(.int (65535 : Int32)), (.int ((p5.toUInt32 >>> ((1 : Int32) &&& 31).toUInt32).toInt32))]) (fun t k => X133.ldcI hx hown (mvT hZ (own_w hw 0 rfl)) rfl (hb hby at_141) k) ?_
        refine own_f T133 (mkF m 144 #[.val (.int p1), .val (.int p2), .val (.int p3), .val (.int p4), .val (.int p5), .val (.int cx), .val (.int cy), .val (.int cz), .val (.int ln), .val (.ref b105), .unset, .unset] [(.int (((p5.toUInt32 >>> ((1 : Int32) &&& 31).toUInt32).toInt32) &&& (65535 : Int32)))]) (fun t k => XS.iand X133.here hx rfl (hb hby at_143) rfl k) ?_
        refine own_f T133 (mkF m 145 #[.val (.int p1), .val (.int p2), .val (.int p3), .val (.int p4), .val (.int p5), .val (.int cx), .val (.int cy), .val (.int cz), .val (.int ln), .val (.ref b105), .unset, .unset] [(.int ((((p5.toUInt32 >>> ((1 : Int32) &&& 31).toUInt32).toInt32) &&& (65535 : Int32)).toUInt32.toUInt16.toUInt32.toInt32))]) (fun t k => XS.i2c X133.here hx rfl (hb hby at_144) rfl k) ?_
        obtain ⟨_, _, ⟨T136, Lq136, kq_136, nq_136⟩, -, X136, ⟨Lc136, hQ136, lq136, yq136, zq136⟩, st136⟩ := Jvm.LawKit.callS X133 hx (y := (⟨"java/lang/String", "valueOf", "(C)Ljava/lang/String;"⟩ : MethodName)) hown (mvT hZ (own_w hw 32 rfl)) (mvT hZ (own_w hw 33 rfl)) (mvT hZ (own_w hw 4 rfl)) (mvT hZ (own_w hw 34 rfl)) (by decide) (backOf (W := 0) (rmvo l Z a0 hw [] ((((p5.toUInt32 >>> ((1 : Int32) &&& 31).toUInt32).toInt32) &&& (65535 : Int32)).toUInt32.toUInt16.toUInt32.toInt32) _ h133 n0 Zs133 F_134 SC HWC SH SL SA) hZ (own_w hw 34 rfl) (own_w hw 4 rfl) (by decide) (by decide)) (g := (mkF m 145 #[.val (.int p1), .val (.int p2), .val (.int p3), .val (.int p4), .val (.int p5), .val (.int cx), .val (.int cy), .val (.int cz), .val (.int ln), .val (.ref b105), .unset, .unset] [(.int ((((p5.toUInt32 >>> ((1 : Int32) &&& 31).toUInt32).toInt32) &&& (65535 : Int32)).toUInt32.toUInt16.toUInt32.toInt32))])) rfl (by rw [hml]; rfl) (argsL := [(.int ((((p5.toUInt32 >>> ((1 : Int32) &&& 31).toUInt32).toInt32) &&& (65535 : Int32)).toUInt32.toUInt16.toUInt32.toInt32))]) (rest := []) (lenOf pd__C_Ljava_lang_String_ rfl) rfl (by show 2 * 0 + _ ≤ _; exact Nat.le_of_eq rfl) (hb hby at_145) (fun _ _ => ⟨rfl, e133, (by decide : 0 + 1 + 1 + 2 + 2 ≤ _), (by decide : 0 + 4 + 3 + 9 + 6 ≤ _)⟩)
        dsimp only [Pt.U, Pt.locs, Pt.cells, Pt.slots] at X136 lq136 yq136 zq136 st136 hQ136
        subst lq136 yq136 zq136
        obtain ⟨h136, e136⟩ : ∃ z, T136.heap = z := ⟨_, rfl⟩
        rw [e136] at hQ136
        unfold Qvo at hQ136
        obtain ⟨b136, rfl, Nq136, qh136⟩ := hQ136
        have N136 := Fr.app N133 Nq136
        have Zs136 : n0 ≤ h136.size := Nat.le_trans Zs133 qh136.1
        have hk := Nat.le_trans hk qh136.1
        have hm := Nat.le_trans hm qh136.1
        have hsf : ∀ x ∈ ([] : List Addr), Safe Z own_EL s.vm h133 x := sf0
        have F_137 := F_134.keep qh136 all0
        have F_138 := G133.keep qh136 all0
        have hR := hR.trans (CHr.keep qh136 hsf hR.1)
        refine own_f T136 (mkF m 148 #[.val (.int p1), .val (.int p2), .val (.int p3), .val (.int p4), .val (.int p5), .val (.int cx), .val (.int cy), .val (.int cz), .val (.int ln), .val (.ref b105), .unset, .unset] [(.ref b136)]) st136 ?_
        refine own_f T136 (mkF m 150 #[.val (.int p1), .val (.int p2), .val (.int p3), .val (.int p4), .val (.int p5), .val (.int cx), .val (.int cy), .val (.int cz), .val (.int ln), .val (.ref b105), .val (.ref b136), .unset] []) (fun t k => XS.astore X136.here hx rfl (hb hby at_148) rfl rfl (l' := #[.val (.int p1), .val (.int p2), .val (.int p3), .val (.int p4), .val (.int p5), .val (.int cx), .val (.int cy), .val (.int cz), .val (.int ln), .val (.ref b105), .val (.ref b136), .unset]) rfl k) ?_
        refine own_step (fun t k => XS.aload X136.here hx rfl (hb hby at_150) rfl rfl k) ?_
        refine own_f T136 (mkF m 154 #[.val (.int p1), .val (.int p2), .val (.int p3), .val (.int p4), .val (.int p5), .val (.int cx), .val (.int cy), .val (.int cz), .val (.int ln), .val (.ref b105), .val (.ref b136), .unset] [(.ref b105), (.ref b136)]) (fun t k => XS.aload X136.here hx rfl (hb hby at_152) rfl rfl k) ?_
        obtain ⟨_, _, ⟨T139, Lq139, kq_139, nq_139⟩, -, X139, ⟨Lc139, hQ139, lq139, yq139, zq139⟩, st139⟩ := Jvm.LawKit.callS X136 hx (y := (⟨"com/example/rulecart/rulecart/Require", "nonEmpty", "(Ljava/lang/String;Ljava/lang/String;)Ljava/lang/String;"⟩ : MethodName)) hown (mvT hZ (own_w hw 46 rfl)) (mvT hZ (own_w hw 47 rfl)) (mvT hZ (own_w hw 48 rfl)) (mvT hZ (own_w hw 49 rfl)) (by decide) (backOf (W := 0) (rmne l Z a0 hw [] b136 b105 _ _ h136 n0 Zs136 F_138 (by decide)) hZ (own_w hw 49 rfl) (own_w hw 48 rfl) (by decide) (by decide)) (g := (mkF m 154 #[.val (.int p1), .val (.int p2), .val (.int p3), .val (.int p4), .val (.int p5), .val (.int cx), .val (.int cy), .val (.int cz), .val (.int ln), .val (.ref b105), .val (.ref b136), .unset] [(.ref b105), (.ref b136)])) rfl (by rw [hml]; rfl) (argsL := [(.ref b136), (.ref b105)]) (rest := []) (lenOf pd__Ljava_lang_String_Ljava_lang_String_Ljava_lang_String_ rfl) rfl (by show 2 * 0 + _ ≤ _; exact Nat.le_of_eq rfl) (hb hby at_154) (fun _ _ => ⟨rfl, e136, (by decide : 0 + 1 + 1 + 2 + 2 + 0 ≤ _), (by decide : 0 + 4 + 3 + 9 + 6 + 0 ≤ _)⟩)
        dsimp only [Pt.U, Pt.locs, Pt.cells, Pt.slots] at X139 lq139 yq139 zq139 st139 hQ139
        subst lq139 yq139 zq139
        obtain ⟨h139, e139⟩ : ∃ z, T139.heap = z := ⟨_, rfl⟩
        rw [e139] at hQ139
        unfold Qne at hQ139
        obtain ⟨rfl, Nq139, qh139⟩ := hQ139
        have N139 := Fr.app N136 Nq139
        rw [qh139] at e139
        refine own_f T139 (mkF m 157 #[.val (.int p1), .val (.int p2), .val (.int p3), .val (.int p4), .val (.int p5), .val (.int cx), .val (.int cy), .val (.int cz), .val (.int ln), .val (.ref b105), .val (.ref b136), .unset] [(.ref b105)]) st139 ?_
        refine own_f T139 (mkF m 159 #[.val (.int p1), .val (.int p2), .val (.int p3), .val (.int p4), .val (.int p5), .val (.int cx), .val (.int cy), .val (.int cz), .val (.int ln), .val (.ref b105), .val (.ref b136), .val (.ref b105)] []) (fun t k => XS.astore X139.here hx rfl (hb hby at_157) rfl rfl (l' := #[.val (.int p1), .val (.int p2), .val (.int p3), .val (.int p4), .val (.int p5), .val (.int cx), .val (.int cy), .val (.int cz), .val (.int ln), .val (.ref b105), .val (.ref b136), .val (.ref b105)]) rfl k) ?_
        refine own_step (fun t k => XS.aload X139.here hx rfl (hb hby at_159) rfl rfl k) ?_
        refine own_f T139 (mkF m 163 #[.val (.int p1), .val (.int p2), .val (.int p3), .val (.int p4), .val (.int p5), .val (.int cx), .val (.int cy), .val (.int cz), .val (.int ln), .val (.ref b105), .val (.ref b136), .val (.ref b105)] [(.ref b105), (.ref b105)]) (fun t k => XS.aload X139.here hx rfl (hb hby at_161) rfl rfl k) ?_
        refine own_f T139 (mkF m 166 #[.val (.int p1), .val (.int p2), .val (.int p3), .val (.int p4), .val (.int p5), .val (.int cx), .val (.int cy), .val (.int cz), .val (.int ln), .val (.ref b105), .val (.ref b136), .val (.ref b105)] []) (fun t k => XT.acmpNo X139.here hx rfl (hb hby at_163) rfl rfl rfl (XT.aa_ne_f rfl) k) ?_
        refine own_f T139 (mkF m 168 #[.val (.int p1), .val (.int p2), .val (.int p3), .val (.int p4), .val (.int p5), .val (.int cx), .val (.int cy), .val (.int cz), .val (.int ln), .val (.ref b105), .val (.ref b136), .val (.ref b105)] [(.ref b105)]) (fun t k => XS.aload X139.here hx rfl (hb hby at_166) rfl rfl k) ?_
        obtain ⟨_, _, _, _, _, TE140, -⟩ := id F_138
        obtain ⟨cq141, kq141, qa141, qb141, qc141⟩ := isOf hZ e139 TE140
        obtain ⟨_, _, ⟨T141, Lq141, kq_141, nq_141⟩, -, X141, ⟨Lc141, hQ141, lq141, yq141, zq141⟩, st141⟩ := X139.virtualBack hx (y := (⟨"java/lang/String", "length", "()I"⟩ : MethodName)) (z := (⟨"java/lang/String", "length", "()I"⟩ : MethodName)) hown (mvT hZ (own_w hw 55 rfl)) (mvT hZ (own_w hw 56 rfl)) (notFace_of_selects (args := #[]) (mvT hZ (own_w hw 58 rfl))) (mvT hZ (own_w hw 58 rfl)) (mvT hZ (own_w hw 57 rfl)) (by decide) (backOf (W := 0) (rmln l Z a0 hw [] b105 _ _ _ h136 n0 Zs136 F_137 F_138 (by decide) SC HWC) hZ (own_w hw 59 rfl) (own_w hw 4 rfl) (by decide) (by decide)) qa141 qc141 (g := (mkF m 168 #[.val (.int p1), .val (.int p2), .val (.int p3), .val (.int p4), .val (.int p5), .val (.int cx), .val (.int cy), .val (.int cz), .val (.int ln), .val (.ref b105), .val (.ref b136), .val (.ref b105)] [(.ref b105)])) rfl (by rw [hml]; rfl) (Steps.refl _) (argsL := []) (rest := []) (lenOf pd__I rfl) rfl (by show 2 * 0 + _ ≤ _; exact Nat.le_of_eq rfl) (hb hby at_168) (fun _ _ => ⟨rfl, e139, (by decide : 0 + 1 + 1 + 2 + 2 + 0 + 0 ≤ _), (by decide : 0 + 4 + 3 + 9 + 6 + 0 + 0 ≤ _)⟩)
        dsimp only [Pt.U, Pt.locs, Pt.cells, Pt.slots] at X141 lq141 yq141 zq141 st141 hQ141
        subst lq141 yq141 zq141
        obtain ⟨h141, e141⟩ : ∃ z, T141.heap = z := ⟨_, rfl⟩
        rw [e141] at hQ141
        unfold Qln at hQ141
        obtain ⟨rfl, Nq141, qh141⟩ := hQ141
        have N141 := Fr.app N139 Nq141
        rw [qh141] at e141
        refine own_g T141 (mkF m 171 #[.val (.int p1), .val (.int p2), .val (.int p3), .val (.int p4), .val (.int p5), .val (.int cx), .val (.int cy), .val (.int cz), .val (.int ln), .val (.ref b105), .val (.ref b136), .val (.ref b105)] [(.int (3 : Int32))]) st141 ?_
        refine own_step (fun t k => XS.iload X141.here hx rfl (hb hby at_171) rfl k) ?_
        have hc142 : (3 : Int32) = ln := (own_l3 jl hc1 hc50).symm
        refine own_f T141 (mkF m 176 #[.val (.int p1), .val (.int p2), .val (.int p3), .val (.int p4), .val (.int p5), .val (.int cx), .val (.int cy), .val (.int cz), .val (.int ln), .val (.ref b105), .val (.ref b136), .val (.ref b105)] []) (fun t k => XS.icmpNo X141.here hx rfl (hb hby at_173) rfl (XT.ii_ne_f hc142) k) ?_
        refine own_step (fun t k => XS.aload X141.here hx rfl (hb hby at_176) rfl rfl k) ?_
        refine own_f T141 (mkF m 180 #[.val (.int p1), .val (.int p2), .val (.int p3), .val (.int p4), .val (.int p5), .val (.int cx), .val (.int cy), .val (.int cz), .val (.int ln), .val (.ref b105), .val (.ref b136), .val (.ref b105)] [(.ref b105), (.ref b105)]) (fun t k => XS.aload X141.here hx rfl (hb hby at_178) rfl rfl k) ?_
        obtain ⟨cq143, kq143, qa143, qb143, qc143⟩ := isOf hZ e141 TE140
        obtain ⟨_, _, ⟨T143, Lq143, kq_143, nq_143⟩, -, X143, ⟨Lc143, hQ143, lq143, yq143, zq143⟩, st143⟩ := X141.virtualBack hx (y := (⟨"java/lang/String", "equals", "(Ljava/lang/Object;)Z"⟩ : MethodName)) (z := (⟨"java/lang/String", "equals", "(Ljava/lang/Object;)Z"⟩ : MethodName)) hown (mvT hZ (own_w hw 65 rfl)) (mvT hZ (own_w hw 66 rfl)) (notFace_of_selects (args := #[]) (mvT hZ (own_w hw 68 rfl))) (mvT hZ (own_w hw 68 rfl)) (mvT hZ (own_w hw 67 rfl)) (by decide) (backOf (W := 0) (rmeq l Z a0 hw [] b105 h136 n0 Zs136 ) hZ (own_w hw 69 rfl) (own_w hw 4 rfl) (by decide) (by decide)) qa143 qc143 (g := (mkF m 180 #[.val (.int p1), .val (.int p2), .val (.int p3), .val (.int p4), .val (.int p5), .val (.int cx), .val (.int cy), .val (.int cz), .val (.int ln), .val (.ref b105), .val (.ref b136), .val (.ref b105)] [(.ref b105), (.ref b105)])) rfl (by rw [hml]; rfl) (Steps.refl _) (argsL := [(.ref b105)]) (rest := []) (lenOf pd__Ljava_lang_Object_Z rfl) rfl (by show 2 * 0 + _ ≤ _; exact Nat.le_of_eq rfl) (hb hby at_180) (fun _ _ => ⟨rfl, e141, (by decide : 0 + 1 + 1 + 2 + 2 + 0 + 0 + 0 ≤ _), (by decide : 0 + 4 + 3 + 9 + 6 + 0 + 0 + 0 ≤ _)⟩)
        dsimp only [Pt.U, Pt.locs, Pt.cells, Pt.slots] at X143 lq143 yq143 zq143 st143 hQ143
        subst lq143 yq143 zq143
        obtain ⟨h143, e143⟩ : ∃ z, T143.heap = z := ⟨_, rfl⟩
        rw [e143] at hQ143
        unfold Qeq at hQ143
        obtain ⟨rfl, Nq143, qh143⟩ := hQ143
        have N143 := Fr.app N141 Nq143
        rw [qh143] at e143
        refine own_g T143 (mkF m 183 #[.val (.int p1), .val (.int p2), .val (.int p3), .val (.int p4), .val (.int p5), .val (.int cx), .val (.int cy), .val (.int cz), .val (.int ln), .val (.ref b105), .val (.ref b136), .val (.ref b105)] [(.int (1 : Int32))]) st143 ?_
        refine own_f T143 (mkF m 186 #[.val (.int p1), .val (.int p2), .val (.int p3), .val (.int p4), .val (.int p5), .val (.int cx), .val (.int cy), .val (.int cz), .val (.int ln), .val (.ref b105), .val (.ref b136), .val (.ref b105)] []) (fun t k => XS.ifNo X143.here hx rfl (hb hby at_183) rfl (XT.i0_eq_f (by decide)) k) ?_
        refine own_step (fun t k => XT.iconstV X143.here hx rfl (1 : Int32) (hb hby at_186) (by decide) k) ?_
        refine own_f T143 (mkF m 191 #[.val (.int p1), .val (.int p2), .val (.int p3), .val (.int p4), .val (.int p5), .val (.int cx), .val (.int cy), .val (.int cz), .val (.int ln), .val (.ref b105), .val (.ref b136), .val (.ref b105)] [(.int (1 : Int32))]) (fun t k => XS.goto X143.here hx rfl (pc0 := 187) (pc' := 191) rfl (hb hby at_187) (by decide) (by decide) k) ?_
        obtain ⟨fs, hr, hrun, hended, hW⟩ := Stand.leaveW (s := s) (vm₁ := s.vm) X143 hS (by rw [e143]; exact hk) (v := some (.int (1 : Int32))) (fun h => by rw [Bd.returns] at h; cases h)
        refine ⟨_, _, retN X143 hx (t := .boolean) Bd.returns (by simp) (hb hby at_191) hr, hrun, hended, _, _, rfl, ?_, hW.1, hW.2.1, hW.2.2.1, hW.2.2.2.mono (by decide) (by decide)⟩
        show Q0 Z p1 p2 p3 p4 p5 wc h0 n0 _ T143.heap _
        rw [e143]
        exact ⟨rfl, N143⟩
      · skip
        refine own_f T133 (mkF m 122 #[.val (.int p1), .val (.int p2), .val (.int p3), .val (.int p4), .val (.int p5), .val (.int cx), .val (.int cy), .val (.int cz), .val (.int ln), .val (.ref b105), .unset, .unset] []) (fun t k => XS.ifNo X133.here hx rfl (hb hby at_119) rfl (XT.i0_eq_f hc135) k) ?_
        obtain ⟨T144, h144, X144, e144, E144, A144, D144, U144, st144⟩ := newO X133 hx hZ hown (own_w hw 2 rfl) (own_w hw 3 rfl) (own_w hw 4 rfl) e133 (g := (mkF m 122 #[.val (.int p1), .val (.int p2), .val (.int p3), .val (.int p4), .val (.int p5), .val (.int cx), .val (.int cy), .val (.int cz), .val (.int ln), .val (.ref b105), .unset, .unset] [])) rfl (hb hby at_122) (by decide) (by decide)
        obtain ⟨b144, g144⟩ : ∃ z, z = h133.size := ⟨_, rfl⟩
        rw [← g144] at A144 D144 st144
        have ge144 : n0 ≤ b144 := by rw [g144]; exact Zs133
        have Zs144 : n0 ≤ h144.size := Nat.le_trans Zs133 E144.1
        have hk := Nat.le_trans hk E144.1
        have gm144 : mt ≤ b144 := by rw [g144]; exact hm
        have hm := Nat.le_trans hm E144.1
        have F_145 := F_134.ext E144
        have F_146 := G133.ext E144
        have hR := hR.trans (CHr.ext E144 hR.1)
        have F_147 : Fld Z h144 b144 "java/lang/String" "coder" "B" (.int 0) := D144 (Or.inr (own_w hw 29 rfl)) (ty := .byte) (by decide)
        have F_148 : Fld Z h144 b144 "java/lang/String" "value" "[B" .null := D144 (Or.inr (own_w hw 31 rfl)) (ty := (.array .byte)) (by decide)
        refine own_f T144 (mkF m 125 #[.val (.int p1), .val (.int p2), .val (.int p3), .val (.int p4), .val (.int p5), .val (.int cx), .val (.int cy), .val (.int cz), .val (.int ln), .val (.ref b105), .unset, .unset] [(.ref b144)]) st144 ?_
        refine own_step (fun t k => XS.dup X144.here hx rfl (hb hby at_125) rfl rfl k) ?_
        refine own_f T144 (mkF m 127 #[.val (.int p1), .val (.int p2), .val (.int p3), .val (.int p4), .val (.int p5), .val (.int cx), .val (.int cy), .val (.int cz), .val (.int ln), .val (.ref b105), .unset, .unset] [(.int (0 : Int32)), (.ref b144), (.ref b144)]) (fun t k => XT.iconstV X144.here hx rfl (0 : Int32) (hb hby at_126) (by decide) k) ?_
        obtain ⟨T149, h149, kA149, X149, e149, E149, A149, st149⟩ := newP X144 hx hZ (own_w hw 5 rfl) e144 (g := (mkF m 127 #[.val (.int p1), .val (.int p2), .val (.int p3), .val (.int p4), .val (.int p5), .val (.int cx), .val (.int cy), .val (.int cz), .val (.int ln), .val (.ref b105), .unset, .unset] [(.int (0 : Int32)), (.ref b144), (.ref b144)])) rfl (hb hby at_127) rfl (by decide) (cap := 0) (by decide) (by decide) (by decide) (by decide)
        obtain ⟨b149, g149⟩ : ∃ z, z = h144.size := ⟨_, rfl⟩
        rw [← g149] at A149 st149
        have ne149_b144 : b144 ≠ b149 := by rw [g149]; exact Nat.ne_of_lt A144.lt
        have ge149 : n0 ≤ b149 := by rw [g149]; exact Zs144
        have Zs149 : n0 ≤ h149.size := Nat.le_trans Zs144 E149.1
        have hk := Nat.le_trans hk E149.1
        have gm149 : mt ≤ b149 := by rw [g149]; exact hm
        have hm := Nat.le_trans hm E149.1
        have F_150 := F_145.ext E149
        have F_151 := F_146.ext E149
        have F_152 := A144.ext E149
        have F_153 := F_147.ext E149
        have F_154 := F_148.ext E149
        have hR := hR.trans (CHr.ext E149 hR.1)
        have F_155 : Arv Z h149 b149 kA149 .char (0 : Int32) [] (.int 0) := own_arvnew 0 A149 (by decide)
        refine own_f T149 (mkF m 129 #[.val (.int p1), .val (.int p2), .val (.int p3), .val (.int p4), .val (.int p5), .val (.int cx), .val (.int cy), .val (.int cz), .val (.int ln), .val (.ref b105), .unset, .unset] [(.ref b149), (.ref b144), (.ref b144)]) st149 ?_
        obtain ⟨_, _, ⟨T156, Lq156, kq_156, nq_156⟩, -, X156, hSn156, hgr156, ⟨Lc156, hQ156, lq156, yq156, zq156, hC156⟩, st156⟩ := X149.specialBackS hx (y := (⟨"java/lang/String", "<init>", "([C)V"⟩ : MethodName)) rfl hown (mvT hZ (own_w hw 6 rfl)) (mvT hZ (own_w hw 7 rfl)) (mvT hZ (own_w hw 8 rfl)) (by decide) (backOfSH (s := s) (vm0 := s.vm) (W := 1) (rms20 l Z a0 hw [] b144 b149 _ _ h149 n0 Zs149 F_152 F_154 F_153 F_155 ge144) hZ (own_w hw 8 rfl) (own_w hw 4 rfl) (by decide) (by decide) (own_EW hw) hR.1) (g := (mkF m 129 #[.val (.int p1), .val (.int p2), .val (.int p3), .val (.int p4), .val (.int p5), .val (.int cx), .val (.int cy), .val (.int cz), .val (.int ln), .val (.ref b105), .unset, .unset] [(.ref b149), (.ref b144), (.ref b144)])) rfl (by rw [hml]; rfl) (Steps.refl _) (a := b144) (argsL := [(.ref b149)]) (rest := [(.ref b144)]) (lenOf pd__C_V rfl) rfl (by show 2 * 0 + _ ≤ _; exact Nat.le_of_eq rfl) (hb hby at_129) (fun _ _ => ⟨rfl, e149, (by decide : 0 + 1 + 1 + 2 + 1 + 1 + 4 ≤ _), (by decide : 0 + 4 + 3 + 9 + 4 + 0 + 8 ≤ _)⟩)
        dsimp only [Pt.U, Pt.locs, Pt.cells, Pt.slots] at X156 lq156 yq156 zq156 st156 hQ156 hSn156 hgr156 hC156
        subst lq156 yq156 zq156
        obtain ⟨h156, e156⟩ : ∃ z, T156.heap = z := ⟨_, rfl⟩
        rw [e156] at hQ156 hC156
        have hS : s.Since T156.vm T156.heap.size := foldS (T := T149) (U := T156) hS (by rw [e149]; exact hk) hSn156 hgr156
        have hZ : Z.Warmed39 (s.setVm T156.vm).vm := State.Warmed39.trans hZ0 hS.1
        have hown : (s.setVm T156.vm).vm.findClass "com/example/rulecart/rulecart/RequireNonEmptyPinLaw" = some m.cls := by rw [show (s.setVm T156.vm).vm = T156.vm from rfl, hS.1.alike.findClass]; exact hown0
        have X156 : Stand p l e room_1 (s.setVm T156.vm) m #[(.int p1), (.int p2), (.int p3), (.int p4), (.int p5)] below meth c T156 _ _ _ := X156
        rw [e156] at hS
        have hk : h156.size ≤ h156.size := Nat.le_refl _
        unfold Qs20 at hQ156
        obtain ⟨b156, kb156, rfl, Nq156, qh156, G156_0, G156_1, G156_2, G156_3⟩ := hQ156
        have N156 := Fr.app N133 Nq156
        have Zs156 : n0 ≤ h156.size := Nat.le_trans Zs149 qh156.1
        have hm := Nat.le_trans hm qh156.1
        have F_157 := F_150.keep qh156 (allS ge144 all0)
        have F_158 := F_151.keep qh156 (allS gm144 all0)
        have F_159 := F_155.keep qh156 (ninS (Ne.symm ne149_b144) nin0)
        have hR := hR.trans hC156
        refine own_g T156 (mkF m 132 #[.val (.int p1), .val (.int p2), .val (.int p3), .val (.int p4), .val (.int p5), .val (.int cx), .val (.int cy), .val (.int cz), .val (.int ln), .val (.ref b105), .unset, .unset] [(.ref b144)]) st156 ?_
        refine own_f T156 (mkF m 134 #[.val (.int p1), .val (.int p2), .val (.int p3), .val (.int p4), .val (.int p5), .val (.int cx), .val (.int cy), .val (.int cz), .val (.int ln), .val (.ref b105), .val (.ref b144), .unset] []) (fun t k => XS.astore X156.here hx rfl (hb hby at_132) rfl rfl (l' := #[.val (.int p1), .val (.int p2), .val (.int p3), .val (.int p4), .val (.int p5), .val (.int cx), .val (.int cy), .val (.int cz), .val (.int ln), .val (.ref b105), .val (.ref b144), .unset]) rfl k) ?_
        refine own_f T156 (mkF m 150 #[.val (.int p1), .val (.int p2), .val (.int p3), .val (.int p4), .val (.int p5), .val (.int cx), .val (.int cy), .val (.int cz), .val (.int ln), .val (.ref b105), .val (.ref b144), .unset] []) (fun t k => XS.goto X156.here hx rfl (pc0 := 134) (pc' := 150) rfl (hb hby at_134) (by decide) (by decide) k) ?_
        refine own_step (fun t k => XS.aload X156.here hx rfl (hb hby at_150) rfl rfl k) ?_
        refine own_f T156 (mkF m 154 #[.val (.int p1), .val (.int p2), .val (.int p3), .val (.int p4), .val (.int p5), .val (.int cx), .val (.int cy), .val (.int cz), .val (.int ln), .val (.ref b105), .val (.ref b144), .unset] [(.ref b105), (.ref b144)]) (fun t k => XS.aload X156.here hx rfl (hb hby at_152) rfl rfl k) ?_
        obtain ⟨_, _, ⟨T160, Lq160, kq_160, nq_160⟩, -, X160, ⟨Lc160, hQ160, lq160, yq160, zq160⟩, st160⟩ := Jvm.LawKit.callS X156 hx (y := (⟨"com/example/rulecart/rulecart/Require", "nonEmpty", "(Ljava/lang/String;Ljava/lang/String;)Ljava/lang/String;"⟩ : MethodName)) hown (mvT hZ (own_w hw 46 rfl)) (mvT hZ (own_w hw 47 rfl)) (mvT hZ (own_w hw 48 rfl)) (mvT hZ (own_w hw 49 rfl)) (by decide) (backOf (W := 0) (rmne l Z a0 hw [] b144 b105 _ _ h156 n0 Zs156 F_158 (by decide)) hZ (own_w hw 49 rfl) (own_w hw 48 rfl) (by decide) (by decide)) (g := (mkF m 154 #[.val (.int p1), .val (.int p2), .val (.int p3), .val (.int p4), .val (.int p5), .val (.int cx), .val (.int cy), .val (.int cz), .val (.int ln), .val (.ref b105), .val (.ref b144), .unset] [(.ref b105), (.ref b144)])) rfl (by rw [hml]; rfl) (argsL := [(.ref b144), (.ref b105)]) (rest := []) (lenOf pd__Ljava_lang_String_Ljava_lang_String_Ljava_lang_String_ rfl) rfl (by show 2 * 0 + _ ≤ _; exact Nat.le_of_eq rfl) (hb hby at_154) (fun _ _ => ⟨rfl, e156, (by decide : 0 + 1 + 1 + 2 + 1 + 1 + 4 + 0 ≤ _), (by decide : 0 + 4 + 3 + 9 + 4 + 0 + 8 + 0 ≤ _)⟩)
        dsimp only [Pt.U, Pt.locs, Pt.cells, Pt.slots] at X160 lq160 yq160 zq160 st160 hQ160
        subst lq160 yq160 zq160
        obtain ⟨h160, e160⟩ : ∃ z, T160.heap = z := ⟨_, rfl⟩
        rw [e160] at hQ160
        unfold Qne at hQ160
        obtain ⟨rfl, Nq160, qh160⟩ := hQ160
        have N160 := Fr.app N156 Nq160
        rw [qh160] at e160
        refine own_f T160 (mkF m 157 #[.val (.int p1), .val (.int p2), .val (.int p3), .val (.int p4), .val (.int p5), .val (.int cx), .val (.int cy), .val (.int cz), .val (.int ln), .val (.ref b105), .val (.ref b144), .unset] [(.ref b105)]) st160 ?_
        refine own_f T160 (mkF m 159 #[.val (.int p1), .val (.int p2), .val (.int p3), .val (.int p4), .val (.int p5), .val (.int cx), .val (.int cy), .val (.int cz), .val (.int ln), .val (.ref b105), .val (.ref b144), .val (.ref b105)] []) (fun t k => XS.astore X160.here hx rfl (hb hby at_157) rfl rfl (l' := #[.val (.int p1), .val (.int p2), .val (.int p3), .val (.int p4), .val (.int p5), .val (.int cx), .val (.int cy), .val (.int cz), .val (.int ln), .val (.ref b105), .val (.ref b144), .val (.ref b105)]) rfl k) ?_
        refine own_step (fun t k => XS.aload X160.here hx rfl (hb hby at_159) rfl rfl k) ?_
        refine own_f T160 (mkF m 163 #[.val (.int p1), .val (.int p2), .val (.int p3), .val (.int p4), .val (.int p5), .val (.int cx), .val (.int cy), .val (.int cz), .val (.int ln), .val (.ref b105), .val (.ref b144), .val (.ref b105)] [(.ref b105), (.ref b105)]) (fun t k => XS.aload X160.here hx rfl (hb hby at_161) rfl rfl k) ?_
        refine own_f T160 (mkF m 166 #[.val (.int p1), .val (.int p2), .val (.int p3), .val (.int p4), .val (.int p5), .val (.int cx), .val (.int cy), .val (.int cz), .val (.int ln), .val (.ref b105), .val (.ref b144), .val (.ref b105)] []) (fun t k => XT.acmpNo X160.here hx rfl (hb hby at_163) rfl rfl rfl (XT.aa_ne_f rfl) k) ?_
        refine own_f T160 (mkF m 168 #[.val (.int p1), .val (.int p2), .val (.int p3), .val (.int p4), .val (.int p5), .val (.int cx), .val (.int cy), .val (.int cz), .val (.int ln), .val (.ref b105), .val (.ref b144), .val (.ref b105)] [(.ref b105)]) (fun t k => XS.aload X160.here hx rfl (hb hby at_166) rfl rfl k) ?_
        obtain ⟨_, _, _, _, _, TE161, -⟩ := id F_158
        obtain ⟨cq162, kq162, qa162, qb162, qc162⟩ := isOf hZ e160 TE161
        obtain ⟨_, _, ⟨T162, Lq162, kq_162, nq_162⟩, -, X162, ⟨Lc162, hQ162, lq162, yq162, zq162⟩, st162⟩ := X160.virtualBack hx (y := (⟨"java/lang/String", "length", "()I"⟩ : MethodName)) (z := (⟨"java/lang/String", "length", "()I"⟩ : MethodName)) hown (mvT hZ (own_w hw 55 rfl)) (mvT hZ (own_w hw 56 rfl)) (notFace_of_selects (args := #[]) (mvT hZ (own_w hw 58 rfl))) (mvT hZ (own_w hw 58 rfl)) (mvT hZ (own_w hw 57 rfl)) (by decide) (backOf (W := 0) (rmln l Z a0 hw [] b105 _ _ _ h156 n0 Zs156 F_157 F_158 (by decide) SC HWC) hZ (own_w hw 59 rfl) (own_w hw 4 rfl) (by decide) (by decide)) qa162 qc162 (g := (mkF m 168 #[.val (.int p1), .val (.int p2), .val (.int p3), .val (.int p4), .val (.int p5), .val (.int cx), .val (.int cy), .val (.int cz), .val (.int ln), .val (.ref b105), .val (.ref b144), .val (.ref b105)] [(.ref b105)])) rfl (by rw [hml]; rfl) (Steps.refl _) (argsL := []) (rest := []) (lenOf pd__I rfl) rfl (by show 2 * 0 + _ ≤ _; exact Nat.le_of_eq rfl) (hb hby at_168) (fun _ _ => ⟨rfl, e160, (by decide : 0 + 1 + 1 + 2 + 1 + 1 + 4 + 0 + 0 ≤ _), (by decide : 0 + 4 + 3 + 9 + 4 + 0 + 8 + 0 + 0 ≤ _)⟩)
        dsimp only [Pt.U, Pt.locs, Pt.cells, Pt.slots] at X162 lq162 yq162 zq162 st162 hQ162
        subst lq162 yq162 zq162
        obtain ⟨h162, e162⟩ : ∃ z, T162.heap = z := ⟨_, rfl⟩
        rw [e162] at hQ162
        unfold Qln at hQ162
        obtain ⟨rfl, Nq162, qh162⟩ := hQ162
        have N162 := Fr.app N160 Nq162
        rw [qh162] at e162
        refine own_g T162 (mkF m 171 #[.val (.int p1), .val (.int p2), .val (.int p3), .val (.int p4), .val (.int p5), .val (.int cx), .val (.int cy), .val (.int cz), .val (.int ln), .val (.ref b105), .val (.ref b144), .val (.ref b105)] [(.int (3 : Int32))]) st162 ?_
        refine own_step (fun t k => XS.iload X162.here hx rfl (hb hby at_171) rfl k) ?_
        have hc163 : (3 : Int32) = ln := (own_l3 jl hc1 hc50).symm
        refine own_f T162 (mkF m 176 #[.val (.int p1), .val (.int p2), .val (.int p3), .val (.int p4), .val (.int p5), .val (.int cx), .val (.int cy), .val (.int cz), .val (.int ln), .val (.ref b105), .val (.ref b144), .val (.ref b105)] []) (fun t k => XS.icmpNo X162.here hx rfl (hb hby at_173) rfl (XT.ii_ne_f hc163) k) ?_
        refine own_step (fun t k => XS.aload X162.here hx rfl (hb hby at_176) rfl rfl k) ?_
        refine own_f T162 (mkF m 180 #[.val (.int p1), .val (.int p2), .val (.int p3), .val (.int p4), .val (.int p5), .val (.int cx), .val (.int cy), .val (.int cz), .val (.int ln), .val (.ref b105), .val (.ref b144), .val (.ref b105)] [(.ref b105), (.ref b105)]) (fun t k => XS.aload X162.here hx rfl (hb hby at_178) rfl rfl k) ?_
        obtain ⟨cq164, kq164, qa164, qb164, qc164⟩ := isOf hZ e162 TE161
        obtain ⟨_, _, ⟨T164, Lq164, kq_164, nq_164⟩, -, X164, ⟨Lc164, hQ164, lq164, yq164, zq164⟩, st164⟩ := X162.virtualBack hx (y := (⟨"java/lang/String", "equals", "(Ljava/lang/Object;)Z"⟩ : MethodName)) (z := (⟨"java/lang/String", "equals", "(Ljava/lang/Object;)Z"⟩ : MethodName)) hown (mvT hZ (own_w hw 65 rfl)) (mvT hZ (own_w hw 66 rfl)) (notFace_of_selects (args := #[]) (mvT hZ (own_w hw 68 rfl))) (mvT hZ (own_w hw 68 rfl)) (mvT hZ (own_w hw 67 rfl)) (by decide) (backOf (W := 0) (rmeq l Z a0 hw [] b105 h156 n0 Zs156 ) hZ (own_w hw 69 rfl) (own_w hw 4 rfl) (by decide) (by decide)) qa164 qc164 (g := (mkF m 180 #[.val (.int p1), .val (.int p2), .val (.int p3), .val (.int p4), .val (.int p5), .val (.int cx), .val (.int cy), .val (.int cz), .val (.int ln), .val (.ref b105), .val (.ref b144), .val (.ref b105)] [(.ref b105), (.ref b105)])) rfl (by rw [hml]; rfl) (Steps.refl _) (argsL := [(.ref b105)]) (rest := []) (lenOf pd__Ljava_lang_Object_Z rfl) rfl (by show 2 * 0 + _ ≤ _; exact Nat.le_of_eq rfl) (hb hby at_180) (fun _ _ => ⟨rfl, e162, (by decide : 0 + 1 + 1 + 2 + 1 + 1 + 4 + 0 + 0 + 0 ≤ _), (by decide : 0 + 4 + 3 + 9 + 4 + 0 + 8 + 0 + 0 + 0 ≤ _)⟩)
        dsimp only [Pt.U, Pt.locs, Pt.cells, Pt.slots] at X164 lq164 yq164 zq164 st164 hQ164
        subst lq164 yq164 zq164
        obtain ⟨h164, e164⟩ : ∃ z, T164.heap = z := ⟨_, rfl⟩
        rw [e164] at hQ164
        unfold Qeq at hQ164
        obtain ⟨rfl, Nq164, qh164⟩ := hQ164
        have N164 := Fr.app N162 Nq164
        rw [qh164] at e164
        refine own_g T164 (mkF m 183 #[.val (.int p1), .val (.int p2), .val (.int p3), .val (.int p4), .val (.int p5), .val (.int cx), .val (.int cy), .val (.int cz), .val (.int ln), .val (.ref b105), .val (.ref b144), .val (.ref b105)] [(.int (1 : Int32))]) st164 ?_
        refine own_f T164 (mkF m 186 #[.val (.int p1), .val (.int p2), .val (.int p3), .val (.int p4), .val (.int p5), .val (.int cx), .val (.int cy), .val (.int cz), .val (.int ln), .val (.ref b105), .val (.ref b144), .val (.ref b105)] []) (fun t k => XS.ifNo X164.here hx rfl (hb hby at_183) rfl (XT.i0_eq_f (by decide)) k) ?_
        refine own_step (fun t k => XT.iconstV X164.here hx rfl (1 : Int32) (hb hby at_186) (by decide) k) ?_
        refine own_f T164 (mkF m 191 #[.val (.int p1), .val (.int p2), .val (.int p3), .val (.int p4), .val (.int p5), .val (.int cx), .val (.int cy), .val (.int cz), .val (.int ln), .val (.ref b105), .val (.ref b144), .val (.ref b105)] [(.int (1 : Int32))]) (fun t k => XS.goto X164.here hx rfl (pc0 := 187) (pc' := 191) rfl (hb hby at_187) (by decide) (by decide) k) ?_
        obtain ⟨fs, hr, hrun, hended, hW⟩ := Stand.leaveW (s := s) (vm₁ := T156.vm) X164 hS (by rw [e164]; exact hk) (v := some (.int (1 : Int32))) (fun h => by rw [Bd.returns] at h; cases h)
        refine ⟨_, _, retN X164 hx (t := .boolean) Bd.returns (by simp) (hb hby at_191) hr, hrun, hended, _, _, rfl, ?_, hW.1, hW.2.1, hW.2.2.1, hW.2.2.2.mono (by decide) (by decide)⟩
        show Q0 Z p1 p2 p3 p4 p5 wc h0 n0 _ T164.heap _
        rw [e164]
        exact ⟨rfl, N164⟩
set_option maxRecDepth 65536 in
set_option maxHeartbeats 40000000 in
theorem comes_1 {Post : Tables → Env → Array Value → State → Outcome → State → Prop} (hpost : ∀ tb e args s v u, (limb_1_1.after args s (.returned v) u = true ∧ limb_1_2.after args s (.returned v) u = true ∧ True) → ReturnedEndW s (.returned v) u (Jvm.fieldLocs frame_1_writes args s ++ Jvm.arrayLocs frame_1_arrays args s ++ Jvm.staticLocs frame_1_statics s) 24 1152 → Post tb e args s (.returned v) u) :
    ArmFor flags0 classFile x code maxLocals ret World_1 tables_1 room_1 Calls_1 rest_1 Pre_1 Post := by
  intro l hfl _ _ p e ha hc hk s m args below hf hA hF happ hP
  obtain ⟨hcalls, hrest, hpre⟩ := hP
  obtain ⟨-, -, -, hnamed, -, -, -, hat⟩ := (Spec.applies_iff hf).mp happ
  obtain ⟨hg, hn⟩ := and_e (Cond.before_iff.mp (show (Jvm.Cond.and given_1 narrow_1).before args s = true from hpre))
  obtain ⟨g0, r0⟩ := and_e hg
  obtain ⟨g1, r1⟩ := and_e r0
  obtain ⟨g2, r2⟩ := and_e r1
  obtain ⟨g3, r3⟩ := and_e r2
  obtain ⟨g4, r4⟩ := and_e r3
  obtain ⟨w0, w1, w2, w3, w4, rfl⟩ : ∃ w0 w1 w2 w3 w4 : Value, args = #[w0, w1, w2, w3, w4] := by
    have hs : args.size = 5 := by simpa [Cond.value, given_1] using g0
    obtain ⟨L⟩ := args
    match L, hs with
    | [w0, w1, w2, w3, w4], _ => exact ⟨w0, w1, w2, w3, w4, rfl⟩
  have hw := fun d (hd : d ∈ tables_1) => atoms_spec (ws := Jvm.Cond.code x code maxLocals ret :: tables_1) hat d (List.mem_cons_of_mem _ hd)
  obtain ⟨hsets, hown0⟩ := atoms_of _ (rest_1_c_eq ▸ (show rest_1_c.before _ s = true from hrest))
  have hfit : Fit s := fun {y c} hc i hi => by
    obtain ⟨ha, rfl⟩ := Array.getElem?_eq_some_iff.mp hc
    have q := List.all_eq_true.mp ((Array.all_eq_true_iff_forall_mem.mp hF) _ (Array.getElem_mem ha)) i (List.mem_range.mpr hi)
    simpa [Array.getElem?_eq_getElem hi] using q
  obtain ⟨i0, ev0⟩ := is_v g1
  obtain rfl : w0 = (.int i0) := Option.some.inj ev0
  obtain ⟨i1, ev1⟩ := is_v g2
  obtain rfl : w1 = (.int i1) := Option.some.inj ev1
  obtain ⟨i2, ev2⟩ := is_v g3
  obtain rfl : w2 = (.int i2) := Option.some.inj ev2
  obtain ⟨i3, ev3⟩ := is_v g4
  obtain rfl : w3 = (.int i3) := Option.some.inj ev3
  obtain ⟨i4, ev4⟩ := is_v r4
  obtain rfl : w4 = (.int i4) := Option.some.inj ev4
  have n5 := not_v (Cond.before_iff.mp (hsets _ (List.mem_of_getElem? (i := 2) rfl)))
  obtain ⟨wc, e10⟩ := is_v (Cond.before_iff.mp (hsets _ (List.mem_of_getElem? (i := 1) rfl)))
  have SC : Sta s s.heap "java/lang/String" "COMPACT_STRINGS" "Z" (.int wc) := Sta.start e10 (Or.inl (hsets _ (List.mem_of_getElem? (i := 0) rfl)))
  have HWC : ¬ (wc = (0 : Int32)) := gotF (Cond.eq_ints e10 (Term.int_eval (0))) n5
  have SA : Sta s s.heap "java/lang/StringUTF16" "$assertionsDisabled" "Z" (.int (1 : Int32)) := own_sta hfit (hsets _ (List.mem_of_getElem? (i := 10) rfl)) (hsets _ (List.mem_of_getElem? (i := 11) rfl)) (hsets _ (List.mem_of_getElem? (i := 12) rfl)) (ty := .boolean) (by decide) (by simp)
  have SH : Sta s s.heap "java/lang/StringUTF16" "HI_BYTE_SHIFT" "I" (.int (0 : Int32)) := own_sta hfit (hsets _ (List.mem_of_getElem? (i := 13) rfl)) (hsets _ (List.mem_of_getElem? (i := 14) rfl)) (hsets _ (List.mem_of_getElem? (i := 15) rfl)) (ty := .int) (by decide) (by simp)
  have SL : Sta s s.heap "java/lang/StringUTF16" "LO_BYTE_SHIFT" "I" (.int (8 : Int32)) := own_sta hfit (hsets _ (List.mem_of_getElem? (i := 16) rfl)) (hsets _ (List.mem_of_getElem? (i := 17) rfl)) (hsets _ (List.mem_of_getElem? (i := 18) rfl)) (ty := .int) (by decide) (by simp)
  obtain ⟨n, o, h1, h2, h3, _, L, rfl, ⟨rfl, N⟩, hq⟩ := rm0 l s _ hw tables_1 i0 i1 i2 i3 i4 wc s.heap s.heap.size (Nat.le_refl _) (Old.start s) SC HWC SH SL SA p e ha hc hk s m _ below hf ((Spec.applies_iff_loose hf).mp happ).1 ⟨rfl, State.Warmed39.refl s, rfl, CHv.start (own_EW hw) (fun p hp => hcalls.1 p hp) (hsets _ (List.mem_of_getElem? (i := 2) rfl)) (own_w hw 21 rfl) (own_w hw 3 rfl)⟩ trivial
  refine ⟨n, _, h1, h2, h3, hpost _ _ _ _ _ _ ⟨Cond.after_iff.mpr rfl, Cond.after_iff.mpr (eq_i res_at (Term.int_eval (1)) rfl), trivial⟩ ⟨hq.1, hq.2.1, hq.2.2.1, (hq.2.2.2.sift fun y hy => Or.inr (N y hy)).mono (by decide) (by decide)⟩⟩
theorem main_1_1 : Claimed_1_1 := comes_1 fun _ _ _ _ _ _ h hF => ⟨h.1, hF⟩
theorem main_1_2 : Claimed_1_2 := comes_1 fun _ _ _ _ _ _ h hF => ⟨h.2.1, hF⟩
end Jvm.Pilot.@@N@@
namespace Jvm.Pilot.@@N@@
open Jvm Jvm.ClassFile Sem Op Lib Jvm.Free Jvm.Stand Jvm.Pilot.@@N@@.Jvm.D
/-! MADE BY PROGRAM (witnessworld.py) out of the Statement's table words and the real class files: 20 classes; the members and pool entries that the words name. The judged class is class 1, her method 1. -/
namespace start1
open Jvm.ClassFile
def u (s : String) : CpInfo := .utf8 (stringToUtf16 s)
/-- a pool by its gaps: so many unusable entries, then the entry; so many at the end -/
def gap : Nat → List CpInfo → List CpInfo
  | 0, r => r
  | n + 1, r => .unusable :: gap n r
def poolList (es : List (Nat × CpInfo)) (last : Nat) : List CpInfo := es.foldr (fun e r => gap e.1 (e.2 :: r)) (gap last [])
def pool (es : List (Nat × CpInfo)) (last : Nat) : Array CpInfo := ⟨poolList es last⟩
def fileOf (pool : Array CpInfo) (this : Nat) (attrs : Array Attribute := #[]) (ms : Array MethodInfo := #[]) (fl : Nat := 33) (sup : Nat := 0) (ifs : Array Nat := #[]) (fds : Array FieldInfo := #[]) : ClassFile where
  minorVersion := 0
  majorVersion := 65
  constantPool := pool
  accessFlags := fl
  thisClass := this
  superClass := sup
  interfaces := ifs
  fields := fds
  methods := ms
  attributes := attrs
def plain (name : String) (sup : Option ClassId) : Class where
  name := name
  kind := .ordinary
  loader := none
  accessFlags := 33
  super := sup
  interfaces := #[]
  cf := none
  fields := #[]
  methods := #[]
  instanceTypes := #[]
  staticTypes := #[]
  resolved := #[]
  callSites := []
  init := .initialized
  statics := none
  mirror := none

def pool0 : Array CpInfo := pool [(5, u "<init>"), (0, u "()V"), (1, .class_ 10), (1, u "java/lang/Object")] 113

def k0c0 : Code := { maxStack := 0, maxLocals := 1, code := object_method_1_code, exceptionTable := #[], attributes := #[] }
def k0m0 : Method := { name := "<init>", desc := "()V", sig := { parameters := [], returnType := none }, accessFlags := 1, code := some k0c0 }
/-- java/lang/Object -/
def k0 : Class := { plain "java/lang/Object" none with
  accessFlags := 33
  interfaces := #[]
  cf := some (fileOf pool0 8 #[] #[{ accessFlags := 1, nameIndex := 5, descriptorIndex := 6, attributes := #[] }] 33 0 #[] #[])
  fields := #[]
  methods := #[k0m0]
  instanceTypes := #[]
  staticTypes := #[]
  resolved := Array.replicate 124 none
  statics := none }

def pool1 : Array CpInfo := pool [(2, .class_ 4), (1, u "java/lang/Object"), (0, u "<init>"), (0, u "()V"), (0, .integer 65535), (0, .integer 2147483647), (0, .class_ 10), (0, u "java/lang/String"), (0, .methodref 9 12), (0, .nameAndType 5 13), (0, u "([C)V"), (0, .methodref 9 15), (0, .nameAndType 16 17), (0, u "valueOf"), (0, u "(C)Ljava/lang/String;"), (0, .methodref 19 20), (0, .class_ 21), (0, .nameAndType 22 23), (0, u "com/example/rulecart/rulecart/Require"), (0, u "nonEmpty"), (0, u "(Ljava/lang/String;Ljava/lang/String;)Ljava/lang/String;"), (0, .methodref 9 25), (0, .nameAndType 26 27), (0, u "length"), (0, u "()I"), (0, .methodref 9 29), (0, .nameAndType 30 31), (0, u "equals"), (0, u "(Ljava/lang/Object;)Z"), (0, .class_ 33), (0, u "com/example/rulecart/rulecart/RequireNonEmptyPinLaw"), (2, u "law"), (0, u "(IIIII)Z")] 3

def k1m0 : Method := { name := "<init>", desc := "()V", sig := { parameters := [], returnType := none }, accessFlags := 2, code := none }
def k1c1 : Code := { maxStack := 6, maxLocals := 12, code := code, exceptionTable := #[], attributes := #[] }
def k1m1 : Method := { name := "law", desc := "(IIIII)Z", sig := { parameters := [.int, .int, .int, .int, .int], returnType := some .boolean }, accessFlags := 9, code := some k1c1 }
/-- com/example/rulecart/rulecart/RequireNonEmptyPinLaw -/
def k1 : Class := { plain "com/example/rulecart/rulecart/RequireNonEmptyPinLaw" (some 0) with
  accessFlags := 49
  interfaces := #[]
  cf := some (fileOf pool1 32 #[] #[{ accessFlags := 2, nameIndex := 5, descriptorIndex := 6, attributes := #[] }, { accessFlags := 9, nameIndex := 36, descriptorIndex := 37, attributes := #[] }] 49 2 #[] #[])
  fields := #[]
  methods := #[k1m0, k1m1]
  instanceTypes := #[]
  staticTypes := #[]
  resolved := Array.replicate 41 none
  statics := none }

def pool2 : Array CpInfo := pool [(1, .class_ 2), (0, u "java/io/Serializable"), (0, .class_ 4), (0, u "java/lang/Object")] 2

/-- java/io/Serializable -/
def k2 : Class := { plain "java/io/Serializable" (some 0) with
  accessFlags := 1537
  interfaces := #[]
  cf := some (fileOf pool2 1 #[] #[] 1537 3 #[] #[])
  fields := #[]
  methods := #[]
  instanceTypes := #[]
  staticTypes := #[]
  resolved := Array.replicate 7 none
  statics := none }

def pool3 : Array CpInfo := pool [(1, .class_ 2), (0, u "java/lang/Comparable"), (0, .class_ 4), (0, u "java/lang/Object")] 7

/-- java/lang/Comparable -/
def k3 : Class := { plain "java/lang/Comparable" (some 0) with
  accessFlags := 1537
  interfaces := #[]
  cf := some (fileOf pool3 1 #[] #[] 1537 3 #[] #[])
  fields := #[]
  methods := #[]
  instanceTypes := #[]
  staticTypes := #[]
  resolved := Array.replicate 12 none
  statics := none }

def pool4 : Array CpInfo := pool [(2, .class_ 4), (1, u "java/lang/CharSequence"), (42, .class_ 48), (0, u "java/lang/CharSequence$1CodePointIterator"), (10, .class_ 60), (0, u "java/lang/CharSequence$1CharIterator"), (5, .class_ 67), (0, u "java/lang/Object")] 63

/-- java/lang/CharSequence -/
def k4 : Class := { plain "java/lang/CharSequence" (some 0) with
  accessFlags := 1537
  interfaces := #[]
  cf := some (fileOf pool4 2 #[.nestMembers #[47, 59]] #[] 1537 66 #[] #[])
  fields := #[]
  methods := #[]
  instanceTypes := #[]
  staticTypes := #[]
  resolved := Array.replicate 131 none
  statics := none }

def pool5 : Array CpInfo := pool [(1, .class_ 2), (0, u "java/lang/constant/Constable"), (0, .class_ 4), (0, u "java/lang/Object")] 6

/-- java/lang/constant/Constable -/
def k5 : Class := { plain "java/lang/constant/Constable" (some 0) with
  accessFlags := 1537
  interfaces := #[]
  cf := some (fileOf pool5 1 #[] #[] 1537 3 #[] #[])
  fields := #[]
  methods := #[]
  instanceTypes := #[]
  staticTypes := #[]
  resolved := Array.replicate 11 none
  statics := none }

def pool6 : Array CpInfo := pool [(1, .class_ 2), (0, u "java/lang/constant/ConstantDesc"), (0, .class_ 4), (0, u "java/lang/Object")] 32

/-- java/lang/constant/ConstantDesc -/
def k6 : Class := { plain "java/lang/constant/ConstantDesc" (some 0) with
  accessFlags := 1537
  interfaces := #[]
  cf := some (fileOf pool6 1 #[] #[] 1537 3 #[] #[])
  fields := #[]
  methods := #[]
  instanceTypes := #[]
  staticTypes := #[]
  resolved := Array.replicate 37 none
  statics := none }

def pool7 : Array CpInfo := pool [(1, .methodref 2 3), (0, .class_ 4), (0, .nameAndType 5 6), (0, u "java/lang/Object"), (0, u "<init>"), (0, u "()V"), (0, .string 8), (0, u ""), (0, .fieldref 10 11), (0, .class_ 12), (0, .nameAndType 13 14), (0, u "java/lang/String"), (0, u "value"), (0, u "[B"), (0, .fieldref 10 16), (0, .nameAndType 17 18), (0, u "coder"), (0, u "B"), (2, u "hash"), (0, u "I"), (2, u "hashIsZero"), (0, u "Z"), (0, .methodref 10 28), (0, .nameAndType 5 29), (0, u "([CIILjava/lang/Void;)V"), (8, .fieldref 10 39), (0, .nameAndType 40 26), (0, u "COMPACT_STRINGS"), (1, .class_ 44), (1, u "java/lang/StringUTF16"), (0, u "compress"), (1, .methodref 42 48), (0, .nameAndType 49 50), (0, u "coderFromArrayLen"), (0, u "([BI)B"), (2, u "toBytes"), (53, .class_ 109), (1, u "java/lang/StringLatin1"), (32, u "()Z"), (34, .methodref 42 178), (0, .nameAndType 45 179), (0, u "([CII)[B"), (29, .methodref 10 210), (0, .nameAndType 5 211), (0, u "([BB)V"), (122, u "()I"), (0, .methodref 10 336), (0, .nameAndType 17 337), (0, u "()B"), (31, u "(C)Z"), (137, u "length"), (35, u "equals"), (29, u "(Ljava/lang/Object;)Z"), (1, .class_ 576), (0, u "java/lang/CharSequence"), (22, u "CASE_INSENSITIVE_ORDER"), (0, u "Ljava/util/Comparator;"), (91, u "isEmpty"), (89, u "valueOf"), (0, u "(C)Ljava/lang/String;"), (226, u "([C)V"), (4, .methodref 107 1016), (0, .nameAndType 1017 369), (0, u "canEncode"), (0, .methodref 107 1019), (0, .nameAndType 53 1020), (0, u "(C)[B"), (0, .methodref 42 1019), (79, u "serialPersistentFields"), (0, u "[Ljava/io/ObjectStreamField;"), (0, .class_ 1104), (0, u "java/lang/String$CaseInsensitiveComparator"), (1, .class_ 1107), (0, u "java/io/Serializable"), (0, .class_ 1109), (0, u "java/lang/Comparable"), (0, .class_ 1111), (0, u "java/lang/constant/Constable"), (0, .class_ 1113), (0, u "java/lang/constant/ConstantDesc"), (2, u "serialVersionUID"), (0, u "J"), (3, u "REPL"), (0, u "C"), (2, u "LATIN1"), (1, u "UTF16")] 323

def k7m0 : Method := { name := "<init>", desc := "()V", sig := { parameters := [], returnType := none }, accessFlags := 1, code := none }
def k7c1 : Code := { maxStack := 5, maxLocals := 2, code := jdk_42_method_3_code, exceptionTable := #[], attributes := #[] }
def k7m1 : Method := { name := "<init>", desc := "([C)V", sig := { parameters := [(.array .char)], returnType := none }, accessFlags := 1, code := some k7c1 }
def k7c2 : Code := { maxStack := 2, maxLocals := 1, code := jdk_42_method_54_code, exceptionTable := #[], attributes := #[] }
def k7m2 : Method := { name := "length", desc := "()I", sig := { parameters := [], returnType := some .int }, accessFlags := 1, code := some k7c2 }
def k7c3 : Code := { maxStack := 1, maxLocals := 1, code := jdk_42_method_55_code, exceptionTable := #[], attributes := #[] }
def k7m3 : Method := { name := "isEmpty", desc := "()Z", sig := { parameters := [], returnType := some .boolean }, accessFlags := 1, code := some k7c3 }
def k7c4 : Code := { maxStack := 2, maxLocals := 3, code := jdk_42_method_66_code, exceptionTable := #[], attributes := #[] }
def k7m4 : Method := { name := "equals", desc := "(Ljava/lang/Object;)Z", sig := { parameters := [(.object "java/lang/Object")], returnType := some .boolean }, accessFlags := 1, code := some k7c4 }
def k7c5 : Code := { maxStack := 4, maxLocals := 1, code := jdk_42_method_139_code, exceptionTable := #[], attributes := #[] }
def k7m5 : Method := { name := "valueOf", desc := "(C)Ljava/lang/String;", sig := { parameters := [.char], returnType := some (.object "java/lang/String") }, accessFlags := 9, code := some k7c5 }
def k7c6 : Code := { maxStack := 4, maxLocals := 6, code := jdk_42_method_149_code, exceptionTable := #[], attributes := #[] }
def k7m6 : Method := { name := "<init>", desc := "([CIILjava/lang/Void;)V", sig := { parameters := [(.array .char), .int, .int, (.object "java/lang/Void")], returnType := none }, accessFlags := 2, code := some k7c6 }
def k7c7 : Code := { maxStack := 2, maxLocals := 3, code := jdk_42_method_151_code, exceptionTable := #[], attributes := #[] }
def k7m7 : Method := { name := "<init>", desc := "([BB)V", sig := { parameters := [(.array .byte), .byte], returnType := none }, accessFlags := 0, code := some k7c7 }
def k7c8 : Code := { maxStack := 1, maxLocals := 1, code := jdk_42_method_152_code, exceptionTable := #[], attributes := #[] }
def k7m8 : Method := { name := "coder", desc := "()B", sig := { parameters := [], returnType := some .byte }, accessFlags := 0, code := some k7c8 }
/-- java/lang/String -/
def k7 : Class := { plain "java/lang/String" (some 0) with
  accessFlags := 49
  interfaces := #[2, 3, 4, 5, 6]
  cf := some (fileOf pool7 10 #[.nestMembers #[1103]] #[{ accessFlags := 1, nameIndex := 5, descriptorIndex := 6, attributes := #[] }, { accessFlags := 1, nameIndex := 5, descriptorIndex := 1010, attributes := #[] }, { accessFlags := 1, nameIndex := 507, descriptorIndex := 334, attributes := #[] }, { accessFlags := 1, nameIndex := 692, descriptorIndex := 142, attributes := #[] }, { accessFlags := 1, nameIndex := 543, descriptorIndex := 573, attributes := #[] }, { accessFlags := 9, nameIndex := 782, descriptorIndex := 783, attributes := #[] }, { accessFlags := 2, nameIndex := 5, descriptorIndex := 29, attributes := #[] }, { accessFlags := 0, nameIndex := 5, descriptorIndex := 211, attributes := #[] }, { accessFlags := 0, nameIndex := 17, descriptorIndex := 337, attributes := #[] }] 49 2 #[1106, 1108, 575, 1110, 1112] #[{ accessFlags := 18, nameIndex := 13, descriptorIndex := 14, attributes := #[] }, { accessFlags := 18, nameIndex := 17, descriptorIndex := 18, attributes := #[] }, { accessFlags := 2, nameIndex := 21, descriptorIndex := 22, attributes := #[] }, { accessFlags := 2, nameIndex := 25, descriptorIndex := 26, attributes := #[] }, { accessFlags := 26, nameIndex := 1116, descriptorIndex := 1117, attributes := #[] }, { accessFlags := 24, nameIndex := 40, descriptorIndex := 26, attributes := #[] }, { accessFlags := 26, nameIndex := 1101, descriptorIndex := 1102, attributes := #[] }, { accessFlags := 26, nameIndex := 1121, descriptorIndex := 1122, attributes := #[] }, { accessFlags := 25, nameIndex := 599, descriptorIndex := 600, attributes := #[] }, { accessFlags := 24, nameIndex := 1125, descriptorIndex := 18, attributes := #[] }, { accessFlags := 24, nameIndex := 1127, descriptorIndex := 18, attributes := #[] }])
  fields := #[{ name := "value", type := (.array .byte), accessFlags := 18, slot := 0, constantValue := 0 }, { name := "coder", type := .byte, accessFlags := 18, slot := 1, constantValue := 0 }, { name := "hash", type := .int, accessFlags := 2, slot := 2, constantValue := 0 }, { name := "hashIsZero", type := .boolean, accessFlags := 2, slot := 3, constantValue := 0 }, { name := "serialVersionUID", type := .long, accessFlags := 26, slot := 0, constantValue := 0 }, { name := "COMPACT_STRINGS", type := .boolean, accessFlags := 24, slot := 1, constantValue := 0 }, { name := "serialPersistentFields", type := (.array (.object "java/io/ObjectStreamField")), accessFlags := 26, slot := 2, constantValue := 0 }, { name := "REPL", type := .char, accessFlags := 26, slot := 3, constantValue := 0 }, { name := "CASE_INSENSITIVE_ORDER", type := (.object "java/util/Comparator"), accessFlags := 25, slot := 4, constantValue := 0 }, { name := "LATIN1", type := .byte, accessFlags := 24, slot := 5, constantValue := 0 }, { name := "UTF16", type := .byte, accessFlags := 24, slot := 6, constantValue := 0 }]
  methods := #[k7m0, k7m1, k7m2, k7m3, k7m4, k7m5, k7m6, k7m7, k7m8]
  instanceTypes := #[(.array .byte), .byte, .int, .boolean]
  staticTypes := #[.long, .boolean, (.array (.object "java/io/ObjectStreamField")), .char, (.object "java/util/Comparator"), .byte, .byte]
  resolved := Array.replicate 1451 none
  statics := some 0 }

def pool8 : Array CpInfo := pool [(6, .class_ 8), (1, u "java/lang/Object"), (0, u "<init>"), (0, u "()V"), (0, .methodref 12 13), (0, .class_ 14), (0, .nameAndType 15 16), (0, u "java/lang/StringUTF16"), (0, u "newBytesLength"), (0, u "(I)I"), (3, .integer 1073741823), (23, .fieldref 12 45), (0, .nameAndType 46 47), (0, u "$assertionsDisabled"), (0, u "Z"), (11, .fieldref 12 60), (0, .nameAndType 61 62), (0, u "HI_BYTE_SHIFT"), (0, u "I"), (0, .fieldref 12 64), (0, .nameAndType 65 62), (0, u "LO_BYTE_SHIFT"), (5, .methodref 12 72), (0, .nameAndType 73 74), (0, u "getChar"), (0, u "([BI)C"), (32, .methodref 12 108), (0, .nameAndType 109 110), (0, u "newBytesFor"), (0, u "(I)[B"), (0, .methodref 12 112), (0, .nameAndType 113 114), (0, u "putChar"), (0, u "([BII)V"), (0, .methodref 12 116), (0, .nameAndType 117 118), (0, u "compress"), (0, u "([CI[BII)I"), (0, .methodref 12 120), (0, .nameAndType 121 122), (0, u "toBytes"), (0, u "([CII)[B"), (138, u "coderFromArrayLen"), (0, u "([BI)B"), (106, .class_ 371), (1, u "java/lang/StringUTF16$LinesSpliterator"), (58, u "MAX_LENGTH"), (44, u "(C)[B"), (151, .class_ 628), (0, u "java/lang/StringUTF16$CodePointsSpliterator"), (0, .class_ 630), (0, u "java/lang/StringUTF16$CharsSpliterator")] 4

def k8m0 : Method := { name := "<init>", desc := "()V", sig := { parameters := [], returnType := none }, accessFlags := 0, code := none }
def k8c1 : Code := { maxStack := 1, maxLocals := 1, code := jdk_52_method_2_code, exceptionTable := #[], attributes := #[] }
def k8m1 : Method := { name := "newBytesFor", desc := "(I)[B", sig := { parameters := [.int], returnType := some (.array .byte) }, accessFlags := 9, code := some k8c1 }
def k8c2 : Code := { maxStack := 4, maxLocals := 1, code := jdk_52_method_3_code, exceptionTable := #[], attributes := #[] }
def k8m2 : Method := { name := "newBytesLength", desc := "(I)I", sig := { parameters := [.int], returnType := some .int }, accessFlags := 9, code := some k8c2 }
def k8c3 : Code := { maxStack := 4, maxLocals := 3, code := jdk_52_method_4_code, exceptionTable := #[], attributes := #[] }
def k8m3 : Method := { name := "putChar", desc := "([BII)V", sig := { parameters := [(.array .byte), .int, .int], returnType := none }, accessFlags := 8, code := some k8c3 }
def k8c4 : Code := { maxStack := 3, maxLocals := 2, code := jdk_52_method_5_code, exceptionTable := #[], attributes := #[] }
def k8m4 : Method := { name := "getChar", desc := "([BI)C", sig := { parameters := [(.array .byte), .int], returnType := some .char }, accessFlags := 8, code := some k8c4 }
def k8c5 : Code := { maxStack := 4, maxLocals := 5, code := jdk_52_method_14_code, exceptionTable := #[], attributes := #[] }
def k8m5 : Method := { name := "toBytes", desc := "([CII)[B", sig := { parameters := [(.array .char), .int, .int], returnType := some (.array .byte) }, accessFlags := 9, code := some k8c5 }
def k8c6 : Code := { maxStack := 2, maxLocals := 2, code := jdk_52_method_15_code, exceptionTable := #[], attributes := #[] }
def k8m6 : Method := { name := "coderFromArrayLen", desc := "([BI)B", sig := { parameters := [(.array .byte), .int], returnType := some .byte }, accessFlags := 8, code := some k8c6 }
def k8c7 : Code := { maxStack := 5, maxLocals := 6, code := jdk_52_method_16_code, exceptionTable := #[], attributes := #[] }
def k8m7 : Method := { name := "compress", desc := "([CII)[B", sig := { parameters := [(.array .char), .int, .int], returnType := some (.array .byte) }, accessFlags := 9, code := some k8c7 }
def k8c8 : Code := { maxStack := 3, maxLocals := 7, code := jdk_52_method_21_code, exceptionTable := #[], attributes := #[] }
def k8m8 : Method := { name := "compress", desc := "([CI[BII)I", sig := { parameters := [(.array .char), .int, (.array .byte), .int, .int], returnType := some .int }, accessFlags := 9, code := some k8c8 }
def k8c9 : Code := { maxStack := 3, maxLocals := 2, code := jdk_52_method_24_code, exceptionTable := #[], attributes := #[] }
def k8m9 : Method := { name := "toBytes", desc := "(C)[B", sig := { parameters := [.char], returnType := some (.array .byte) }, accessFlags := 9, code := some k8c9 }
/-- java/lang/StringUTF16 -/
def k8 : Class := { plain "java/lang/StringUTF16" (some 0) with
  accessFlags := 48
  interfaces := #[]
  cf := some (fileOf pool8 12 #[.nestMembers #[627, 629, 369]] #[{ accessFlags := 0, nameIndex := 9, descriptorIndex := 10, attributes := #[] }, { accessFlags := 9, nameIndex := 109, descriptorIndex := 110, attributes := #[] }, { accessFlags := 9, nameIndex := 15, descriptorIndex := 16, attributes := #[] }, { accessFlags := 8, nameIndex := 113, descriptorIndex := 114, attributes := #[] }, { accessFlags := 8, nameIndex := 73, descriptorIndex := 74, attributes := #[] }, { accessFlags := 9, nameIndex := 121, descriptorIndex := 122, attributes := #[] }, { accessFlags := 8, nameIndex := 261, descriptorIndex := 262, attributes := #[] }, { accessFlags := 9, nameIndex := 117, descriptorIndex := 122, attributes := #[] }, { accessFlags := 9, nameIndex := 117, descriptorIndex := 118, attributes := #[] }, { accessFlags := 9, nameIndex := 121, descriptorIndex := 475, attributes := #[] }] 48 6 #[] #[{ accessFlags := 26, nameIndex := 61, descriptorIndex := 62, attributes := #[] }, { accessFlags := 26, nameIndex := 65, descriptorIndex := 62, attributes := #[] }, { accessFlags := 24, nameIndex := 430, descriptorIndex := 62, attributes := #[] }, { accessFlags := 4120, nameIndex := 46, descriptorIndex := 47, attributes := #[] }])
  fields := #[{ name := "HI_BYTE_SHIFT", type := .int, accessFlags := 26, slot := 0, constantValue := 0 }, { name := "LO_BYTE_SHIFT", type := .int, accessFlags := 26, slot := 1, constantValue := 0 }, { name := "MAX_LENGTH", type := .int, accessFlags := 24, slot := 2, constantValue := 0 }, { name := "$assertionsDisabled", type := .boolean, accessFlags := 4120, slot := 3, constantValue := 0 }]
  methods := #[k8m0, k8m1, k8m2, k8m3, k8m4, k8m5, k8m6, k8m7, k8m8, k8m9]
  instanceTypes := #[]
  staticTypes := #[.int, .int, .int, .boolean]
  resolved := Array.replicate 635 none
  statics := some 1 }

def pool9 : Array CpInfo := pool [(4, .class_ 6), (1, u "java/lang/Object"), (0, u "<init>"), (0, u "()V"), (5, .class_ 16), (1, u "java/lang/StringLatin1"), (73, u "canEncode"), (14, u "(C)Z"), (15, u "$assertionsDisabled"), (0, u "Z"), (98, .class_ 223), (1, u "java/lang/StringLatin1$LinesSpliterator"), (156, u "toBytes"), (1, u "(C)[B"), (7, .class_ 391), (0, u "java/lang/StringLatin1$CharsSpliterator")] 3

def k9m0 : Method := { name := "<init>", desc := "()V", sig := { parameters := [], returnType := none }, accessFlags := 0, code := none }
def k9c1 : Code := { maxStack := 2, maxLocals := 1, code := jdk_43_method_3_code, exceptionTable := #[], attributes := #[] }
def k9m1 : Method := { name := "canEncode", desc := "(C)Z", sig := { parameters := [.char], returnType := some .boolean }, accessFlags := 9, code := some k9c1 }
def k9c2 : Code := { maxStack := 4, maxLocals := 1, code := jdk_43_method_46_code, exceptionTable := #[], attributes := #[] }
def k9m2 : Method := { name := "toBytes", desc := "(C)[B", sig := { parameters := [.char], returnType := some (.array .byte) }, accessFlags := 9, code := some k9c2 }
/-- java/lang/StringLatin1 -/
def k9 : Class := { plain "java/lang/StringLatin1" (some 0) with
  accessFlags := 48
  interfaces := #[]
  cf := some (fileOf pool9 14 #[.nestMembers #[390, 221]] #[{ accessFlags := 0, nameIndex := 7, descriptorIndex := 8, attributes := #[] }, { accessFlags := 9, nameIndex := 90, descriptorIndex := 105, attributes := #[] }, { accessFlags := 9, nameIndex := 380, descriptorIndex := 382, attributes := #[] }] 48 4 #[] #[{ accessFlags := 4120, nameIndex := 121, descriptorIndex := 122, attributes := #[] }])
  fields := #[{ name := "$assertionsDisabled", type := .boolean, accessFlags := 4120, slot := 0, constantValue := 0 }]
  methods := #[k9m0, k9m1, k9m2]
  instanceTypes := #[]
  staticTypes := #[.boolean]
  resolved := Array.replicate 395 none
  statics := none }

def pool10 : Array CpInfo := pool [(2, .class_ 4), (1, u "java/lang/Object"), (0, u "<init>"), (0, u "()V"), (5, u "Ljava/math/BigDecimal;"), (7, .class_ 22), (1, u "com/example/rulecart/rulecart/Require"), (13, u "(Ljava/lang/String;Ljava/lang/String;)Ljava/lang/String;"), (23, u "HUNDRED"), (15, .methodref 77 78), (0, .class_ 79), (0, .nameAndType 80 81), (0, u "java/lang/String"), (0, u "isEmpty"), (0, u "()Z"), (45, u "nonEmpty")] 26

def k10m0 : Method := { name := "<init>", desc := "()V", sig := { parameters := [], returnType := none }, accessFlags := 2, code := none }
def k10c1 : Code := { maxStack := 3, maxLocals := 2, code := prog_73_method_7_code, exceptionTable := #[], attributes := #[] }
def k10m1 : Method := { name := "nonEmpty", desc := "(Ljava/lang/String;Ljava/lang/String;)Ljava/lang/String;", sig := { parameters := [(.object "java/lang/String"), (.object "java/lang/String")], returnType := some (.object "java/lang/String") }, accessFlags := 8, code := some k10c1 }
/-- com/example/rulecart/rulecart/Require -/
def k10 : Class := { plain "com/example/rulecart/rulecart/Require" (some 0) with
  accessFlags := 48
  interfaces := #[]
  cf := some (fileOf pool10 20 #[] #[{ accessFlags := 2, nameIndex := 5, descriptorIndex := 6, attributes := #[] }, { accessFlags := 8, nameIndex := 127, descriptorIndex := 36, attributes := #[] }] 48 2 #[] #[{ accessFlags := 26, nameIndex := 60, descriptorIndex := 12, attributes := #[] }])
  fields := #[{ name := "HUNDRED", type := (.object "java/math/BigDecimal"), accessFlags := 26, slot := 0, constantValue := 0 }]
  methods := #[k10m0, k10m1]
  instanceTypes := #[]
  staticTypes := #[(.object "java/math/BigDecimal")]
  resolved := Array.replicate 154 none
  statics := none }

def pool11 : Array CpInfo := pool [(2, .class_ 4), (1, u "java/lang/Object"), (0, u "<init>"), (0, u "()V"), (17, .class_ 26), (1, u "jdk/internal/util/Preconditions"), (28, .class_ 56), (0, u "jdk/internal/util/Preconditions$4"), (57, .class_ 115), (0, u "jdk/internal/util/Preconditions$1"), (7, u "SIOOBE_FORMATTER"), (0, u "Ljava/util/function/BiFunction;"), (0, .class_ 126), (0, u "jdk/internal/util/Preconditions$2"), (3, u "AIOOBE_FORMATTER"), (0, .class_ 132), (0, u "jdk/internal/util/Preconditions$3"), (3, u "IOOBE_FORMATTER")] 57

def k11m0 : Method := { name := "<init>", desc := "()V", sig := { parameters := [], returnType := none }, accessFlags := 1, code := none }
/-- jdk/internal/util/Preconditions -/
def k11 : Class := { plain "jdk/internal/util/Preconditions" (some 0) with
  accessFlags := 33
  interfaces := #[]
  cf := some (fileOf pool11 24 #[.nestMembers #[55, 131, 125, 114]] #[{ accessFlags := 1, nameIndex := 5, descriptorIndex := 6, attributes := #[] }] 33 2 #[] #[{ accessFlags := 25, nameIndex := 123, descriptorIndex := 124, attributes := #[] }, { accessFlags := 25, nameIndex := 130, descriptorIndex := 124, attributes := #[] }, { accessFlags := 25, nameIndex := 136, descriptorIndex := 124, attributes := #[] }])
  fields := #[{ name := "SIOOBE_FORMATTER", type := (.object "java/util/function/BiFunction"), accessFlags := 25, slot := 0, constantValue := 0 }, { name := "AIOOBE_FORMATTER", type := (.object "java/util/function/BiFunction"), accessFlags := 25, slot := 1, constantValue := 0 }, { name := "IOOBE_FORMATTER", type := (.object "java/util/function/BiFunction"), accessFlags := 25, slot := 2, constantValue := 0 }]
  methods := #[k11m0]
  instanceTypes := #[]
  staticTypes := #[(.object "java/util/function/BiFunction"), (.object "java/util/function/BiFunction"), (.object "java/util/function/BiFunction")]
  resolved := Array.replicate 194 none
  statics := some 2 }

def pool12 : Array CpInfo := pool [(9, u "<init>"), (6, .class_ 18), (1, u "java/lang/Object"), (0, u "()V"), (1, .class_ 23), (1, u "jdk/internal/util/ArraysSupport"), (0, u "LOG2_ARRAY_LONG_INDEX_SCALE"), (0, u "I"), (2, u "U"), (0, u "Ljdk/internal/misc/Unsafe;"), (8, u "BIG_ENDIAN"), (0, u "Z"), (8, u "LOG2_BYTE_BIT_SIZE"), (4, u "LOG2_ARRAY_INT_INDEX_SCALE"), (54, u "JLA"), (0, u "Ljdk/internal/access/JavaLangAccess;"), (11, u "LOG2_ARRAY_BOOLEAN_INDEX_SCALE"), (9, u "LOG2_ARRAY_BYTE_INDEX_SCALE"), (5, u "LOG2_ARRAY_CHAR_INDEX_SCALE"), (5, u "LOG2_ARRAY_SHORT_INDEX_SCALE"), (18, u "LOG2_ARRAY_FLOAT_INDEX_SCALE"), (24, u "LOG2_ARRAY_DOUBLE_INDEX_SCALE"), (89, u "T_BOOLEAN"), (2, u "T_CHAR"), (1, u "T_FLOAT"), (1, u "T_DOUBLE"), (1, u "T_BYTE"), (1, u "T_SHORT"), (1, u "T_INT"), (1, u "T_LONG"), (1, u "SOFT_MAX_ARRAY_LENGTH")] 83

def k12m0 : Method := { name := "<init>", desc := "()V", sig := { parameters := [], returnType := none }, accessFlags := 2, code := none }
/-- jdk/internal/util/ArraysSupport -/
def k12 : Class := { plain "jdk/internal/util/ArraysSupport" (some 0) with
  accessFlags := 33
  interfaces := #[]
  cf := some (fileOf pool12 21 #[] #[{ accessFlags := 2, nameIndex := 9, descriptorIndex := 19, attributes := #[] }] 33 16 #[] #[{ accessFlags := 24, nameIndex := 28, descriptorIndex := 29, attributes := #[] }, { accessFlags := 26, nameIndex := 38, descriptorIndex := 39, attributes := #[] }, { accessFlags := 25, nameIndex := 121, descriptorIndex := 25, attributes := #[] }, { accessFlags := 25, nameIndex := 131, descriptorIndex := 25, attributes := #[] }, { accessFlags := 25, nameIndex := 137, descriptorIndex := 25, attributes := #[] }, { accessFlags := 25, nameIndex := 143, descriptorIndex := 25, attributes := #[] }, { accessFlags := 25, nameIndex := 53, descriptorIndex := 25, attributes := #[] }, { accessFlags := 25, nameIndex := 24, descriptorIndex := 25, attributes := #[] }, { accessFlags := 25, nameIndex := 162, descriptorIndex := 25, attributes := #[] }, { accessFlags := 25, nameIndex := 187, descriptorIndex := 25, attributes := #[] }, { accessFlags := 26, nameIndex := 48, descriptorIndex := 25, attributes := #[] }, { accessFlags := 25, nameIndex := 277, descriptorIndex := 25, attributes := #[] }, { accessFlags := 25, nameIndex := 280, descriptorIndex := 25, attributes := #[] }, { accessFlags := 25, nameIndex := 282, descriptorIndex := 25, attributes := #[] }, { accessFlags := 25, nameIndex := 284, descriptorIndex := 25, attributes := #[] }, { accessFlags := 25, nameIndex := 286, descriptorIndex := 25, attributes := #[] }, { accessFlags := 25, nameIndex := 288, descriptorIndex := 25, attributes := #[] }, { accessFlags := 25, nameIndex := 290, descriptorIndex := 25, attributes := #[] }, { accessFlags := 25, nameIndex := 292, descriptorIndex := 25, attributes := #[] }, { accessFlags := 26, nameIndex := 108, descriptorIndex := 109, attributes := #[] }, { accessFlags := 25, nameIndex := 294, descriptorIndex := 25, attributes := #[] }])
  fields := #[{ name := "U", type := (.object "jdk/internal/misc/Unsafe"), accessFlags := 24, slot := 0, constantValue := 0 }, { name := "BIG_ENDIAN", type := .boolean, accessFlags := 26, slot := 1, constantValue := 0 }, { name := "LOG2_ARRAY_BOOLEAN_INDEX_SCALE", type := .int, accessFlags := 25, slot := 2, constantValue := 0 }, { name := "LOG2_ARRAY_BYTE_INDEX_SCALE", type := .int, accessFlags := 25, slot := 3, constantValue := 0 }, { name := "LOG2_ARRAY_CHAR_INDEX_SCALE", type := .int, accessFlags := 25, slot := 4, constantValue := 0 }, { name := "LOG2_ARRAY_SHORT_INDEX_SCALE", type := .int, accessFlags := 25, slot := 5, constantValue := 0 }, { name := "LOG2_ARRAY_INT_INDEX_SCALE", type := .int, accessFlags := 25, slot := 6, constantValue := 0 }, { name := "LOG2_ARRAY_LONG_INDEX_SCALE", type := .int, accessFlags := 25, slot := 7, constantValue := 0 }, { name := "LOG2_ARRAY_FLOAT_INDEX_SCALE", type := .int, accessFlags := 25, slot := 8, constantValue := 0 }, { name := "LOG2_ARRAY_DOUBLE_INDEX_SCALE", type := .int, accessFlags := 25, slot := 9, constantValue := 0 }, { name := "LOG2_BYTE_BIT_SIZE", type := .int, accessFlags := 26, slot := 10, constantValue := 0 }, { name := "T_BOOLEAN", type := .int, accessFlags := 25, slot := 11, constantValue := 0 }, { name := "T_CHAR", type := .int, accessFlags := 25, slot := 12, constantValue := 0 }, { name := "T_FLOAT", type := .int, accessFlags := 25, slot := 13, constantValue := 0 }, { name := "T_DOUBLE", type := .int, accessFlags := 25, slot := 14, constantValue := 0 }, { name := "T_BYTE", type := .int, accessFlags := 25, slot := 15, constantValue := 0 }, { name := "T_SHORT", type := .int, accessFlags := 25, slot := 16, constantValue := 0 }, { name := "T_INT", type := .int, accessFlags := 25, slot := 17, constantValue := 0 }, { name := "T_LONG", type := .int, accessFlags := 25, slot := 18, constantValue := 0 }, { name := "JLA", type := (.object "jdk/internal/access/JavaLangAccess"), accessFlags := 26, slot := 19, constantValue := 0 }, { name := "SOFT_MAX_ARRAY_LENGTH", type := .int, accessFlags := 25, slot := 20, constantValue := 0 }]
  methods := #[k12m0]
  instanceTypes := #[]
  staticTypes := #[(.object "jdk/internal/misc/Unsafe"), .boolean, .int, .int, .int, .int, .int, .int, .int, .int, .int, .int, .int, .int, .int, .int, .int, .int, .int, (.object "jdk/internal/access/JavaLangAccess"), .int]
  resolved := Array.replicate 378 none
  statics := none }

def pool13 : Array CpInfo := pool [(1, u "java/lang/Cloneable"), (0, .class_ 1), (0, u "java/lang/Object"), (0, .class_ 3)] 3

/-- java/lang/Cloneable -/
def k13 : Class := { plain "java/lang/Cloneable" (some 0) with
  accessFlags := 1537
  interfaces := #[]
  cf := some (fileOf pool13 2 #[] #[] 1537 4 #[] #[])
  fields := #[]
  methods := #[]
  instanceTypes := #[]
  staticTypes := #[]
  resolved := Array.replicate 8 none
  statics := none }

/-- the primitive byte -/
def k14 : Class := { plain "byte" none with kind := .primitive 'B', accessFlags := 0x411 }
/-- [B -/
def k15 : Class := { plain "[B" (some 0) with kind := .array 14 .byte, interfaces := #[13, 2], accessFlags := 1041 }

/-- the primitive char -/
def k16 : Class := { plain "char" none with kind := .primitive 'C', accessFlags := 0x411 }
/-- [C -/
def k17 : Class := { plain "[C" (some 0) with kind := .array 16 .char, interfaces := #[13, 2], accessFlags := 1041 }

/-- the primitive int -/
def k18 : Class := { plain "int" none with kind := .primitive 'I', accessFlags := 0x411 }
/-- [I -/
def k19 : Class := { plain "[I" (some 0) with kind := .array 18 .int, interfaces := #[13, 2], accessFlags := 1041 }

def heap : Heap := #[{ cls := 7, slots := #[.long 0, .int 1, .null, .int 0, .null, .int 0, .int 0], vm := .statics 7 },
  { cls := 8, slots := #[.int 0, .int 8, .int 0, .int 1], vm := .statics 8 },
  { cls := 11, slots := #[.null, .null, .null], vm := .statics 11 }]
def classes : Array Class := #[k0, k1, k2, k3, k4, k5, k6, k7, k8, k9, k10, k11, k12, k13, k14, k15, k16, k17, k18, k19]
def interned : List (Array UInt16 × Addr) := []
def slotsUsed : Nat := 14
def theMethod : MethodId := ⟨1, 1⟩
def args0 : Array Value := #[.int 5, .int 6, .int 7, .int 8, .int 9]
def aboutOver (below : List Frame) : State where
  vm := { classes := classes, interned := interned.toArray }
  heap := heap
  slotsUsed := slotsUsed
  threads := #[{ frames := .invoking theMethod args0 :: below }]
def below0 : List Frame := [.native { method := ⟨0, 0⟩, args := #[] }]
def about1 : State := aboutOver below0
def p0 : Program := .bare "" "" ""
def e0 : Env := launch0.env 0 0 0
theorem w_frames : about1.frames = Frame.invoking theMethod args0 :: below0 := rfl
set_option maxRecDepth 65536 in
theorem w_args : argsFit about1.vm theMethod args0 = true := by decide +kernel
set_option maxRecDepth 65536 in
theorem w_heap : heapFits about1 = true := by decide +kernel
set_option maxRecDepth 65536 in
theorem w_runnable : about1.curStatus? = some .runnable := by decide +kernel
set_option maxRecDepth 65536 in
theorem w_alone : about1.alone = true := by decide +kernel
set_option maxRecDepth 65536 in
theorem w_named : about1.methodNamed? x = some theMethod := by decide +kernel
set_option maxRecDepth 65536 in
theorem w_hears : about1.hears theMethod below0 = true := by decide +kernel
set_option maxRecDepth 65536 in
theorem w_ripe : about1.ripe theMethod args0 below0 = true := by decide +kernel
theorem w_running : about1.status = .running := rfl
set_option maxRecDepth 65536 in
theorem w_room : about1.hasRoom e0.platform room_1 = true :=
  launch0.hasRoom_least _ room_1 (by decide +kernel) (by decide +kernel) (by decide +kernel) (by decide +kernel) (by decide +kernel) (by decide +kernel)
theorem allAtoms_all (ts : List Jvm.Cond) (a : Array Jvm.Value) (st : Jvm.State) : (allAtoms ts).before a st = ts.all (fun c => c.before a st) := by
  induction ts with
  | nil => rfl
  | cons c t ih =>
    show (Jvm.Cond.and c (allAtoms t)).before a st = _
    rw [Jvm.Cond.before_and, ih, List.all_cons]
def words1 : List Jvm.Cond := Jvm.Cond.code x code maxLocals ret :: tables_1
/-- a 'code' word, met by the world's own term for the bytes: nothing is compared byte by byte -/
theorem code_word {y : MethodName} {bytes : ByteArray} {mx : Nat} {rt : Option FieldType} {a : Array Value} {s : State} {m : MethodId} {meth : Method} {c : Code} (h1 : s.methodNamed? y = some m) (h2 : s.vm.method? m = some meth) (h3 : meth.code = some c) (h4 : c.code = bytes)
    (h5 : (c.maxLocals == mx && c.exceptionTable.isEmpty && decide (c.maxStack ≤ mostOperands) && decide (meth.sig.returnType = rt) && !meth.locks && decide (parseMethodDescriptor y.desc = some meth.sig)) = true) : (Jvm.Cond.code y bytes mx rt).before a s = true := by
  simp only [Bool.and_eq_true, beq_iff_eq, Bool.not_eq_true', decide_eq_true_eq] at h5
  obtain ⟨⟨⟨⟨⟨g1, g2⟩, g3⟩, g4⟩, g5⟩, g6⟩ := h5
  simp [Cond.before, Cond.holds, Cond.value, h1, h2, h3, h4, g1, g2, g3, g4, g5, g6]
def isCode : Jvm.Cond → Bool
  | .code _ _ _ _ => true
  | _ => false
theorem all_split {L : List Jvm.Cond} {P : Jvm.Cond → Bool} (h1 : L.all (fun c => isCode c || P c) = true) (h2 : ∀ c ∈ L.filter isCode, P c = true) : L.all P = true := by
  refine List.all_eq_true.mpr fun c hc => ?_
  have h := List.all_eq_true.mp h1 c hc
  rcases Bool.eq_false_or_eq_true (isCode c) with hi | hi
  · exact h2 c (List.mem_filter.mpr ⟨hc, hi⟩)
  · simpa [hi] using h
set_option maxRecDepth 65536 in
theorem w_c0 : (Jvm.Cond.code x code maxLocals ret).before args0 about1 = true := code_word (m := ⟨1, 1⟩) (meth := k1m1) (c := k1c1) (by decide +kernel) rfl rfl rfl (by decide +kernel)
set_option maxRecDepth 65536 in
theorem w_c1 : (Jvm.Cond.code ({ cls := "java/lang/String", name := "<init>", desc := "([C)V" } : Jvm.MethodName) jdk_42_method_3_code (2 : Nat) (Option.none : Option Jvm.ClassFile.FieldType)).before args0 about1 = true := code_word (m := ⟨7, 1⟩) (meth := k7m1) (c := k7c1) (by decide +kernel) rfl rfl rfl (by decide +kernel)
set_option maxRecDepth 65536 in
theorem w_c2 : (Jvm.Cond.code ({ cls := "java/lang/String", name := "<init>", desc := "([CIILjava/lang/Void;)V" } : Jvm.MethodName) jdk_42_method_149_code (6 : Nat) (Option.none : Option Jvm.ClassFile.FieldType)).before args0 about1 = true := code_word (m := ⟨7, 6⟩) (meth := k7m6) (c := k7c6) (by decide +kernel) rfl rfl rfl (by decide +kernel)
set_option maxRecDepth 65536 in
theorem w_c3 : (Jvm.Cond.code ({ cls := "java/lang/Object", name := "<init>", desc := "()V" } : Jvm.MethodName) object_method_1_code (1 : Nat) (Option.none : Option Jvm.ClassFile.FieldType)).before args0 about1 = true := code_word (m := ⟨0, 0⟩) (meth := k0m0) (c := k0c0) (by decide +kernel) rfl rfl rfl (by decide +kernel)
set_option maxRecDepth 65536 in
theorem w_c4 : (Jvm.Cond.code ({ cls := "java/lang/StringUTF16", name := "compress", desc := "([CII)[B" } : Jvm.MethodName) jdk_52_method_16_code (6 : Nat) (Option.some (Jvm.ClassFile.FieldType.array Jvm.ClassFile.FieldType.byte))).before args0 about1 = true := code_word (m := ⟨8, 7⟩) (meth := k8m7) (c := k8c7) (by decide +kernel) rfl rfl rfl (by decide +kernel)
set_option maxRecDepth 65536 in
theorem w_c5 : (Jvm.Cond.code ({ cls := "java/lang/StringUTF16", name := "compress", desc := "([CI[BII)I" } : Jvm.MethodName) jdk_52_method_21_code (7 : Nat) (Option.some Jvm.ClassFile.FieldType.int)).before args0 about1 = true := code_word (m := ⟨8, 8⟩) (meth := k8m8) (c := k8c8) (by decide +kernel) rfl rfl rfl (by decide +kernel)
set_option maxRecDepth 65536 in
theorem w_c6 : (Jvm.Cond.code ({ cls := "java/lang/StringUTF16", name := "coderFromArrayLen", desc := "([BI)B" } : Jvm.MethodName) jdk_52_method_15_code (2 : Nat) (Option.some Jvm.ClassFile.FieldType.byte)).before args0 about1 = true := code_word (m := ⟨8, 6⟩) (meth := k8m6) (c := k8c6) (by decide +kernel) rfl rfl rfl (by decide +kernel)
set_option maxRecDepth 65536 in
theorem w_c7 : (Jvm.Cond.code ({ cls := "java/lang/String", name := "valueOf", desc := "(C)Ljava/lang/String;" } : Jvm.MethodName) jdk_42_method_139_code (1 : Nat) (Option.some (Jvm.ClassFile.FieldType.object "java/lang/String"))).before args0 about1 = true := code_word (m := ⟨7, 5⟩) (meth := k7m5) (c := k7c5) (by decide +kernel) rfl rfl rfl (by decide +kernel)
set_option maxRecDepth 65536 in
theorem w_c8 : (Jvm.Cond.code ({ cls := "java/lang/StringLatin1", name := "canEncode", desc := "(C)Z" } : Jvm.MethodName) jdk_43_method_3_code (1 : Nat) (Option.some Jvm.ClassFile.FieldType.boolean)).before args0 about1 = true := code_word (m := ⟨9, 1⟩) (meth := k9m1) (c := k9c1) (by decide +kernel) rfl rfl rfl (by decide +kernel)
set_option maxRecDepth 65536 in
theorem w_c9 : (Jvm.Cond.code ({ cls := "java/lang/StringLatin1", name := "toBytes", desc := "(C)[B" } : Jvm.MethodName) jdk_43_method_46_code (1 : Nat) (Option.some (Jvm.ClassFile.FieldType.array Jvm.ClassFile.FieldType.byte))).before args0 about1 = true := code_word (m := ⟨9, 2⟩) (meth := k9m2) (c := k9c2) (by decide +kernel) rfl rfl rfl (by decide +kernel)
set_option maxRecDepth 65536 in
theorem w_c10 : (Jvm.Cond.code ({ cls := "java/lang/String", name := "<init>", desc := "([BB)V" } : Jvm.MethodName) jdk_42_method_151_code (3 : Nat) (Option.none : Option Jvm.ClassFile.FieldType)).before args0 about1 = true := code_word (m := ⟨7, 7⟩) (meth := k7m7) (c := k7c7) (by decide +kernel) rfl rfl rfl (by decide +kernel)
set_option maxRecDepth 65536 in
theorem w_c11 : (Jvm.Cond.code ({ cls := "com/example/rulecart/rulecart/Require", name := "nonEmpty", desc := "(Ljava/lang/String;Ljava/lang/String;)Ljava/lang/String;" } : Jvm.MethodName) prog_73_method_7_code (2 : Nat) (Option.some (Jvm.ClassFile.FieldType.object "java/lang/String"))).before args0 about1 = true := code_word (m := ⟨10, 1⟩) (meth := k10m1) (c := k10c1) (by decide +kernel) rfl rfl rfl (by decide +kernel)
set_option maxRecDepth 65536 in
theorem w_c12 : (Jvm.Cond.code ({ cls := "java/lang/String", name := "isEmpty", desc := "()Z" } : Jvm.MethodName) jdk_42_method_55_code (1 : Nat) (Option.some Jvm.ClassFile.FieldType.boolean)).before args0 about1 = true := code_word (m := ⟨7, 3⟩) (meth := k7m3) (c := k7c3) (by decide +kernel) rfl rfl rfl (by decide +kernel)
set_option maxRecDepth 65536 in
theorem w_c13 : (Jvm.Cond.code ({ cls := "java/lang/String", name := "length", desc := "()I" } : Jvm.MethodName) jdk_42_method_54_code (1 : Nat) (Option.some Jvm.ClassFile.FieldType.int)).before args0 about1 = true := code_word (m := ⟨7, 2⟩) (meth := k7m2) (c := k7c2) (by decide +kernel) rfl rfl rfl (by decide +kernel)
set_option maxRecDepth 65536 in
theorem w_c14 : (Jvm.Cond.code ({ cls := "java/lang/String", name := "coder", desc := "()B" } : Jvm.MethodName) jdk_42_method_152_code (1 : Nat) (Option.some Jvm.ClassFile.FieldType.byte)).before args0 about1 = true := code_word (m := ⟨7, 8⟩) (meth := k7m8) (c := k7c8) (by decide +kernel) rfl rfl rfl (by decide +kernel)
set_option maxRecDepth 65536 in
theorem w_c15 : (Jvm.Cond.code ({ cls := "java/lang/String", name := "equals", desc := "(Ljava/lang/Object;)Z" } : Jvm.MethodName) jdk_42_method_66_code (3 : Nat) (Option.some Jvm.ClassFile.FieldType.boolean)).before args0 about1 = true := code_word (m := ⟨7, 4⟩) (meth := k7m4) (c := k7c4) (by decide +kernel) rfl rfl rfl (by decide +kernel)
set_option maxRecDepth 65536 in
theorem w_c16 : (Jvm.Cond.code ({ cls := "java/lang/StringUTF16", name := "toBytes", desc := "([CII)[B" } : Jvm.MethodName) jdk_52_method_14_code (5 : Nat) (Option.some (Jvm.ClassFile.FieldType.array Jvm.ClassFile.FieldType.byte))).before args0 about1 = true := code_word (m := ⟨8, 5⟩) (meth := k8m5) (c := k8c5) (by decide +kernel) rfl rfl rfl (by decide +kernel)
set_option maxRecDepth 65536 in
theorem w_c17 : (Jvm.Cond.code ({ cls := "java/lang/StringUTF16", name := "newBytesFor", desc := "(I)[B" } : Jvm.MethodName) jdk_52_method_2_code (1 : Nat) (Option.some (Jvm.ClassFile.FieldType.array Jvm.ClassFile.FieldType.byte))).before args0 about1 = true := code_word (m := ⟨8, 1⟩) (meth := k8m1) (c := k8c1) (by decide +kernel) rfl rfl rfl (by decide +kernel)
set_option maxRecDepth 65536 in
theorem w_c18 : (Jvm.Cond.code ({ cls := "java/lang/StringUTF16", name := "newBytesLength", desc := "(I)I" } : Jvm.MethodName) jdk_52_method_3_code (1 : Nat) (Option.some Jvm.ClassFile.FieldType.int)).before args0 about1 = true := code_word (m := ⟨8, 2⟩) (meth := k8m2) (c := k8c2) (by decide +kernel) rfl rfl rfl (by decide +kernel)
set_option maxRecDepth 65536 in
theorem w_c19 : (Jvm.Cond.code ({ cls := "java/lang/StringUTF16", name := "putChar", desc := "([BII)V" } : Jvm.MethodName) jdk_52_method_4_code (3 : Nat) (Option.none : Option Jvm.ClassFile.FieldType)).before args0 about1 = true := code_word (m := ⟨8, 3⟩) (meth := k8m3) (c := k8c3) (by decide +kernel) rfl rfl rfl (by decide +kernel)
set_option maxRecDepth 65536 in
theorem w_c20 : (Jvm.Cond.code ({ cls := "java/lang/StringUTF16", name := "getChar", desc := "([BI)C" } : Jvm.MethodName) jdk_52_method_5_code (2 : Nat) (Option.some Jvm.ClassFile.FieldType.char)).before args0 about1 = true := code_word (m := ⟨8, 4⟩) (meth := k8m4) (c := k8c4) (by decide +kernel) rfl rfl rfl (by decide +kernel)
set_option maxRecDepth 65536 in
theorem w_c21 : (Jvm.Cond.code ({ cls := "java/lang/StringUTF16", name := "toBytes", desc := "(C)[B" } : Jvm.MethodName) jdk_52_method_24_code (2 : Nat) (Option.some (Jvm.ClassFile.FieldType.array Jvm.ClassFile.FieldType.byte))).before args0 about1 = true := code_word (m := ⟨8, 9⟩) (meth := k8m9) (c := k8c9) (by decide +kernel) rfl rfl rfl (by decide +kernel)
def codes1 : List Jvm.Cond := [Jvm.Cond.code x code maxLocals ret, Jvm.Cond.code ({ cls := "java/lang/String", name := "<init>", desc := "([C)V" } : Jvm.MethodName) jdk_42_method_3_code (2 : Nat) (Option.none : Option Jvm.ClassFile.FieldType), Jvm.Cond.code ({ cls := "java/lang/String", name := "<init>", desc := "([CIILjava/lang/Void;)V" } : Jvm.MethodName) jdk_42_method_149_code (6 : Nat) (Option.none : Option Jvm.ClassFile.FieldType), Jvm.Cond.code ({ cls := "java/lang/Object", name := "<init>", desc := "()V" } : Jvm.MethodName) object_method_1_code (1 : Nat) (Option.none : Option Jvm.ClassFile.FieldType), Jvm.Cond.code ({ cls := "java/lang/StringUTF16", name := "compress", desc := "([CII)[B" } : Jvm.MethodName) jdk_52_method_16_code (6 : Nat) (Option.some (Jvm.ClassFile.FieldType.array Jvm.ClassFile.FieldType.byte)), Jvm.Cond.code ({ cls := "java/lang/StringUTF16", name := "compress", desc := "([CI[BII)I" } : Jvm.MethodName) jdk_52_method_21_code (7 : Nat) (Option.some Jvm.ClassFile.FieldType.int), Jvm.Cond.code ({ cls := "java/lang/StringUTF16", name := "coderFromArrayLen", desc := "([BI)B" } : Jvm.MethodName) jdk_52_method_15_code (2 : Nat) (Option.some Jvm.ClassFile.FieldType.byte), Jvm.Cond.code ({ cls := "java/lang/String", name := "valueOf", desc := "(C)Ljava/lang/String;" } : Jvm.MethodName) jdk_42_method_139_code (1 : Nat) (Option.some (Jvm.ClassFile.FieldType.object "java/lang/String")), Jvm.Cond.code ({ cls := "java/lang/StringLatin1", name := "canEncode", desc := "(C)Z" } : Jvm.MethodName) jdk_43_method_3_code (1 : Nat) (Option.some Jvm.ClassFile.FieldType.boolean), Jvm.Cond.code ({ cls := "java/lang/StringLatin1", name := "toBytes", desc := "(C)[B" } : Jvm.MethodName) jdk_43_method_46_code (1 : Nat) (Option.some (Jvm.ClassFile.FieldType.array Jvm.ClassFile.FieldType.byte)), Jvm.Cond.code ({ cls := "java/lang/String", name := "<init>", desc := "([BB)V" } : Jvm.MethodName) jdk_42_method_151_code (3 : Nat) (Option.none : Option Jvm.ClassFile.FieldType), Jvm.Cond.code ({ cls := "com/example/rulecart/rulecart/Require", name := "nonEmpty", desc := "(Ljava/lang/String;Ljava/lang/String;)Ljava/lang/String;" } : Jvm.MethodName) prog_73_method_7_code (2 : Nat) (Option.some (Jvm.ClassFile.FieldType.object "java/lang/String")), Jvm.Cond.code ({ cls := "java/lang/String", name := "isEmpty", desc := "()Z" } : Jvm.MethodName) jdk_42_method_55_code (1 : Nat) (Option.some Jvm.ClassFile.FieldType.boolean), Jvm.Cond.code ({ cls := "java/lang/String", name := "length", desc := "()I" } : Jvm.MethodName) jdk_42_method_54_code (1 : Nat) (Option.some Jvm.ClassFile.FieldType.int), Jvm.Cond.code ({ cls := "java/lang/String", name := "coder", desc := "()B" } : Jvm.MethodName) jdk_42_method_152_code (1 : Nat) (Option.some Jvm.ClassFile.FieldType.byte), Jvm.Cond.code ({ cls := "java/lang/String", name := "equals", desc := "(Ljava/lang/Object;)Z" } : Jvm.MethodName) jdk_42_method_66_code (3 : Nat) (Option.some Jvm.ClassFile.FieldType.boolean), Jvm.Cond.code ({ cls := "java/lang/StringUTF16", name := "toBytes", desc := "([CII)[B" } : Jvm.MethodName) jdk_52_method_14_code (5 : Nat) (Option.some (Jvm.ClassFile.FieldType.array Jvm.ClassFile.FieldType.byte)), Jvm.Cond.code ({ cls := "java/lang/StringUTF16", name := "newBytesFor", desc := "(I)[B" } : Jvm.MethodName) jdk_52_method_2_code (1 : Nat) (Option.some (Jvm.ClassFile.FieldType.array Jvm.ClassFile.FieldType.byte)), Jvm.Cond.code ({ cls := "java/lang/StringUTF16", name := "newBytesLength", desc := "(I)I" } : Jvm.MethodName) jdk_52_method_3_code (1 : Nat) (Option.some Jvm.ClassFile.FieldType.int), Jvm.Cond.code ({ cls := "java/lang/StringUTF16", name := "putChar", desc := "([BII)V" } : Jvm.MethodName) jdk_52_method_4_code (3 : Nat) (Option.none : Option Jvm.ClassFile.FieldType), Jvm.Cond.code ({ cls := "java/lang/StringUTF16", name := "getChar", desc := "([BI)C" } : Jvm.MethodName) jdk_52_method_5_code (2 : Nat) (Option.some Jvm.ClassFile.FieldType.char), Jvm.Cond.code ({ cls := "java/lang/StringUTF16", name := "toBytes", desc := "(C)[B" } : Jvm.MethodName) jdk_52_method_24_code (2 : Nat) (Option.some (Jvm.ClassFile.FieldType.array Jvm.ClassFile.FieldType.byte))]
set_option maxRecDepth 65536 in
theorem codes_eq : words1.filter isCode = codes1 := rfl
theorem w_codes : ∀ c ∈ words1.filter isCode, c.before args0 about1 = true := by
  rw [codes_eq]
  intro c hc
  simp only [codes1, List.mem_cons, List.not_mem_nil, or_false] at hc
  rcases hc with rfl | rfl | rfl | rfl | rfl | rfl | rfl | rfl | rfl | rfl | rfl | rfl | rfl | rfl | rfl | rfl | rfl | rfl | rfl | rfl | rfl | rfl
  · exact w_c0
  · exact w_c1
  · exact w_c2
  · exact w_c3
  · exact w_c4
  · exact w_c5
  · exact w_c6
  · exact w_c7
  · exact w_c8
  · exact w_c9
  · exact w_c10
  · exact w_c11
  · exact w_c12
  · exact w_c13
  · exact w_c14
  · exact w_c15
  · exact w_c16
  · exact w_c17
  · exact w_c18
  · exact w_c19
  · exact w_c20
  · exact w_c21
set_option maxRecDepth 65536 in
theorem w_t1 : (words1.take 24).all (fun c => isCode c || c.before args0 about1) = true := by decide +kernel
set_option maxRecDepth 65536 in
theorem w_t2 : ((words1.drop 24).take 24).all (fun c => isCode c || c.before args0 about1) = true := by decide +kernel
set_option maxRecDepth 65536 in
theorem w_t3 : (((words1.drop 24).drop 24).take 24).all (fun c => isCode c || c.before args0 about1) = true := by decide +kernel
set_option maxRecDepth 65536 in
theorem w_t4 : (((words1.drop 24).drop 24).drop 24).all (fun c => isCode c || c.before args0 about1) = true := by decide +kernel
theorem w_tables : (allAtoms (Jvm.Cond.code x code maxLocals ret :: tables_1)).before args0 about1 = true := by
  rw [allAtoms_all]
  show words1.all (fun c => c.before args0 about1) = true
  refine all_split ?_ w_codes
  rw [← List.take_append_drop 24 words1, List.all_append, w_t1, ← List.take_append_drop 24 (words1.drop 24), List.all_append, w_t2, ← List.take_append_drop 24 ((words1.drop 24).drop 24), List.all_append, w_t3, w_t4]
  rfl
set_option maxRecDepth 65536 in
theorem w_rest : rest_1_c.before args0 about1 = true := by decide +kernel
set_option maxRecDepth 65536 in
theorem w_case : (Jvm.Cond.and given_1 narrow_1).before args0 about1 = true := by decide +kernel
set_option maxRecDepth 65536 in
theorem w_consts : constsHeld consts_1 about1 := Jvm.Lit.constsHeldB_iff.mp (by decide +kernel)
theorem w_applies : (headSpec (Jvm.Cond.code x code maxLocals ret :: tables_1) room_1).applies x e0.platform about1 = true :=
  (Spec.applies_iff w_frames).mpr ⟨w_running, w_runnable, w_alone, w_named, w_hears, w_ripe, w_room, w_tables⟩
theorem atStart : AtStart classFile x code maxLocals ret World_1 tables_1 room_1 Calls_1 rest_1 Pre_1 launch0 p0 e0 about1 theMethod args0 below0 :=
  ⟨lists_1, trivial, launch0.admits_env _ _ _, launch0.least_env, fairChoices_fair.cas, fairChoices_fair.clock, w_frames, w_args, w_heap, w_applies, ⟨w_consts, trivial⟩, w_rest, w_case⟩
end start1
theorem witness_1 : WitnessClaimed_1 := ⟨start1.p0, start1.e0, start1.about1, start1.theMethod, start1.args0, start1.below0, start1.atStart⟩
end Jvm.Pilot.@@N@@
