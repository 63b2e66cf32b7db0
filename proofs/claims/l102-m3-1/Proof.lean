import JvmDerived
import JvmDerived.Pilot.@@N@@Statement
import JvmDerived.Pilot.@@N@@Code
set_option linter.unusedVariables false
set_option linter.unusedSimpArgs false
namespace Jvm.RoadKit
open Sem ClassFile Op Lib Jvm.Stand Jvm.Free Jvm.LawKit
section New
variable {p : Program} {l : Launch} {e : Env} {R : Room} {s : State} {m : MethodId} {args : Array Value} {below : List Frame} {meth : Method} {c : Code} {T : State} {locs : List Loc} {cells slots : Nat}
theorem retI (X : Stand p l e R s m args below meth c T locs cells slots) (hx : p.tables.exec = Jvm.exec) {pc : Nat} {Ls : Array Slot} {z : Int32} {rest : List Value} (hret : meth.sig.returnType = some .int) (hd : decode c.code pc = .ok (.ireturn, 1)) {fs : List Frame}
    (hl : ∀ (f : JFrame) (acts : List Action), f.method = m → f.locked = none → f.entered = [] → (doReturn e (T.setTop f) acts (some (.int z))).1 = T.setFrames fs) : Steps p.tables e below (T.setTop (mkF m pc Ls (.int z :: rest))) (T.setFrames fs) := by
  have hm' : T.vm.method? m = some meth := X.method'
  have hn : narrow .int (.int z) = .int z := rfl
  show Steps p.tables e below (T.setTop { method := m, pc := pc, locals := Ls, stack := _ :: rest, locked := none }) _
  jvm_step X.here [X.here.top, hx, hd, hm', hret, hn]
  first | (intro acts; rw [hl _ acts rfl rfl rfl]) | rw [hl _ _ rfl rfl rfl]
  exact Steps.refl _
/-- a boolean, byte, char or short that is one already -/
theorem own_retB (X : Stand p l e R s m args below meth c T locs cells slots) (hx : p.tables.exec = Jvm.exec) {pc : Nat} {Ls : Array Slot} {z : Int32} {t : FieldType} {rest : List Value} (hret : meth.sig.returnType = some t) (ht : t = .boolean ∨ t = .byte ∨ t = .char ∨ t = .short) (hz : nar t z = z)
    (hd : decode c.code pc = .ok (.ireturn, 1)) {fs : List Frame} (hl : ∀ (f : JFrame) (acts : List Action), f.method = m → f.locked = none → f.entered = [] → (doReturn e (T.setTop f) acts (some (.int z))).1 = T.setFrames fs) :
    Steps p.tables e below (T.setTop (mkF m pc Ls (.int z :: rest))) (T.setFrames fs) := retN X hx hret ht hd (by rw [hz]; exact hl)
theorem own_retL (X : Stand p l e R s m args below meth c T locs cells slots) (hx : p.tables.exec = Jvm.exec) {pc : Nat} {Ls : Array Slot} {z : Int64} {rest : List Value} (hret : meth.sig.returnType = some .long) (hd : decode c.code pc = .ok (.lreturn, 1)) {fs : List Frame}
    (hl : ∀ (f : JFrame) (acts : List Action), f.method = m → f.locked = none → f.entered = [] → (doReturn e (T.setTop f) acts (some (.long z))).1 = T.setFrames fs) : Steps p.tables e below (T.setTop (mkF m pc Ls (.long z :: rest))) (T.setFrames fs) :=
  retOut X hx hret rfl (Or.inr (Or.inl ⟨rfl, rfl, z, rfl⟩)) hd hl
end New
end Jvm.RoadKit
namespace Jvm.Pilot.@@N@@
open Jvm Jvm.ClassFile Sem Op Lib Jvm.Free Jvm.Stand Jvm.LawKit Jvm.RoadKit Bundle Jvm.Pilot.@@N@@.Jvm.D
theorem own_w {a0 : Array Value} {Z : State} (hw : ∀ d ∈ tables_1, d.before a0 Z = true) (i : Nat) {d : Jvm.Cond} (h : tables_1[i]? = some d) : d.before a0 Z = true := hw _ (List.mem_of_getElem? h)
/-- from A the walk comes to an end that P takes -/
abbrev own_R (tb : Tables) (e : Env) (below : List Frame) (P : State → Outcome → Prop) (A : State) : Prop := ∃ t o, Steps tb e below A t ∧ t.status = .running ∧ Ended t below o ∧ P t o
abbrev own_P (s : State) (Q : Option Value → Heap → List Loc → Prop) (k n : Nat) (t : State) (o : Outcome) : Prop := ∃ v L, o = .returned v ∧ Q v t.heap L ∧ FrameEnd s o t L k n
abbrev own_PW (s : State) (Q : Option Value → Heap → List Loc → Prop) (k n : Nat) (t : State) (o : Outcome) : Prop := ∃ v L, o = .returned v ∧ Q v t.heap L ∧ ReturnedEndW s o t L k n
theorem own_step {tb : Tables} {e : Env} {below : List Frame} {P : State → Outcome → Prop} {A A' : State} (st : ∀ t, Steps tb e below A' t → Steps tb e below A t) (h : own_R tb e below P A') : own_R tb e below P A := by
  obtain ⟨t, o, h1, h2⟩ := h
  exact ⟨t, o, st t h1, h2⟩
theorem own_go {tb : Tables} {e : Env} {below : List Frame} {P : State → Outcome → Prop} {A A' : State} (st : Steps tb e below A A') (h : own_R tb e below P A') : own_R tb e below P A := own_step (fun _ k => st.trans k) h
theorem own_f {tb : Tables} {e : Env} {below : List Frame} {P : State → Outcome → Prop} {A : State} (T : State) (g : JFrame) (st : ∀ t, Steps tb e below (T.setTop g) t → Steps tb e below A t) (h : own_R tb e below P (T.setTop g)) : own_R tb e below P A := own_step st h
theorem own_g {tb : Tables} {e : Env} {below : List Frame} {P : State → Outcome → Prop} {A : State} (T : State) (g : JFrame) (st : Steps tb e below A (T.setTop g)) (h : own_R tb e below P (T.setTop g)) : own_R tb e below P A := own_go st h
theorem own_lsw {tb : Tables} [Ours tb] {e : Env} {below : List Frame} {T target : State} {m : MethodId} {c : Code} {g : JFrame} (h : At T m c below) (hx : tb.exec = Jvm.exec) (hg : g.method = m) {df : Int} {ps : Array (Int × Int)} {len : Nat} {o : Int} {pc0 pc' : Nat} (hpc : g.pc = pc0) (hd : decode c.code g.pc = .ok (.lookupswitch df ps, len)) {i : Int32} {rest : List Value} (hs : g.stack = .int i :: rest)
    (hord : (ps.toList.zip (ps.toList.drop 1)).all (fun (a, next) => a.1 < next.1) = true) (hoff : lookupswitch.offset ps.toList df i.toInt = o) (ho : 0 ≤ (pc0 : Int) + o) (hp : ((pc0 : Int) + o).toNat = pc')
    (hr : Steps tb e below (T.setTop { g with pc := pc', stack := rest }) target) : Steps tb e below (T.setTop g) target := by
  subst hg hpc hp
  jvm_step h [h.top, hx, hd, hs, hoff, ho, lookupswitch.wp_chain]
  exact ⟨by simpa using hord, hr⟩
theorem own_len {p : Program} {l : Launch} {e : Env} {R : Room} {s : State} {m : MethodId} {args : Array Value} {below : List Frame} {meth : Method} {c : Code} {T target : State} {locs : List Loc} {cells slots : Nat} {Z : State} {h : Heap} {a : Addr} {k : ClassId} {ty : FieldType} {z : Int32} {vs : List Value} {dv : Value}
    (X : Stand p l e R s m args below meth c T locs cells slots) (hx : p.tables.exec = Jvm.exec) (hZ : Z.Warmed39 s.vm) (eT : T.heap = h) (F : Arv Z h a k ty z vs dv) {g : JFrame} (hg : g.method = m) {rest : List Value} (hs : g.stack = .ref a :: rest) (hd : decode c.code g.pc = .ok (.arraylength, 1))
    (hr : Steps p.tables e below (T.setTop { g with pc := g.pc + 1, stack := .int z :: rest }) target) : Steps p.tables e below (T.setTop g) target := by
  obtain ⟨cl, A, -, S, q, -⟩ := F
  exact X.arraylength hx (by rw [eT]; exact A.1) (State.isArrayOf_alike hZ.alike A.2.1) hg hs hd _ (by rw [len_of S q]; exact hr)
theorem own_arvnew {Z : State} {h : Heap} {a : Addr} {k : ClassId} {ty : FieldType} {z : Int32} (n : Nat) (A : Arr Z h a (newA k ty z) ty) (q : ¬ z < 0) : Arv Z h a k ty z (List.replicate n (defaultValue ty)) (defaultValue ty) := (Arv.new A q).pad fun i => pad_rep [] _ n i
theorem own_narB (x : Int32) : nar .byte x.toInt8.toInt32 = x.toInt8.toInt32 := by show x.toInt8.toInt32.toInt8.toInt32 = _; simp
theorem own_narC (x : Int32) : nar .char x.toUInt32.toUInt16.toUInt32.toInt32 = x.toUInt32.toUInt16.toUInt32.toInt32 := by show x.toUInt32.toUInt16.toUInt32.toInt32.toUInt32.toUInt16.toUInt32.toInt32 = _; simp only [UInt32.toUInt32_toInt32, UInt16.toUInt16_toUInt32]
theorem own_fitB (x : Int32) : fits .byte (.int (nar .byte x)) = true := fits_nar_byte x
theorem own_nb {z : Int32} (h : z = 0 ∨ z = 1) : narrow .boolean (.int z) = .int z := by rcases h with rfl | rfl <;> rfl
theorem own_fb {z : Int32} (h : z = 0 ∨ z = 1) : fits .boolean (.int z) = true := by rcases h with rfl | rfl <;> rfl
theorem own_nar {z : Int32} (h : z = 0 ∨ z = 1) : nar .boolean z = z := by rcases h with rfl | rfl <;> rfl
def own_mx (a b : Int32) : Int32 := if a < b then b else a
theorem own_mx1 (b : Int32) : ¬ ((own_mx (1 : Int32) b) < (1 : Int32)) := by
  unfold own_mx
  simp only [Int32.lt_iff_toInt_lt]
  split <;> omega
def own_eq (a b : Int32) : Int32 := if a = b then 1 else 0
theorem own_root {Z : State} {a0 : Array Value} {O K : String} {n : Nat} (w : (Jvm.Cond.noSuperclass O).before a0 Z = true) (wk : (Jvm.Cond.instantiable K n).before a0 Z = true) (hn : O ≠ K) : NS Z O K := by
  obtain ⟨c, k, h1, h2, h3, -, -⟩ := Cond.noSuperclass_spec w
  obtain ⟨t, kt, g1, -⟩ := Cond.instantiable_spec wk
  have ne := ids_ne h1 g1 hn
  refine ⟨c, t, h1, g1, fun fuel => ?_⟩
  cases fuel with
  | zero => rfl
  | succ f => simp [Vm.isSubclassAux, ne, h2, h3]
theorem own_no {Z : State} {a0 : Array Value} {C K : String} {i j : Nat} (w : (Jvm.Cond.instantiable C i).before a0 Z = true) (wk : (Jvm.Cond.instantiable K j).before a0 Z = true) (n : NS Z C K) (hn : C ≠ K) : ∃ c t, Z.vm.findClass C = some c ∧ Z.vm.findClass K = some t ∧ Z.vm.assignable c t = false := by
  obtain ⟨c, t, h0, g0, n3⟩ := n
  obtain ⟨c1, k1, h1, h2, h3, -⟩ := Cond.instantiable_spec w
  obtain ⟨t1, k2, g1, g2, g3, g4, -⟩ := Cond.instantiable_spec wk
  cases h0.symm.trans h1
  cases g0.symm.trans g1
  have ne := ids_ne h0 g0 hn
  have g5 : k2.isInterface = false := by
    cases q : k2.isInterface
    · rfl
    · rw [q] at g4; cases g4
  refine ⟨c, t, h0, g0, ?_⟩
  show Z.vm.assignableAux (255 + 1) c t = false
  simp [Vm.assignableAux, ne, h2, g2, h3, g3, g5, Vm.isSubclass, n3]
theorem own_noinst {Z : State} {a0 : Array Value} (hw : ∀ d ∈ tables_1, d.before a0 Z = true) : ∃ c t, Z.vm.findClass "com/example/modelwright/modelwright/model/NullNode" = some c ∧ Z.vm.findClass "com/example/modelwright/modelwright/model/BooleanNode" = some t ∧ Z.vm.assignable c t = false :=
  own_no (own_w hw 59 rfl) (own_w hw 45 rfl) (NS.step (own_w hw 76 rfl) (NS.step (own_w hw 77 rfl) (own_root (own_w hw 78 rfl) (own_w hw 45 rfl) (by decide)) (by decide)) (by decide)) (by decide)
theorem own_str {a0 : Array Value} {Z : State} (hw : ∀ d ∈ tables_1, d.before a0 Z = true) : ∀ a ∈ Bundle.stringAtoms, a.before a0 Z = true := by
  intro a ha
  simp only [Bundle.stringAtoms, List.mem_cons, List.not_mem_nil, or_false] at ha
  rcases ha with rfl | rfl | rfl | rfl | rfl | rfl | rfl
  · exact (own_w hw 4 rfl)
  · exact (own_w hw 5 rfl)
  · exact (own_w hw 6 rfl)
  · exact (own_w hw 7 rfl)
  · exact (own_w hw 8 rfl)
  · exact (own_w hw 9 rfl)
  · exact (own_w hw 10 rfl)
theorem pd__V : parseMethodDescriptor "()V" = some ⟨[], none⟩ := by decide +kernel
theorem pd__Z : parseMethodDescriptor "()Z" = some ⟨[], some .boolean⟩ := by decide +kernel
theorem pd__II_I : parseMethodDescriptor "(II)I" = some ⟨[.int, .int], some .int⟩ := by decide +kernel
theorem pd__Lcom_example_modelwright_modelwright_model_SourceLocation_V : parseMethodDescriptor "(Lcom/example/modelwright/modelwright/model/SourceLocation;)V" = some ⟨[(.object "com/example/modelwright/modelwright/model/SourceLocation")], none⟩ := by decide +kernel
theorem pd__Ljava_lang_Object_Z : parseMethodDescriptor "(Ljava/lang/Object;)Z" = some ⟨[(.object "java/lang/Object")], some .boolean⟩ := by decide +kernel
theorem pd__Ljava_lang_Object_Ljava_lang_String_Ljava_lang_Object_ : parseMethodDescriptor "(Ljava/lang/Object;Ljava/lang/String;)Ljava/lang/Object;" = some ⟨[(.object "java/lang/Object"), (.object "java/lang/String")], some (.object "java/lang/Object")⟩ := by decide +kernel
theorem pd__Ljava_lang_String_II_V : parseMethodDescriptor "(Ljava/lang/String;II)V" = some ⟨[(.object "java/lang/String"), .int, .int], none⟩ := by decide +kernel
theorem pd__Z_V : parseMethodDescriptor "(Z)V" = some ⟨[.boolean], none⟩ := by decide +kernel
theorem pd__ZLcom_example_modelwright_modelwright_model_SourceLocation_V : parseMethodDescriptor "(ZLcom/example/modelwright/modelwright/model/SourceLocation;)V" = some ⟨[.boolean, (.object "com/example/modelwright/modelwright/model/SourceLocation")], none⟩ := by decide +kernel
theorem d2_0 : decode jdk_30_method_1_code 0 = .ok (.aload_n 0, 1) := by decide +kernel
theorem d2_1 : decode jdk_30_method_1_code 1 = .ok (.invokespecial 1, 3) := by decide +kernel
theorem d2_4 : decode jdk_30_method_1_code 4 = .ok (.return_, 1) := by decide +kernel
theorem pn_2 : plainName "java/lang/Record" = true := by first | (simp [plainName, overriddenIn]; done) | decide +kernel
theorem ef_2 (m : MethodId) (x0 : Addr) : entryFrame m #[(.ref x0)] 1 = mkF m 0 #[.val (.ref x0)] [] := by first | (simp [entryFrame, mkF, argsToLocals, Value.category]; done) | rfl
def Q2 (Z : State) (a1 : Addr) (h0 : Heap) (n0 : Nat) (v : Option Value) (h : Heap) (L : List Loc) : Prop := v = none ∧ Fr n0 L ∧ h = h0
set_option maxRecDepth 65536 in
set_option maxHeartbeats 40000000 in
theorem rm2 (l : Launch) (Z : State) (a0 : Array Value) (hw : ∀ d ∈ tables_1, d.before a0 Z = true) (ws : List Jvm.Cond) (a1 : Addr) (h0 : Heap) (n0 : Nat) (Z0 : n0 ≤ h0.size) :
    MetFree l (⟨"java/lang/Record", "<init>", "()V"⟩ : MethodName) (head1 (Jvm.Cond.code (⟨"java/lang/Record", "<init>", "()V"⟩ : MethodName) jdk_30_method_1_code 1 none :: ws) ({ frames := 1, cells := 0, slots := 0, locals := 12 } : Room)) (fun a U => a = #[(.ref a1)] ∧ Z.Warmed39 U.vm ∧ U.heap = h0) (fun _ _ _ _ _ => True) (fun _ U o U' => ∃ v L, o = .returned v ∧ Q2 Z a1 h0 n0 v U'.heap L ∧ FrameEnd U o U' L ({ frames := 1, cells := 0, slots := 0, locals := 12 } : Room).cells ({ frames := 1, cells := 0, slots := 0, locals := 12 } : Room).slots) := by
  refine MetFree.of_bodySF (plainFor_of_name pn_2) hisR ?_
  intro p e s m args below meth c s₁ Bd hml0 hP hK
  obtain ⟨rfl, hZ, hh⟩ := hP
  have hx := Bd.exec
  have hby := Bd.bytes
  have hml : c.maxLocals = 1 := hml0
  have hown : s.vm.findClass "java/lang/Record" = some m.cls := findClass_of_methodNamed Bd.named
  have hnm := (name_of_methodNamed Bd.named Bd.method).1
  have X0 : Stand p l e ({ frames := 1, cells := 0, slots := 0, locals := 12 } : Room) s m #[(.ref a1)] below meth c s₁ [] 0 0 := Stand.of_body Bd
  have e0 : s₁.heap = h0 := by rw [← hh, Bd.state]; rfl
  have N0 := Fr.nil n0
  show own_R p.tables e below (own_P s (Q2 Z a1 h0 n0) ({ frames := 1, cells := 0, slots := 0, locals := 12 } : Room).cells ({ frames := 1, cells := 0, slots := 0, locals := 12 } : Room).slots) (s₁.setTop (entryFrame m #[(.ref a1)] 1))
  refine own_f s₁ (mkF m 0 #[.val (.ref a1)] []) (fun t k => castTop (ef_2 m a1) k) ?_
  refine own_f s₁ (mkF m 1 #[.val (.ref a1)] [(.ref a1)]) (fun t k => XS.aloadN X0.here hx rfl (hb hby d2_0) rfl rfl k) ?_
  obtain ⟨T1, X1, e1, st1⟩ := initO X0 hx hZ hown (own_w hw 24 rfl) (own_w hw 25 rfl) (own_w hw 26 rfl) e0 (g := (mkF m 1 #[.val (.ref a1)] [(.ref a1)])) rfl (by rw [hml]; rfl) rfl (hb hby d2_1) (by decide) (W := 0) (by show 2 * 0 + _ ≤ _; exact Nat.le_of_eq rfl) (by decide)
  refine own_f T1 (mkF m 4 #[.val (.ref a1)] []) st1 ?_
  obtain ⟨fs, hr, hrun, hended, hW, hsame⟩ := X1.leave (v := none) (fun _ => rfl)
  refine ⟨_, _, X1.returnOut hx Bd.returns (hb hby d2_4) hr, hrun, hended, _, _, rfl, ?_, ⟨_, rfl⟩, hW, hsame.mono (by decide) (by decide)⟩
  show Q2 Z a1 h0 n0 _ T1.heap _
  rw [e1]
  exact ⟨rfl, N0, rfl⟩
theorem d3_0 : decode jdk_29_method_65_code 0 = .ok (.iload_n 0, 1) := by decide +kernel
theorem d3_1 : decode jdk_29_method_65_code 1 = .ok (.iload_n 1, 1) := by decide +kernel
theorem d3_2 : decode jdk_29_method_65_code 2 = .ok (.if_icmp .lt 7, 3) := by decide +kernel
theorem d3_5 : decode jdk_29_method_65_code 5 = .ok (.iload_n 0, 1) := by decide +kernel
theorem d3_6 : decode jdk_29_method_65_code 6 = .ok (.goto 4, 3) := by decide +kernel
theorem d3_9 : decode jdk_29_method_65_code 9 = .ok (.iload_n 1, 1) := by decide +kernel
theorem d3_10 : decode jdk_29_method_65_code 10 = .ok (.ireturn, 1) := by decide +kernel
theorem pn_3 : plainFor (⟨"java/lang/Math", "max", "(II)I"⟩ : MethodName) = true := by decide +kernel
theorem ef_3 (m : MethodId) (x0 : Int32) (x1 : Int32) : entryFrame m #[(.int x0), (.int x1)] 2 = mkF m 0 #[.val (.int x0), .val (.int x1)] [] := by first | (simp [entryFrame, mkF, argsToLocals, Value.category]; done) | rfl
def Q3 (Z : State) (p1 : Int32) (p2 : Int32) (h0 : Heap) (n0 : Nat) (v : Option Value) (h : Heap) (L : List Loc) : Prop := v = some (.int (own_mx p1 p2)) ∧ Fr n0 L ∧ h = h0
set_option maxRecDepth 65536 in
set_option maxHeartbeats 40000000 in
theorem rm3 (l : Launch) (Z : State) (a0 : Array Value) (hw : ∀ d ∈ tables_1, d.before a0 Z = true) (ws : List Jvm.Cond) (p1 : Int32) (p2 : Int32) (h0 : Heap) (n0 : Nat) (Z0 : n0 ≤ h0.size) :
    MetFree l (⟨"java/lang/Math", "max", "(II)I"⟩ : MethodName) (head1 (Jvm.Cond.code (⟨"java/lang/Math", "max", "(II)I"⟩ : MethodName) jdk_29_method_65_code 2 (some .int) :: ws) ({ frames := 0, cells := 0, slots := 0, locals := 0 } : Room)) (fun a U => a = #[(.int p1), (.int p2)] ∧ Z.Warmed39 U.vm ∧ U.heap = h0) (fun _ _ _ _ _ => True) (fun _ U o U' => ∃ v L, o = .returned v ∧ Q3 Z p1 p2 h0 n0 v U'.heap L ∧ FrameEnd U o U' L ({ frames := 0, cells := 0, slots := 0, locals := 0 } : Room).cells ({ frames := 0, cells := 0, slots := 0, locals := 0 } : Room).slots) := by
  refine MetFree.of_bodySF pn_3 hisR ?_
  intro p e s m args below meth c s₁ Bd hml0 hP hK
  obtain ⟨rfl, hZ, hh⟩ := hP
  have hx := Bd.exec
  have hby := Bd.bytes
  have hml : c.maxLocals = 2 := hml0
  have hown : s.vm.findClass "java/lang/Math" = some m.cls := findClass_of_methodNamed Bd.named
  have hnm := (name_of_methodNamed Bd.named Bd.method).1
  have X0 : Stand p l e ({ frames := 0, cells := 0, slots := 0, locals := 0 } : Room) s m #[(.int p1), (.int p2)] below meth c s₁ [] 0 0 := Stand.of_body Bd
  have e0 : s₁.heap = h0 := by rw [← hh, Bd.state]; rfl
  have N0 := Fr.nil n0
  show own_R p.tables e below (own_P s (Q3 Z p1 p2 h0 n0) ({ frames := 0, cells := 0, slots := 0, locals := 0 } : Room).cells ({ frames := 0, cells := 0, slots := 0, locals := 0 } : Room).slots) (s₁.setTop (entryFrame m #[(.int p1), (.int p2)] 2))
  refine own_f s₁ (mkF m 0 #[.val (.int p1), .val (.int p2)] []) (fun t k => castTop (ef_3 m p1 p2) k) ?_
  refine own_f s₁ (mkF m 1 #[.val (.int p1), .val (.int p2)] [(.int p1)]) (fun t k => XS.iloadN X0.here hx rfl (hb hby d3_0) rfl k) ?_
  refine own_f s₁ (mkF m 2 #[.val (.int p1), .val (.int p2)] [(.int p2), (.int p1)]) (fun t k => XS.iloadN X0.here hx rfl (hb hby d3_1) rfl k) ?_
  by_cases hc1 : p1 < p2
  · skip
    refine own_f s₁ (mkF m 9 #[.val (.int p1), .val (.int p2)] []) (fun t k => XS.icmpYes X0.here hx rfl (pc0 := 2) (pc' := 9) rfl (hb hby d3_2) rfl (XT.ii_lt_t hc1) (by decide) (by decide) k) ?_
    refine own_f s₁ (mkF m 10 #[.val (.int p1), .val (.int p2)] [(.int p2)]) (fun t k => XS.iloadN X0.here hx rfl (hb hby d3_9) rfl k) ?_
    obtain ⟨fs, hr, hrun, hended, hW, hsame⟩ := X0.leave (v := some (.int p2)) (fun h => by rw [Bd.returns] at h; cases h)
    refine ⟨_, _, retI X0 hx Bd.returns (hb hby d3_10) hr, hrun, hended, _, _, rfl, ?_, ⟨_, rfl⟩, hW, hsame.mono (by decide) (by decide)⟩
    show Q3 Z p1 p2 h0 n0 _ s₁.heap _
    rw [e0]
    exact ⟨by rw [own_mx, if_pos hc1], N0, rfl⟩
  · skip
    refine own_f s₁ (mkF m 5 #[.val (.int p1), .val (.int p2)] []) (fun t k => XS.icmpNo X0.here hx rfl (hb hby d3_2) rfl (XT.ii_lt_f hc1) k) ?_
    refine own_f s₁ (mkF m 6 #[.val (.int p1), .val (.int p2)] [(.int p1)]) (fun t k => XS.iloadN X0.here hx rfl (hb hby d3_5) rfl k) ?_
    refine own_f s₁ (mkF m 10 #[.val (.int p1), .val (.int p2)] [(.int p1)]) (fun t k => XS.goto X0.here hx rfl (pc0 := 6) (pc' := 10) rfl (hb hby d3_6) (by decide) (by decide) k) ?_
    obtain ⟨fs, hr, hrun, hended, hW, hsame⟩ := X0.leave (v := some (.int p1)) (fun h => by rw [Bd.returns] at h; cases h)
    refine ⟨_, _, retI X0 hx Bd.returns (hb hby d3_10) hr, hrun, hended, _, _, rfl, ?_, ⟨_, rfl⟩, hW, hsame.mono (by decide) (by decide)⟩
    show Q3 Z p1 p2 h0 n0 _ s₁.heap _
    rw [e0]
    exact ⟨by rw [own_mx, if_neg hc1], N0, rfl⟩
theorem d4_0 : decode jdk_31_method_11_code 0 = .ok (.aload_n 0, 1) := by decide +kernel
theorem d4_1 : decode jdk_31_method_11_code 1 = .ok (.ifnonnull 12, 3) := by decide +kernel
theorem d4_13 : decode jdk_31_method_11_code 13 = .ok (.aload_n 0, 1) := by decide +kernel
theorem d4_14 : decode jdk_31_method_11_code 14 = .ok (.areturn, 1) := by decide +kernel
theorem pn_4 : plainName "java/util/Objects" = true := by first | (simp [plainName, overriddenIn]; done) | decide +kernel
theorem ef_4 (m : MethodId) (x0 : Addr) (x1 : Addr) : entryFrame m #[(.ref x0), (.ref x1)] 2 = mkF m 0 #[.val (.ref x0), .val (.ref x1)] [] := by first | (simp [entryFrame, mkF, argsToLocals, Value.category]; done) | rfl
def Q4 (Z : State) (a1 : Addr) (a2 : Addr) (h0 : Heap) (n0 : Nat) (v : Option Value) (h : Heap) (L : List Loc) : Prop := v = some (.ref a1) ∧ Fr n0 L ∧ h = h0
set_option maxRecDepth 65536 in
set_option maxHeartbeats 40000000 in
theorem rm4 (l : Launch) (Z : State) (a0 : Array Value) (hw : ∀ d ∈ tables_1, d.before a0 Z = true) (ws : List Jvm.Cond) (a1 : Addr) (a2 : Addr) (h0 : Heap) (n0 : Nat) (Z0 : n0 ≤ h0.size) :
    MetFree l (⟨"java/util/Objects", "requireNonNull", "(Ljava/lang/Object;Ljava/lang/String;)Ljava/lang/Object;"⟩ : MethodName) (head1 (Jvm.Cond.code (⟨"java/util/Objects", "requireNonNull", "(Ljava/lang/Object;Ljava/lang/String;)Ljava/lang/Object;"⟩ : MethodName) jdk_31_method_11_code 2 (some (.object "java/lang/Object")) :: ws) ({ frames := 0, cells := 0, slots := 0, locals := 0 } : Room)) (fun a U => a = #[(.ref a1), (.ref a2)] ∧ Z.Warmed39 U.vm ∧ U.heap = h0) (fun _ _ _ _ _ => True) (fun _ U o U' => ∃ v L, o = .returned v ∧ Q4 Z a1 a2 h0 n0 v U'.heap L ∧ FrameEnd U o U' L ({ frames := 0, cells := 0, slots := 0, locals := 0 } : Room).cells ({ frames := 0, cells := 0, slots := 0, locals := 0 } : Room).slots) := by
  refine MetFree.of_bodySF (plainFor_of_name pn_4) hisR ?_
  intro p e s m args below meth c s₁ Bd hml0 hP hK
  obtain ⟨rfl, hZ, hh⟩ := hP
  have hx := Bd.exec
  have hby := Bd.bytes
  have hml : c.maxLocals = 2 := hml0
  have hown : s.vm.findClass "java/util/Objects" = some m.cls := findClass_of_methodNamed Bd.named
  have hnm := (name_of_methodNamed Bd.named Bd.method).1
  have X0 : Stand p l e ({ frames := 0, cells := 0, slots := 0, locals := 0 } : Room) s m #[(.ref a1), (.ref a2)] below meth c s₁ [] 0 0 := Stand.of_body Bd
  have e0 : s₁.heap = h0 := by rw [← hh, Bd.state]; rfl
  have N0 := Fr.nil n0
  show own_R p.tables e below (own_P s (Q4 Z a1 a2 h0 n0) ({ frames := 0, cells := 0, slots := 0, locals := 0 } : Room).cells ({ frames := 0, cells := 0, slots := 0, locals := 0 } : Room).slots) (s₁.setTop (entryFrame m #[(.ref a1), (.ref a2)] 2))
  refine own_f s₁ (mkF m 0 #[.val (.ref a1), .val (.ref a2)] []) (fun t k => castTop (ef_4 m a1 a2) k) ?_
  refine own_f s₁ (mkF m 1 #[.val (.ref a1), .val (.ref a2)] [(.ref a1)]) (fun t k => XS.aloadN X0.here hx rfl (hb hby d4_0) rfl rfl k) ?_
  refine own_f s₁ (mkF m 13 #[.val (.ref a1), .val (.ref a2)] []) (fun t k => XT.ifnonnullYes X0.here hx rfl (pc0 := 1) (pc' := 13) rfl (hb hby d4_1) rfl (by decide) (by decide) k) ?_
  refine own_f s₁ (mkF m 14 #[.val (.ref a1), .val (.ref a2)] [(.ref a1)]) (fun t k => XS.aloadN X0.here hx rfl (hb hby d4_13) rfl rfl k) ?_
  obtain ⟨fs, hr, hrun, hended, hW, hsame⟩ := X0.leave (v := some (.ref a1)) (fun h => by rw [Bd.returns] at h; cases h)
  refine ⟨_, _, retOut X0 hx Bd.returns (by rfl) (Or.inr (Or.inr (Or.inr (Or.inr ⟨rfl, rfl, rfl⟩)))) (hb hby d4_14) hr, hrun, hended, _, _, rfl, ?_, ⟨_, rfl⟩, hW, hsame.mono (by decide) (by decide)⟩
  show Q4 Z a1 a2 h0 n0 _ s₁.heap _
  rw [e0]
  exact ⟨rfl, N0, rfl⟩
theorem d5_0 : decode jdk_42_method_55_code 0 = .ok (.aload_n 0, 1) := by decide +kernel
theorem d5_1 : decode jdk_42_method_55_code 1 = .ok (.getfield 9, 3) := by decide +kernel
theorem d5_4 : decode jdk_42_method_55_code 4 = .ok (.arraylength, 1) := by decide +kernel
theorem d5_5 : decode jdk_42_method_55_code 5 = .ok (.ifCond .ne 7, 3) := by decide +kernel
theorem d5_12 : decode jdk_42_method_55_code 12 = .ok (.iconst 0, 1) := by decide +kernel
theorem d5_13 : decode jdk_42_method_55_code 13 = .ok (.ireturn, 1) := by decide +kernel
theorem pn_5 : plainName "java/lang/String" = true := by first | (simp [plainName, overriddenIn]; done) | decide +kernel
theorem ef_5 (m : MethodId) (x0 : Addr) : entryFrame m #[(.ref x0)] 1 = mkF m 0 #[.val (.ref x0)] [] := by first | (simp [entryFrame, mkF, argsToLocals, Value.category]; done) | rfl
def Q5 (Z : State) (a1 : Addr) (b1 : Addr) (kk : ClassId) (zz : Int32) (vv : List Value) (h0 : Heap) (n0 : Nat) (v : Option Value) (h : Heap) (L : List Loc) : Prop := v = some (.int (0 : Int32)) ∧ Fr n0 L ∧ h = h0
set_option maxRecDepth 65536 in
set_option maxHeartbeats 40000000 in
theorem rm5 (l : Launch) (Z : State) (a0 : Array Value) (hw : ∀ d ∈ tables_1, d.before a0 Z = true) (ws : List Jvm.Cond) (a1 : Addr) (b1 : Addr) (kk : ClassId) (zz : Int32) (vv : List Value) (h0 : Heap) (n0 : Nat) (Z0 : n0 ≤ h0.size) (F0 : Fld Z h0 a1 "java/lang/String" "value" "[B" (.ref b1)) (F1 : Arv Z h0 b1 kk .byte zz vv (.int 0)) (hz : ¬ (zz = 0)) :
    MetFree l (⟨"java/lang/String", "isEmpty", "()Z"⟩ : MethodName) (head1 (Jvm.Cond.code (⟨"java/lang/String", "isEmpty", "()Z"⟩ : MethodName) jdk_42_method_55_code 1 (some .boolean) :: ws) ({ frames := 0, cells := 0, slots := 0, locals := 0 } : Room)) (fun a U => a = #[(.ref a1)] ∧ Z.Warmed39 U.vm ∧ U.heap = h0) (fun _ _ _ _ _ => True) (fun _ U o U' => ∃ v L, o = .returned v ∧ Q5 Z a1 b1 kk zz vv h0 n0 v U'.heap L ∧ FrameEnd U o U' L ({ frames := 0, cells := 0, slots := 0, locals := 0 } : Room).cells ({ frames := 0, cells := 0, slots := 0, locals := 0 } : Room).slots) := by
  refine MetFree.of_bodySF (plainFor_of_name pn_5) hisR ?_
  intro p e s m args below meth c s₁ Bd hml0 hP hK
  obtain ⟨rfl, hZ, hh⟩ := hP
  have hx := Bd.exec
  have hby := Bd.bytes
  have hml : c.maxLocals = 1 := hml0
  have hown : s.vm.findClass "java/lang/String" = some m.cls := findClass_of_methodNamed Bd.named
  have hnm := (name_of_methodNamed Bd.named Bd.method).1
  have X0 : Stand p l e ({ frames := 0, cells := 0, slots := 0, locals := 0 } : Room) s m #[(.ref a1)] below meth c s₁ [] 0 0 := Stand.of_body Bd
  have e0 : s₁.heap = h0 := by rw [← hh, Bd.state]; rfl
  have N0 := Fr.nil n0
  show own_R p.tables e below (own_P s (Q5 Z a1 b1 kk zz vv h0 n0) ({ frames := 0, cells := 0, slots := 0, locals := 0 } : Room).cells ({ frames := 0, cells := 0, slots := 0, locals := 0 } : Room).slots) (s₁.setTop (entryFrame m #[(.ref a1)] 1))
  refine own_f s₁ (mkF m 0 #[.val (.ref a1)] []) (fun t k => castTop (ef_5 m a1) k) ?_
  refine own_f s₁ (mkF m 1 #[.val (.ref a1)] [(.ref a1)]) (fun t k => XS.aloadN X0.here hx rfl (hb hby d5_0) rfl rfl k) ?_
  obtain ⟨T1, X1, e1, st1⟩ := getF X0 hx hZ hown (host := "") (Or.inl (own_w hw 37 rfl)) Via.refl e0 F0 (g := (mkF m 1 #[.val (.ref a1)] [(.ref a1)])) rfl rfl (hb hby d5_1)
  refine own_f T1 (mkF m 4 #[.val (.ref a1)] [(.ref b1)]) st1 ?_
  refine own_f T1 (mkF m 5 #[.val (.ref a1)] [(.int zz)]) (fun t k => own_len X1 hx hZ e1 F1 (g := (mkF m 4 #[.val (.ref a1)] [(.ref b1)])) rfl rfl (hb hby d5_4) k) ?_
  have hc3 : ¬ (zz = 0) := hz
  refine own_f T1 (mkF m 12 #[.val (.ref a1)] []) (fun t k => XS.ifYes X1.here hx rfl (pc0 := 5) (pc' := 12) rfl (hb hby d5_5) rfl (XT.i0_ne_t hc3) (by decide) (by decide) k) ?_
  refine own_f T1 (mkF m 13 #[.val (.ref a1)] [(.int (0 : Int32))]) (fun t k => XT.iconstV X1.here hx rfl (0 : Int32) (hb hby d5_12) (by decide) k) ?_
  obtain ⟨fs, hr, hrun, hended, hW, hsame⟩ := X1.leave (v := some (.int (0 : Int32))) (fun h => by rw [Bd.returns] at h; cases h)
  refine ⟨_, _, retN X1 hx (t := .boolean) Bd.returns (by simp) (hb hby d5_13) hr, hrun, hended, _, _, rfl, ?_, ⟨_, rfl⟩, hW, hsame.mono (by decide) (by decide)⟩
  show Q5 Z a1 b1 kk zz vv h0 n0 _ T1.heap _
  rw [e1]
  exact ⟨rfl, N0, rfl⟩
theorem d1_0 : decode prog_77_method_1_code 0 = .ok (.aload_n 0, 1) := by decide +kernel
theorem d1_1 : decode prog_77_method_1_code 1 = .ok (.invokespecial 1, 3) := by decide +kernel
theorem d1_4 : decode prog_77_method_1_code 4 = .ok (.aload_n 1, 1) := by decide +kernel
theorem d1_5 : decode prog_77_method_1_code 5 = .ok (.ldc 7, 2) := by decide +kernel
theorem d1_7 : decode prog_77_method_1_code 7 = .ok (.invokestatic 9, 3) := by decide +kernel
theorem d1_10 : decode prog_77_method_1_code 10 = .ok (.pop, 1) := by decide +kernel
theorem d1_11 : decode prog_77_method_1_code 11 = .ok (.aload_n 1, 1) := by decide +kernel
theorem d1_12 : decode prog_77_method_1_code 12 = .ok (.invokevirtual 15, 3) := by decide +kernel
theorem d1_15 : decode prog_77_method_1_code 15 = .ok (.ifCond .eq 13, 3) := by decide +kernel
theorem d1_28 : decode prog_77_method_1_code 28 = .ok (.iload_n 2, 1) := by decide +kernel
theorem d1_29 : decode prog_77_method_1_code 29 = .ok (.iconst 1, 1) := by decide +kernel
theorem d1_30 : decode prog_77_method_1_code 30 = .ok (.if_icmp .lt 8, 3) := by decide +kernel
theorem d1_33 : decode prog_77_method_1_code 33 = .ok (.iload_n 3, 1) := by decide +kernel
theorem d1_34 : decode prog_77_method_1_code 34 = .ok (.iconst 1, 1) := by decide +kernel
theorem d1_35 : decode prog_77_method_1_code 35 = .ok (.if_icmp .ge 19, 3) := by decide +kernel
theorem d1_54 : decode prog_77_method_1_code 54 = .ok (.aload_n 0, 1) := by decide +kernel
theorem d1_55 : decode prog_77_method_1_code 55 = .ok (.aload_n 1, 1) := by decide +kernel
theorem d1_56 : decode prog_77_method_1_code 56 = .ok (.putfield 32, 3) := by decide +kernel
theorem d1_59 : decode prog_77_method_1_code 59 = .ok (.aload_n 0, 1) := by decide +kernel
theorem d1_60 : decode prog_77_method_1_code 60 = .ok (.iload_n 2, 1) := by decide +kernel
theorem d1_61 : decode prog_77_method_1_code 61 = .ok (.putfield 37, 3) := by decide +kernel
theorem d1_64 : decode prog_77_method_1_code 64 = .ok (.aload_n 0, 1) := by decide +kernel
theorem d1_65 : decode prog_77_method_1_code 65 = .ok (.iload_n 3, 1) := by decide +kernel
theorem d1_66 : decode prog_77_method_1_code 66 = .ok (.putfield 41, 3) := by decide +kernel
theorem d1_69 : decode prog_77_method_1_code 69 = .ok (.return_, 1) := by decide +kernel
theorem pn_1 : plainName "com/example/modelwright/modelwright/model/SourceLocation" = true := by first | (simp [plainName, overriddenIn]; done) | decide +kernel
theorem ef_1 (m : MethodId) (x0 : Addr) (x1 : Addr) (x2 : Int32) (x3 : Int32) : entryFrame m #[(.ref x0), (.ref x1), (.int x2), (.int x3)] 4 = mkF m 0 #[.val (.ref x0), .val (.ref x1), .val (.int x2), .val (.int x3)] [] := by first | (simp [entryFrame, mkF, argsToLocals, Value.category]; done) | rfl
def Q1 (Z : State) (a1 : Addr) (a2 : Addr) (p3 : Int32) (p4 : Int32) (u0 : Value) (u1 : Value) (u2 : Value) (b1 : Addr) (kk : ClassId) (zz : Int32) (vv : List Value) (h0 : Heap) (n0 : Nat) (v : Option Value) (h : Heap) (L : List Loc) : Prop := v = none ∧ Fr n0 L ∧ Keep h0 h [a1]
set_option maxRecDepth 65536 in
set_option maxHeartbeats 40000000 in
theorem rm1 (l : Launch) (Z : State) (a0 : Array Value) (hw : ∀ d ∈ tables_1, d.before a0 Z = true) (ws : List Jvm.Cond) (a1 : Addr) (a2 : Addr) (p3 : Int32) (p4 : Int32) (u0 : Value) (u1 : Value) (u2 : Value) (b1 : Addr) (kk : ClassId) (zz : Int32) (vv : List Value) (h0 : Heap) (n0 : Nat) (Z0 : n0 ≤ h0.size) (F0 : Exa Z h0 a1 "com/example/modelwright/modelwright/model/SourceLocation") (F1 : Fld Z h0 a1 "com/example/modelwright/modelwright/model/SourceLocation" "path" "Ljava/lang/String;" u0) (F2 : Fld Z h0 a1 "com/example/modelwright/modelwright/model/SourceLocation" "line" "I" u1) (F3 : Fld Z h0 a1 "com/example/modelwright/modelwright/model/SourceLocation" "column" "I" u2) (F4 : Exa Z h0 a2 "java/lang/String") (F5 : Fld Z h0 a2 "java/lang/String" "value" "[B" (.ref b1)) (F6 : Arv Z h0 b1 kk .byte zz vv (.int 0)) (ge_a1 : n0 ≤ a1) (hze : ¬ (zz = 0)) (h3 : ¬ (p3 < (1 : Int32))) (h4 : ¬ (p4 < (1 : Int32))) :
    MetFree l (⟨"com/example/modelwright/modelwright/model/SourceLocation", "<init>", "(Ljava/lang/String;II)V"⟩ : MethodName) (head1 (Jvm.Cond.code (⟨"com/example/modelwright/modelwright/model/SourceLocation", "<init>", "(Ljava/lang/String;II)V"⟩ : MethodName) prog_77_method_1_code 4 none :: ws) ({ frames := 2, cells := 2, slots := 20, locals := 24 } : Room)) (fun a U => a = #[(.ref a1), (.ref a2), (.int p3), (.int p4)] ∧ Z.Warmed39 U.vm ∧ U.heap = h0) (fun _ _ _ _ _ => True) (fun _ U o U' => ∃ v L, o = .returned v ∧ Q1 Z a1 a2 p3 p4 u0 u1 u2 b1 kk zz vv h0 n0 v U'.heap L ∧ ReturnedEndW U o U' L ({ frames := 2, cells := 2, slots := 20, locals := 24 } : Room).cells ({ frames := 2, cells := 2, slots := 20, locals := 24 } : Room).slots) := by
  refine MetFree.of_bodySF (plainFor_of_name pn_1) hisR ?_
  intro p e s m args below meth c s₁ Bd hml0 hP hK
  obtain ⟨rfl, hZ, hh⟩ := hP
  have hx := Bd.exec
  have hby := Bd.bytes
  have hml : c.maxLocals = 4 := hml0
  have hown : s.vm.findClass "com/example/modelwright/modelwright/model/SourceLocation" = some m.cls := findClass_of_methodNamed Bd.named
  have hnm := (name_of_methodNamed Bd.named Bd.method).1
  have X0 : Stand p l e ({ frames := 2, cells := 2, slots := 20, locals := 24 } : Room) s m #[(.ref a1), (.ref a2), (.int p3), (.int p4)] below meth c s₁ [] 0 0 := Stand.of_body Bd
  have e0 : s₁.heap = h0 := by rw [← hh, Bd.state]; rfl
  have N0 := Fr.nil n0
  have hZ0 := hZ
  have hown0 := hown
  have hS : s.Since s.vm 0 := (State.WarmedH.refl s).since 0
  have hk : 0 ≤ h0.size := Nat.zero_le _
  show own_R p.tables e below (own_PW s (Q1 Z a1 a2 p3 p4 u0 u1 u2 b1 kk zz vv h0 n0) ({ frames := 2, cells := 2, slots := 20, locals := 24 } : Room).cells ({ frames := 2, cells := 2, slots := 20, locals := 24 } : Room).slots) (s₁.setTop (entryFrame m #[(.ref a1), (.ref a2), (.int p3), (.int p4)] 4))
  refine own_f s₁ (mkF m 0 #[.val (.ref a1), .val (.ref a2), .val (.int p3), .val (.int p4)] []) (fun t k => castTop (ef_1 m a1 a2 p3 p4) k) ?_
  refine own_f s₁ (mkF m 1 #[.val (.ref a1), .val (.ref a2), .val (.int p3), .val (.int p4)] [(.ref a1)]) (fun t k => XS.aloadN X0.here hx rfl (hb hby d1_0) rfl rfl k) ?_
  obtain ⟨_, _, ⟨T1, Lq1, kq_1, nq_1⟩, -, X1, ⟨Lc1, hQ1, lq1, yq1, zq1⟩, st1⟩ := X0.specialBack hx (y := (⟨"java/lang/Record", "<init>", "()V"⟩ : MethodName)) rfl hown (mvT hZ (own_w hw 19 rfl)) (mvT hZ (own_w hw 20 rfl)) (mvT hZ (own_w hw 23 rfl)) (by decide) (backOf (W := 0) (rm2 l Z a0 hw [] a1 h0 n0 Z0 ) hZ (own_w hw 23 rfl) (own_w hw 22 rfl) (by decide) (by decide)) (g := (mkF m 1 #[.val (.ref a1), .val (.ref a2), .val (.int p3), .val (.int p4)] [(.ref a1)])) rfl (by rw [hml]; rfl) (Steps.refl _) (a := a1) (argsL := []) (rest := []) (lenOf pd__V rfl) rfl (by show 2 * 0 + _ ≤ _; exact Nat.le_of_eq rfl) (hb hby d1_1) (fun _ _ => ⟨rfl, e0, (by decide : 0 + 0 ≤ _), (by decide : 0 + 0 ≤ _)⟩)
  dsimp only [Pt.U, Pt.locs, Pt.cells, Pt.slots] at X1 lq1 yq1 zq1 st1 hQ1
  subst lq1 yq1 zq1
  obtain ⟨h1, e1⟩ : ∃ z, T1.heap = z := ⟨_, rfl⟩
  rw [e1] at hQ1
  unfold Q2 at hQ1
  obtain ⟨rfl, Nq1, qh1⟩ := hQ1
  have N1 := Fr.app N0 Nq1
  rw [qh1] at e1
  refine own_g T1 (mkF m 4 #[.val (.ref a1), .val (.ref a2), .val (.int p3), .val (.int p4)] []) st1 ?_
  refine own_f T1 (mkF m 5 #[.val (.ref a1), .val (.ref a2), .val (.int p3), .val (.int p4)] [(.ref a2)]) (fun t k => XS.aloadN X1.here hx rfl (hb hby d1_4) rfl rfl k) ?_
  obtain ⟨b2, T2, h2, ks2, X2, e2, E2, hS, hk, hZ, hown, st2⟩ := ldcS (s := s) (vm0 := s.vm) X1 hx hZ hown (own_w hw 27 rfl) (own_str hw) e1 hS hk (g := (mkF m 5 #[.val (.ref a1), .val (.ref a2), .val (.int p3), .val (.int p4)] [(.ref a2)])) rfl (hb hby d1_5) (n := 16) (by decide) (by decide) (by decide) (by decide)
  have Zs2 : n0 ≤ h2.size := Nat.le_trans Z0 E2.1
  have F_3 := F0.ext E2
  have F_4 := F1.ext E2
  have F_5 := F2.ext E2
  have F_6 := F3.ext E2
  have F_7 := F4.ext E2
  have F_8 := F5.ext E2
  have F_9 := F6.ext E2
  have K2 : Keep h0 h2 [a1] := (Keep.refl h0 [a1]).ext E2
  refine own_f T2 (mkF m 7 #[.val (.ref a1), .val (.ref a2), .val (.int p3), .val (.int p4)] [(.ref b2), (.ref a2)]) st2 ?_
  obtain ⟨_, _, ⟨T10, Lq10, kq_10, nq_10⟩, -, X10, ⟨Lc10, hQ10, lq10, yq10, zq10⟩, st10⟩ := Jvm.LawKit.callS X2 hx (y := (⟨"java/util/Objects", "requireNonNull", "(Ljava/lang/Object;Ljava/lang/String;)Ljava/lang/Object;"⟩ : MethodName)) hown (mvT hZ (own_w hw 28 rfl)) (mvT hZ (own_w hw 29 rfl)) (mvT hZ (own_w hw 30 rfl)) (mvT hZ (own_w hw 31 rfl)) (by decide) (backOf (W := 0) (rm4 l Z a0 hw [] a2 b2 h2 n0 Zs2 ) hZ (own_w hw 31 rfl) (own_w hw 30 rfl) (by decide) (by decide)) (g := (mkF m 7 #[.val (.ref a1), .val (.ref a2), .val (.int p3), .val (.int p4)] [(.ref b2), (.ref a2)])) rfl (by rw [hml]; rfl) (argsL := [(.ref a2), (.ref b2)]) (rest := []) (lenOf pd__Ljava_lang_Object_Ljava_lang_String_Ljava_lang_Object_ rfl) rfl (by show 2 * 0 + _ ≤ _; exact Nat.le_of_eq rfl) (hb hby d1_7) (fun _ _ => ⟨rfl, e2, (by decide : 0 + 0 + 2 + 0 ≤ _), (by decide : 0 + 0 + (16 + 4) + 0 ≤ _)⟩)
  dsimp only [Pt.U, Pt.locs, Pt.cells, Pt.slots] at X10 lq10 yq10 zq10 st10 hQ10
  subst lq10 yq10 zq10
  obtain ⟨h10, e10⟩ : ∃ z, T10.heap = z := ⟨_, rfl⟩
  rw [e10] at hQ10
  unfold Q4 at hQ10
  obtain ⟨rfl, Nq10, qh10⟩ := hQ10
  have N10 := Fr.app N1 Nq10
  rw [qh10] at e10
  refine own_f T10 (mkF m 10 #[.val (.ref a1), .val (.ref a2), .val (.int p3), .val (.int p4)] [(.ref a2)]) st10 ?_
  refine own_f T10 (mkF m 11 #[.val (.ref a1), .val (.ref a2), .val (.int p3), .val (.int p4)] []) (fun t k => XT.pop X10.here hx rfl (hb hby d1_10) rfl rfl k) ?_
  refine own_f T10 (mkF m 12 #[.val (.ref a1), .val (.ref a2), .val (.int p3), .val (.int p4)] [(.ref a2)]) (fun t k => XS.aloadN X10.here hx rfl (hb hby d1_11) rfl rfl k) ?_
  obtain ⟨cq11, kq11, qa11, qb11, qc11⟩ := isOf hZ e10 F_7
  obtain ⟨_, _, ⟨T11, Lq11, kq_11, nq_11⟩, -, X11, ⟨Lc11, hQ11, lq11, yq11, zq11⟩, st11⟩ := X10.virtualBack hx (y := (⟨"java/lang/String", "isEmpty", "()Z"⟩ : MethodName)) (z := (⟨"java/lang/String", "isEmpty", "()Z"⟩ : MethodName)) hown (mvT hZ (own_w hw 32 rfl)) (mvT hZ (own_w hw 33 rfl)) (notFace_of_selects (args := #[]) (mvT hZ (own_w hw 35 rfl))) (mvT hZ (own_w hw 35 rfl)) (mvT hZ (own_w hw 34 rfl)) (by decide) (backOf (W := 0) (rm5 l Z a0 hw [] a2 _ _ _ _ h2 n0 Zs2 F_8 F_9 hze) hZ (own_w hw 36 rfl) (own_w hw 4 rfl) (by decide) (by decide)) qa11 qc11 (g := (mkF m 12 #[.val (.ref a1), .val (.ref a2), .val (.int p3), .val (.int p4)] [(.ref a2)])) rfl (by rw [hml]; rfl) (Steps.refl _) (argsL := []) (rest := []) (lenOf pd__Z rfl) rfl (by show 2 * 0 + _ ≤ _; exact Nat.le_of_eq rfl) (hb hby d1_12) (fun _ _ => ⟨rfl, e10, (by decide : 0 + 0 + 2 + 0 + 0 ≤ _), (by decide : 0 + 0 + (16 + 4) + 0 + 0 ≤ _)⟩)
  dsimp only [Pt.U, Pt.locs, Pt.cells, Pt.slots] at X11 lq11 yq11 zq11 st11 hQ11
  subst lq11 yq11 zq11
  obtain ⟨h11, e11⟩ : ∃ z, T11.heap = z := ⟨_, rfl⟩
  rw [e11] at hQ11
  unfold Q5 at hQ11
  obtain ⟨rfl, Nq11, qh11⟩ := hQ11
  have N11 := Fr.app N10 Nq11
  rw [qh11] at e11
  refine own_g T11 (mkF m 15 #[.val (.ref a1), .val (.ref a2), .val (.int p3), .val (.int p4)] [(.int (0 : Int32))]) st11 ?_
  refine own_f T11 (mkF m 28 #[.val (.ref a1), .val (.ref a2), .val (.int p3), .val (.int p4)] []) (fun t k => XS.ifYes X11.here hx rfl (pc0 := 15) (pc' := 28) rfl (hb hby d1_15) rfl (XT.i0_eq_t (by decide)) (by decide) (by decide) k) ?_
  refine own_f T11 (mkF m 29 #[.val (.ref a1), .val (.ref a2), .val (.int p3), .val (.int p4)] [(.int p3)]) (fun t k => XS.iloadN X11.here hx rfl (hb hby d1_28) rfl k) ?_
  refine own_f T11 (mkF m 30 #[.val (.ref a1), .val (.ref a2), .val (.int p3), .val (.int p4)] [(.int (1 : Int32)), (.int p3)]) (fun t k => XT.iconstV X11.here hx rfl (1 : Int32) (hb hby d1_29) (by decide) k) ?_
  have hc12 : ¬ (p3 < (1 : Int32)) := h3
  refine own_f T11 (mkF m 33 #[.val (.ref a1), .val (.ref a2), .val (.int p3), .val (.int p4)] []) (fun t k => XS.icmpNo X11.here hx rfl (hb hby d1_30) rfl (XT.ii_lt_f hc12) k) ?_
  refine own_f T11 (mkF m 34 #[.val (.ref a1), .val (.ref a2), .val (.int p3), .val (.int p4)] [(.int p4)]) (fun t k => XS.iloadN X11.here hx rfl (hb hby d1_33) rfl k) ?_
  refine own_f T11 (mkF m 35 #[.val (.ref a1), .val (.ref a2), .val (.int p3), .val (.int p4)] [(.int (1 : Int32)), (.int p4)]) (fun t k => XT.iconstV X11.here hx rfl (1 : Int32) (hb hby d1_34) (by decide) k) ?_
  have hc13 : ¬ (p4 < (1 : Int32)) := h4
  refine own_f T11 (mkF m 54 #[.val (.ref a1), .val (.ref a2), .val (.int p3), .val (.int p4)] []) (fun t k => XS.icmpYes X11.here hx rfl (pc0 := 35) (pc' := 54) rfl (hb hby d1_35) rfl (XT.ii_ge_t hc13) (by decide) (by decide) k) ?_
  refine own_f T11 (mkF m 55 #[.val (.ref a1), .val (.ref a2), .val (.int p3), .val (.int p4)] [(.ref a1)]) (fun t k => XS.aloadN X11.here hx rfl (hb hby d1_54) rfl rfl k) ?_
  refine own_f T11 (mkF m 56 #[.val (.ref a1), .val (.ref a2), .val (.int p3), .val (.int p4)] [(.ref a2), (.ref a1)]) (fun t k => XS.aloadN X11.here hx rfl (hb hby d1_55) rfl rfl k) ?_
  obtain ⟨T14, h14, X14, e14, W14, st14⟩ := putF X11 hx hZ hown (host := "") (Or.inl (own_w hw 38 rfl)) Via.refl e11 F_4 F_3 (Or.inr ⟨(own_w hw 39 rfl), rfl, hnm⟩) (own_w hw 1 rfl) (ty := (.object "java/lang/String")) (by decide) rfl rfl (g := (mkF m 56 #[.val (.ref a1), .val (.ref a2), .val (.int p3), .val (.int p4)] [(.ref a2), (.ref a1)])) rfl rfl (hb hby d1_56)
  have N14 := Fr.snoc X14 N11 ge_a1
  have Zs14 : n0 ≤ h14.size := by rw [W14.size]; exact Zs2
  have hk := Nat.le_trans hk (Nat.le_of_eq W14.size.symm)
  have K14 : Keep h0 h14 [a1] := K2.wr W14 (Or.inl (by simp))
  have F_15 := F_3.wr W14
  have F_16 := F_4.same W14
  have F_17 := F_5.other W14 (Or.inr (slot_ne (Or.inr (own_w hw 41 rfl)) (Or.inr (own_w hw 39 rfl)) (by decide) (t := .int) (t' := (.object "java/lang/String")) (by decide) (by decide)))
  have F_18 := F_6.other W14 (Or.inr (slot_ne (Or.inr (own_w hw 43 rfl)) (Or.inr (own_w hw 39 rfl)) (by decide) (t := .int) (t' := (.object "java/lang/String")) (by decide) (by decide)))
  refine own_f T14 (mkF m 59 #[.val (.ref a1), .val (.ref a2), .val (.int p3), .val (.int p4)] []) st14 ?_
  refine own_f T14 (mkF m 60 #[.val (.ref a1), .val (.ref a2), .val (.int p3), .val (.int p4)] [(.ref a1)]) (fun t k => XS.aloadN X14.here hx rfl (hb hby d1_59) rfl rfl k) ?_
  refine own_f T14 (mkF m 61 #[.val (.ref a1), .val (.ref a2), .val (.int p3), .val (.int p4)] [(.int p3), (.ref a1)]) (fun t k => XS.iloadN X14.here hx rfl (hb hby d1_60) rfl k) ?_
  obtain ⟨T19, h19, X19, e19, W19, st19⟩ := putF X14 hx hZ hown (host := "") (Or.inl (own_w hw 40 rfl)) Via.refl e14 F_17 F_15 (Or.inr ⟨(own_w hw 41 rfl), rfl, hnm⟩) (own_w hw 1 rfl) (ty := .int) (by decide) rfl rfl (g := (mkF m 61 #[.val (.ref a1), .val (.ref a2), .val (.int p3), .val (.int p4)] [(.int p3), (.ref a1)])) rfl rfl (hb hby d1_61)
  have N19 := Fr.snoc X19 N14 ge_a1
  have Zs19 : n0 ≤ h19.size := by rw [W19.size]; exact Zs14
  have hk := Nat.le_trans hk (Nat.le_of_eq W19.size.symm)
  have K19 : Keep h0 h19 [a1] := K14.wr W19 (Or.inl (by simp))
  have F_20 := F_15.wr W19
  have F_21 := F_16.other W19 (Or.inr (slot_ne (Or.inr (own_w hw 39 rfl)) (Or.inr (own_w hw 41 rfl)) (by decide) (t := (.object "java/lang/String")) (t' := .int) (by decide) (by decide)))
  have F_22 := F_17.same W19
  have F_23 := F_18.other W19 (Or.inr (slot_ne (Or.inr (own_w hw 43 rfl)) (Or.inr (own_w hw 41 rfl)) (by decide) (t := .int) (t' := .int) (by decide) (by decide)))
  refine own_f T19 (mkF m 64 #[.val (.ref a1), .val (.ref a2), .val (.int p3), .val (.int p4)] []) st19 ?_
  refine own_f T19 (mkF m 65 #[.val (.ref a1), .val (.ref a2), .val (.int p3), .val (.int p4)] [(.ref a1)]) (fun t k => XS.aloadN X19.here hx rfl (hb hby d1_64) rfl rfl k) ?_
  refine own_f T19 (mkF m 66 #[.val (.ref a1), .val (.ref a2), .val (.int p3), .val (.int p4)] [(.int p4), (.ref a1)]) (fun t k => XS.iloadN X19.here hx rfl (hb hby d1_65) rfl k) ?_
  obtain ⟨T24, h24, X24, e24, W24, st24⟩ := putF X19 hx hZ hown (host := "") (Or.inl (own_w hw 42 rfl)) Via.refl e19 F_23 F_20 (Or.inr ⟨(own_w hw 43 rfl), rfl, hnm⟩) (own_w hw 1 rfl) (ty := .int) (by decide) rfl rfl (g := (mkF m 66 #[.val (.ref a1), .val (.ref a2), .val (.int p3), .val (.int p4)] [(.int p4), (.ref a1)])) rfl rfl (hb hby d1_66)
  have N24 := Fr.snoc X24 N19 ge_a1
  have Zs24 : n0 ≤ h24.size := by rw [W24.size]; exact Zs19
  have hk := Nat.le_trans hk (Nat.le_of_eq W24.size.symm)
  have K24 : Keep h0 h24 [a1] := K19.wr W24 (Or.inl (by simp))
  have F_25 := F_20.wr W24
  have F_26 := F_21.other W24 (Or.inr (slot_ne (Or.inr (own_w hw 39 rfl)) (Or.inr (own_w hw 43 rfl)) (by decide) (t := (.object "java/lang/String")) (t' := .int) (by decide) (by decide)))
  have F_27 := F_22.other W24 (Or.inr (slot_ne (Or.inr (own_w hw 41 rfl)) (Or.inr (own_w hw 43 rfl)) (by decide) (t := .int) (t' := .int) (by decide) (by decide)))
  have F_28 := F_23.same W24
  refine own_f T24 (mkF m 69 #[.val (.ref a1), .val (.ref a2), .val (.int p3), .val (.int p4)] []) st24 ?_
  obtain ⟨fs, hr, hrun, hended, hW⟩ := Stand.leaveW (s := s) (vm₁ := T2.vm) X24 hS (by rw [e24]; exact hk) (v := none) (fun _ => rfl)
  refine ⟨_, _, X24.returnOut hx Bd.returns (hb hby d1_69) hr, hrun, hended, _, _, rfl, ?_, hW.1, hW.2.1, hW.2.2.1, hW.2.2.2.mono (by decide) (by decide)⟩
  show Q1 Z a1 a2 p3 p4 u0 u1 u2 b1 kk zz vv h0 n0 _ T24.heap _
  rw [e24]
  exact ⟨rfl, N24, K24⟩
theorem d60_0 : decode prog_45_method_2_code 0 = .ok (.aload_n 0, 1) := by decide +kernel
theorem d60_1 : decode prog_45_method_2_code 1 = .ok (.invokespecial 1, 3) := by decide +kernel
theorem d60_4 : decode prog_45_method_2_code 4 = .ok (.aload_n 0, 1) := by decide +kernel
theorem d60_5 : decode prog_45_method_2_code 5 = .ok (.iload_n 1, 1) := by decide +kernel
theorem d60_6 : decode prog_45_method_2_code 6 = .ok (.putfield 7, 3) := by decide +kernel
theorem d60_9 : decode prog_45_method_2_code 9 = .ok (.aload_n 0, 1) := by decide +kernel
theorem d60_10 : decode prog_45_method_2_code 10 = .ok (.aload_n 2, 1) := by decide +kernel
theorem d60_11 : decode prog_45_method_2_code 11 = .ok (.putfield 13, 3) := by decide +kernel
theorem d60_14 : decode prog_45_method_2_code 14 = .ok (.return_, 1) := by decide +kernel
theorem pn_60 : plainName "com/example/modelwright/modelwright/model/BooleanNode" = true := by first | (simp [plainName, overriddenIn]; done) | decide +kernel
theorem ef_60 (m : MethodId) (x0 : Addr) (x1 : Int32) : entryFrame m #[(.ref x0), (.int x1), .null] 3 = mkF m 0 #[.val (.ref x0), .val (.int x1), .val .null] [] := by first | (simp [entryFrame, mkF, argsToLocals, Value.category]; done) | rfl
def Q60 (Z : State) (a1 : Addr) (p2 : Int32) (u0 : Value) (u1 : Value) (h0 : Heap) (n0 : Nat) (v : Option Value) (h : Heap) (L : List Loc) : Prop := v = none ∧ Fr n0 L ∧ Keep h0 h [a1] ∧ Exa Z h a1 "com/example/modelwright/modelwright/model/BooleanNode" ∧ Fld Z h a1 "com/example/modelwright/modelwright/model/BooleanNode" "value" "Z" (.int p2)
set_option maxRecDepth 65536 in
set_option maxHeartbeats 40000000 in
theorem rm60 (l : Launch) (Z : State) (a0 : Array Value) (hw : ∀ d ∈ tables_1, d.before a0 Z = true) (ws : List Jvm.Cond) (a1 : Addr) (p2 : Int32) (u0 : Value) (u1 : Value) (h0 : Heap) (n0 : Nat) (Z0 : n0 ≤ h0.size) (F0 : Exa Z h0 a1 "com/example/modelwright/modelwright/model/BooleanNode") (F1 : Fld Z h0 a1 "com/example/modelwright/modelwright/model/BooleanNode" "value" "Z" u0) (F2 : Fld Z h0 a1 "com/example/modelwright/modelwright/model/BooleanNode" "location" "Lcom/example/modelwright/modelwright/model/SourceLocation;" u1) (ge_a1 : n0 ≤ a1) (hz : p2 = 0 ∨ p2 = 1) :
    MetFree l (⟨"com/example/modelwright/modelwright/model/BooleanNode", "<init>", "(ZLcom/example/modelwright/modelwright/model/SourceLocation;)V"⟩ : MethodName) (head1 (Jvm.Cond.code (⟨"com/example/modelwright/modelwright/model/BooleanNode", "<init>", "(ZLcom/example/modelwright/modelwright/model/SourceLocation;)V"⟩ : MethodName) prog_45_method_2_code 3 none :: ws) ({ frames := 2, cells := 0, slots := 0, locals := 24 } : Room)) (fun a U => a = #[(.ref a1), (.int p2), .null] ∧ Z.Warmed39 U.vm ∧ U.heap = h0) (fun _ _ _ _ _ => True) (fun _ U o U' => ∃ v L, o = .returned v ∧ Q60 Z a1 p2 u0 u1 h0 n0 v U'.heap L ∧ FrameEnd U o U' L ({ frames := 2, cells := 0, slots := 0, locals := 24 } : Room).cells ({ frames := 2, cells := 0, slots := 0, locals := 24 } : Room).slots) := by
  refine MetFree.of_bodySF (plainFor_of_name pn_60) hisR ?_
  intro p e s m args below meth c s₁ Bd hml0 hP hK
  obtain ⟨rfl, hZ, hh⟩ := hP
  have hx := Bd.exec
  have hby := Bd.bytes
  have hml : c.maxLocals = 3 := hml0
  have hown : s.vm.findClass "com/example/modelwright/modelwright/model/BooleanNode" = some m.cls := findClass_of_methodNamed Bd.named
  have hnm := (name_of_methodNamed Bd.named Bd.method).1
  have X0 : Stand p l e ({ frames := 2, cells := 0, slots := 0, locals := 24 } : Room) s m #[(.ref a1), (.int p2), .null] below meth c s₁ [] 0 0 := Stand.of_body Bd
  have e0 : s₁.heap = h0 := by rw [← hh, Bd.state]; rfl
  have N0 := Fr.nil n0
  show own_R p.tables e below (own_P s (Q60 Z a1 p2 u0 u1 h0 n0) ({ frames := 2, cells := 0, slots := 0, locals := 24 } : Room).cells ({ frames := 2, cells := 0, slots := 0, locals := 24 } : Room).slots) (s₁.setTop (entryFrame m #[(.ref a1), (.int p2), .null] 3))
  refine own_f s₁ (mkF m 0 #[.val (.ref a1), .val (.int p2), .val .null] []) (fun t k => castTop (ef_60 m a1 p2) k) ?_
  refine own_f s₁ (mkF m 1 #[.val (.ref a1), .val (.int p2), .val .null] [(.ref a1)]) (fun t k => XS.aloadN X0.here hx rfl (hb hby d60_0) rfl rfl k) ?_
  obtain ⟨_, _, ⟨T1, Lq1, kq_1, nq_1⟩, -, X1, ⟨Lc1, hQ1, lq1, yq1, zq1⟩, st1⟩ := X0.specialBack hx (y := (⟨"java/lang/Record", "<init>", "()V"⟩ : MethodName)) rfl hown (mvT hZ (own_w hw 53 rfl)) (mvT hZ (own_w hw 20 rfl)) (mvT hZ (own_w hw 23 rfl)) (by decide) (backOf (W := 0) (rm2 l Z a0 hw [] a1 h0 n0 Z0 ) hZ (own_w hw 23 rfl) (own_w hw 22 rfl) (by decide) (by decide)) (g := (mkF m 1 #[.val (.ref a1), .val (.int p2), .val .null] [(.ref a1)])) rfl (by rw [hml]; rfl) (Steps.refl _) (a := a1) (argsL := []) (rest := []) (lenOf pd__V rfl) rfl (by show 2 * 0 + _ ≤ _; exact Nat.le_of_eq rfl) (hb hby d60_1) (fun _ _ => ⟨rfl, e0, (by decide : 0 + 0 ≤ _), (by decide : 0 + 0 ≤ _)⟩)
  dsimp only [Pt.U, Pt.locs, Pt.cells, Pt.slots] at X1 lq1 yq1 zq1 st1 hQ1
  subst lq1 yq1 zq1
  obtain ⟨h1, e1⟩ : ∃ z, T1.heap = z := ⟨_, rfl⟩
  rw [e1] at hQ1
  unfold Q2 at hQ1
  obtain ⟨rfl, Nq1, qh1⟩ := hQ1
  have N1 := Fr.app N0 Nq1
  rw [qh1] at e1
  refine own_g T1 (mkF m 4 #[.val (.ref a1), .val (.int p2), .val .null] []) st1 ?_
  refine own_f T1 (mkF m 5 #[.val (.ref a1), .val (.int p2), .val .null] [(.ref a1)]) (fun t k => XS.aloadN X1.here hx rfl (hb hby d60_4) rfl rfl k) ?_
  refine own_f T1 (mkF m 6 #[.val (.ref a1), .val (.int p2), .val .null] [(.int p2), (.ref a1)]) (fun t k => XS.iloadN X1.here hx rfl (hb hby d60_5) rfl k) ?_
  obtain ⟨T2, h2, X2, e2, W2, st2⟩ := putF X1 hx hZ hown (host := "") (Or.inl (own_w hw 54 rfl)) Via.refl e1 F1 F0 (Or.inr ⟨(own_w hw 55 rfl), rfl, hnm⟩) (own_w hw 45 rfl) (ty := .boolean) (by decide) (own_nb hz) (own_fb hz) (g := (mkF m 6 #[.val (.ref a1), .val (.int p2), .val .null] [(.int p2), (.ref a1)])) rfl rfl (hb hby d60_6)
  have N2 := Fr.snoc X2 N1 ge_a1
  have Zs2 : n0 ≤ h2.size := by rw [W2.size]; exact Z0
  have K2 : Keep h0 h2 [a1] := (Keep.refl h0 [a1]).wr W2 (Or.inl (by simp))
  have F_3 := F0.wr W2
  have F_4 := F1.same W2
  have F_5 := F2.other W2 (Or.inr (slot_ne (Or.inr (own_w hw 57 rfl)) (Or.inr (own_w hw 55 rfl)) (by decide) (t := (.object "com/example/modelwright/modelwright/model/SourceLocation")) (t' := .boolean) (by decide) (by decide)))
  refine own_f T2 (mkF m 9 #[.val (.ref a1), .val (.int p2), .val .null] []) st2 ?_
  refine own_f T2 (mkF m 10 #[.val (.ref a1), .val (.int p2), .val .null] [(.ref a1)]) (fun t k => XS.aloadN X2.here hx rfl (hb hby d60_9) rfl rfl k) ?_
  refine own_f T2 (mkF m 11 #[.val (.ref a1), .val (.int p2), .val .null] [.null, (.ref a1)]) (fun t k => XS.aloadN X2.here hx rfl (hb hby d60_10) rfl rfl k) ?_
  obtain ⟨T6, h6, X6, e6, W6, st6⟩ := putF X2 hx hZ hown (host := "") (Or.inl (own_w hw 56 rfl)) Via.refl e2 F_5 F_3 (Or.inr ⟨(own_w hw 57 rfl), rfl, hnm⟩) (own_w hw 45 rfl) (ty := (.object "com/example/modelwright/modelwright/model/SourceLocation")) (by decide) rfl rfl (g := (mkF m 11 #[.val (.ref a1), .val (.int p2), .val .null] [.null, (.ref a1)])) rfl rfl (hb hby d60_11)
  have N6 := Fr.snoc X6 N2 ge_a1
  have Zs6 : n0 ≤ h6.size := by rw [W6.size]; exact Zs2
  have K6 : Keep h0 h6 [a1] := K2.wr W6 (Or.inl (by simp))
  have F_7 := F_3.wr W6
  have F_8 := F_4.other W6 (Or.inr (slot_ne (Or.inr (own_w hw 55 rfl)) (Or.inr (own_w hw 57 rfl)) (by decide) (t := .boolean) (t' := (.object "com/example/modelwright/modelwright/model/SourceLocation")) (by decide) (by decide)))
  have F_9 := F_5.same W6
  refine own_f T6 (mkF m 14 #[.val (.ref a1), .val (.int p2), .val .null] []) st6 ?_
  obtain ⟨fs, hr, hrun, hended, hW, hsame⟩ := X6.leave (v := none) (fun _ => rfl)
  refine ⟨_, _, X6.returnOut hx Bd.returns (hb hby d60_14) hr, hrun, hended, _, _, rfl, ?_, ⟨_, rfl⟩, hW, hsame.mono (by decide) (by decide)⟩
  show Q60 Z a1 p2 u0 u1 h0 n0 _ T6.heap _
  rw [e6]
  exact ⟨rfl, N6, K6, F_7, F_8⟩
theorem d61_0 : decode prog_45_method_2_code 0 = .ok (.aload_n 0, 1) := by decide +kernel
theorem d61_1 : decode prog_45_method_2_code 1 = .ok (.invokespecial 1, 3) := by decide +kernel
theorem d61_4 : decode prog_45_method_2_code 4 = .ok (.aload_n 0, 1) := by decide +kernel
theorem d61_5 : decode prog_45_method_2_code 5 = .ok (.iload_n 1, 1) := by decide +kernel
theorem d61_6 : decode prog_45_method_2_code 6 = .ok (.putfield 7, 3) := by decide +kernel
theorem d61_9 : decode prog_45_method_2_code 9 = .ok (.aload_n 0, 1) := by decide +kernel
theorem d61_10 : decode prog_45_method_2_code 10 = .ok (.aload_n 2, 1) := by decide +kernel
theorem d61_11 : decode prog_45_method_2_code 11 = .ok (.putfield 13, 3) := by decide +kernel
theorem d61_14 : decode prog_45_method_2_code 14 = .ok (.return_, 1) := by decide +kernel
theorem pn_61 : plainName "com/example/modelwright/modelwright/model/BooleanNode" = true := by first | (simp [plainName, overriddenIn]; done) | decide +kernel
theorem ef_61 (m : MethodId) (x0 : Addr) (x1 : Int32) (x2 : Addr) : entryFrame m #[(.ref x0), (.int x1), (.ref x2)] 3 = mkF m 0 #[.val (.ref x0), .val (.int x1), .val (.ref x2)] [] := by first | (simp [entryFrame, mkF, argsToLocals, Value.category]; done) | rfl
def Q61 (Z : State) (a1 : Addr) (p2 : Int32) (a3 : Addr) (u0 : Value) (u1 : Value) (h0 : Heap) (n0 : Nat) (v : Option Value) (h : Heap) (L : List Loc) : Prop := v = none ∧ Fr n0 L ∧ Keep h0 h [a1] ∧ Exa Z h a1 "com/example/modelwright/modelwright/model/BooleanNode" ∧ Fld Z h a1 "com/example/modelwright/modelwright/model/BooleanNode" "value" "Z" (.int p2)
set_option maxRecDepth 65536 in
set_option maxHeartbeats 40000000 in
theorem rm61 (l : Launch) (Z : State) (a0 : Array Value) (hw : ∀ d ∈ tables_1, d.before a0 Z = true) (ws : List Jvm.Cond) (a1 : Addr) (p2 : Int32) (a3 : Addr) (u0 : Value) (u1 : Value) (h0 : Heap) (n0 : Nat) (Z0 : n0 ≤ h0.size) (F0 : Exa Z h0 a1 "com/example/modelwright/modelwright/model/BooleanNode") (F1 : Fld Z h0 a1 "com/example/modelwright/modelwright/model/BooleanNode" "value" "Z" u0) (F2 : Fld Z h0 a1 "com/example/modelwright/modelwright/model/BooleanNode" "location" "Lcom/example/modelwright/modelwright/model/SourceLocation;" u1) (ge_a1 : n0 ≤ a1) (hz : p2 = 0 ∨ p2 = 1) :
    MetFree l (⟨"com/example/modelwright/modelwright/model/BooleanNode", "<init>", "(ZLcom/example/modelwright/modelwright/model/SourceLocation;)V"⟩ : MethodName) (head1 (Jvm.Cond.code (⟨"com/example/modelwright/modelwright/model/BooleanNode", "<init>", "(ZLcom/example/modelwright/modelwright/model/SourceLocation;)V"⟩ : MethodName) prog_45_method_2_code 3 none :: ws) ({ frames := 2, cells := 0, slots := 0, locals := 24 } : Room)) (fun a U => a = #[(.ref a1), (.int p2), (.ref a3)] ∧ Z.Warmed39 U.vm ∧ U.heap = h0) (fun _ _ _ _ _ => True) (fun _ U o U' => ∃ v L, o = .returned v ∧ Q61 Z a1 p2 a3 u0 u1 h0 n0 v U'.heap L ∧ FrameEnd U o U' L ({ frames := 2, cells := 0, slots := 0, locals := 24 } : Room).cells ({ frames := 2, cells := 0, slots := 0, locals := 24 } : Room).slots) := by
  refine MetFree.of_bodySF (plainFor_of_name pn_61) hisR ?_
  intro p e s m args below meth c s₁ Bd hml0 hP hK
  obtain ⟨rfl, hZ, hh⟩ := hP
  have hx := Bd.exec
  have hby := Bd.bytes
  have hml : c.maxLocals = 3 := hml0
  have hown : s.vm.findClass "com/example/modelwright/modelwright/model/BooleanNode" = some m.cls := findClass_of_methodNamed Bd.named
  have hnm := (name_of_methodNamed Bd.named Bd.method).1
  have X0 : Stand p l e ({ frames := 2, cells := 0, slots := 0, locals := 24 } : Room) s m #[(.ref a1), (.int p2), (.ref a3)] below meth c s₁ [] 0 0 := Stand.of_body Bd
  have e0 : s₁.heap = h0 := by rw [← hh, Bd.state]; rfl
  have N0 := Fr.nil n0
  show own_R p.tables e below (own_P s (Q61 Z a1 p2 a3 u0 u1 h0 n0) ({ frames := 2, cells := 0, slots := 0, locals := 24 } : Room).cells ({ frames := 2, cells := 0, slots := 0, locals := 24 } : Room).slots) (s₁.setTop (entryFrame m #[(.ref a1), (.int p2), (.ref a3)] 3))
  refine own_f s₁ (mkF m 0 #[.val (.ref a1), .val (.int p2), .val (.ref a3)] []) (fun t k => castTop (ef_61 m a1 p2 a3) k) ?_
  refine own_f s₁ (mkF m 1 #[.val (.ref a1), .val (.int p2), .val (.ref a3)] [(.ref a1)]) (fun t k => XS.aloadN X0.here hx rfl (hb hby d61_0) rfl rfl k) ?_
  obtain ⟨_, _, ⟨T1, Lq1, kq_1, nq_1⟩, -, X1, ⟨Lc1, hQ1, lq1, yq1, zq1⟩, st1⟩ := X0.specialBack hx (y := (⟨"java/lang/Record", "<init>", "()V"⟩ : MethodName)) rfl hown (mvT hZ (own_w hw 53 rfl)) (mvT hZ (own_w hw 20 rfl)) (mvT hZ (own_w hw 23 rfl)) (by decide) (backOf (W := 0) (rm2 l Z a0 hw [] a1 h0 n0 Z0 ) hZ (own_w hw 23 rfl) (own_w hw 22 rfl) (by decide) (by decide)) (g := (mkF m 1 #[.val (.ref a1), .val (.int p2), .val (.ref a3)] [(.ref a1)])) rfl (by rw [hml]; rfl) (Steps.refl _) (a := a1) (argsL := []) (rest := []) (lenOf pd__V rfl) rfl (by show 2 * 0 + _ ≤ _; exact Nat.le_of_eq rfl) (hb hby d61_1) (fun _ _ => ⟨rfl, e0, (by decide : 0 + 0 ≤ _), (by decide : 0 + 0 ≤ _)⟩)
  dsimp only [Pt.U, Pt.locs, Pt.cells, Pt.slots] at X1 lq1 yq1 zq1 st1 hQ1
  subst lq1 yq1 zq1
  obtain ⟨h1, e1⟩ : ∃ z, T1.heap = z := ⟨_, rfl⟩
  rw [e1] at hQ1
  unfold Q2 at hQ1
  obtain ⟨rfl, Nq1, qh1⟩ := hQ1
  have N1 := Fr.app N0 Nq1
  rw [qh1] at e1
  refine own_g T1 (mkF m 4 #[.val (.ref a1), .val (.int p2), .val (.ref a3)] []) st1 ?_
  refine own_f T1 (mkF m 5 #[.val (.ref a1), .val (.int p2), .val (.ref a3)] [(.ref a1)]) (fun t k => XS.aloadN X1.here hx rfl (hb hby d61_4) rfl rfl k) ?_
  refine own_f T1 (mkF m 6 #[.val (.ref a1), .val (.int p2), .val (.ref a3)] [(.int p2), (.ref a1)]) (fun t k => XS.iloadN X1.here hx rfl (hb hby d61_5) rfl k) ?_
  obtain ⟨T2, h2, X2, e2, W2, st2⟩ := putF X1 hx hZ hown (host := "") (Or.inl (own_w hw 54 rfl)) Via.refl e1 F1 F0 (Or.inr ⟨(own_w hw 55 rfl), rfl, hnm⟩) (own_w hw 45 rfl) (ty := .boolean) (by decide) (own_nb hz) (own_fb hz) (g := (mkF m 6 #[.val (.ref a1), .val (.int p2), .val (.ref a3)] [(.int p2), (.ref a1)])) rfl rfl (hb hby d61_6)
  have N2 := Fr.snoc X2 N1 ge_a1
  have Zs2 : n0 ≤ h2.size := by rw [W2.size]; exact Z0
  have K2 : Keep h0 h2 [a1] := (Keep.refl h0 [a1]).wr W2 (Or.inl (by simp))
  have F_3 := F0.wr W2
  have F_4 := F1.same W2
  have F_5 := F2.other W2 (Or.inr (slot_ne (Or.inr (own_w hw 57 rfl)) (Or.inr (own_w hw 55 rfl)) (by decide) (t := (.object "com/example/modelwright/modelwright/model/SourceLocation")) (t' := .boolean) (by decide) (by decide)))
  refine own_f T2 (mkF m 9 #[.val (.ref a1), .val (.int p2), .val (.ref a3)] []) st2 ?_
  refine own_f T2 (mkF m 10 #[.val (.ref a1), .val (.int p2), .val (.ref a3)] [(.ref a1)]) (fun t k => XS.aloadN X2.here hx rfl (hb hby d61_9) rfl rfl k) ?_
  refine own_f T2 (mkF m 11 #[.val (.ref a1), .val (.int p2), .val (.ref a3)] [(.ref a3), (.ref a1)]) (fun t k => XS.aloadN X2.here hx rfl (hb hby d61_10) rfl rfl k) ?_
  obtain ⟨T6, h6, X6, e6, W6, st6⟩ := putF X2 hx hZ hown (host := "") (Or.inl (own_w hw 56 rfl)) Via.refl e2 F_5 F_3 (Or.inr ⟨(own_w hw 57 rfl), rfl, hnm⟩) (own_w hw 45 rfl) (ty := (.object "com/example/modelwright/modelwright/model/SourceLocation")) (by decide) rfl rfl (g := (mkF m 11 #[.val (.ref a1), .val (.int p2), .val (.ref a3)] [(.ref a3), (.ref a1)])) rfl rfl (hb hby d61_11)
  have N6 := Fr.snoc X6 N2 ge_a1
  have Zs6 : n0 ≤ h6.size := by rw [W6.size]; exact Zs2
  have K6 : Keep h0 h6 [a1] := K2.wr W6 (Or.inl (by simp))
  have F_7 := F_3.wr W6
  have F_8 := F_4.other W6 (Or.inr (slot_ne (Or.inr (own_w hw 55 rfl)) (Or.inr (own_w hw 57 rfl)) (by decide) (t := .boolean) (t' := (.object "com/example/modelwright/modelwright/model/SourceLocation")) (by decide) (by decide)))
  have F_9 := F_5.same W6
  refine own_f T6 (mkF m 14 #[.val (.ref a1), .val (.int p2), .val (.ref a3)] []) st6 ?_
  obtain ⟨fs, hr, hrun, hended, hW, hsame⟩ := X6.leave (v := none) (fun _ => rfl)
  refine ⟨_, _, X6.returnOut hx Bd.returns (hb hby d61_14) hr, hrun, hended, _, _, rfl, ?_, ⟨_, rfl⟩, hW, hsame.mono (by decide) (by decide)⟩
  show Q61 Z a1 p2 a3 u0 u1 h0 n0 _ T6.heap _
  rw [e6]
  exact ⟨rfl, N6, K6, F_7, F_8⟩
theorem d7_0 : decode prog_45_method_1_code 0 = .ok (.aload_n 0, 1) := by decide +kernel
theorem d7_1 : decode prog_45_method_1_code 1 = .ok (.iload_n 1, 1) := by decide +kernel
theorem d7_2 : decode prog_45_method_1_code 2 = .ok (.aconst_null, 1) := by decide +kernel
theorem d7_3 : decode prog_45_method_1_code 3 = .ok (.invokespecial 17, 3) := by decide +kernel
theorem d7_6 : decode prog_45_method_1_code 6 = .ok (.return_, 1) := by decide +kernel
theorem pn_7 : plainName "com/example/modelwright/modelwright/model/BooleanNode" = true := by first | (simp [plainName, overriddenIn]; done) | decide +kernel
theorem ef_7 (m : MethodId) (x0 : Addr) (x1 : Int32) : entryFrame m #[(.ref x0), (.int x1)] 2 = mkF m 0 #[.val (.ref x0), .val (.int x1)] [] := by first | (simp [entryFrame, mkF, argsToLocals, Value.category]; done) | rfl
def Q7 (Z : State) (a1 : Addr) (p2 : Int32) (u0 : Value) (u1 : Value) (h0 : Heap) (n0 : Nat) (v : Option Value) (h : Heap) (L : List Loc) : Prop := v = none ∧ Fr n0 L ∧ Keep h0 h [a1] ∧ Exa Z h a1 "com/example/modelwright/modelwright/model/BooleanNode" ∧ Fld Z h a1 "com/example/modelwright/modelwright/model/BooleanNode" "value" "Z" (.int p2)
set_option maxRecDepth 65536 in
set_option maxHeartbeats 40000000 in
theorem rm7 (l : Launch) (Z : State) (a0 : Array Value) (hw : ∀ d ∈ tables_1, d.before a0 Z = true) (ws : List Jvm.Cond) (a1 : Addr) (p2 : Int32) (u0 : Value) (u1 : Value) (h0 : Heap) (n0 : Nat) (Z0 : n0 ≤ h0.size) (F0 : Exa Z h0 a1 "com/example/modelwright/modelwright/model/BooleanNode") (F1 : Fld Z h0 a1 "com/example/modelwright/modelwright/model/BooleanNode" "value" "Z" u0) (F2 : Fld Z h0 a1 "com/example/modelwright/modelwright/model/BooleanNode" "location" "Lcom/example/modelwright/modelwright/model/SourceLocation;" u1) (ge_a1 : n0 ≤ a1) (hz : p2 = 0 ∨ p2 = 1) :
    MetFree l (⟨"com/example/modelwright/modelwright/model/BooleanNode", "<init>", "(Z)V"⟩ : MethodName) (head1 (Jvm.Cond.code (⟨"com/example/modelwright/modelwright/model/BooleanNode", "<init>", "(Z)V"⟩ : MethodName) prog_45_method_1_code 2 none :: ws) ({ frames := 3, cells := 0, slots := 0, locals := 38 } : Room)) (fun a U => a = #[(.ref a1), (.int p2)] ∧ Z.Warmed39 U.vm ∧ U.heap = h0) (fun _ _ _ _ _ => True) (fun _ U o U' => ∃ v L, o = .returned v ∧ Q7 Z a1 p2 u0 u1 h0 n0 v U'.heap L ∧ FrameEnd U o U' L ({ frames := 3, cells := 0, slots := 0, locals := 38 } : Room).cells ({ frames := 3, cells := 0, slots := 0, locals := 38 } : Room).slots) := by
  refine MetFree.of_bodySF (plainFor_of_name pn_7) hisR ?_
  intro p e s m args below meth c s₁ Bd hml0 hP hK
  obtain ⟨rfl, hZ, hh⟩ := hP
  have hx := Bd.exec
  have hby := Bd.bytes
  have hml : c.maxLocals = 2 := hml0
  have hown : s.vm.findClass "com/example/modelwright/modelwright/model/BooleanNode" = some m.cls := findClass_of_methodNamed Bd.named
  have hnm := (name_of_methodNamed Bd.named Bd.method).1
  have X0 : Stand p l e ({ frames := 3, cells := 0, slots := 0, locals := 38 } : Room) s m #[(.ref a1), (.int p2)] below meth c s₁ [] 0 0 := Stand.of_body Bd
  have e0 : s₁.heap = h0 := by rw [← hh, Bd.state]; rfl
  have N0 := Fr.nil n0
  show own_R p.tables e below (own_P s (Q7 Z a1 p2 u0 u1 h0 n0) ({ frames := 3, cells := 0, slots := 0, locals := 38 } : Room).cells ({ frames := 3, cells := 0, slots := 0, locals := 38 } : Room).slots) (s₁.setTop (entryFrame m #[(.ref a1), (.int p2)] 2))
  refine own_f s₁ (mkF m 0 #[.val (.ref a1), .val (.int p2)] []) (fun t k => castTop (ef_7 m a1 p2) k) ?_
  refine own_f s₁ (mkF m 1 #[.val (.ref a1), .val (.int p2)] [(.ref a1)]) (fun t k => XS.aloadN X0.here hx rfl (hb hby d7_0) rfl rfl k) ?_
  refine own_f s₁ (mkF m 2 #[.val (.ref a1), .val (.int p2)] [(.int p2), (.ref a1)]) (fun t k => XS.iloadN X0.here hx rfl (hb hby d7_1) rfl k) ?_
  refine own_f s₁ (mkF m 3 #[.val (.ref a1), .val (.int p2)] [.null, (.int p2), (.ref a1)]) (fun t k => XS.aconstNull X0.here hx rfl (hb hby d7_2) k) ?_
  obtain ⟨_, _, ⟨T1, Lq1, kq_1, nq_1⟩, -, X1, ⟨Lc1, hQ1, lq1, yq1, zq1⟩, st1⟩ := X0.specialBack hx (y := (⟨"com/example/modelwright/modelwright/model/BooleanNode", "<init>", "(ZLcom/example/modelwright/modelwright/model/SourceLocation;)V"⟩ : MethodName)) rfl hown (mvT hZ (own_w hw 50 rfl)) (mvT hZ (own_w hw 51 rfl)) (mvT hZ (own_w hw 52 rfl)) (by decide) (backOf (W := 0) (rm60 l Z a0 hw [] a1 p2 _ _ h0 n0 Z0 F0 F1 F2 ge_a1 hz) hZ (own_w hw 52 rfl) (own_w hw 46 rfl) (by decide) (by decide)) (g := (mkF m 3 #[.val (.ref a1), .val (.int p2)] [.null, (.int p2), (.ref a1)])) rfl (by rw [hml]; rfl) (Steps.refl _) (a := a1) (argsL := [(.int p2), .null]) (rest := []) (lenOf pd__ZLcom_example_modelwright_modelwright_model_SourceLocation_V rfl) rfl (by show 2 * 0 + _ ≤ _; exact Nat.le_of_eq rfl) (hb hby d7_3) (fun _ _ => ⟨rfl, e0, (by decide : 0 + 0 ≤ _), (by decide : 0 + 0 ≤ _)⟩)
  dsimp only [Pt.U, Pt.locs, Pt.cells, Pt.slots] at X1 lq1 yq1 zq1 st1 hQ1
  subst lq1 yq1 zq1
  obtain ⟨h1, e1⟩ : ∃ z, T1.heap = z := ⟨_, rfl⟩
  rw [e1] at hQ1
  unfold Q60 at hQ1
  obtain ⟨rfl, Nq1, qh1, G1_0, G1_1⟩ := hQ1
  have N1 := Fr.app N0 Nq1
  have Zs1 : n0 ≤ h1.size := Nat.le_trans Z0 qh1.1
  have K1 : Keep h0 h1 [a1] := (Keep.refl h0 [a1]).trans qh1 (allS (Or.inl (by simp)) all0)
  refine own_g T1 (mkF m 6 #[.val (.ref a1), .val (.int p2)] []) st1 ?_
  obtain ⟨fs, hr, hrun, hended, hW, hsame⟩ := X1.leave (v := none) (fun _ => rfl)
  refine ⟨_, _, X1.returnOut hx Bd.returns (hb hby d7_6) hr, hrun, hended, _, _, rfl, ?_, ⟨_, rfl⟩, hW, hsame.mono (by decide) (by decide)⟩
  show Q7 Z a1 p2 u0 u1 h0 n0 _ T1.heap _
  rw [e1]
  exact ⟨rfl, N1, K1, G1_0, G1_1⟩
theorem d8_0 : decode prog_63_method_2_code 0 = .ok (.aload_n 0, 1) := by decide +kernel
theorem d8_1 : decode prog_63_method_2_code 1 = .ok (.invokespecial 1, 3) := by decide +kernel
theorem d8_4 : decode prog_63_method_2_code 4 = .ok (.aload_n 0, 1) := by decide +kernel
theorem d8_5 : decode prog_63_method_2_code 5 = .ok (.aload_n 1, 1) := by decide +kernel
theorem d8_6 : decode prog_63_method_2_code 6 = .ok (.putfield 7, 3) := by decide +kernel
theorem d8_9 : decode prog_63_method_2_code 9 = .ok (.return_, 1) := by decide +kernel
theorem pn_8 : plainName "com/example/modelwright/modelwright/model/NullNode" = true := by first | (simp [plainName, overriddenIn]; done) | decide +kernel
theorem ef_8 (m : MethodId) (x0 : Addr) : entryFrame m #[(.ref x0), .null] 2 = mkF m 0 #[.val (.ref x0), .val .null] [] := by first | (simp [entryFrame, mkF, argsToLocals, Value.category]; done) | rfl
def Q8 (Z : State) (a1 : Addr) (u0 : Value) (h0 : Heap) (n0 : Nat) (v : Option Value) (h : Heap) (L : List Loc) : Prop := v = none ∧ Fr n0 L ∧ Keep h0 h [a1]
set_option maxRecDepth 65536 in
set_option maxHeartbeats 40000000 in
theorem rm8 (l : Launch) (Z : State) (a0 : Array Value) (hw : ∀ d ∈ tables_1, d.before a0 Z = true) (ws : List Jvm.Cond) (a1 : Addr) (u0 : Value) (h0 : Heap) (n0 : Nat) (Z0 : n0 ≤ h0.size) (F0 : Exa Z h0 a1 "com/example/modelwright/modelwright/model/NullNode") (F1 : Fld Z h0 a1 "com/example/modelwright/modelwright/model/NullNode" "location" "Lcom/example/modelwright/modelwright/model/SourceLocation;" u0) (ge_a1 : n0 ≤ a1) :
    MetFree l (⟨"com/example/modelwright/modelwright/model/NullNode", "<init>", "(Lcom/example/modelwright/modelwright/model/SourceLocation;)V"⟩ : MethodName) (head1 (Jvm.Cond.code (⟨"com/example/modelwright/modelwright/model/NullNode", "<init>", "(Lcom/example/modelwright/modelwright/model/SourceLocation;)V"⟩ : MethodName) prog_63_method_2_code 2 none :: ws) ({ frames := 2, cells := 0, slots := 0, locals := 24 } : Room)) (fun a U => a = #[(.ref a1), .null] ∧ Z.Warmed39 U.vm ∧ U.heap = h0) (fun _ _ _ _ _ => True) (fun _ U o U' => ∃ v L, o = .returned v ∧ Q8 Z a1 u0 h0 n0 v U'.heap L ∧ FrameEnd U o U' L ({ frames := 2, cells := 0, slots := 0, locals := 24 } : Room).cells ({ frames := 2, cells := 0, slots := 0, locals := 24 } : Room).slots) := by
  refine MetFree.of_bodySF (plainFor_of_name pn_8) hisR ?_
  intro p e s m args below meth c s₁ Bd hml0 hP hK
  obtain ⟨rfl, hZ, hh⟩ := hP
  have hx := Bd.exec
  have hby := Bd.bytes
  have hml : c.maxLocals = 2 := hml0
  have hown : s.vm.findClass "com/example/modelwright/modelwright/model/NullNode" = some m.cls := findClass_of_methodNamed Bd.named
  have hnm := (name_of_methodNamed Bd.named Bd.method).1
  have X0 : Stand p l e ({ frames := 2, cells := 0, slots := 0, locals := 24 } : Room) s m #[(.ref a1), .null] below meth c s₁ [] 0 0 := Stand.of_body Bd
  have e0 : s₁.heap = h0 := by rw [← hh, Bd.state]; rfl
  have N0 := Fr.nil n0
  show own_R p.tables e below (own_P s (Q8 Z a1 u0 h0 n0) ({ frames := 2, cells := 0, slots := 0, locals := 24 } : Room).cells ({ frames := 2, cells := 0, slots := 0, locals := 24 } : Room).slots) (s₁.setTop (entryFrame m #[(.ref a1), .null] 2))
  refine own_f s₁ (mkF m 0 #[.val (.ref a1), .val .null] []) (fun t k => castTop (ef_8 m a1) k) ?_
  refine own_f s₁ (mkF m 1 #[.val (.ref a1), .val .null] [(.ref a1)]) (fun t k => XS.aloadN X0.here hx rfl (hb hby d8_0) rfl rfl k) ?_
  obtain ⟨_, _, ⟨T1, Lq1, kq_1, nq_1⟩, -, X1, ⟨Lc1, hQ1, lq1, yq1, zq1⟩, st1⟩ := X0.specialBack hx (y := (⟨"java/lang/Record", "<init>", "()V"⟩ : MethodName)) rfl hown (mvT hZ (own_w hw 67 rfl)) (mvT hZ (own_w hw 20 rfl)) (mvT hZ (own_w hw 23 rfl)) (by decide) (backOf (W := 0) (rm2 l Z a0 hw [] a1 h0 n0 Z0 ) hZ (own_w hw 23 rfl) (own_w hw 22 rfl) (by decide) (by decide)) (g := (mkF m 1 #[.val (.ref a1), .val .null] [(.ref a1)])) rfl (by rw [hml]; rfl) (Steps.refl _) (a := a1) (argsL := []) (rest := []) (lenOf pd__V rfl) rfl (by show 2 * 0 + _ ≤ _; exact Nat.le_of_eq rfl) (hb hby d8_1) (fun _ _ => ⟨rfl, e0, (by decide : 0 + 0 ≤ _), (by decide : 0 + 0 ≤ _)⟩)
  dsimp only [Pt.U, Pt.locs, Pt.cells, Pt.slots] at X1 lq1 yq1 zq1 st1 hQ1
  subst lq1 yq1 zq1
  obtain ⟨h1, e1⟩ : ∃ z, T1.heap = z := ⟨_, rfl⟩
  rw [e1] at hQ1
  unfold Q2 at hQ1
  obtain ⟨rfl, Nq1, qh1⟩ := hQ1
  have N1 := Fr.app N0 Nq1
  rw [qh1] at e1
  refine own_g T1 (mkF m 4 #[.val (.ref a1), .val .null] []) st1 ?_
  refine own_f T1 (mkF m 5 #[.val (.ref a1), .val .null] [(.ref a1)]) (fun t k => XS.aloadN X1.here hx rfl (hb hby d8_4) rfl rfl k) ?_
  refine own_f T1 (mkF m 6 #[.val (.ref a1), .val .null] [.null, (.ref a1)]) (fun t k => XS.aloadN X1.here hx rfl (hb hby d8_5) rfl rfl k) ?_
  obtain ⟨T2, h2, X2, e2, W2, st2⟩ := putF X1 hx hZ hown (host := "") (Or.inl (own_w hw 68 rfl)) Via.refl e1 F1 F0 (Or.inr ⟨(own_w hw 69 rfl), rfl, hnm⟩) (own_w hw 59 rfl) (ty := (.object "com/example/modelwright/modelwright/model/SourceLocation")) (by decide) rfl rfl (g := (mkF m 6 #[.val (.ref a1), .val .null] [.null, (.ref a1)])) rfl rfl (hb hby d8_6)
  have N2 := Fr.snoc X2 N1 ge_a1
  have Zs2 : n0 ≤ h2.size := by rw [W2.size]; exact Z0
  have K2 : Keep h0 h2 [a1] := (Keep.refl h0 [a1]).wr W2 (Or.inl (by simp))
  have F_3 := F0.wr W2
  have F_4 := F1.same W2
  refine own_f T2 (mkF m 9 #[.val (.ref a1), .val .null] []) st2 ?_
  obtain ⟨fs, hr, hrun, hended, hW, hsame⟩ := X2.leave (v := none) (fun _ => rfl)
  refine ⟨_, _, X2.returnOut hx Bd.returns (hb hby d8_9) hr, hrun, hended, _, _, rfl, ?_, ⟨_, rfl⟩, hW, hsame.mono (by decide) (by decide)⟩
  show Q8 Z a1 u0 h0 n0 _ T2.heap _
  rw [e2]
  exact ⟨rfl, N2, K2⟩
theorem d9_0 : decode prog_63_method_1_code 0 = .ok (.aload_n 0, 1) := by decide +kernel
theorem d9_1 : decode prog_63_method_1_code 1 = .ok (.aconst_null, 1) := by decide +kernel
theorem d9_2 : decode prog_63_method_1_code 2 = .ok (.invokespecial 13, 3) := by decide +kernel
theorem d9_5 : decode prog_63_method_1_code 5 = .ok (.return_, 1) := by decide +kernel
theorem pn_9 : plainName "com/example/modelwright/modelwright/model/NullNode" = true := by first | (simp [plainName, overriddenIn]; done) | decide +kernel
theorem ef_9 (m : MethodId) (x0 : Addr) : entryFrame m #[(.ref x0)] 1 = mkF m 0 #[.val (.ref x0)] [] := by first | (simp [entryFrame, mkF, argsToLocals, Value.category]; done) | rfl
def Q9 (Z : State) (a1 : Addr) (u0 : Value) (h0 : Heap) (n0 : Nat) (v : Option Value) (h : Heap) (L : List Loc) : Prop := v = none ∧ Fr n0 L ∧ Keep h0 h [a1]
set_option maxRecDepth 65536 in
set_option maxHeartbeats 40000000 in
theorem rm9 (l : Launch) (Z : State) (a0 : Array Value) (hw : ∀ d ∈ tables_1, d.before a0 Z = true) (ws : List Jvm.Cond) (a1 : Addr) (u0 : Value) (h0 : Heap) (n0 : Nat) (Z0 : n0 ≤ h0.size) (F0 : Exa Z h0 a1 "com/example/modelwright/modelwright/model/NullNode") (F1 : Fld Z h0 a1 "com/example/modelwright/modelwright/model/NullNode" "location" "Lcom/example/modelwright/modelwright/model/SourceLocation;" u0) (ge_a1 : n0 ≤ a1) :
    MetFree l (⟨"com/example/modelwright/modelwright/model/NullNode", "<init>", "()V"⟩ : MethodName) (head1 (Jvm.Cond.code (⟨"com/example/modelwright/modelwright/model/NullNode", "<init>", "()V"⟩ : MethodName) prog_63_method_1_code 1 none :: ws) ({ frames := 3, cells := 0, slots := 0, locals := 37 } : Room)) (fun a U => a = #[(.ref a1)] ∧ Z.Warmed39 U.vm ∧ U.heap = h0) (fun _ _ _ _ _ => True) (fun _ U o U' => ∃ v L, o = .returned v ∧ Q9 Z a1 u0 h0 n0 v U'.heap L ∧ FrameEnd U o U' L ({ frames := 3, cells := 0, slots := 0, locals := 37 } : Room).cells ({ frames := 3, cells := 0, slots := 0, locals := 37 } : Room).slots) := by
  refine MetFree.of_bodySF (plainFor_of_name pn_9) hisR ?_
  intro p e s m args below meth c s₁ Bd hml0 hP hK
  obtain ⟨rfl, hZ, hh⟩ := hP
  have hx := Bd.exec
  have hby := Bd.bytes
  have hml : c.maxLocals = 1 := hml0
  have hown : s.vm.findClass "com/example/modelwright/modelwright/model/NullNode" = some m.cls := findClass_of_methodNamed Bd.named
  have hnm := (name_of_methodNamed Bd.named Bd.method).1
  have X0 : Stand p l e ({ frames := 3, cells := 0, slots := 0, locals := 37 } : Room) s m #[(.ref a1)] below meth c s₁ [] 0 0 := Stand.of_body Bd
  have e0 : s₁.heap = h0 := by rw [← hh, Bd.state]; rfl
  have N0 := Fr.nil n0
  show own_R p.tables e below (own_P s (Q9 Z a1 u0 h0 n0) ({ frames := 3, cells := 0, slots := 0, locals := 37 } : Room).cells ({ frames := 3, cells := 0, slots := 0, locals := 37 } : Room).slots) (s₁.setTop (entryFrame m #[(.ref a1)] 1))
  refine own_f s₁ (mkF m 0 #[.val (.ref a1)] []) (fun t k => castTop (ef_9 m a1) k) ?_
  refine own_f s₁ (mkF m 1 #[.val (.ref a1)] [(.ref a1)]) (fun t k => XS.aloadN X0.here hx rfl (hb hby d9_0) rfl rfl k) ?_
  refine own_f s₁ (mkF m 2 #[.val (.ref a1)] [.null, (.ref a1)]) (fun t k => XS.aconstNull X0.here hx rfl (hb hby d9_1) k) ?_
  obtain ⟨_, _, ⟨T1, Lq1, kq_1, nq_1⟩, -, X1, ⟨Lc1, hQ1, lq1, yq1, zq1⟩, st1⟩ := X0.specialBack hx (y := (⟨"com/example/modelwright/modelwright/model/NullNode", "<init>", "(Lcom/example/modelwright/modelwright/model/SourceLocation;)V"⟩ : MethodName)) rfl hown (mvT hZ (own_w hw 64 rfl)) (mvT hZ (own_w hw 65 rfl)) (mvT hZ (own_w hw 66 rfl)) (by decide) (backOf (W := 0) (rm8 l Z a0 hw [] a1 _ h0 n0 Z0 F0 F1 ge_a1) hZ (own_w hw 66 rfl) (own_w hw 60 rfl) (by decide) (by decide)) (g := (mkF m 2 #[.val (.ref a1)] [.null, (.ref a1)])) rfl (by rw [hml]; rfl) (Steps.refl _) (a := a1) (argsL := [.null]) (rest := []) (lenOf pd__Lcom_example_modelwright_modelwright_model_SourceLocation_V rfl) rfl (by show 2 * 0 + _ ≤ _; exact Nat.le_of_eq rfl) (hb hby d9_2) (fun _ _ => ⟨rfl, e0, (by decide : 0 + 0 ≤ _), (by decide : 0 + 0 ≤ _)⟩)
  dsimp only [Pt.U, Pt.locs, Pt.cells, Pt.slots] at X1 lq1 yq1 zq1 st1 hQ1
  subst lq1 yq1 zq1
  obtain ⟨h1, e1⟩ : ∃ z, T1.heap = z := ⟨_, rfl⟩
  rw [e1] at hQ1
  unfold Q8 at hQ1
  obtain ⟨rfl, Nq1, qh1⟩ := hQ1
  have N1 := Fr.app N0 Nq1
  have Zs1 : n0 ≤ h1.size := Nat.le_trans Z0 qh1.1
  have F_2 := F0.keep qh1
  have K1 : Keep h0 h1 [a1] := (Keep.refl h0 [a1]).trans qh1 (allS (Or.inl (by simp)) all0)
  refine own_g T1 (mkF m 5 #[.val (.ref a1)] []) st1 ?_
  obtain ⟨fs, hr, hrun, hended, hW, hsame⟩ := X1.leave (v := none) (fun _ => rfl)
  refine ⟨_, _, X1.returnOut hx Bd.returns (hb hby d9_5) hr, hrun, hended, _, _, rfl, ?_, ⟨_, rfl⟩, hW, hsame.mono (by decide) (by decide)⟩
  show Q9 Z a1 u0 h0 n0 _ T1.heap _
  rw [e1]
  exact ⟨rfl, N1, K1⟩
theorem dabn_0 : decode prog_45_method_4_code 0 = .ok (.aload_n 1, 1) := by decide +kernel
theorem dabn_1 : decode prog_45_method_4_code 1 = .ok (.instanceof 8, 3) := by decide +kernel
theorem dabn_4 : decode prog_45_method_4_code 4 = .ok (.ifCond .eq 23, 3) := by decide +kernel
theorem dabn_7 : decode prog_45_method_4_code 7 = .ok (.aload_n 1, 1) := by decide +kernel
theorem dabn_8 : decode prog_45_method_4_code 8 = .ok (.checkcast 8, 3) := by decide +kernel
theorem dabn_11 : decode prog_45_method_4_code 11 = .ok (.astore_n 2, 1) := by decide +kernel
theorem dabn_12 : decode prog_45_method_4_code 12 = .ok (.aload_n 0, 1) := by decide +kernel
theorem dabn_13 : decode prog_45_method_4_code 13 = .ok (.getfield 7, 3) := by decide +kernel
theorem dabn_16 : decode prog_45_method_4_code 16 = .ok (.aload_n 2, 1) := by decide +kernel
theorem dabn_17 : decode prog_45_method_4_code 17 = .ok (.getfield 7, 3) := by decide +kernel
theorem dabn_20 : decode prog_45_method_4_code 20 = .ok (.if_icmp .ne 7, 3) := by decide +kernel
theorem dabn_23 : decode prog_45_method_4_code 23 = .ok (.iconst 1, 1) := by decide +kernel
theorem dabn_24 : decode prog_45_method_4_code 24 = .ok (.goto 4, 3) := by decide +kernel
theorem dabn_27 : decode prog_45_method_4_code 27 = .ok (.iconst 0, 1) := by decide +kernel
theorem dabn_28 : decode prog_45_method_4_code 28 = .ok (.ireturn, 1) := by decide +kernel
theorem pn_abn : plainName "com/example/modelwright/modelwright/model/BooleanNode" = true := by first | (simp [plainName, overriddenIn]; done) | decide +kernel
theorem ef_abn (m : MethodId) (x0 : Addr) (x1 : Addr) : entryFrame m #[(.ref x0), (.ref x1)] 3 = mkF m 0 #[.val (.ref x0), .val (.ref x1), .unset] [] := by first | (simp [entryFrame, mkF, argsToLocals, Value.category]; done) | rfl
def Qabn (Z : State) (a1 : Addr) (a2 : Addr) (w1 : Int32) (w2 : Int32) (h0 : Heap) (n0 : Nat) (v : Option Value) (h : Heap) (L : List Loc) : Prop := v = some (.int (own_eq w1 w2)) ∧ Fr n0 L ∧ h = h0
set_option maxRecDepth 65536 in
set_option maxHeartbeats 40000000 in
theorem rmabn (l : Launch) (Z : State) (a0 : Array Value) (hw : ∀ d ∈ tables_1, d.before a0 Z = true) (ws : List Jvm.Cond) (a1 : Addr) (a2 : Addr) (w1 : Int32) (w2 : Int32) (h0 : Heap) (n0 : Nat) (Z0 : n0 ≤ h0.size) (F0 : Fld Z h0 a1 "com/example/modelwright/modelwright/model/BooleanNode" "value" "Z" (.int w1)) (F1 : Exa Z h0 a2 "com/example/modelwright/modelwright/model/BooleanNode") (F2 : Fld Z h0 a2 "com/example/modelwright/modelwright/model/BooleanNode" "value" "Z" (.int w2)) :
    MetFree l (⟨"com/example/modelwright/modelwright/model/BooleanNode", "equals", "(Ljava/lang/Object;)Z"⟩ : MethodName) (head1 (Jvm.Cond.code (⟨"com/example/modelwright/modelwright/model/BooleanNode", "equals", "(Ljava/lang/Object;)Z"⟩ : MethodName) prog_45_method_4_code 3 (some .boolean) :: ws) ({ frames := 0, cells := 0, slots := 0, locals := 0 } : Room)) (fun a U => a = #[(.ref a1), (.ref a2)] ∧ Z.Warmed39 U.vm ∧ U.heap = h0) (fun _ _ _ _ _ => True) (fun _ U o U' => ∃ v L, o = .returned v ∧ Qabn Z a1 a2 w1 w2 h0 n0 v U'.heap L ∧ FrameEnd U o U' L ({ frames := 0, cells := 0, slots := 0, locals := 0 } : Room).cells ({ frames := 0, cells := 0, slots := 0, locals := 0 } : Room).slots) := by
  refine MetFree.of_bodySF (plainFor_of_name pn_abn) hisR ?_
  intro p e s m args below meth c s₁ Bd hml0 hP hK
  obtain ⟨rfl, hZ, hh⟩ := hP
  have hx := Bd.exec
  have hby := Bd.bytes
  have hml : c.maxLocals = 3 := hml0
  have hown : s.vm.findClass "com/example/modelwright/modelwright/model/BooleanNode" = some m.cls := findClass_of_methodNamed Bd.named
  have hnm := (name_of_methodNamed Bd.named Bd.method).1
  have X0 : Stand p l e ({ frames := 0, cells := 0, slots := 0, locals := 0 } : Room) s m #[(.ref a1), (.ref a2)] below meth c s₁ [] 0 0 := Stand.of_body Bd
  have e0 : s₁.heap = h0 := by rw [← hh, Bd.state]; rfl
  have N0 := Fr.nil n0
  show own_R p.tables e below (own_P s (Qabn Z a1 a2 w1 w2 h0 n0) ({ frames := 0, cells := 0, slots := 0, locals := 0 } : Room).cells ({ frames := 0, cells := 0, slots := 0, locals := 0 } : Room).slots) (s₁.setTop (entryFrame m #[(.ref a1), (.ref a2)] 3))
  refine own_f s₁ (mkF m 0 #[.val (.ref a1), .val (.ref a2), .unset] []) (fun t k => castTop (ef_abn m a1 a2) k) ?_
  refine own_f s₁ (mkF m 1 #[.val (.ref a1), .val (.ref a2), .unset] [(.ref a2)]) (fun t k => XS.aloadN X0.here hx rfl (hb hby dabn_0) rfl rfl k) ?_
  obtain ⟨T1, X1, e1, st1⟩ := instY X0 hx hZ hown (own_w hw 75 rfl) e0 (Ins.self F1) (g := (mkF m 1 #[.val (.ref a1), .val (.ref a2), .unset] [(.ref a2)])) rfl rfl (hb hby dabn_1)
  refine own_f T1 (mkF m 4 #[.val (.ref a1), .val (.ref a2), .unset] [(.int (1 : Int32))]) st1 ?_
  refine own_f T1 (mkF m 7 #[.val (.ref a1), .val (.ref a2), .unset] []) (fun t k => XS.ifNo X1.here hx rfl (hb hby dabn_4) rfl (XT.i0_eq_f (by decide)) k) ?_
  refine own_f T1 (mkF m 8 #[.val (.ref a1), .val (.ref a2), .unset] [(.ref a2)]) (fun t k => XS.aloadN X1.here hx rfl (hb hby dabn_7) rfl rfl k) ?_
  obtain ⟨T2, X2, e2, st2⟩ := castY X1 hx hZ hown (own_w hw 75 rfl) e1 (Ins.self F1) (g := (mkF m 8 #[.val (.ref a1), .val (.ref a2), .unset] [(.ref a2)])) rfl rfl (hb hby dabn_8)
  refine own_f T2 (mkF m 11 #[.val (.ref a1), .val (.ref a2), .unset] [(.ref a2)]) st2 ?_
  refine own_f T2 (mkF m 12 #[.val (.ref a1), .val (.ref a2), .val (.ref a2)] []) (fun t k => XS.astoreN X2.here hx rfl (hb hby dabn_11) rfl rfl (l' := #[.val (.ref a1), .val (.ref a2), .val (.ref a2)]) rfl k) ?_
  refine own_f T2 (mkF m 13 #[.val (.ref a1), .val (.ref a2), .val (.ref a2)] [(.ref a1)]) (fun t k => XS.aloadN X2.here hx rfl (hb hby dabn_12) rfl rfl k) ?_
  obtain ⟨T3, X3, e3, st3⟩ := getF X2 hx hZ hown (host := "") (Or.inl (own_w hw 54 rfl)) Via.refl e2 F0 (g := (mkF m 13 #[.val (.ref a1), .val (.ref a2), .val (.ref a2)] [(.ref a1)])) rfl rfl (hb hby dabn_13)
  refine own_f T3 (mkF m 16 #[.val (.ref a1), .val (.ref a2), .val (.ref a2)] [(.int w1)]) st3 ?_
  refine own_f T3 (mkF m 17 #[.val (.ref a1), .val (.ref a2), .val (.ref a2)] [(.ref a2), (.int w1)]) (fun t k => XS.aloadN X3.here hx rfl (hb hby dabn_16) rfl rfl k) ?_
  obtain ⟨T4, X4, e4, st4⟩ := getF X3 hx hZ hown (host := "") (Or.inl (own_w hw 54 rfl)) Via.refl e3 F2 (g := (mkF m 17 #[.val (.ref a1), .val (.ref a2), .val (.ref a2)] [(.ref a2), (.int w1)])) rfl rfl (hb hby dabn_17)
  refine own_f T4 (mkF m 20 #[.val (.ref a1), .val (.ref a2), .val (.ref a2)] [(.int w2), (.int w1)]) st4 ?_
  by_cases hc5 : w1 = w2
  · skip
    refine own_f T4 (mkF m 23 #[.val (.ref a1), .val (.ref a2), .val (.ref a2)] []) (fun t k => XS.icmpNo X4.here hx rfl (hb hby dabn_20) rfl (XT.ii_ne_f hc5) k) ?_
    refine own_f T4 (mkF m 24 #[.val (.ref a1), .val (.ref a2), .val (.ref a2)] [(.int (1 : Int32))]) (fun t k => XT.iconstV X4.here hx rfl (1 : Int32) (hb hby dabn_23) (by decide) k) ?_
    refine own_f T4 (mkF m 28 #[.val (.ref a1), .val (.ref a2), .val (.ref a2)] [(.int (1 : Int32))]) (fun t k => XS.goto X4.here hx rfl (pc0 := 24) (pc' := 28) rfl (hb hby dabn_24) (by decide) (by decide) k) ?_
    obtain ⟨fs, hr, hrun, hended, hW, hsame⟩ := X4.leave (v := some (.int (1 : Int32))) (fun h => by rw [Bd.returns] at h; cases h)
    refine ⟨_, _, retN X4 hx (t := .boolean) Bd.returns (by simp) (hb hby dabn_28) hr, hrun, hended, _, _, rfl, ?_, ⟨_, rfl⟩, hW, hsame.mono (by decide) (by decide)⟩
    show Qabn Z a1 a2 w1 w2 h0 n0 _ T4.heap _
    rw [e4]
    exact ⟨by rw [own_eq, if_pos hc5] <;> rfl, N0, rfl⟩
  · skip
    refine own_f T4 (mkF m 27 #[.val (.ref a1), .val (.ref a2), .val (.ref a2)] []) (fun t k => XS.icmpYes X4.here hx rfl (pc0 := 20) (pc' := 27) rfl (hb hby dabn_20) rfl (XT.ii_ne_t hc5) (by decide) (by decide) k) ?_
    refine own_f T4 (mkF m 28 #[.val (.ref a1), .val (.ref a2), .val (.ref a2)] [(.int (0 : Int32))]) (fun t k => XT.iconstV X4.here hx rfl (0 : Int32) (hb hby dabn_27) (by decide) k) ?_
    obtain ⟨fs, hr, hrun, hended, hW, hsame⟩ := X4.leave (v := some (.int (0 : Int32))) (fun h => by rw [Bd.returns] at h; cases h)
    refine ⟨_, _, retN X4 hx (t := .boolean) Bd.returns (by simp) (hb hby dabn_28) hr, hrun, hended, _, _, rfl, ?_, ⟨_, rfl⟩, hW, hsame.mono (by decide) (by decide)⟩
    show Qabn Z a1 a2 w1 w2 h0 n0 _ T4.heap _
    rw [e4]
    exact ⟨by rw [own_eq, if_neg hc5] <;> rfl, N0, rfl⟩
theorem dann_0 : decode prog_45_method_4_code 0 = .ok (.aload_n 1, 1) := by decide +kernel
theorem dann_1 : decode prog_45_method_4_code 1 = .ok (.instanceof 8, 3) := by decide +kernel
theorem dann_4 : decode prog_45_method_4_code 4 = .ok (.ifCond .eq 23, 3) := by decide +kernel
theorem dann_27 : decode prog_45_method_4_code 27 = .ok (.iconst 0, 1) := by decide +kernel
theorem dann_28 : decode prog_45_method_4_code 28 = .ok (.ireturn, 1) := by decide +kernel
theorem pn_ann : plainName "com/example/modelwright/modelwright/model/BooleanNode" = true := by first | (simp [plainName, overriddenIn]; done) | decide +kernel
theorem ef_ann (m : MethodId) (x0 : Addr) (x1 : Addr) : entryFrame m #[(.ref x0), (.ref x1)] 3 = mkF m 0 #[.val (.ref x0), .val (.ref x1), .unset] [] := by first | (simp [entryFrame, mkF, argsToLocals, Value.category]; done) | rfl
def Qann (Z : State) (a1 : Addr) (a2 : Addr) (h0 : Heap) (n0 : Nat) (v : Option Value) (h : Heap) (L : List Loc) : Prop := v = some (.int (0 : Int32)) ∧ Fr n0 L ∧ h = h0
set_option maxRecDepth 65536 in
set_option maxHeartbeats 40000000 in
theorem rmann (l : Launch) (Z : State) (a0 : Array Value) (hw : ∀ d ∈ tables_1, d.before a0 Z = true) (ws : List Jvm.Cond) (a1 : Addr) (a2 : Addr) (h0 : Heap) (n0 : Nat) (Z0 : n0 ≤ h0.size) (F0 : Exa Z h0 a2 "com/example/modelwright/modelwright/model/NullNode") :
    MetFree l (⟨"com/example/modelwright/modelwright/model/BooleanNode", "equals", "(Ljava/lang/Object;)Z"⟩ : MethodName) (head1 (Jvm.Cond.code (⟨"com/example/modelwright/modelwright/model/BooleanNode", "equals", "(Ljava/lang/Object;)Z"⟩ : MethodName) prog_45_method_4_code 3 (some .boolean) :: ws) ({ frames := 0, cells := 0, slots := 0, locals := 0 } : Room)) (fun a U => a = #[(.ref a1), (.ref a2)] ∧ Z.Warmed39 U.vm ∧ U.heap = h0) (fun _ _ _ _ _ => True) (fun _ U o U' => ∃ v L, o = .returned v ∧ Qann Z a1 a2 h0 n0 v U'.heap L ∧ FrameEnd U o U' L ({ frames := 0, cells := 0, slots := 0, locals := 0 } : Room).cells ({ frames := 0, cells := 0, slots := 0, locals := 0 } : Room).slots) := by
  refine MetFree.of_bodySF (plainFor_of_name pn_ann) hisR ?_
  intro p e s m args below meth c s₁ Bd hml0 hP hK
  obtain ⟨rfl, hZ, hh⟩ := hP
  have hx := Bd.exec
  have hby := Bd.bytes
  have hml : c.maxLocals = 3 := hml0
  have hown : s.vm.findClass "com/example/modelwright/modelwright/model/BooleanNode" = some m.cls := findClass_of_methodNamed Bd.named
  have hnm := (name_of_methodNamed Bd.named Bd.method).1
  have X0 : Stand p l e ({ frames := 0, cells := 0, slots := 0, locals := 0 } : Room) s m #[(.ref a1), (.ref a2)] below meth c s₁ [] 0 0 := Stand.of_body Bd
  have e0 : s₁.heap = h0 := by rw [← hh, Bd.state]; rfl
  have N0 := Fr.nil n0
  show own_R p.tables e below (own_P s (Qann Z a1 a2 h0 n0) ({ frames := 0, cells := 0, slots := 0, locals := 0 } : Room).cells ({ frames := 0, cells := 0, slots := 0, locals := 0 } : Room).slots) (s₁.setTop (entryFrame m #[(.ref a1), (.ref a2)] 3))
  refine own_f s₁ (mkF m 0 #[.val (.ref a1), .val (.ref a2), .unset] []) (fun t k => castTop (ef_ann m a1 a2) k) ?_
  refine own_f s₁ (mkF m 1 #[.val (.ref a1), .val (.ref a2), .unset] [(.ref a2)]) (fun t k => XS.aloadN X0.here hx rfl (hb hby dann_0) rfl rfl k) ?_
  obtain ⟨T1, X1, e1, st1⟩ := instNo X0 hx hZ hown (own_w hw 75 rfl) e0 F0 (own_noinst hw) (g := (mkF m 1 #[.val (.ref a1), .val (.ref a2), .unset] [(.ref a2)])) rfl rfl (hb hby dann_1)
  refine own_f T1 (mkF m 4 #[.val (.ref a1), .val (.ref a2), .unset] [(.int (0 : Int32))]) st1 ?_
  refine own_f T1 (mkF m 27 #[.val (.ref a1), .val (.ref a2), .unset] []) (fun t k => XS.ifYes X1.here hx rfl (pc0 := 4) (pc' := 27) rfl (hb hby dann_4) rfl (XT.i0_eq_t (by decide)) (by decide) (by decide) k) ?_
  refine own_f T1 (mkF m 28 #[.val (.ref a1), .val (.ref a2), .unset] [(.int (0 : Int32))]) (fun t k => XT.iconstV X1.here hx rfl (0 : Int32) (hb hby dann_27) (by decide) k) ?_
  obtain ⟨fs, hr, hrun, hended, hW, hsame⟩ := X1.leave (v := some (.int (0 : Int32))) (fun h => by rw [Bd.returns] at h; cases h)
  refine ⟨_, _, retN X1 hx (t := .boolean) Bd.returns (by simp) (hb hby dann_28) hr, hrun, hended, _, _, rfl, ?_, ⟨_, rfl⟩, hW, hsame.mono (by decide) (by decide)⟩
  show Qann Z a1 a2 h0 n0 _ T1.heap _
  rw [e1]
  exact ⟨rfl, N0, rfl⟩
theorem danl_0 : decode prog_45_method_4_code 0 = .ok (.aload_n 1, 1) := by decide +kernel
theorem danl_1 : decode prog_45_method_4_code 1 = .ok (.instanceof 8, 3) := by decide +kernel
theorem danl_4 : decode prog_45_method_4_code 4 = .ok (.ifCond .eq 23, 3) := by decide +kernel
theorem danl_27 : decode prog_45_method_4_code 27 = .ok (.iconst 0, 1) := by decide +kernel
theorem danl_28 : decode prog_45_method_4_code 28 = .ok (.ireturn, 1) := by decide +kernel
theorem pn_anl : plainName "com/example/modelwright/modelwright/model/BooleanNode" = true := by first | (simp [plainName, overriddenIn]; done) | decide +kernel
theorem ef_anl (m : MethodId) (x0 : Addr) : entryFrame m #[(.ref x0), .null] 3 = mkF m 0 #[.val (.ref x0), .val .null, .unset] [] := by first | (simp [entryFrame, mkF, argsToLocals, Value.category]; done) | rfl
def Qanl (Z : State) (a1 : Addr) (h0 : Heap) (n0 : Nat) (v : Option Value) (h : Heap) (L : List Loc) : Prop := v = some (.int (0 : Int32)) ∧ Fr n0 L ∧ h = h0
set_option maxRecDepth 65536 in
set_option maxHeartbeats 40000000 in
theorem rmanl (l : Launch) (Z : State) (a0 : Array Value) (hw : ∀ d ∈ tables_1, d.before a0 Z = true) (ws : List Jvm.Cond) (a1 : Addr) (h0 : Heap) (n0 : Nat) (Z0 : n0 ≤ h0.size) :
    MetFree l (⟨"com/example/modelwright/modelwright/model/BooleanNode", "equals", "(Ljava/lang/Object;)Z"⟩ : MethodName) (head1 (Jvm.Cond.code (⟨"com/example/modelwright/modelwright/model/BooleanNode", "equals", "(Ljava/lang/Object;)Z"⟩ : MethodName) prog_45_method_4_code 3 (some .boolean) :: ws) ({ frames := 0, cells := 0, slots := 0, locals := 0 } : Room)) (fun a U => a = #[(.ref a1), .null] ∧ Z.Warmed39 U.vm ∧ U.heap = h0) (fun _ _ _ _ _ => True) (fun _ U o U' => ∃ v L, o = .returned v ∧ Qanl Z a1 h0 n0 v U'.heap L ∧ FrameEnd U o U' L ({ frames := 0, cells := 0, slots := 0, locals := 0 } : Room).cells ({ frames := 0, cells := 0, slots := 0, locals := 0 } : Room).slots) := by
  refine MetFree.of_bodySF (plainFor_of_name pn_anl) hisR ?_
  intro p e s m args below meth c s₁ Bd hml0 hP hK
  obtain ⟨rfl, hZ, hh⟩ := hP
  have hx := Bd.exec
  have hby := Bd.bytes
  have hml : c.maxLocals = 3 := hml0
  have hown : s.vm.findClass "com/example/modelwright/modelwright/model/BooleanNode" = some m.cls := findClass_of_methodNamed Bd.named
  have hnm := (name_of_methodNamed Bd.named Bd.method).1
  have X0 : Stand p l e ({ frames := 0, cells := 0, slots := 0, locals := 0 } : Room) s m #[(.ref a1), .null] below meth c s₁ [] 0 0 := Stand.of_body Bd
  have e0 : s₁.heap = h0 := by rw [← hh, Bd.state]; rfl
  have N0 := Fr.nil n0
  show own_R p.tables e below (own_P s (Qanl Z a1 h0 n0) ({ frames := 0, cells := 0, slots := 0, locals := 0 } : Room).cells ({ frames := 0, cells := 0, slots := 0, locals := 0 } : Room).slots) (s₁.setTop (entryFrame m #[(.ref a1), .null] 3))
  refine own_f s₁ (mkF m 0 #[.val (.ref a1), .val .null, .unset] []) (fun t k => castTop (ef_anl m a1) k) ?_
  refine own_f s₁ (mkF m 1 #[.val (.ref a1), .val .null, .unset] [.null]) (fun t k => XS.aloadN X0.here hx rfl (hb hby danl_0) rfl rfl k) ?_
  refine own_f s₁ (mkF m 4 #[.val (.ref a1), .val .null, .unset] [(.int (0 : Int32))]) (fun t k => X0.instanceofNull hx (g := (mkF m 1 #[.val (.ref a1), .val .null, .unset] [.null])) rfl rfl (hb hby danl_1) t k) ?_
  refine own_f s₁ (mkF m 27 #[.val (.ref a1), .val .null, .unset] []) (fun t k => XS.ifYes X0.here hx rfl (pc0 := 4) (pc' := 27) rfl (hb hby danl_4) rfl (XT.i0_eq_t (by decide)) (by decide) (by decide) k) ?_
  refine own_f s₁ (mkF m 28 #[.val (.ref a1), .val .null, .unset] [(.int (0 : Int32))]) (fun t k => XT.iconstV X0.here hx rfl (0 : Int32) (hb hby danl_27) (by decide) k) ?_
  obtain ⟨fs, hr, hrun, hended, hW, hsame⟩ := X0.leave (v := some (.int (0 : Int32))) (fun h => by rw [Bd.returns] at h; cases h)
  refine ⟨_, _, retN X0 hx (t := .boolean) Bd.returns (by simp) (hb hby danl_28) hr, hrun, hended, _, _, rfl, ?_, ⟨_, rfl⟩, hW, hsame.mono (by decide) (by decide)⟩
  show Qanl Z a1 h0 n0 _ s₁.heap _
  rw [e0]
  exact ⟨rfl, N0, rfl⟩
theorem pn_0 : plainName "com/example/modelwright/modelwright/model/BooleanNodeEqualsPinLaw" = true := by first | (simp [plainName, overriddenIn]; done) | decide +kernel
theorem ef_0 (m : MethodId) (x0 : Int32) (x1 : Int32) (x2 : Int32) (x3 : Int32) (x4 : Int32) : entryFrame m #[(.int x0), (.int x1), (.int x2), (.int x3), (.int x4)] maxLocals = mkF m 0 #[.val (.int x0), .val (.int x1), .val (.int x2), .val (.int x3), .val (.int x4), .unset, .unset, .unset, .unset, .unset, .unset, .unset] [] := by first | (simp [entryFrame, mkF, argsToLocals, Value.category, maxLocals]; done) | rfl
def Q0 (Z : State) (p1 : Int32) (p2 : Int32) (p3 : Int32) (p4 : Int32) (p5 : Int32) (h0 : Heap) (n0 : Nat) (v : Option Value) (h : Heap) (L : List Loc) : Prop := v = some (.int 1) ∧ Fr n0 L
set_option maxRecDepth 65536 in
set_option maxHeartbeats 40000000 in
theorem rm0 (l : Launch) (Z : State) (a0 : Array Value) (hw : ∀ d ∈ tables_1, d.before a0 Z = true) (ws : List Jvm.Cond) (p1 : Int32) (p2 : Int32) (p3 : Int32) (p4 : Int32) (p5 : Int32) (h0 : Heap) (n0 : Nat) (Z0 : n0 ≤ h0.size) (F0 : Old Z n0 h0) (HH : Jvm.Lit.constHeld Z "com/example/modelwright/modelwright/model/BooleanNodeEqualsPinLaw" 9) (HW : Jvm.Lit.compactW.before a0 Z = true) :
    MetFree l x (head1 (Jvm.Cond.code x code maxLocals ret :: ws) room_1) (fun a U => a = #[(.int p1), (.int p2), (.int p3), (.int p4), (.int p5)] ∧ Z.Warmed39 U.vm ∧ U.heap = h0 ∧ IB Z U.vm []) (fun _ _ _ _ _ => True) (fun _ U o U' => ∃ v L, o = .returned v ∧ Q0 Z p1 p2 p3 p4 p5 h0 n0 v U'.heap L ∧ ReturnedEndW U o U' L room_1.cells room_1.slots) := by
  refine MetFree.of_bodySF (plainFor_of_name pn_0) hisR ?_
  intro p e s m args below meth c s₁ Bd hml0 hP hK
  obtain ⟨rfl, hZ, hh, hIB⟩ := hP
  have hx := Bd.exec
  have hby := Bd.bytes
  have hml : c.maxLocals = 12 := hml0
  have hown : s.vm.findClass "com/example/modelwright/modelwright/model/BooleanNodeEqualsPinLaw" = some m.cls := findClass_of_methodNamed Bd.named
  have hnm := (name_of_methodNamed Bd.named Bd.method).1
  have X0 : Stand p l e room_1 s m #[(.int p1), (.int p2), (.int p3), (.int p4), (.int p5)] below meth c s₁ [] 0 0 := Stand.of_body Bd
  have e0 : s₁.heap = h0 := by rw [← hh, Bd.state]; rfl
  have N0 := Fr.nil n0
  have hZ0 := hZ
  have hown0 := hown
  have hS : s.Since s.vm 0 := (State.WarmedH.refl s).since 0
  have hk : 0 ≤ h0.size := Nat.zero_le _
  show own_R p.tables e below (own_PW s (Q0 Z p1 p2 p3 p4 p5 h0 n0) room_1.cells room_1.slots) (s₁.setTop (entryFrame m #[(.int p1), (.int p2), (.int p3), (.int p4), (.int p5)] maxLocals))
  refine own_f s₁ (mkF m 0 #[.val (.int p1), .val (.int p2), .val (.int p3), .val (.int p4), .val (.int p5), .unset, .unset, .unset, .unset, .unset, .unset, .unset] []) (fun t k => castTop (ef_0 m p1 p2 p3 p4 p5) k) ?_
  refine own_f s₁ (mkF m 1 #[.val (.int p1), .val (.int p2), .val (.int p3), .val (.int p4), .val (.int p5), .unset, .unset, .unset, .unset, .unset, .unset, .unset] [(.int p1)]) (fun t k => XS.iloadN X0.here hx rfl (hb hby at_0) rfl k) ?_
  refine own_f s₁ (mkF m 2 #[.val (.int p1), .val (.int p2), .val (.int p3), .val (.int p4), .val (.int p5), .unset, .unset, .unset, .unset, .unset, .unset, .unset] [(.int (1 : Int32)), (.int p1)]) (fun t k => XT.iconstV X0.here hx rfl (1 : Int32) (hb hby at_1) (by decide) k) ?_
  refine own_f s₁ (mkF m 3 #[.val (.int p1), .val (.int p2), .val (.int p3), .val (.int p4), .val (.int p5), .unset, .unset, .unset, .unset, .unset, .unset, .unset] [(.int (p1 &&& (1 : Int32)))]) (fun t k => XS.iand X0.here hx rfl (hb hby at_2) rfl k) ?_
  have jn1 : ∀ (zv : Int32) (jv : zv = 0 ∨ zv = 1), own_R p.tables e below (own_PW s (Q0 Z p1 p2 p3 p4 p5 h0 n0) room_1.cells room_1.slots) (s₁.setTop (mkF m 11 #[.val (.int p1), .val (.int p2), .val (.int p3), .val (.int p4), .val (.int p5), .unset, .unset, .unset, .unset, .unset, .unset, .unset] [(.int zv)])) := by
    intro zv jv
    refine own_f s₁ (mkF m 13 #[.val (.int p1), .val (.int p2), .val (.int p3), .val (.int p4), .val (.int p5), .val (.int zv), .unset, .unset, .unset, .unset, .unset, .unset] []) (fun t k => XS.istore X0.here hx rfl (hb hby at_11) rfl (l' := #[.val (.int p1), .val (.int p2), .val (.int p3), .val (.int p4), .val (.int p5), .val (.int zv), .unset, .unset, .unset, .unset, .unset, .unset]) rfl k) ?_
    refine own_f s₁ (mkF m 14 #[.val (.int p1), .val (.int p2), .val (.int p3), .val (.int p4), .val (.int p5), .val (.int zv), .unset, .unset, .unset, .unset, .unset, .unset] [(.int p2)]) (fun t k => XS.iloadN X0.here hx rfl (hb hby at_13) rfl k) ?_
    refine own_f s₁ (mkF m 15 #[.val (.int p1), .val (.int p2), .val (.int p3), .val (.int p4), .val (.int p5), .val (.int zv), .unset, .unset, .unset, .unset, .unset, .unset] [(.int (1 : Int32)), (.int p2)]) (fun t k => XT.iconstV X0.here hx rfl (1 : Int32) (hb hby at_14) (by decide) k) ?_
    refine own_f s₁ (mkF m 16 #[.val (.int p1), .val (.int p2), .val (.int p3), .val (.int p4), .val (.int p5), .val (.int zv), .unset, .unset, .unset, .unset, .unset, .unset] [(.int (p2 &&& (1 : Int32)))]) (fun t k => XS.iand X0.here hx rfl (hb hby at_15) rfl k) ?_
    have jn2 : ∀ (zw : Int32) (jw : zw = 0 ∨ zw = 1), own_R p.tables e below (own_PW s (Q0 Z p1 p2 p3 p4 p5 h0 n0) room_1.cells room_1.slots) (s₁.setTop (mkF m 24 #[.val (.int p1), .val (.int p2), .val (.int p3), .val (.int p4), .val (.int p5), .val (.int zv), .unset, .unset, .unset, .unset, .unset, .unset] [(.int zw)])) := by
      intro zw jw
      refine own_f s₁ (mkF m 26 #[.val (.int p1), .val (.int p2), .val (.int p3), .val (.int p4), .val (.int p5), .val (.int zv), .val (.int zw), .unset, .unset, .unset, .unset, .unset] []) (fun t k => XS.istore X0.here hx rfl (hb hby at_24) rfl (l' := #[.val (.int p1), .val (.int p2), .val (.int p3), .val (.int p4), .val (.int p5), .val (.int zv), .val (.int zw), .unset, .unset, .unset, .unset, .unset]) rfl k) ?_
      refine own_f s₁ (mkF m 27 #[.val (.int p1), .val (.int p2), .val (.int p3), .val (.int p4), .val (.int p5), .val (.int zv), .val (.int zw), .unset, .unset, .unset, .unset, .unset] [(.int p3)]) (fun t k => XS.iloadN X0.here hx rfl (hb hby at_26) rfl k) ?_
      refine own_f s₁ (mkF m 28 #[.val (.int p1), .val (.int p2), .val (.int p3), .val (.int p4), .val (.int p5), .val (.int zv), .val (.int zw), .unset, .unset, .unset, .unset, .unset] [(.int (3 : Int32)), (.int p3)]) (fun t k => XT.iconstV X0.here hx rfl (3 : Int32) (hb hby at_27) (by decide) k) ?_
      refine own_f s₁ (mkF m 29 #[.val (.int p1), .val (.int p2), .val (.int p3), .val (.int p4), .val (.int p5), .val (.int zv), .val (.int zw), .unset, .unset, .unset, .unset, .unset] [(.int (p3 &&& (3 : Int32)))]) (fun t k => XS.iand X0.here hx rfl (hb hby at_28) rfl k) ?_
      refine own_f s₁ (mkF m 31 #[.val (.int p1), .val (.int p2), .val (.int p3), .val (.int p4), .val (.int p5), .val (.int zv), .val (.int zw), .val (.int (p3 &&& (3 : Int32))), .unset, .unset, .unset, .unset] []) (fun t k => XS.istore X0.here hx rfl (hb hby at_29) rfl (l' := #[.val (.int p1), .val (.int p2), .val (.int p3), .val (.int p4), .val (.int p5), .val (.int zv), .val (.int zw), .val (.int (p3 &&& (3 : Int32))), .unset, .unset, .unset, .unset]) rfl k) ?_
      obtain ⟨T3, h3, X3, e3, E3, A3, D3, U3, st3⟩ := newO X0 hx hZ hown (own_w hw 0 rfl) (own_w hw 1 rfl) (own_w hw 2 rfl) e0 (g := (mkF m 31 #[.val (.int p1), .val (.int p2), .val (.int p3), .val (.int p4), .val (.int p5), .val (.int zv), .val (.int zw), .val (.int (p3 &&& (3 : Int32))), .unset, .unset, .unset, .unset] [])) rfl (hb hby at_31) (by decide) (by decide)
      obtain ⟨b3, g3⟩ : ∃ z, z = h0.size := ⟨_, rfl⟩
      rw [← g3] at A3 D3 st3
      have ge3 : n0 ≤ b3 := by rw [g3]; exact Z0
      have Zs3 : n0 ≤ h3.size := Nat.le_trans Z0 E3.1
      have hk := Nat.le_trans hk E3.1
      have F_4 := F0.ext E3
      have F_5 : Fld Z h3 b3 "com/example/modelwright/modelwright/model/SourceLocation" "path" "Ljava/lang/String;" .null := D3 (Or.inr (own_w hw 39 rfl)) (ty := (.object "java/lang/String")) (by decide)
      have F_6 : Fld Z h3 b3 "com/example/modelwright/modelwright/model/SourceLocation" "line" "I" (.int 0) := D3 (Or.inr (own_w hw 41 rfl)) (ty := .int) (by decide)
      have F_7 : Fld Z h3 b3 "com/example/modelwright/modelwright/model/SourceLocation" "column" "I" (.int 0) := D3 (Or.inr (own_w hw 43 rfl)) (ty := .int) (by decide)
      refine own_f T3 (mkF m 34 #[.val (.int p1), .val (.int p2), .val (.int p3), .val (.int p4), .val (.int p5), .val (.int zv), .val (.int zw), .val (.int (p3 &&& (3 : Int32))), .unset, .unset, .unset, .unset] [(.ref b3)]) st3 ?_
      refine own_f T3 (mkF m 35 #[.val (.int p1), .val (.int p2), .val (.int p3), .val (.int p4), .val (.int p5), .val (.int zv), .val (.int zw), .val (.int (p3 &&& (3 : Int32))), .unset, .unset, .unset, .unset] [(.ref b3), (.ref b3)]) (fun t k => XS.dup X3.here hx rfl (hb hby at_34) rfl rfl k) ?_
      obtain ⟨b8, T8, h8, ks8, c8, kc8, X8, e8, E8, hS, hk, hZ, hown, Ea8, Fc8, Fv8, Av8, -, -, -, st8⟩ := ldcSV (s := s) (vm0 := s.vm) X3 hx hZ hown (own_w hw 3 rfl) (own_str hw) e3 hS hk (Fr.nil _) (fun b cl q => by rw [hh]; exact F0.2.2 b cl q) hIB (by simp) HH HW (vs := [.int 102]) (z := 1) (by decide) (by decide) (by decide) (g := (mkF m 35 #[.val (.int p1), .val (.int p2), .val (.int p3), .val (.int p4), .val (.int p5), .val (.int zv), .val (.int zw), .val (.int (p3 &&& (3 : Int32))), .unset, .unset, .unset, .unset] [(.ref b3), (.ref b3)])) rfl (hb hby at_35) (n := 4) (by decide) (by decide) (by decide) (by decide)
      have Zs8 : n0 ≤ h8.size := Nat.le_trans Zs3 E8.1
      have F_9 := F_4.ext E8
      have F_10 := A3.ext E8
      have F_11 := F_5.ext E8
      have F_12 := F_6.ext E8
      have F_13 := F_7.ext E8
      refine own_f T8 (mkF m 37 #[.val (.int p1), .val (.int p2), .val (.int p3), .val (.int p4), .val (.int p5), .val (.int zv), .val (.int zw), .val (.int (p3 &&& (3 : Int32))), .unset, .unset, .unset, .unset] [(.ref b8), (.ref b3), (.ref b3)]) st8 ?_
      refine own_f T8 (mkF m 38 #[.val (.int p1), .val (.int p2), .val (.int p3), .val (.int p4), .val (.int p5), .val (.int zv), .val (.int zw), .val (.int (p3 &&& (3 : Int32))), .unset, .unset, .unset, .unset] [(.int (1 : Int32)), (.ref b8), (.ref b3), (.ref b3)]) (fun t k => XT.iconstV X8.here hx rfl (1 : Int32) (hb hby at_37) (by decide) k) ?_
      refine own_f T8 (mkF m 39 #[.val (.int p1), .val (.int p2), .val (.int p3), .val (.int p4), .val (.int p5), .val (.int zv), .val (.int zw), .val (.int (p3 &&& (3 : Int32))), .unset, .unset, .unset, .unset] [(.int p4), (.int (1 : Int32)), (.ref b8), (.ref b3), (.ref b3)]) (fun t k => XS.iloadN X8.here hx rfl (hb hby at_38) rfl k) ?_
      refine own_f T8 (mkF m 41 #[.val (.int p1), .val (.int p2), .val (.int p3), .val (.int p4), .val (.int p5), .val (.int zv), .val (.int zw), .val (.int (p3 &&& (3 : Int32))), .unset, .unset, .unset, .unset] [(.int (2147483647 : Int32)), (.int p4), (.int (1 : Int32)), (.ref b8), (.ref b3), (.ref b3)]) (fun t k => X8.ldcI hx hown (mvT hZ (own_w hw 11 rfl)) rfl (hb hby at_39) k) ?_
      refine own_f T8 (mkF m 42 #[.val (.int p1), .val (.int p2), .val (.int p3), .val (.int p4), .val (.int p5), .val (.int zv), .val (.int zw), .val (.int (p3 &&& (3 : Int32))), .unset, .unset, .unset, .unset] [(.int (p4 &&& (2147483647 : Int32))), (.int (1 : Int32)), (.ref b8), (.ref b3), (.ref b3)]) (fun t k => XS.iand X8.here hx rfl (hb hby at_41) rfl k) ?_
      obtain ⟨_, _, ⟨T14, Lq14, kq_14, nq_14⟩, -, X14, ⟨Lc14, hQ14, lq14, yq14, zq14⟩, st14⟩ := Jvm.LawKit.callS X8 hx (y := (⟨"java/lang/Math", "max", "(II)I"⟩ : MethodName)) hown (mvT hZ (own_w hw 12 rfl)) (mvT hZ (own_w hw 13 rfl)) (mvT hZ (own_w hw 14 rfl)) (mvT hZ (own_w hw 15 rfl)) (by decide) (backOf (W := 3) (rm3 l Z a0 hw [] (1 : Int32) (p4 &&& (2147483647 : Int32)) h8 n0 Zs8 ) hZ (own_w hw 15 rfl) (own_w hw 14 rfl) (by decide) (by decide)) (g := (mkF m 42 #[.val (.int p1), .val (.int p2), .val (.int p3), .val (.int p4), .val (.int p5), .val (.int zv), .val (.int zw), .val (.int (p3 &&& (3 : Int32))), .unset, .unset, .unset, .unset] [(.int (p4 &&& (2147483647 : Int32))), (.int (1 : Int32)), (.ref b8), (.ref b3), (.ref b3)])) rfl (by rw [hml]; rfl) (argsL := [(.int (1 : Int32)), (.int (p4 &&& (2147483647 : Int32)))]) (rest := [(.ref b8), (.ref b3), (.ref b3)]) (lenOf pd__II_I rfl) rfl (by show 2 * 0 + _ ≤ _; exact Nat.le_of_eq rfl) (hb hby at_42) (fun _ _ => ⟨rfl, e8, (by decide : 0 + 1 + 2 + 0 ≤ _), (by decide : 0 + 3 + (4 + 4) + 0 ≤ _)⟩)
      dsimp only [Pt.U, Pt.locs, Pt.cells, Pt.slots] at X14 lq14 yq14 zq14 st14 hQ14
      subst lq14 yq14 zq14
      obtain ⟨h14, e14⟩ : ∃ z, T14.heap = z := ⟨_, rfl⟩
      rw [e14] at hQ14
      unfold Q3 at hQ14
      obtain ⟨rfl, Nq14, qh14⟩ := hQ14
      have N14 := Fr.app N0 Nq14
      rw [qh14] at e14
      refine own_f T14 (mkF m 45 #[.val (.int p1), .val (.int p2), .val (.int p3), .val (.int p4), .val (.int p5), .val (.int zv), .val (.int zw), .val (.int (p3 &&& (3 : Int32))), .unset, .unset, .unset, .unset] [(.int (own_mx (1 : Int32) (p4 &&& (2147483647 : Int32)))), (.ref b8), (.ref b3), (.ref b3)]) st14 ?_
      refine own_f T14 (mkF m 46 #[.val (.int p1), .val (.int p2), .val (.int p3), .val (.int p4), .val (.int p5), .val (.int zv), .val (.int zw), .val (.int (p3 &&& (3 : Int32))), .unset, .unset, .unset, .unset] [(.int (1 : Int32)), (.int (own_mx (1 : Int32) (p4 &&& (2147483647 : Int32)))), (.ref b8), (.ref b3), (.ref b3)]) (fun t k => XT.iconstV X14.here hx rfl (1 : Int32) (hb hby at_45) (by decide) k) ?_
      refine own_f T14 (mkF m 48 #[.val (.int p1), .val (.int p2), .val (.int p3), .val (.int p4), .val (.int p5), .val (.int zv), .val (.int zw), .val (.int (p3 &&& (3 : Int32))), .unset, .unset, .unset, .unset] [(.int p5), (.int (1 : Int32)), (.int (own_mx (1 : Int32) (p4 &&& (2147483647 : Int32)))), (.ref b8), (.ref b3), (.ref b3)]) (fun t k => XS.iload X14.here hx rfl (hb hby at_46) rfl k) ?_
      refine own_f T14 (mkF m 50 #[.val (.int p1), .val (.int p2), .val (.int p3), .val (.int p4), .val (.int p5), .val (.int zv), .val (.int zw), .val (.int (p3 &&& (3 : Int32))), .unset, .unset, .unset, .unset] [(.int (2147483647 : Int32)), (.int p5), (.int (1 : Int32)), (.int (own_mx (1 : Int32) (p4 &&& (2147483647 : Int32)))), (.ref b8), (.ref b3), (.ref b3)]) (fun t k => X14.ldcI hx hown (mvT hZ (own_w hw 11 rfl)) rfl (hb hby at_48) k) ?_
      refine own_f T14 (mkF m 51 #[.val (.int p1), .val (.int p2), .val (.int p3), .val (.int p4), .val (.int p5), .val (.int zv), .val (.int zw), .val (.int (p3 &&& (3 : Int32))), .unset, .unset, .unset, .unset] [(.int (p5 &&& (2147483647 : Int32))), (.int (1 : Int32)), (.int (own_mx (1 : Int32) (p4 &&& (2147483647 : Int32)))), (.ref b8), (.ref b3), (.ref b3)]) (fun t k => XS.iand X14.here hx rfl (hb hby at_50) rfl k) ?_
      obtain ⟨_, _, ⟨T15, Lq15, kq_15, nq_15⟩, -, X15, ⟨Lc15, hQ15, lq15, yq15, zq15⟩, st15⟩ := Jvm.LawKit.callS X14 hx (y := (⟨"java/lang/Math", "max", "(II)I"⟩ : MethodName)) hown (mvT hZ (own_w hw 12 rfl)) (mvT hZ (own_w hw 13 rfl)) (mvT hZ (own_w hw 14 rfl)) (mvT hZ (own_w hw 15 rfl)) (by decide) (backOf (W := 4) (rm3 l Z a0 hw [] (1 : Int32) (p5 &&& (2147483647 : Int32)) h8 n0 Zs8 ) hZ (own_w hw 15 rfl) (own_w hw 14 rfl) (by decide) (by decide)) (g := (mkF m 51 #[.val (.int p1), .val (.int p2), .val (.int p3), .val (.int p4), .val (.int p5), .val (.int zv), .val (.int zw), .val (.int (p3 &&& (3 : Int32))), .unset, .unset, .unset, .unset] [(.int (p5 &&& (2147483647 : Int32))), (.int (1 : Int32)), (.int (own_mx (1 : Int32) (p4 &&& (2147483647 : Int32)))), (.ref b8), (.ref b3), (.ref b3)])) rfl (by rw [hml]; rfl) (argsL := [(.int (1 : Int32)), (.int (p5 &&& (2147483647 : Int32)))]) (rest := [(.int (own_mx (1 : Int32) (p4 &&& (2147483647 : Int32)))), (.ref b8), (.ref b3), (.ref b3)]) (lenOf pd__II_I rfl) rfl (by show 2 * 0 + _ ≤ _; exact Nat.le_of_eq rfl) (hb hby at_51) (fun _ _ => ⟨rfl, e14, (by decide : 0 + 1 + 2 + 0 + 0 ≤ _), (by decide : 0 + 3 + (4 + 4) + 0 + 0 ≤ _)⟩)
      dsimp only [Pt.U, Pt.locs, Pt.cells, Pt.slots] at X15 lq15 yq15 zq15 st15 hQ15
      subst lq15 yq15 zq15
      obtain ⟨h15, e15⟩ : ∃ z, T15.heap = z := ⟨_, rfl⟩
      rw [e15] at hQ15
      unfold Q3 at hQ15
      obtain ⟨rfl, Nq15, qh15⟩ := hQ15
      have N15 := Fr.app N14 Nq15
      rw [qh15] at e15
      refine own_f T15 (mkF m 54 #[.val (.int p1), .val (.int p2), .val (.int p3), .val (.int p4), .val (.int p5), .val (.int zv), .val (.int zw), .val (.int (p3 &&& (3 : Int32))), .unset, .unset, .unset, .unset] [(.int (own_mx (1 : Int32) (p5 &&& (2147483647 : Int32)))), (.int (own_mx (1 : Int32) (p4 &&& (2147483647 : Int32)))), (.ref b8), (.ref b3), (.ref b3)]) st15 ?_
      obtain ⟨_, _, ⟨T16, Lq16, kq_16, nq_16⟩, -, X16, hSn16, hgr16, ⟨Lc16, hQ16, lq16, yq16, zq16⟩, st16⟩ := X15.specialBackS hx (y := (⟨"com/example/modelwright/modelwright/model/SourceLocation", "<init>", "(Ljava/lang/String;II)V"⟩ : MethodName)) rfl hown (mvT hZ (own_w hw 16 rfl)) (mvT hZ (own_w hw 17 rfl)) (mvT hZ (own_w hw 18 rfl)) (by decide) (backOfS (W := 1) (rm1 l Z a0 hw [] b3 b8 (own_mx (1 : Int32) (p4 &&& (2147483647 : Int32))) (own_mx (1 : Int32) (p5 &&& (2147483647 : Int32))) _ _ _ _ _ _ _ h8 n0 Zs8 F_10 F_11 F_12 F_13 Ea8 Fv8 Av8 ge3 (by decide) (own_mx1 _) (own_mx1 _)) hZ (own_w hw 18 rfl) (own_w hw 2 rfl) (by decide) (by decide)) (g := (mkF m 54 #[.val (.int p1), .val (.int p2), .val (.int p3), .val (.int p4), .val (.int p5), .val (.int zv), .val (.int zw), .val (.int (p3 &&& (3 : Int32))), .unset, .unset, .unset, .unset] [(.int (own_mx (1 : Int32) (p5 &&& (2147483647 : Int32)))), (.int (own_mx (1 : Int32) (p4 &&& (2147483647 : Int32)))), (.ref b8), (.ref b3), (.ref b3)])) rfl (by rw [hml]; rfl) (Steps.refl _) (a := b3) (argsL := [(.ref b8), (.int (own_mx (1 : Int32) (p4 &&& (2147483647 : Int32)))), (.int (own_mx (1 : Int32) (p5 &&& (2147483647 : Int32))))]) (rest := [(.ref b3)]) (lenOf pd__Ljava_lang_String_II_V rfl) rfl (by show 2 * 0 + _ ≤ _; exact Nat.le_of_eq rfl) (hb hby at_54) (fun _ _ => ⟨rfl, e15, (by decide : 0 + 1 + 2 + 0 + 0 + 2 ≤ _), (by decide : 0 + 3 + (4 + 4) + 0 + 0 + 20 ≤ _)⟩)
      dsimp only [Pt.U, Pt.locs, Pt.cells, Pt.slots] at X16 lq16 yq16 zq16 st16 hQ16 hSn16 hgr16
      subst lq16 yq16 zq16
      obtain ⟨h16, e16⟩ : ∃ z, T16.heap = z := ⟨_, rfl⟩
      rw [e16] at hQ16
      have hS : s.Since T16.vm T16.heap.size := foldS (T := T15) (U := T16) hS (by rw [e15]; exact hk) hSn16 hgr16
      have hZ : Z.Warmed39 (s.setVm T16.vm).vm := State.Warmed39.trans hZ0 hS.1
      have hown : (s.setVm T16.vm).vm.findClass "com/example/modelwright/modelwright/model/BooleanNodeEqualsPinLaw" = some m.cls := by rw [show (s.setVm T16.vm).vm = T16.vm from rfl, hS.1.alike.findClass]; exact hown0
      have X16 : Stand p l e room_1 (s.setVm T16.vm) m #[(.int p1), (.int p2), (.int p3), (.int p4), (.int p5)] below meth c T16 _ _ _ := X16
      have hk : T16.heap.size ≤ h16.size := Nat.le_of_eq (by rw [e16])
      unfold Q1 at hQ16
      obtain ⟨rfl, Nq16, qh16⟩ := hQ16
      have N16 := Fr.app N15 Nq16
      have Zs16 : n0 ≤ h16.size := Nat.le_trans Zs8 qh16.1
      have F_17 := F_10.keep qh16
      refine own_g T16 (mkF m 57 #[.val (.int p1), .val (.int p2), .val (.int p3), .val (.int p4), .val (.int p5), .val (.int zv), .val (.int zw), .val (.int (p3 &&& (3 : Int32))), .unset, .unset, .unset, .unset] [(.ref b3)]) st16 ?_
      refine own_f T16 (mkF m 59 #[.val (.int p1), .val (.int p2), .val (.int p3), .val (.int p4), .val (.int p5), .val (.int zv), .val (.int zw), .val (.int (p3 &&& (3 : Int32))), .val (.ref b3), .unset, .unset, .unset] []) (fun t k => XS.astore X16.here hx rfl (hb hby at_57) rfl rfl (l' := #[.val (.int p1), .val (.int p2), .val (.int p3), .val (.int p4), .val (.int p5), .val (.int zv), .val (.int zw), .val (.int (p3 &&& (3 : Int32))), .val (.ref b3), .unset, .unset, .unset]) rfl k) ?_
      obtain ⟨T18, h18, X18, e18, E18, A18, D18, U18, st18⟩ := newO X16 hx hZ hown (own_w hw 44 rfl) (own_w hw 45 rfl) (own_w hw 46 rfl) e16 (g := (mkF m 59 #[.val (.int p1), .val (.int p2), .val (.int p3), .val (.int p4), .val (.int p5), .val (.int zv), .val (.int zw), .val (.int (p3 &&& (3 : Int32))), .val (.ref b3), .unset, .unset, .unset] [])) rfl (hb hby at_59) (by decide) (by decide)
      obtain ⟨b18, g18⟩ : ∃ z, z = h16.size := ⟨_, rfl⟩
      rw [← g18] at A18 D18 st18
      have ge18 : n0 ≤ b18 := by rw [g18]; exact Zs16
      have Zs18 : n0 ≤ h18.size := Nat.le_trans Zs16 E18.1
      have hk := Nat.le_trans hk E18.1
      have F_19 : Fld Z h18 b18 "com/example/modelwright/modelwright/model/BooleanNode" "value" "Z" (.int 0) := D18 (Or.inr (own_w hw 55 rfl)) (ty := .boolean) (by decide)
      have F_20 : Fld Z h18 b18 "com/example/modelwright/modelwright/model/BooleanNode" "location" "Lcom/example/modelwright/modelwright/model/SourceLocation;" .null := D18 (Or.inr (own_w hw 57 rfl)) (ty := (.object "com/example/modelwright/modelwright/model/SourceLocation")) (by decide)
      refine own_f T18 (mkF m 62 #[.val (.int p1), .val (.int p2), .val (.int p3), .val (.int p4), .val (.int p5), .val (.int zv), .val (.int zw), .val (.int (p3 &&& (3 : Int32))), .val (.ref b3), .unset, .unset, .unset] [(.ref b18)]) st18 ?_
      refine own_f T18 (mkF m 63 #[.val (.int p1), .val (.int p2), .val (.int p3), .val (.int p4), .val (.int p5), .val (.int zv), .val (.int zw), .val (.int (p3 &&& (3 : Int32))), .val (.ref b3), .unset, .unset, .unset] [(.ref b18), (.ref b18)]) (fun t k => XS.dup X18.here hx rfl (hb hby at_62) rfl rfl k) ?_
      refine own_f T18 (mkF m 65 #[.val (.int p1), .val (.int p2), .val (.int p3), .val (.int p4), .val (.int p5), .val (.int zv), .val (.int zw), .val (.int (p3 &&& (3 : Int32))), .val (.ref b3), .unset, .unset, .unset] [(.int zv), (.ref b18), (.ref b18)]) (fun t k => XS.iload X18.here hx rfl (hb hby at_63) rfl k) ?_
      obtain ⟨_, _, ⟨T21, Lq21, kq_21, nq_21⟩, -, X21, ⟨Lc21, hQ21, lq21, yq21, zq21⟩, st21⟩ := X18.specialBack hx (y := (⟨"com/example/modelwright/modelwright/model/BooleanNode", "<init>", "(Z)V"⟩ : MethodName)) rfl hown (mvT hZ (own_w hw 47 rfl)) (mvT hZ (own_w hw 48 rfl)) (mvT hZ (own_w hw 49 rfl)) (by decide) (backOf (W := 1) (rm7 l Z a0 hw [] b18 zv _ _ h18 n0 Zs18 A18 F_19 F_20 ge18 jv) hZ (own_w hw 49 rfl) (own_w hw 46 rfl) (by decide) (by decide)) (g := (mkF m 65 #[.val (.int p1), .val (.int p2), .val (.int p3), .val (.int p4), .val (.int p5), .val (.int zv), .val (.int zw), .val (.int (p3 &&& (3 : Int32))), .val (.ref b3), .unset, .unset, .unset] [(.int zv), (.ref b18), (.ref b18)])) rfl (by rw [hml]; rfl) (Steps.refl _) (a := b18) (argsL := [(.int zv)]) (rest := [(.ref b18)]) (lenOf pd__Z_V rfl) rfl (by show 2 * 0 + _ ≤ _; exact Nat.le_of_eq rfl) (hb hby at_65) (fun _ _ => ⟨rfl, e18, (by decide : 0 + 1 + 2 + 0 + 0 + 2 + 1 + 0 ≤ _), (by decide : 0 + 3 + (4 + 4) + 0 + 0 + 20 + 2 + 0 ≤ _)⟩)
      dsimp only [Pt.U, Pt.locs, Pt.cells, Pt.slots] at X21 lq21 yq21 zq21 st21 hQ21
      subst lq21 yq21 zq21
      obtain ⟨h21, e21⟩ : ∃ z, T21.heap = z := ⟨_, rfl⟩
      rw [e21] at hQ21
      unfold Q7 at hQ21
      obtain ⟨rfl, Nq21, qh21, G21_0, G21_1⟩ := hQ21
      have N21 := Fr.app N16 Nq21
      have Zs21 : n0 ≤ h21.size := Nat.le_trans Zs18 qh21.1
      have hk := Nat.le_trans hk qh21.1
      refine own_g T21 (mkF m 68 #[.val (.int p1), .val (.int p2), .val (.int p3), .val (.int p4), .val (.int p5), .val (.int zv), .val (.int zw), .val (.int (p3 &&& (3 : Int32))), .val (.ref b3), .unset, .unset, .unset] [(.ref b18)]) st21 ?_
      refine own_f T21 (mkF m 70 #[.val (.int p1), .val (.int p2), .val (.int p3), .val (.int p4), .val (.int p5), .val (.int zv), .val (.int zw), .val (.int (p3 &&& (3 : Int32))), .val (.ref b3), .val (.ref b18), .unset, .unset] []) (fun t k => XS.astore X21.here hx rfl (hb hby at_68) rfl rfl (l' := #[.val (.int p1), .val (.int p2), .val (.int p3), .val (.int p4), .val (.int p5), .val (.int zv), .val (.int zw), .val (.int (p3 &&& (3 : Int32))), .val (.ref b3), .val (.ref b18), .unset, .unset]) rfl k) ?_
      refine own_f T21 (mkF m 72 #[.val (.int p1), .val (.int p2), .val (.int p3), .val (.int p4), .val (.int p5), .val (.int zv), .val (.int zw), .val (.int (p3 &&& (3 : Int32))), .val (.ref b3), .val (.ref b18), .unset, .unset] [(.int (p3 &&& (3 : Int32)))]) (fun t k => XS.iload X21.here hx rfl (hb hby at_70) rfl k) ?_
      by_cases hc22 : (p3 &&& (3 : Int32)) = 0
      · skip
        refine own_f T21 (mkF m 75 #[.val (.int p1), .val (.int p2), .val (.int p3), .val (.int p4), .val (.int p5), .val (.int zv), .val (.int zw), .val (.int (p3 &&& (3 : Int32))), .val (.ref b3), .val (.ref b18), .unset, .unset] []) (fun t k => XS.ifNo X21.here hx rfl (hb hby at_72) rfl (XT.i0_ne_f hc22) k) ?_
        obtain ⟨T23, h23, X23, e23, E23, A23, D23, U23, st23⟩ := newO X21 hx hZ hown (own_w hw 44 rfl) (own_w hw 45 rfl) (own_w hw 46 rfl) e21 (g := (mkF m 75 #[.val (.int p1), .val (.int p2), .val (.int p3), .val (.int p4), .val (.int p5), .val (.int zv), .val (.int zw), .val (.int (p3 &&& (3 : Int32))), .val (.ref b3), .val (.ref b18), .unset, .unset] [])) rfl (hb hby at_75) (by decide) (by decide)
        obtain ⟨b23, g23⟩ : ∃ z, z = h21.size := ⟨_, rfl⟩
        rw [← g23] at A23 D23 st23
        have ne23_b18 : b18 ≠ b23 := by rw [g23]; exact Nat.ne_of_lt G21_0.lt
        have ge23 : n0 ≤ b23 := by rw [g23]; exact Zs21
        have Zs23 : n0 ≤ h23.size := Nat.le_trans Zs21 E23.1
        have hk := Nat.le_trans hk E23.1
        have F_24 := G21_0.ext E23
        have F_25 := G21_1.ext E23
        have F_26 : Fld Z h23 b23 "com/example/modelwright/modelwright/model/BooleanNode" "value" "Z" (.int 0) := D23 (Or.inr (own_w hw 55 rfl)) (ty := .boolean) (by decide)
        have F_27 : Fld Z h23 b23 "com/example/modelwright/modelwright/model/BooleanNode" "location" "Lcom/example/modelwright/modelwright/model/SourceLocation;" .null := D23 (Or.inr (own_w hw 57 rfl)) (ty := (.object "com/example/modelwright/modelwright/model/SourceLocation")) (by decide)
        refine own_f T23 (mkF m 78 #[.val (.int p1), .val (.int p2), .val (.int p3), .val (.int p4), .val (.int p5), .val (.int zv), .val (.int zw), .val (.int (p3 &&& (3 : Int32))), .val (.ref b3), .val (.ref b18), .unset, .unset] [(.ref b23)]) st23 ?_
        refine own_f T23 (mkF m 79 #[.val (.int p1), .val (.int p2), .val (.int p3), .val (.int p4), .val (.int p5), .val (.int zv), .val (.int zw), .val (.int (p3 &&& (3 : Int32))), .val (.ref b3), .val (.ref b18), .unset, .unset] [(.ref b23), (.ref b23)]) (fun t k => XS.dup X23.here hx rfl (hb hby at_78) rfl rfl k) ?_
        refine own_f T23 (mkF m 81 #[.val (.int p1), .val (.int p2), .val (.int p3), .val (.int p4), .val (.int p5), .val (.int zv), .val (.int zw), .val (.int (p3 &&& (3 : Int32))), .val (.ref b3), .val (.ref b18), .unset, .unset] [(.int zw), (.ref b23), (.ref b23)]) (fun t k => XS.iload X23.here hx rfl (hb hby at_79) rfl k) ?_
        obtain ⟨_, _, ⟨T28, Lq28, kq_28, nq_28⟩, -, X28, ⟨Lc28, hQ28, lq28, yq28, zq28⟩, st28⟩ := X23.specialBack hx (y := (⟨"com/example/modelwright/modelwright/model/BooleanNode", "<init>", "(Z)V"⟩ : MethodName)) rfl hown (mvT hZ (own_w hw 47 rfl)) (mvT hZ (own_w hw 48 rfl)) (mvT hZ (own_w hw 49 rfl)) (by decide) (backOf (W := 1) (rm7 l Z a0 hw [] b23 zw _ _ h23 n0 Zs23 A23 F_26 F_27 ge23 jw) hZ (own_w hw 49 rfl) (own_w hw 46 rfl) (by decide) (by decide)) (g := (mkF m 81 #[.val (.int p1), .val (.int p2), .val (.int p3), .val (.int p4), .val (.int p5), .val (.int zv), .val (.int zw), .val (.int (p3 &&& (3 : Int32))), .val (.ref b3), .val (.ref b18), .unset, .unset] [(.int zw), (.ref b23), (.ref b23)])) rfl (by rw [hml]; rfl) (Steps.refl _) (a := b23) (argsL := [(.int zw)]) (rest := [(.ref b23)]) (lenOf pd__Z_V rfl) rfl (by show 2 * 0 + _ ≤ _; exact Nat.le_of_eq rfl) (hb hby at_81) (fun _ _ => ⟨rfl, e23, (by decide : 0 + 1 + 2 + 0 + 0 + 2 + 1 + 0 + 1 + 0 ≤ _), (by decide : 0 + 3 + (4 + 4) + 0 + 0 + 20 + 2 + 0 + 2 + 0 ≤ _)⟩)
        dsimp only [Pt.U, Pt.locs, Pt.cells, Pt.slots] at X28 lq28 yq28 zq28 st28 hQ28
        subst lq28 yq28 zq28
        obtain ⟨h28, e28⟩ : ∃ z, T28.heap = z := ⟨_, rfl⟩
        rw [e28] at hQ28
        unfold Q7 at hQ28
        obtain ⟨rfl, Nq28, qh28, G28_0, G28_1⟩ := hQ28
        have N28 := Fr.app N21 Nq28
        have Zs28 : n0 ≤ h28.size := Nat.le_trans Zs23 qh28.1
        have hk := Nat.le_trans hk qh28.1
        have F_29 := F_24.keep qh28
        have F_30 := F_25.keep qh28 (ninS ne23_b18 nin0)
        refine own_g T28 (mkF m 84 #[.val (.int p1), .val (.int p2), .val (.int p3), .val (.int p4), .val (.int p5), .val (.int zv), .val (.int zw), .val (.int (p3 &&& (3 : Int32))), .val (.ref b3), .val (.ref b18), .unset, .unset] [(.ref b23)]) st28 ?_
        refine own_f T28 (mkF m 86 #[.val (.int p1), .val (.int p2), .val (.int p3), .val (.int p4), .val (.int p5), .val (.int zv), .val (.int zw), .val (.int (p3 &&& (3 : Int32))), .val (.ref b3), .val (.ref b18), .val (.ref b23), .unset] []) (fun t k => XS.astore X28.here hx rfl (hb hby at_84) rfl rfl (l' := #[.val (.int p1), .val (.int p2), .val (.int p3), .val (.int p4), .val (.int p5), .val (.int zv), .val (.int zw), .val (.int (p3 &&& (3 : Int32))), .val (.ref b3), .val (.ref b18), .val (.ref b23), .unset]) rfl k) ?_
        refine own_f T28 (mkF m 88 #[.val (.int p1), .val (.int p2), .val (.int p3), .val (.int p4), .val (.int p5), .val (.int zv), .val (.int zw), .val (.int (p3 &&& (3 : Int32))), .val (.ref b3), .val (.ref b18), .val (.ref b23), .unset] [(.int zv)]) (fun t k => XS.iload X28.here hx rfl (hb hby at_86) rfl k) ?_
        refine own_f T28 (mkF m 90 #[.val (.int p1), .val (.int p2), .val (.int p3), .val (.int p4), .val (.int p5), .val (.int zv), .val (.int zw), .val (.int (p3 &&& (3 : Int32))), .val (.ref b3), .val (.ref b18), .val (.ref b23), .unset] [(.int zw), (.int zv)]) (fun t k => XS.iload X28.here hx rfl (hb hby at_88) rfl k) ?_
        by_cases hc31 : zv = zw
        · skip
          refine own_f T28 (mkF m 93 #[.val (.int p1), .val (.int p2), .val (.int p3), .val (.int p4), .val (.int p5), .val (.int zv), .val (.int zw), .val (.int (p3 &&& (3 : Int32))), .val (.ref b3), .val (.ref b18), .val (.ref b23), .unset] []) (fun t k => XS.icmpNo X28.here hx rfl (hb hby at_90) rfl (XT.ii_ne_f hc31) k) ?_
          refine own_f T28 (mkF m 94 #[.val (.int p1), .val (.int p2), .val (.int p3), .val (.int p4), .val (.int p5), .val (.int zv), .val (.int zw), .val (.int (p3 &&& (3 : Int32))), .val (.ref b3), .val (.ref b18), .val (.ref b23), .unset] [(.int (1 : Int32))]) (fun t k => XT.iconstV X28.here hx rfl (1 : Int32) (hb hby at_93) (by decide) k) ?_
          refine own_f T28 (mkF m 98 #[.val (.int p1), .val (.int p2), .val (.int p3), .val (.int p4), .val (.int p5), .val (.int zv), .val (.int zw), .val (.int (p3 &&& (3 : Int32))), .val (.ref b3), .val (.ref b18), .val (.ref b23), .unset] [(.int (1 : Int32))]) (fun t k => XS.goto X28.here hx rfl (pc0 := 94) (pc' := 98) rfl (hb hby at_94) (by decide) (by decide) k) ?_
          refine own_f T28 (mkF m 100 #[.val (.int p1), .val (.int p2), .val (.int p3), .val (.int p4), .val (.int p5), .val (.int zv), .val (.int zw), .val (.int (p3 &&& (3 : Int32))), .val (.ref b3), .val (.ref b18), .val (.ref b23), .val (.int (1 : Int32))] []) (fun t k => XS.istore X28.here hx rfl (hb hby at_98) rfl (l' := #[.val (.int p1), .val (.int p2), .val (.int p3), .val (.int p4), .val (.int p5), .val (.int zv), .val (.int zw), .val (.int (p3 &&& (3 : Int32))), .val (.ref b3), .val (.ref b18), .val (.ref b23), .val (.int (1 : Int32))]) rfl k) ?_
          refine own_f T28 (mkF m 166 #[.val (.int p1), .val (.int p2), .val (.int p3), .val (.int p4), .val (.int p5), .val (.int zv), .val (.int zw), .val (.int (p3 &&& (3 : Int32))), .val (.ref b3), .val (.ref b18), .val (.ref b23), .val (.int (1 : Int32))] []) (fun t k => XS.goto X28.here hx rfl (pc0 := 100) (pc' := 166) rfl (hb hby at_100) (by decide) (by decide) k) ?_
          refine own_f T28 (mkF m 168 #[.val (.int p1), .val (.int p2), .val (.int p3), .val (.int p4), .val (.int p5), .val (.int zv), .val (.int zw), .val (.int (p3 &&& (3 : Int32))), .val (.ref b3), .val (.ref b18), .val (.ref b23), .val (.int (1 : Int32))] [(.ref b18)]) (fun t k => XS.aload X28.here hx rfl (hb hby at_166) rfl rfl k) ?_
          refine own_f T28 (mkF m 170 #[.val (.int p1), .val (.int p2), .val (.int p3), .val (.int p4), .val (.int p5), .val (.int zv), .val (.int zw), .val (.int (p3 &&& (3 : Int32))), .val (.ref b3), .val (.ref b18), .val (.ref b23), .val (.int (1 : Int32))] [(.ref b23), (.ref b18)]) (fun t k => XS.aload X28.here hx rfl (hb hby at_168) rfl rfl k) ?_
          obtain ⟨cq32, kq32, qa32, qb32, qc32⟩ := isOf hZ e28 F_29
          obtain ⟨_, _, ⟨T32, Lq32, kq_32, nq_32⟩, -, X32, ⟨Lc32, hQ32, lq32, yq32, zq32⟩, st32⟩ := X28.virtualBack hx (y := (⟨"com/example/modelwright/modelwright/model/BooleanNode", "equals", "(Ljava/lang/Object;)Z"⟩ : MethodName)) (z := (⟨"com/example/modelwright/modelwright/model/BooleanNode", "equals", "(Ljava/lang/Object;)Z"⟩ : MethodName)) hown (mvT hZ (own_w hw 70 rfl)) (mvT hZ (own_w hw 71 rfl)) (notFace_of_selects (args := #[]) (mvT hZ (own_w hw 73 rfl))) (mvT hZ (own_w hw 73 rfl)) (mvT hZ (own_w hw 72 rfl)) (by decide) (backOf (W := 0) (rmabn l Z a0 hw [] b18 b23 _ _ h28 n0 Zs28 F_30 G28_0 G28_1) hZ (own_w hw 74 rfl) (own_w hw 46 rfl) (by decide) (by decide)) qa32 qc32 (g := (mkF m 170 #[.val (.int p1), .val (.int p2), .val (.int p3), .val (.int p4), .val (.int p5), .val (.int zv), .val (.int zw), .val (.int (p3 &&& (3 : Int32))), .val (.ref b3), .val (.ref b18), .val (.ref b23), .val (.int (1 : Int32))] [(.ref b23), (.ref b18)])) rfl (by rw [hml]; rfl) (Steps.refl _) (argsL := [(.ref b23)]) (rest := []) (lenOf pd__Ljava_lang_Object_Z rfl) rfl (by show 2 * 0 + _ ≤ _; exact Nat.le_of_eq rfl) (hb hby at_170) (fun _ _ => ⟨rfl, e28, (by decide : 0 + 1 + 2 + 0 + 0 + 2 + 1 + 0 + 1 + 0 + 0 ≤ _), (by decide : 0 + 3 + (4 + 4) + 0 + 0 + 20 + 2 + 0 + 2 + 0 + 0 ≤ _)⟩)
          dsimp only [Pt.U, Pt.locs, Pt.cells, Pt.slots] at X32 lq32 yq32 zq32 st32 hQ32
          subst lq32 yq32 zq32
          obtain ⟨h32, e32⟩ : ∃ z, T32.heap = z := ⟨_, rfl⟩
          rw [e32] at hQ32
          unfold Qabn at hQ32
          obtain ⟨rfl, Nq32, qh32⟩ := hQ32
          have N32 := Fr.app N28 Nq32
          rw [qh32] at e32
          refine own_g T32 (mkF m 173 #[.val (.int p1), .val (.int p2), .val (.int p3), .val (.int p4), .val (.int p5), .val (.int zv), .val (.int zw), .val (.int (p3 &&& (3 : Int32))), .val (.ref b3), .val (.ref b18), .val (.ref b23), .val (.int (1 : Int32))] [(.int (own_eq zv zw))]) st32 ?_
          refine own_f T32 (mkF m 175 #[.val (.int p1), .val (.int p2), .val (.int p3), .val (.int p4), .val (.int p5), .val (.int zv), .val (.int zw), .val (.int (p3 &&& (3 : Int32))), .val (.ref b3), .val (.ref b18), .val (.ref b23), .val (.int (1 : Int32))] [(.int (1 : Int32)), (.int (own_eq zv zw))]) (fun t k => XS.iload X32.here hx rfl (hb hby at_173) rfl k) ?_
          have hc33 : (own_eq zv zw) = (1 : Int32) := by rw [own_eq, if_pos hc31] <;> rfl
          refine own_f T32 (mkF m 178 #[.val (.int p1), .val (.int p2), .val (.int p3), .val (.int p4), .val (.int p5), .val (.int zv), .val (.int zw), .val (.int (p3 &&& (3 : Int32))), .val (.ref b3), .val (.ref b18), .val (.ref b23), .val (.int (1 : Int32))] []) (fun t k => XS.icmpNo X32.here hx rfl (hb hby at_175) rfl (XT.ii_ne_f hc33) k) ?_
          refine own_f T32 (mkF m 179 #[.val (.int p1), .val (.int p2), .val (.int p3), .val (.int p4), .val (.int p5), .val (.int zv), .val (.int zw), .val (.int (p3 &&& (3 : Int32))), .val (.ref b3), .val (.ref b18), .val (.ref b23), .val (.int (1 : Int32))] [(.int (1 : Int32))]) (fun t k => XT.iconstV X32.here hx rfl (1 : Int32) (hb hby at_178) (by decide) k) ?_
          refine own_f T32 (mkF m 183 #[.val (.int p1), .val (.int p2), .val (.int p3), .val (.int p4), .val (.int p5), .val (.int zv), .val (.int zw), .val (.int (p3 &&& (3 : Int32))), .val (.ref b3), .val (.ref b18), .val (.ref b23), .val (.int (1 : Int32))] [(.int (1 : Int32))]) (fun t k => XS.goto X32.here hx rfl (pc0 := 179) (pc' := 183) rfl (hb hby at_179) (by decide) (by decide) k) ?_
          obtain ⟨fs, hr, hrun, hended, hW⟩ := Stand.leaveW (s := s) (vm₁ := T16.vm) X32 hS (by rw [e32]; exact hk) (v := some (.int (1 : Int32))) (fun h => by rw [Bd.returns] at h; cases h)
          refine ⟨_, _, retN X32 hx (t := .boolean) Bd.returns (by simp) (hb hby at_183) hr, hrun, hended, _, _, rfl, ?_, hW.1, hW.2.1, hW.2.2.1, hW.2.2.2.mono (by decide) (by decide)⟩
          show Q0 Z p1 p2 p3 p4 p5 h0 n0 _ T32.heap _
          rw [e32]
          exact ⟨rfl, N32⟩
        · skip
          refine own_f T28 (mkF m 97 #[.val (.int p1), .val (.int p2), .val (.int p3), .val (.int p4), .val (.int p5), .val (.int zv), .val (.int zw), .val (.int (p3 &&& (3 : Int32))), .val (.ref b3), .val (.ref b18), .val (.ref b23), .unset] []) (fun t k => XS.icmpYes X28.here hx rfl (pc0 := 90) (pc' := 97) rfl (hb hby at_90) rfl (XT.ii_ne_t hc31) (by decide) (by decide) k) ?_
          refine own_f T28 (mkF m 98 #[.val (.int p1), .val (.int p2), .val (.int p3), .val (.int p4), .val (.int p5), .val (.int zv), .val (.int zw), .val (.int (p3 &&& (3 : Int32))), .val (.ref b3), .val (.ref b18), .val (.ref b23), .unset] [(.int (0 : Int32))]) (fun t k => XT.iconstV X28.here hx rfl (0 : Int32) (hb hby at_97) (by decide) k) ?_
          refine own_f T28 (mkF m 100 #[.val (.int p1), .val (.int p2), .val (.int p3), .val (.int p4), .val (.int p5), .val (.int zv), .val (.int zw), .val (.int (p3 &&& (3 : Int32))), .val (.ref b3), .val (.ref b18), .val (.ref b23), .val (.int (0 : Int32))] []) (fun t k => XS.istore X28.here hx rfl (hb hby at_98) rfl (l' := #[.val (.int p1), .val (.int p2), .val (.int p3), .val (.int p4), .val (.int p5), .val (.int zv), .val (.int zw), .val (.int (p3 &&& (3 : Int32))), .val (.ref b3), .val (.ref b18), .val (.ref b23), .val (.int (0 : Int32))]) rfl k) ?_
          refine own_f T28 (mkF m 166 #[.val (.int p1), .val (.int p2), .val (.int p3), .val (.int p4), .val (.int p5), .val (.int zv), .val (.int zw), .val (.int (p3 &&& (3 : Int32))), .val (.ref b3), .val (.ref b18), .val (.ref b23), .val (.int (0 : Int32))] []) (fun t k => XS.goto X28.here hx rfl (pc0 := 100) (pc' := 166) rfl (hb hby at_100) (by decide) (by decide) k) ?_
          refine own_f T28 (mkF m 168 #[.val (.int p1), .val (.int p2), .val (.int p3), .val (.int p4), .val (.int p5), .val (.int zv), .val (.int zw), .val (.int (p3 &&& (3 : Int32))), .val (.ref b3), .val (.ref b18), .val (.ref b23), .val (.int (0 : Int32))] [(.ref b18)]) (fun t k => XS.aload X28.here hx rfl (hb hby at_166) rfl rfl k) ?_
          refine own_f T28 (mkF m 170 #[.val (.int p1), .val (.int p2), .val (.int p3), .val (.int p4), .val (.int p5), .val (.int zv), .val (.int zw), .val (.int (p3 &&& (3 : Int32))), .val (.ref b3), .val (.ref b18), .val (.ref b23), .val (.int (0 : Int32))] [(.ref b23), (.ref b18)]) (fun t k => XS.aload X28.here hx rfl (hb hby at_168) rfl rfl k) ?_
          obtain ⟨cq34, kq34, qa34, qb34, qc34⟩ := isOf hZ e28 F_29
          obtain ⟨_, _, ⟨T34, Lq34, kq_34, nq_34⟩, -, X34, ⟨Lc34, hQ34, lq34, yq34, zq34⟩, st34⟩ := X28.virtualBack hx (y := (⟨"com/example/modelwright/modelwright/model/BooleanNode", "equals", "(Ljava/lang/Object;)Z"⟩ : MethodName)) (z := (⟨"com/example/modelwright/modelwright/model/BooleanNode", "equals", "(Ljava/lang/Object;)Z"⟩ : MethodName)) hown (mvT hZ (own_w hw 70 rfl)) (mvT hZ (own_w hw 71 rfl)) (notFace_of_selects (args := #[]) (mvT hZ (own_w hw 73 rfl))) (mvT hZ (own_w hw 73 rfl)) (mvT hZ (own_w hw 72 rfl)) (by decide) (backOf (W := 0) (rmabn l Z a0 hw [] b18 b23 _ _ h28 n0 Zs28 F_30 G28_0 G28_1) hZ (own_w hw 74 rfl) (own_w hw 46 rfl) (by decide) (by decide)) qa34 qc34 (g := (mkF m 170 #[.val (.int p1), .val (.int p2), .val (.int p3), .val (.int p4), .val (.int p5), .val (.int zv), .val (.int zw), .val (.int (p3 &&& (3 : Int32))), .val (.ref b3), .val (.ref b18), .val (.ref b23), .val (.int (0 : Int32))] [(.ref b23), (.ref b18)])) rfl (by rw [hml]; rfl) (Steps.refl _) (argsL := [(.ref b23)]) (rest := []) (lenOf pd__Ljava_lang_Object_Z rfl) rfl (by show 2 * 0 + _ ≤ _; exact Nat.le_of_eq rfl) (hb hby at_170) (fun _ _ => ⟨rfl, e28, (by decide : 0 + 1 + 2 + 0 + 0 + 2 + 1 + 0 + 1 + 0 + 0 ≤ _), (by decide : 0 + 3 + (4 + 4) + 0 + 0 + 20 + 2 + 0 + 2 + 0 + 0 ≤ _)⟩)
          dsimp only [Pt.U, Pt.locs, Pt.cells, Pt.slots] at X34 lq34 yq34 zq34 st34 hQ34
          subst lq34 yq34 zq34
          obtain ⟨h34, e34⟩ : ∃ z, T34.heap = z := ⟨_, rfl⟩
          rw [e34] at hQ34
          unfold Qabn at hQ34
          obtain ⟨rfl, Nq34, qh34⟩ := hQ34
          have N34 := Fr.app N28 Nq34
          rw [qh34] at e34
          refine own_g T34 (mkF m 173 #[.val (.int p1), .val (.int p2), .val (.int p3), .val (.int p4), .val (.int p5), .val (.int zv), .val (.int zw), .val (.int (p3 &&& (3 : Int32))), .val (.ref b3), .val (.ref b18), .val (.ref b23), .val (.int (0 : Int32))] [(.int (own_eq zv zw))]) st34 ?_
          refine own_f T34 (mkF m 175 #[.val (.int p1), .val (.int p2), .val (.int p3), .val (.int p4), .val (.int p5), .val (.int zv), .val (.int zw), .val (.int (p3 &&& (3 : Int32))), .val (.ref b3), .val (.ref b18), .val (.ref b23), .val (.int (0 : Int32))] [(.int (0 : Int32)), (.int (own_eq zv zw))]) (fun t k => XS.iload X34.here hx rfl (hb hby at_173) rfl k) ?_
          have hc35 : (own_eq zv zw) = (0 : Int32) := by rw [own_eq, if_neg hc31] <;> rfl
          refine own_f T34 (mkF m 178 #[.val (.int p1), .val (.int p2), .val (.int p3), .val (.int p4), .val (.int p5), .val (.int zv), .val (.int zw), .val (.int (p3 &&& (3 : Int32))), .val (.ref b3), .val (.ref b18), .val (.ref b23), .val (.int (0 : Int32))] []) (fun t k => XS.icmpNo X34.here hx rfl (hb hby at_175) rfl (XT.ii_ne_f hc35) k) ?_
          refine own_f T34 (mkF m 179 #[.val (.int p1), .val (.int p2), .val (.int p3), .val (.int p4), .val (.int p5), .val (.int zv), .val (.int zw), .val (.int (p3 &&& (3 : Int32))), .val (.ref b3), .val (.ref b18), .val (.ref b23), .val (.int (0 : Int32))] [(.int (1 : Int32))]) (fun t k => XT.iconstV X34.here hx rfl (1 : Int32) (hb hby at_178) (by decide) k) ?_
          refine own_f T34 (mkF m 183 #[.val (.int p1), .val (.int p2), .val (.int p3), .val (.int p4), .val (.int p5), .val (.int zv), .val (.int zw), .val (.int (p3 &&& (3 : Int32))), .val (.ref b3), .val (.ref b18), .val (.ref b23), .val (.int (0 : Int32))] [(.int (1 : Int32))]) (fun t k => XS.goto X34.here hx rfl (pc0 := 179) (pc' := 183) rfl (hb hby at_179) (by decide) (by decide) k) ?_
          obtain ⟨fs, hr, hrun, hended, hW⟩ := Stand.leaveW (s := s) (vm₁ := T16.vm) X34 hS (by rw [e34]; exact hk) (v := some (.int (1 : Int32))) (fun h => by rw [Bd.returns] at h; cases h)
          refine ⟨_, _, retN X34 hx (t := .boolean) Bd.returns (by simp) (hb hby at_183) hr, hrun, hended, _, _, rfl, ?_, hW.1, hW.2.1, hW.2.2.1, hW.2.2.2.mono (by decide) (by decide)⟩
          show Q0 Z p1 p2 p3 p4 p5 h0 n0 _ T34.heap _
          rw [e34]
          exact ⟨rfl, N34⟩
      · skip
        refine own_f T21 (mkF m 103 #[.val (.int p1), .val (.int p2), .val (.int p3), .val (.int p4), .val (.int p5), .val (.int zv), .val (.int zw), .val (.int (p3 &&& (3 : Int32))), .val (.ref b3), .val (.ref b18), .unset, .unset] []) (fun t k => XS.ifYes X21.here hx rfl (pc0 := 72) (pc' := 103) rfl (hb hby at_72) rfl (XT.i0_ne_t hc22) (by decide) (by decide) k) ?_
        refine own_f T21 (mkF m 105 #[.val (.int p1), .val (.int p2), .val (.int p3), .val (.int p4), .val (.int p5), .val (.int zv), .val (.int zw), .val (.int (p3 &&& (3 : Int32))), .val (.ref b3), .val (.ref b18), .unset, .unset] [(.int (p3 &&& (3 : Int32)))]) (fun t k => XS.iload X21.here hx rfl (hb hby at_103) rfl k) ?_
        refine own_f T21 (mkF m 106 #[.val (.int p1), .val (.int p2), .val (.int p3), .val (.int p4), .val (.int p5), .val (.int zv), .val (.int zw), .val (.int (p3 &&& (3 : Int32))), .val (.ref b3), .val (.ref b18), .unset, .unset] [(.int (1 : Int32)), (.int (p3 &&& (3 : Int32)))]) (fun t k => XT.iconstV X21.here hx rfl (1 : Int32) (hb hby at_105) (by decide) k) ?_
        by_cases hc36 : (p3 &&& (3 : Int32)) = (1 : Int32)
        · skip
          refine own_f T21 (mkF m 109 #[.val (.int p1), .val (.int p2), .val (.int p3), .val (.int p4), .val (.int p5), .val (.int zv), .val (.int zw), .val (.int (p3 &&& (3 : Int32))), .val (.ref b3), .val (.ref b18), .unset, .unset] []) (fun t k => XS.icmpNo X21.here hx rfl (hb hby at_106) rfl (XT.ii_ne_f hc36) k) ?_
          obtain ⟨T37, h37, X37, e37, E37, A37, D37, U37, st37⟩ := newO X21 hx hZ hown (own_w hw 44 rfl) (own_w hw 45 rfl) (own_w hw 46 rfl) e21 (g := (mkF m 109 #[.val (.int p1), .val (.int p2), .val (.int p3), .val (.int p4), .val (.int p5), .val (.int zv), .val (.int zw), .val (.int (p3 &&& (3 : Int32))), .val (.ref b3), .val (.ref b18), .unset, .unset] [])) rfl (hb hby at_109) (by decide) (by decide)
          obtain ⟨b37, g37⟩ : ∃ z, z = h21.size := ⟨_, rfl⟩
          rw [← g37] at A37 D37 st37
          have ne37_b18 : b18 ≠ b37 := by rw [g37]; exact Nat.ne_of_lt G21_0.lt
          have ge37 : n0 ≤ b37 := by rw [g37]; exact Zs21
          have Zs37 : n0 ≤ h37.size := Nat.le_trans Zs21 E37.1
          have hk := Nat.le_trans hk E37.1
          have F_38 := G21_0.ext E37
          have F_39 := G21_1.ext E37
          have F_40 : Fld Z h37 b37 "com/example/modelwright/modelwright/model/BooleanNode" "value" "Z" (.int 0) := D37 (Or.inr (own_w hw 55 rfl)) (ty := .boolean) (by decide)
          have F_41 : Fld Z h37 b37 "com/example/modelwright/modelwright/model/BooleanNode" "location" "Lcom/example/modelwright/modelwright/model/SourceLocation;" .null := D37 (Or.inr (own_w hw 57 rfl)) (ty := (.object "com/example/modelwright/modelwright/model/SourceLocation")) (by decide)
          refine own_f T37 (mkF m 112 #[.val (.int p1), .val (.int p2), .val (.int p3), .val (.int p4), .val (.int p5), .val (.int zv), .val (.int zw), .val (.int (p3 &&& (3 : Int32))), .val (.ref b3), .val (.ref b18), .unset, .unset] [(.ref b37)]) st37 ?_
          refine own_f T37 (mkF m 113 #[.val (.int p1), .val (.int p2), .val (.int p3), .val (.int p4), .val (.int p5), .val (.int zv), .val (.int zw), .val (.int (p3 &&& (3 : Int32))), .val (.ref b3), .val (.ref b18), .unset, .unset] [(.ref b37), (.ref b37)]) (fun t k => XS.dup X37.here hx rfl (hb hby at_112) rfl rfl k) ?_
          refine own_f T37 (mkF m 115 #[.val (.int p1), .val (.int p2), .val (.int p3), .val (.int p4), .val (.int p5), .val (.int zv), .val (.int zw), .val (.int (p3 &&& (3 : Int32))), .val (.ref b3), .val (.ref b18), .unset, .unset] [(.int zw), (.ref b37), (.ref b37)]) (fun t k => XS.iload X37.here hx rfl (hb hby at_113) rfl k) ?_
          refine own_f T37 (mkF m 117 #[.val (.int p1), .val (.int p2), .val (.int p3), .val (.int p4), .val (.int p5), .val (.int zv), .val (.int zw), .val (.int (p3 &&& (3 : Int32))), .val (.ref b3), .val (.ref b18), .unset, .unset] [(.ref b3), (.int zw), (.ref b37), (.ref b37)]) (fun t k => XS.aload X37.here hx rfl (hb hby at_115) rfl rfl k) ?_
          obtain ⟨_, _, ⟨T42, Lq42, kq_42, nq_42⟩, -, X42, ⟨Lc42, hQ42, lq42, yq42, zq42⟩, st42⟩ := X37.specialBack hx (y := (⟨"com/example/modelwright/modelwright/model/BooleanNode", "<init>", "(ZLcom/example/modelwright/modelwright/model/SourceLocation;)V"⟩ : MethodName)) rfl hown (mvT hZ (own_w hw 79 rfl)) (mvT hZ (own_w hw 51 rfl)) (mvT hZ (own_w hw 52 rfl)) (by decide) (backOf (W := 1) (rm61 l Z a0 hw [] b37 zw b3 _ _ h37 n0 Zs37 A37 F_40 F_41 ge37 jw) hZ (own_w hw 52 rfl) (own_w hw 46 rfl) (by decide) (by decide)) (g := (mkF m 117 #[.val (.int p1), .val (.int p2), .val (.int p3), .val (.int p4), .val (.int p5), .val (.int zv), .val (.int zw), .val (.int (p3 &&& (3 : Int32))), .val (.ref b3), .val (.ref b18), .unset, .unset] [(.ref b3), (.int zw), (.ref b37), (.ref b37)])) rfl (by rw [hml]; rfl) (Steps.refl _) (a := b37) (argsL := [(.int zw), (.ref b3)]) (rest := [(.ref b37)]) (lenOf pd__ZLcom_example_modelwright_modelwright_model_SourceLocation_V rfl) rfl (by show 2 * 0 + _ ≤ _; exact Nat.le_of_eq rfl) (hb hby at_117) (fun _ _ => ⟨rfl, e37, (by decide : 0 + 1 + 2 + 0 + 0 + 2 + 1 + 0 + 1 + 0 ≤ _), (by decide : 0 + 3 + (4 + 4) + 0 + 0 + 20 + 2 + 0 + 2 + 0 ≤ _)⟩)
          dsimp only [Pt.U, Pt.locs, Pt.cells, Pt.slots] at X42 lq42 yq42 zq42 st42 hQ42
          subst lq42 yq42 zq42
          obtain ⟨h42, e42⟩ : ∃ z, T42.heap = z := ⟨_, rfl⟩
          rw [e42] at hQ42
          unfold Q61 at hQ42
          obtain ⟨rfl, Nq42, qh42, G42_0, G42_1⟩ := hQ42
          have N42 := Fr.app N21 Nq42
          have Zs42 : n0 ≤ h42.size := Nat.le_trans Zs37 qh42.1
          have hk := Nat.le_trans hk qh42.1
          have F_43 := F_38.keep qh42
          have F_44 := F_39.keep qh42 (ninS ne37_b18 nin0)
          refine own_g T42 (mkF m 120 #[.val (.int p1), .val (.int p2), .val (.int p3), .val (.int p4), .val (.int p5), .val (.int zv), .val (.int zw), .val (.int (p3 &&& (3 : Int32))), .val (.ref b3), .val (.ref b18), .unset, .unset] [(.ref b37)]) st42 ?_
          refine own_f T42 (mkF m 122 #[.val (.int p1), .val (.int p2), .val (.int p3), .val (.int p4), .val (.int p5), .val (.int zv), .val (.int zw), .val (.int (p3 &&& (3 : Int32))), .val (.ref b3), .val (.ref b18), .val (.ref b37), .unset] []) (fun t k => XS.astore X42.here hx rfl (hb hby at_120) rfl rfl (l' := #[.val (.int p1), .val (.int p2), .val (.int p3), .val (.int p4), .val (.int p5), .val (.int zv), .val (.int zw), .val (.int (p3 &&& (3 : Int32))), .val (.ref b3), .val (.ref b18), .val (.ref b37), .unset]) rfl k) ?_
          refine own_f T42 (mkF m 124 #[.val (.int p1), .val (.int p2), .val (.int p3), .val (.int p4), .val (.int p5), .val (.int zv), .val (.int zw), .val (.int (p3 &&& (3 : Int32))), .val (.ref b3), .val (.ref b18), .val (.ref b37), .unset] [(.int zv)]) (fun t k => XS.iload X42.here hx rfl (hb hby at_122) rfl k) ?_
          refine own_f T42 (mkF m 126 #[.val (.int p1), .val (.int p2), .val (.int p3), .val (.int p4), .val (.int p5), .val (.int zv), .val (.int zw), .val (.int (p3 &&& (3 : Int32))), .val (.ref b3), .val (.ref b18), .val (.ref b37), .unset] [(.int zw), (.int zv)]) (fun t k => XS.iload X42.here hx rfl (hb hby at_124) rfl k) ?_
          by_cases hc45 : zv = zw
          · skip
            refine own_f T42 (mkF m 129 #[.val (.int p1), .val (.int p2), .val (.int p3), .val (.int p4), .val (.int p5), .val (.int zv), .val (.int zw), .val (.int (p3 &&& (3 : Int32))), .val (.ref b3), .val (.ref b18), .val (.ref b37), .unset] []) (fun t k => XS.icmpNo X42.here hx rfl (hb hby at_126) rfl (XT.ii_ne_f hc45) k) ?_
            refine own_f T42 (mkF m 130 #[.val (.int p1), .val (.int p2), .val (.int p3), .val (.int p4), .val (.int p5), .val (.int zv), .val (.int zw), .val (.int (p3 &&& (3 : Int32))), .val (.ref b3), .val (.ref b18), .val (.ref b37), .unset] [(.int (1 : Int32))]) (fun t k => XT.iconstV X42.here hx rfl (1 : Int32) (hb hby at_129) (by decide) k) ?_
            refine own_f T42 (mkF m 134 #[.val (.int p1), .val (.int p2), .val (.int p3), .val (.int p4), .val (.int p5), .val (.int zv), .val (.int zw), .val (.int (p3 &&& (3 : Int32))), .val (.ref b3), .val (.ref b18), .val (.ref b37), .unset] [(.int (1 : Int32))]) (fun t k => XS.goto X42.here hx rfl (pc0 := 130) (pc' := 134) rfl (hb hby at_130) (by decide) (by decide) k) ?_
            refine own_f T42 (mkF m 136 #[.val (.int p1), .val (.int p2), .val (.int p3), .val (.int p4), .val (.int p5), .val (.int zv), .val (.int zw), .val (.int (p3 &&& (3 : Int32))), .val (.ref b3), .val (.ref b18), .val (.ref b37), .val (.int (1 : Int32))] []) (fun t k => XS.istore X42.here hx rfl (hb hby at_134) rfl (l' := #[.val (.int p1), .val (.int p2), .val (.int p3), .val (.int p4), .val (.int p5), .val (.int zv), .val (.int zw), .val (.int (p3 &&& (3 : Int32))), .val (.ref b3), .val (.ref b18), .val (.ref b37), .val (.int (1 : Int32))]) rfl k) ?_
            refine own_f T42 (mkF m 166 #[.val (.int p1), .val (.int p2), .val (.int p3), .val (.int p4), .val (.int p5), .val (.int zv), .val (.int zw), .val (.int (p3 &&& (3 : Int32))), .val (.ref b3), .val (.ref b18), .val (.ref b37), .val (.int (1 : Int32))] []) (fun t k => XS.goto X42.here hx rfl (pc0 := 136) (pc' := 166) rfl (hb hby at_136) (by decide) (by decide) k) ?_
            refine own_f T42 (mkF m 168 #[.val (.int p1), .val (.int p2), .val (.int p3), .val (.int p4), .val (.int p5), .val (.int zv), .val (.int zw), .val (.int (p3 &&& (3 : Int32))), .val (.ref b3), .val (.ref b18), .val (.ref b37), .val (.int (1 : Int32))] [(.ref b18)]) (fun t k => XS.aload X42.here hx rfl (hb hby at_166) rfl rfl k) ?_
            refine own_f T42 (mkF m 170 #[.val (.int p1), .val (.int p2), .val (.int p3), .val (.int p4), .val (.int p5), .val (.int zv), .val (.int zw), .val (.int (p3 &&& (3 : Int32))), .val (.ref b3), .val (.ref b18), .val (.ref b37), .val (.int (1 : Int32))] [(.ref b37), (.ref b18)]) (fun t k => XS.aload X42.here hx rfl (hb hby at_168) rfl rfl k) ?_
            obtain ⟨cq46, kq46, qa46, qb46, qc46⟩ := isOf hZ e42 F_43
            obtain ⟨_, _, ⟨T46, Lq46, kq_46, nq_46⟩, -, X46, ⟨Lc46, hQ46, lq46, yq46, zq46⟩, st46⟩ := X42.virtualBack hx (y := (⟨"com/example/modelwright/modelwright/model/BooleanNode", "equals", "(Ljava/lang/Object;)Z"⟩ : MethodName)) (z := (⟨"com/example/modelwright/modelwright/model/BooleanNode", "equals", "(Ljava/lang/Object;)Z"⟩ : MethodName)) hown (mvT hZ (own_w hw 70 rfl)) (mvT hZ (own_w hw 71 rfl)) (notFace_of_selects (args := #[]) (mvT hZ (own_w hw 73 rfl))) (mvT hZ (own_w hw 73 rfl)) (mvT hZ (own_w hw 72 rfl)) (by decide) (backOf (W := 0) (rmabn l Z a0 hw [] b18 b37 _ _ h42 n0 Zs42 F_44 G42_0 G42_1) hZ (own_w hw 74 rfl) (own_w hw 46 rfl) (by decide) (by decide)) qa46 qc46 (g := (mkF m 170 #[.val (.int p1), .val (.int p2), .val (.int p3), .val (.int p4), .val (.int p5), .val (.int zv), .val (.int zw), .val (.int (p3 &&& (3 : Int32))), .val (.ref b3), .val (.ref b18), .val (.ref b37), .val (.int (1 : Int32))] [(.ref b37), (.ref b18)])) rfl (by rw [hml]; rfl) (Steps.refl _) (argsL := [(.ref b37)]) (rest := []) (lenOf pd__Ljava_lang_Object_Z rfl) rfl (by show 2 * 0 + _ ≤ _; exact Nat.le_of_eq rfl) (hb hby at_170) (fun _ _ => ⟨rfl, e42, (by decide : 0 + 1 + 2 + 0 + 0 + 2 + 1 + 0 + 1 + 0 + 0 ≤ _), (by decide : 0 + 3 + (4 + 4) + 0 + 0 + 20 + 2 + 0 + 2 + 0 + 0 ≤ _)⟩)
            dsimp only [Pt.U, Pt.locs, Pt.cells, Pt.slots] at X46 lq46 yq46 zq46 st46 hQ46
            subst lq46 yq46 zq46
            obtain ⟨h46, e46⟩ : ∃ z, T46.heap = z := ⟨_, rfl⟩
            rw [e46] at hQ46
            unfold Qabn at hQ46
            obtain ⟨rfl, Nq46, qh46⟩ := hQ46
            have N46 := Fr.app N42 Nq46
            rw [qh46] at e46
            refine own_g T46 (mkF m 173 #[.val (.int p1), .val (.int p2), .val (.int p3), .val (.int p4), .val (.int p5), .val (.int zv), .val (.int zw), .val (.int (p3 &&& (3 : Int32))), .val (.ref b3), .val (.ref b18), .val (.ref b37), .val (.int (1 : Int32))] [(.int (own_eq zv zw))]) st46 ?_
            refine own_f T46 (mkF m 175 #[.val (.int p1), .val (.int p2), .val (.int p3), .val (.int p4), .val (.int p5), .val (.int zv), .val (.int zw), .val (.int (p3 &&& (3 : Int32))), .val (.ref b3), .val (.ref b18), .val (.ref b37), .val (.int (1 : Int32))] [(.int (1 : Int32)), (.int (own_eq zv zw))]) (fun t k => XS.iload X46.here hx rfl (hb hby at_173) rfl k) ?_
            have hc47 : (own_eq zv zw) = (1 : Int32) := by rw [own_eq, if_pos hc45] <;> rfl
            refine own_f T46 (mkF m 178 #[.val (.int p1), .val (.int p2), .val (.int p3), .val (.int p4), .val (.int p5), .val (.int zv), .val (.int zw), .val (.int (p3 &&& (3 : Int32))), .val (.ref b3), .val (.ref b18), .val (.ref b37), .val (.int (1 : Int32))] []) (fun t k => XS.icmpNo X46.here hx rfl (hb hby at_175) rfl (XT.ii_ne_f hc47) k) ?_
            refine own_f T46 (mkF m 179 #[.val (.int p1), .val (.int p2), .val (.int p3), .val (.int p4), .val (.int p5), .val (.int zv), .val (.int zw), .val (.int (p3 &&& (3 : Int32))), .val (.ref b3), .val (.ref b18), .val (.ref b37), .val (.int (1 : Int32))] [(.int (1 : Int32))]) (fun t k => XT.iconstV X46.here hx rfl (1 : Int32) (hb hby at_178) (by decide) k) ?_
            refine own_f T46 (mkF m 183 #[.val (.int p1), .val (.int p2), .val (.int p3), .val (.int p4), .val (.int p5), .val (.int zv), .val (.int zw), .val (.int (p3 &&& (3 : Int32))), .val (.ref b3), .val (.ref b18), .val (.ref b37), .val (.int (1 : Int32))] [(.int (1 : Int32))]) (fun t k => XS.goto X46.here hx rfl (pc0 := 179) (pc' := 183) rfl (hb hby at_179) (by decide) (by decide) k) ?_
            obtain ⟨fs, hr, hrun, hended, hW⟩ := Stand.leaveW (s := s) (vm₁ := T16.vm) X46 hS (by rw [e46]; exact hk) (v := some (.int (1 : Int32))) (fun h => by rw [Bd.returns] at h; cases h)
            refine ⟨_, _, retN X46 hx (t := .boolean) Bd.returns (by simp) (hb hby at_183) hr, hrun, hended, _, _, rfl, ?_, hW.1, hW.2.1, hW.2.2.1, hW.2.2.2.mono (by decide) (by decide)⟩
            show Q0 Z p1 p2 p3 p4 p5 h0 n0 _ T46.heap _
            rw [e46]
            exact ⟨rfl, N46⟩
          · skip
            refine own_f T42 (mkF m 133 #[.val (.int p1), .val (.int p2), .val (.int p3), .val (.int p4), .val (.int p5), .val (.int zv), .val (.int zw), .val (.int (p3 &&& (3 : Int32))), .val (.ref b3), .val (.ref b18), .val (.ref b37), .unset] []) (fun t k => XS.icmpYes X42.here hx rfl (pc0 := 126) (pc' := 133) rfl (hb hby at_126) rfl (XT.ii_ne_t hc45) (by decide) (by decide) k) ?_
            refine own_f T42 (mkF m 134 #[.val (.int p1), .val (.int p2), .val (.int p3), .val (.int p4), .val (.int p5), .val (.int zv), .val (.int zw), .val (.int (p3 &&& (3 : Int32))), .val (.ref b3), .val (.ref b18), .val (.ref b37), .unset] [(.int (0 : Int32))]) (fun t k => XT.iconstV X42.here hx rfl (0 : Int32) (hb hby at_133) (by decide) k) ?_
            refine own_f T42 (mkF m 136 #[.val (.int p1), .val (.int p2), .val (.int p3), .val (.int p4), .val (.int p5), .val (.int zv), .val (.int zw), .val (.int (p3 &&& (3 : Int32))), .val (.ref b3), .val (.ref b18), .val (.ref b37), .val (.int (0 : Int32))] []) (fun t k => XS.istore X42.here hx rfl (hb hby at_134) rfl (l' := #[.val (.int p1), .val (.int p2), .val (.int p3), .val (.int p4), .val (.int p5), .val (.int zv), .val (.int zw), .val (.int (p3 &&& (3 : Int32))), .val (.ref b3), .val (.ref b18), .val (.ref b37), .val (.int (0 : Int32))]) rfl k) ?_
            refine own_f T42 (mkF m 166 #[.val (.int p1), .val (.int p2), .val (.int p3), .val (.int p4), .val (.int p5), .val (.int zv), .val (.int zw), .val (.int (p3 &&& (3 : Int32))), .val (.ref b3), .val (.ref b18), .val (.ref b37), .val (.int (0 : Int32))] []) (fun t k => XS.goto X42.here hx rfl (pc0 := 136) (pc' := 166) rfl (hb hby at_136) (by decide) (by decide) k) ?_
            refine own_f T42 (mkF m 168 #[.val (.int p1), .val (.int p2), .val (.int p3), .val (.int p4), .val (.int p5), .val (.int zv), .val (.int zw), .val (.int (p3 &&& (3 : Int32))), .val (.ref b3), .val (.ref b18), .val (.ref b37), .val (.int (0 : Int32))] [(.ref b18)]) (fun t k => XS.aload X42.here hx rfl (hb hby at_166) rfl rfl k) ?_
            refine own_f T42 (mkF m 170 #[.val (.int p1), .val (.int p2), .val (.int p3), .val (.int p4), .val (.int p5), .val (.int zv), .val (.int zw), .val (.int (p3 &&& (3 : Int32))), .val (.ref b3), .val (.ref b18), .val (.ref b37), .val (.int (0 : Int32))] [(.ref b37), (.ref b18)]) (fun t k => XS.aload X42.here hx rfl (hb hby at_168) rfl rfl k) ?_
            obtain ⟨cq48, kq48, qa48, qb48, qc48⟩ := isOf hZ e42 F_43
            obtain ⟨_, _, ⟨T48, Lq48, kq_48, nq_48⟩, -, X48, ⟨Lc48, hQ48, lq48, yq48, zq48⟩, st48⟩ := X42.virtualBack hx (y := (⟨"com/example/modelwright/modelwright/model/BooleanNode", "equals", "(Ljava/lang/Object;)Z"⟩ : MethodName)) (z := (⟨"com/example/modelwright/modelwright/model/BooleanNode", "equals", "(Ljava/lang/Object;)Z"⟩ : MethodName)) hown (mvT hZ (own_w hw 70 rfl)) (mvT hZ (own_w hw 71 rfl)) (notFace_of_selects (args := #[]) (mvT hZ (own_w hw 73 rfl))) (mvT hZ (own_w hw 73 rfl)) (mvT hZ (own_w hw 72 rfl)) (by decide) (backOf (W := 0) (rmabn l Z a0 hw [] b18 b37 _ _ h42 n0 Zs42 F_44 G42_0 G42_1) hZ (own_w hw 74 rfl) (own_w hw 46 rfl) (by decide) (by decide)) qa48 qc48 (g := (mkF m 170 #[.val (.int p1), .val (.int p2), .val (.int p3), .val (.int p4), .val (.int p5), .val (.int zv), .val (.int zw), .val (.int (p3 &&& (3 : Int32))), .val (.ref b3), .val (.ref b18), .val (.ref b37), .val (.int (0 : Int32))] [(.ref b37), (.ref b18)])) rfl (by rw [hml]; rfl) (Steps.refl _) (argsL := [(.ref b37)]) (rest := []) (lenOf pd__Ljava_lang_Object_Z rfl) rfl (by show 2 * 0 + _ ≤ _; exact Nat.le_of_eq rfl) (hb hby at_170) (fun _ _ => ⟨rfl, e42, (by decide : 0 + 1 + 2 + 0 + 0 + 2 + 1 + 0 + 1 + 0 + 0 ≤ _), (by decide : 0 + 3 + (4 + 4) + 0 + 0 + 20 + 2 + 0 + 2 + 0 + 0 ≤ _)⟩)
            dsimp only [Pt.U, Pt.locs, Pt.cells, Pt.slots] at X48 lq48 yq48 zq48 st48 hQ48
            subst lq48 yq48 zq48
            obtain ⟨h48, e48⟩ : ∃ z, T48.heap = z := ⟨_, rfl⟩
            rw [e48] at hQ48
            unfold Qabn at hQ48
            obtain ⟨rfl, Nq48, qh48⟩ := hQ48
            have N48 := Fr.app N42 Nq48
            rw [qh48] at e48
            refine own_g T48 (mkF m 173 #[.val (.int p1), .val (.int p2), .val (.int p3), .val (.int p4), .val (.int p5), .val (.int zv), .val (.int zw), .val (.int (p3 &&& (3 : Int32))), .val (.ref b3), .val (.ref b18), .val (.ref b37), .val (.int (0 : Int32))] [(.int (own_eq zv zw))]) st48 ?_
            refine own_f T48 (mkF m 175 #[.val (.int p1), .val (.int p2), .val (.int p3), .val (.int p4), .val (.int p5), .val (.int zv), .val (.int zw), .val (.int (p3 &&& (3 : Int32))), .val (.ref b3), .val (.ref b18), .val (.ref b37), .val (.int (0 : Int32))] [(.int (0 : Int32)), (.int (own_eq zv zw))]) (fun t k => XS.iload X48.here hx rfl (hb hby at_173) rfl k) ?_
            have hc49 : (own_eq zv zw) = (0 : Int32) := by rw [own_eq, if_neg hc45] <;> rfl
            refine own_f T48 (mkF m 178 #[.val (.int p1), .val (.int p2), .val (.int p3), .val (.int p4), .val (.int p5), .val (.int zv), .val (.int zw), .val (.int (p3 &&& (3 : Int32))), .val (.ref b3), .val (.ref b18), .val (.ref b37), .val (.int (0 : Int32))] []) (fun t k => XS.icmpNo X48.here hx rfl (hb hby at_175) rfl (XT.ii_ne_f hc49) k) ?_
            refine own_f T48 (mkF m 179 #[.val (.int p1), .val (.int p2), .val (.int p3), .val (.int p4), .val (.int p5), .val (.int zv), .val (.int zw), .val (.int (p3 &&& (3 : Int32))), .val (.ref b3), .val (.ref b18), .val (.ref b37), .val (.int (0 : Int32))] [(.int (1 : Int32))]) (fun t k => XT.iconstV X48.here hx rfl (1 : Int32) (hb hby at_178) (by decide) k) ?_
            refine own_f T48 (mkF m 183 #[.val (.int p1), .val (.int p2), .val (.int p3), .val (.int p4), .val (.int p5), .val (.int zv), .val (.int zw), .val (.int (p3 &&& (3 : Int32))), .val (.ref b3), .val (.ref b18), .val (.ref b37), .val (.int (0 : Int32))] [(.int (1 : Int32))]) (fun t k => XS.goto X48.here hx rfl (pc0 := 179) (pc' := 183) rfl (hb hby at_179) (by decide) (by decide) k) ?_
            obtain ⟨fs, hr, hrun, hended, hW⟩ := Stand.leaveW (s := s) (vm₁ := T16.vm) X48 hS (by rw [e48]; exact hk) (v := some (.int (1 : Int32))) (fun h => by rw [Bd.returns] at h; cases h)
            refine ⟨_, _, retN X48 hx (t := .boolean) Bd.returns (by simp) (hb hby at_183) hr, hrun, hended, _, _, rfl, ?_, hW.1, hW.2.1, hW.2.2.1, hW.2.2.2.mono (by decide) (by decide)⟩
            show Q0 Z p1 p2 p3 p4 p5 h0 n0 _ T48.heap _
            rw [e48]
            exact ⟨rfl, N48⟩
        · skip
          refine own_f T21 (mkF m 139 #[.val (.int p1), .val (.int p2), .val (.int p3), .val (.int p4), .val (.int p5), .val (.int zv), .val (.int zw), .val (.int (p3 &&& (3 : Int32))), .val (.ref b3), .val (.ref b18), .unset, .unset] []) (fun t k => XS.icmpYes X21.here hx rfl (pc0 := 106) (pc' := 139) rfl (hb hby at_106) rfl (XT.ii_ne_t hc36) (by decide) (by decide) k) ?_
          refine own_f T21 (mkF m 141 #[.val (.int p1), .val (.int p2), .val (.int p3), .val (.int p4), .val (.int p5), .val (.int zv), .val (.int zw), .val (.int (p3 &&& (3 : Int32))), .val (.ref b3), .val (.ref b18), .unset, .unset] [(.int (p3 &&& (3 : Int32)))]) (fun t k => XS.iload X21.here hx rfl (hb hby at_139) rfl k) ?_
          refine own_f T21 (mkF m 142 #[.val (.int p1), .val (.int p2), .val (.int p3), .val (.int p4), .val (.int p5), .val (.int zv), .val (.int zw), .val (.int (p3 &&& (3 : Int32))), .val (.ref b3), .val (.ref b18), .unset, .unset] [(.int (2 : Int32)), (.int (p3 &&& (3 : Int32)))]) (fun t k => XT.iconstV X21.here hx rfl (2 : Int32) (hb hby at_141) (by decide) k) ?_
          by_cases hc50 : (p3 &&& (3 : Int32)) = (2 : Int32)
          · skip
            refine own_f T21 (mkF m 145 #[.val (.int p1), .val (.int p2), .val (.int p3), .val (.int p4), .val (.int p5), .val (.int zv), .val (.int zw), .val (.int (p3 &&& (3 : Int32))), .val (.ref b3), .val (.ref b18), .unset, .unset] []) (fun t k => XS.icmpNo X21.here hx rfl (hb hby at_142) rfl (XT.ii_ne_f hc50) k) ?_
            obtain ⟨T51, h51, X51, e51, E51, A51, D51, U51, st51⟩ := newO X21 hx hZ hown (own_w hw 58 rfl) (own_w hw 59 rfl) (own_w hw 60 rfl) e21 (g := (mkF m 145 #[.val (.int p1), .val (.int p2), .val (.int p3), .val (.int p4), .val (.int p5), .val (.int zv), .val (.int zw), .val (.int (p3 &&& (3 : Int32))), .val (.ref b3), .val (.ref b18), .unset, .unset] [])) rfl (hb hby at_145) (by decide) (by decide)
            obtain ⟨b51, g51⟩ : ∃ z, z = h21.size := ⟨_, rfl⟩
            rw [← g51] at A51 D51 st51
            have ne51_b18 : b18 ≠ b51 := by rw [g51]; exact Nat.ne_of_lt G21_0.lt
            have ge51 : n0 ≤ b51 := by rw [g51]; exact Zs21
            have Zs51 : n0 ≤ h51.size := Nat.le_trans Zs21 E51.1
            have hk := Nat.le_trans hk E51.1
            have F_52 := G21_0.ext E51
            have F_53 := G21_1.ext E51
            have F_54 : Fld Z h51 b51 "com/example/modelwright/modelwright/model/NullNode" "location" "Lcom/example/modelwright/modelwright/model/SourceLocation;" .null := D51 (Or.inr (own_w hw 69 rfl)) (ty := (.object "com/example/modelwright/modelwright/model/SourceLocation")) (by decide)
            refine own_f T51 (mkF m 148 #[.val (.int p1), .val (.int p2), .val (.int p3), .val (.int p4), .val (.int p5), .val (.int zv), .val (.int zw), .val (.int (p3 &&& (3 : Int32))), .val (.ref b3), .val (.ref b18), .unset, .unset] [(.ref b51)]) st51 ?_
            refine own_f T51 (mkF m 149 #[.val (.int p1), .val (.int p2), .val (.int p3), .val (.int p4), .val (.int p5), .val (.int zv), .val (.int zw), .val (.int (p3 &&& (3 : Int32))), .val (.ref b3), .val (.ref b18), .unset, .unset] [(.ref b51), (.ref b51)]) (fun t k => XS.dup X51.here hx rfl (hb hby at_148) rfl rfl k) ?_
            obtain ⟨_, _, ⟨T55, Lq55, kq_55, nq_55⟩, -, X55, ⟨Lc55, hQ55, lq55, yq55, zq55⟩, st55⟩ := X51.specialBack hx (y := (⟨"com/example/modelwright/modelwright/model/NullNode", "<init>", "()V"⟩ : MethodName)) rfl hown (mvT hZ (own_w hw 61 rfl)) (mvT hZ (own_w hw 62 rfl)) (mvT hZ (own_w hw 63 rfl)) (by decide) (backOf (W := 1) (rm9 l Z a0 hw [] b51 _ h51 n0 Zs51 A51 F_54 ge51) hZ (own_w hw 63 rfl) (own_w hw 60 rfl) (by decide) (by decide)) (g := (mkF m 149 #[.val (.int p1), .val (.int p2), .val (.int p3), .val (.int p4), .val (.int p5), .val (.int zv), .val (.int zw), .val (.int (p3 &&& (3 : Int32))), .val (.ref b3), .val (.ref b18), .unset, .unset] [(.ref b51), (.ref b51)])) rfl (by rw [hml]; rfl) (Steps.refl _) (a := b51) (argsL := []) (rest := [(.ref b51)]) (lenOf pd__V rfl) rfl (by show 2 * 0 + _ ≤ _; exact Nat.le_of_eq rfl) (hb hby at_149) (fun _ _ => ⟨rfl, e51, (by decide : 0 + 1 + 2 + 0 + 0 + 2 + 1 + 0 + 1 + 0 ≤ _), (by decide : 0 + 3 + (4 + 4) + 0 + 0 + 20 + 2 + 0 + 1 + 0 ≤ _)⟩)
            dsimp only [Pt.U, Pt.locs, Pt.cells, Pt.slots] at X55 lq55 yq55 zq55 st55 hQ55
            subst lq55 yq55 zq55
            obtain ⟨h55, e55⟩ : ∃ z, T55.heap = z := ⟨_, rfl⟩
            rw [e55] at hQ55
            unfold Q9 at hQ55
            obtain ⟨rfl, Nq55, qh55⟩ := hQ55
            have N55 := Fr.app N21 Nq55
            have Zs55 : n0 ≤ h55.size := Nat.le_trans Zs51 qh55.1
            have hk := Nat.le_trans hk qh55.1
            have F_56 := F_52.keep qh55
            have F_57 := F_53.keep qh55 (ninS ne51_b18 nin0)
            have F_58 := A51.keep qh55
            refine own_g T55 (mkF m 152 #[.val (.int p1), .val (.int p2), .val (.int p3), .val (.int p4), .val (.int p5), .val (.int zv), .val (.int zw), .val (.int (p3 &&& (3 : Int32))), .val (.ref b3), .val (.ref b18), .unset, .unset] [(.ref b51)]) st55 ?_
            refine own_f T55 (mkF m 154 #[.val (.int p1), .val (.int p2), .val (.int p3), .val (.int p4), .val (.int p5), .val (.int zv), .val (.int zw), .val (.int (p3 &&& (3 : Int32))), .val (.ref b3), .val (.ref b18), .val (.ref b51), .unset] []) (fun t k => XS.astore X55.here hx rfl (hb hby at_152) rfl rfl (l' := #[.val (.int p1), .val (.int p2), .val (.int p3), .val (.int p4), .val (.int p5), .val (.int zv), .val (.int zw), .val (.int (p3 &&& (3 : Int32))), .val (.ref b3), .val (.ref b18), .val (.ref b51), .unset]) rfl k) ?_
            refine own_f T55 (mkF m 155 #[.val (.int p1), .val (.int p2), .val (.int p3), .val (.int p4), .val (.int p5), .val (.int zv), .val (.int zw), .val (.int (p3 &&& (3 : Int32))), .val (.ref b3), .val (.ref b18), .val (.ref b51), .unset] [(.int (0 : Int32))]) (fun t k => XT.iconstV X55.here hx rfl (0 : Int32) (hb hby at_154) (by decide) k) ?_
            refine own_f T55 (mkF m 157 #[.val (.int p1), .val (.int p2), .val (.int p3), .val (.int p4), .val (.int p5), .val (.int zv), .val (.int zw), .val (.int (p3 &&& (3 : Int32))), .val (.ref b3), .val (.ref b18), .val (.ref b51), .val (.int (0 : Int32))] []) (fun t k => XS.istore X55.here hx rfl (hb hby at_155) rfl (l' := #[.val (.int p1), .val (.int p2), .val (.int p3), .val (.int p4), .val (.int p5), .val (.int zv), .val (.int zw), .val (.int (p3 &&& (3 : Int32))), .val (.ref b3), .val (.ref b18), .val (.ref b51), .val (.int (0 : Int32))]) rfl k) ?_
            refine own_f T55 (mkF m 166 #[.val (.int p1), .val (.int p2), .val (.int p3), .val (.int p4), .val (.int p5), .val (.int zv), .val (.int zw), .val (.int (p3 &&& (3 : Int32))), .val (.ref b3), .val (.ref b18), .val (.ref b51), .val (.int (0 : Int32))] []) (fun t k => XS.goto X55.here hx rfl (pc0 := 157) (pc' := 166) rfl (hb hby at_157) (by decide) (by decide) k) ?_
            refine own_f T55 (mkF m 168 #[.val (.int p1), .val (.int p2), .val (.int p3), .val (.int p4), .val (.int p5), .val (.int zv), .val (.int zw), .val (.int (p3 &&& (3 : Int32))), .val (.ref b3), .val (.ref b18), .val (.ref b51), .val (.int (0 : Int32))] [(.ref b18)]) (fun t k => XS.aload X55.here hx rfl (hb hby at_166) rfl rfl k) ?_
            refine own_f T55 (mkF m 170 #[.val (.int p1), .val (.int p2), .val (.int p3), .val (.int p4), .val (.int p5), .val (.int zv), .val (.int zw), .val (.int (p3 &&& (3 : Int32))), .val (.ref b3), .val (.ref b18), .val (.ref b51), .val (.int (0 : Int32))] [(.ref b51), (.ref b18)]) (fun t k => XS.aload X55.here hx rfl (hb hby at_168) rfl rfl k) ?_
            obtain ⟨cq59, kq59, qa59, qb59, qc59⟩ := isOf hZ e55 F_56
            obtain ⟨_, _, ⟨T59, Lq59, kq_59, nq_59⟩, -, X59, ⟨Lc59, hQ59, lq59, yq59, zq59⟩, st59⟩ := X55.virtualBack hx (y := (⟨"com/example/modelwright/modelwright/model/BooleanNode", "equals", "(Ljava/lang/Object;)Z"⟩ : MethodName)) (z := (⟨"com/example/modelwright/modelwright/model/BooleanNode", "equals", "(Ljava/lang/Object;)Z"⟩ : MethodName)) hown (mvT hZ (own_w hw 70 rfl)) (mvT hZ (own_w hw 71 rfl)) (notFace_of_selects (args := #[]) (mvT hZ (own_w hw 73 rfl))) (mvT hZ (own_w hw 73 rfl)) (mvT hZ (own_w hw 72 rfl)) (by decide) (backOf (W := 0) (rmann l Z a0 hw [] b18 b51 h55 n0 Zs55 F_58) hZ (own_w hw 74 rfl) (own_w hw 46 rfl) (by decide) (by decide)) qa59 qc59 (g := (mkF m 170 #[.val (.int p1), .val (.int p2), .val (.int p3), .val (.int p4), .val (.int p5), .val (.int zv), .val (.int zw), .val (.int (p3 &&& (3 : Int32))), .val (.ref b3), .val (.ref b18), .val (.ref b51), .val (.int (0 : Int32))] [(.ref b51), (.ref b18)])) rfl (by rw [hml]; rfl) (Steps.refl _) (argsL := [(.ref b51)]) (rest := []) (lenOf pd__Ljava_lang_Object_Z rfl) rfl (by show 2 * 0 + _ ≤ _; exact Nat.le_of_eq rfl) (hb hby at_170) (fun _ _ => ⟨rfl, e55, (by decide : 0 + 1 + 2 + 0 + 0 + 2 + 1 + 0 + 1 + 0 + 0 ≤ _), (by decide : 0 + 3 + (4 + 4) + 0 + 0 + 20 + 2 + 0 + 1 + 0 + 0 ≤ _)⟩)
            dsimp only [Pt.U, Pt.locs, Pt.cells, Pt.slots] at X59 lq59 yq59 zq59 st59 hQ59
            subst lq59 yq59 zq59
            obtain ⟨h59, e59⟩ : ∃ z, T59.heap = z := ⟨_, rfl⟩
            rw [e59] at hQ59
            unfold Qann at hQ59
            obtain ⟨rfl, Nq59, qh59⟩ := hQ59
            have N59 := Fr.app N55 Nq59
            rw [qh59] at e59
            refine own_g T59 (mkF m 173 #[.val (.int p1), .val (.int p2), .val (.int p3), .val (.int p4), .val (.int p5), .val (.int zv), .val (.int zw), .val (.int (p3 &&& (3 : Int32))), .val (.ref b3), .val (.ref b18), .val (.ref b51), .val (.int (0 : Int32))] [(.int (0 : Int32))]) st59 ?_
            refine own_f T59 (mkF m 175 #[.val (.int p1), .val (.int p2), .val (.int p3), .val (.int p4), .val (.int p5), .val (.int zv), .val (.int zw), .val (.int (p3 &&& (3 : Int32))), .val (.ref b3), .val (.ref b18), .val (.ref b51), .val (.int (0 : Int32))] [(.int (0 : Int32)), (.int (0 : Int32))]) (fun t k => XS.iload X59.here hx rfl (hb hby at_173) rfl k) ?_
            refine own_f T59 (mkF m 178 #[.val (.int p1), .val (.int p2), .val (.int p3), .val (.int p4), .val (.int p5), .val (.int zv), .val (.int zw), .val (.int (p3 &&& (3 : Int32))), .val (.ref b3), .val (.ref b18), .val (.ref b51), .val (.int (0 : Int32))] []) (fun t k => XS.icmpNo X59.here hx rfl (hb hby at_175) rfl (XT.ii_ne_f (by decide)) k) ?_
            refine own_f T59 (mkF m 179 #[.val (.int p1), .val (.int p2), .val (.int p3), .val (.int p4), .val (.int p5), .val (.int zv), .val (.int zw), .val (.int (p3 &&& (3 : Int32))), .val (.ref b3), .val (.ref b18), .val (.ref b51), .val (.int (0 : Int32))] [(.int (1 : Int32))]) (fun t k => XT.iconstV X59.here hx rfl (1 : Int32) (hb hby at_178) (by decide) k) ?_
            refine own_f T59 (mkF m 183 #[.val (.int p1), .val (.int p2), .val (.int p3), .val (.int p4), .val (.int p5), .val (.int zv), .val (.int zw), .val (.int (p3 &&& (3 : Int32))), .val (.ref b3), .val (.ref b18), .val (.ref b51), .val (.int (0 : Int32))] [(.int (1 : Int32))]) (fun t k => XS.goto X59.here hx rfl (pc0 := 179) (pc' := 183) rfl (hb hby at_179) (by decide) (by decide) k) ?_
            obtain ⟨fs, hr, hrun, hended, hW⟩ := Stand.leaveW (s := s) (vm₁ := T16.vm) X59 hS (by rw [e59]; exact hk) (v := some (.int (1 : Int32))) (fun h => by rw [Bd.returns] at h; cases h)
            refine ⟨_, _, retN X59 hx (t := .boolean) Bd.returns (by simp) (hb hby at_183) hr, hrun, hended, _, _, rfl, ?_, hW.1, hW.2.1, hW.2.2.1, hW.2.2.2.mono (by decide) (by decide)⟩
            show Q0 Z p1 p2 p3 p4 p5 h0 n0 _ T59.heap _
            rw [e59]
            exact ⟨rfl, N59⟩
          · skip
            refine own_f T21 (mkF m 160 #[.val (.int p1), .val (.int p2), .val (.int p3), .val (.int p4), .val (.int p5), .val (.int zv), .val (.int zw), .val (.int (p3 &&& (3 : Int32))), .val (.ref b3), .val (.ref b18), .unset, .unset] []) (fun t k => XS.icmpYes X21.here hx rfl (pc0 := 142) (pc' := 160) rfl (hb hby at_142) rfl (XT.ii_ne_t hc50) (by decide) (by decide) k) ?_
            refine own_f T21 (mkF m 161 #[.val (.int p1), .val (.int p2), .val (.int p3), .val (.int p4), .val (.int p5), .val (.int zv), .val (.int zw), .val (.int (p3 &&& (3 : Int32))), .val (.ref b3), .val (.ref b18), .unset, .unset] [.null]) (fun t k => XS.aconstNull X21.here hx rfl (hb hby at_160) k) ?_
            refine own_f T21 (mkF m 163 #[.val (.int p1), .val (.int p2), .val (.int p3), .val (.int p4), .val (.int p5), .val (.int zv), .val (.int zw), .val (.int (p3 &&& (3 : Int32))), .val (.ref b3), .val (.ref b18), .val .null, .unset] []) (fun t k => XS.astore X21.here hx rfl (hb hby at_161) rfl rfl (l' := #[.val (.int p1), .val (.int p2), .val (.int p3), .val (.int p4), .val (.int p5), .val (.int zv), .val (.int zw), .val (.int (p3 &&& (3 : Int32))), .val (.ref b3), .val (.ref b18), .val .null, .unset]) rfl k) ?_
            refine own_f T21 (mkF m 164 #[.val (.int p1), .val (.int p2), .val (.int p3), .val (.int p4), .val (.int p5), .val (.int zv), .val (.int zw), .val (.int (p3 &&& (3 : Int32))), .val (.ref b3), .val (.ref b18), .val .null, .unset] [(.int (0 : Int32))]) (fun t k => XT.iconstV X21.here hx rfl (0 : Int32) (hb hby at_163) (by decide) k) ?_
            refine own_f T21 (mkF m 166 #[.val (.int p1), .val (.int p2), .val (.int p3), .val (.int p4), .val (.int p5), .val (.int zv), .val (.int zw), .val (.int (p3 &&& (3 : Int32))), .val (.ref b3), .val (.ref b18), .val .null, .val (.int (0 : Int32))] []) (fun t k => XS.istore X21.here hx rfl (hb hby at_164) rfl (l' := #[.val (.int p1), .val (.int p2), .val (.int p3), .val (.int p4), .val (.int p5), .val (.int zv), .val (.int zw), .val (.int (p3 &&& (3 : Int32))), .val (.ref b3), .val (.ref b18), .val .null, .val (.int (0 : Int32))]) rfl k) ?_
            refine own_f T21 (mkF m 168 #[.val (.int p1), .val (.int p2), .val (.int p3), .val (.int p4), .val (.int p5), .val (.int zv), .val (.int zw), .val (.int (p3 &&& (3 : Int32))), .val (.ref b3), .val (.ref b18), .val .null, .val (.int (0 : Int32))] [(.ref b18)]) (fun t k => XS.aload X21.here hx rfl (hb hby at_166) rfl rfl k) ?_
            refine own_f T21 (mkF m 170 #[.val (.int p1), .val (.int p2), .val (.int p3), .val (.int p4), .val (.int p5), .val (.int zv), .val (.int zw), .val (.int (p3 &&& (3 : Int32))), .val (.ref b3), .val (.ref b18), .val .null, .val (.int (0 : Int32))] [.null, (.ref b18)]) (fun t k => XS.aload X21.here hx rfl (hb hby at_168) rfl rfl k) ?_
            obtain ⟨cq60, kq60, qa60, qb60, qc60⟩ := isOf hZ e21 G21_0
            obtain ⟨_, _, ⟨T60, Lq60, kq_60, nq_60⟩, -, X60, ⟨Lc60, hQ60, lq60, yq60, zq60⟩, st60⟩ := X21.virtualBack hx (y := (⟨"com/example/modelwright/modelwright/model/BooleanNode", "equals", "(Ljava/lang/Object;)Z"⟩ : MethodName)) (z := (⟨"com/example/modelwright/modelwright/model/BooleanNode", "equals", "(Ljava/lang/Object;)Z"⟩ : MethodName)) hown (mvT hZ (own_w hw 70 rfl)) (mvT hZ (own_w hw 71 rfl)) (notFace_of_selects (args := #[]) (mvT hZ (own_w hw 73 rfl))) (mvT hZ (own_w hw 73 rfl)) (mvT hZ (own_w hw 72 rfl)) (by decide) (backOf (W := 0) (rmanl l Z a0 hw [] b18 h21 n0 Zs21 ) hZ (own_w hw 74 rfl) (own_w hw 46 rfl) (by decide) (by decide)) qa60 qc60 (g := (mkF m 170 #[.val (.int p1), .val (.int p2), .val (.int p3), .val (.int p4), .val (.int p5), .val (.int zv), .val (.int zw), .val (.int (p3 &&& (3 : Int32))), .val (.ref b3), .val (.ref b18), .val .null, .val (.int (0 : Int32))] [.null, (.ref b18)])) rfl (by rw [hml]; rfl) (Steps.refl _) (argsL := [.null]) (rest := []) (lenOf pd__Ljava_lang_Object_Z rfl) rfl (by show 2 * 0 + _ ≤ _; exact Nat.le_of_eq rfl) (hb hby at_170) (fun _ _ => ⟨rfl, e21, (by decide : 0 + 1 + 2 + 0 + 0 + 2 + 1 + 0 + 0 ≤ _), (by decide : 0 + 3 + (4 + 4) + 0 + 0 + 20 + 2 + 0 + 0 ≤ _)⟩)
            dsimp only [Pt.U, Pt.locs, Pt.cells, Pt.slots] at X60 lq60 yq60 zq60 st60 hQ60
            subst lq60 yq60 zq60
            obtain ⟨h60, e60⟩ : ∃ z, T60.heap = z := ⟨_, rfl⟩
            rw [e60] at hQ60
            unfold Qanl at hQ60
            obtain ⟨rfl, Nq60, qh60⟩ := hQ60
            have N60 := Fr.app N21 Nq60
            rw [qh60] at e60
            refine own_g T60 (mkF m 173 #[.val (.int p1), .val (.int p2), .val (.int p3), .val (.int p4), .val (.int p5), .val (.int zv), .val (.int zw), .val (.int (p3 &&& (3 : Int32))), .val (.ref b3), .val (.ref b18), .val .null, .val (.int (0 : Int32))] [(.int (0 : Int32))]) st60 ?_
            refine own_f T60 (mkF m 175 #[.val (.int p1), .val (.int p2), .val (.int p3), .val (.int p4), .val (.int p5), .val (.int zv), .val (.int zw), .val (.int (p3 &&& (3 : Int32))), .val (.ref b3), .val (.ref b18), .val .null, .val (.int (0 : Int32))] [(.int (0 : Int32)), (.int (0 : Int32))]) (fun t k => XS.iload X60.here hx rfl (hb hby at_173) rfl k) ?_
            refine own_f T60 (mkF m 178 #[.val (.int p1), .val (.int p2), .val (.int p3), .val (.int p4), .val (.int p5), .val (.int zv), .val (.int zw), .val (.int (p3 &&& (3 : Int32))), .val (.ref b3), .val (.ref b18), .val .null, .val (.int (0 : Int32))] []) (fun t k => XS.icmpNo X60.here hx rfl (hb hby at_175) rfl (XT.ii_ne_f (by decide)) k) ?_
            refine own_f T60 (mkF m 179 #[.val (.int p1), .val (.int p2), .val (.int p3), .val (.int p4), .val (.int p5), .val (.int zv), .val (.int zw), .val (.int (p3 &&& (3 : Int32))), .val (.ref b3), .val (.ref b18), .val .null, .val (.int (0 : Int32))] [(.int (1 : Int32))]) (fun t k => XT.iconstV X60.here hx rfl (1 : Int32) (hb hby at_178) (by decide) k) ?_
            refine own_f T60 (mkF m 183 #[.val (.int p1), .val (.int p2), .val (.int p3), .val (.int p4), .val (.int p5), .val (.int zv), .val (.int zw), .val (.int (p3 &&& (3 : Int32))), .val (.ref b3), .val (.ref b18), .val .null, .val (.int (0 : Int32))] [(.int (1 : Int32))]) (fun t k => XS.goto X60.here hx rfl (pc0 := 179) (pc' := 183) rfl (hb hby at_179) (by decide) (by decide) k) ?_
            obtain ⟨fs, hr, hrun, hended, hW⟩ := Stand.leaveW (s := s) (vm₁ := T16.vm) X60 hS (by rw [e60]; exact hk) (v := some (.int (1 : Int32))) (fun h => by rw [Bd.returns] at h; cases h)
            refine ⟨_, _, retN X60 hx (t := .boolean) Bd.returns (by simp) (hb hby at_183) hr, hrun, hended, _, _, rfl, ?_, hW.1, hW.2.1, hW.2.2.1, hW.2.2.2.mono (by decide) (by decide)⟩
            show Q0 Z p1 p2 p3 p4 p5 h0 n0 _ T60.heap _
            rw [e60]
            exact ⟨rfl, N60⟩
    by_cases hc61 : (p2 &&& (1 : Int32)) = 0
    · skip
      refine own_f s₁ (mkF m 23 #[.val (.int p1), .val (.int p2), .val (.int p3), .val (.int p4), .val (.int p5), .val (.int zv), .unset, .unset, .unset, .unset, .unset, .unset] []) (fun t k => XS.ifYes X0.here hx rfl (pc0 := 16) (pc' := 23) rfl (hb hby at_16) rfl (XT.i0_eq_t hc61) (by decide) (by decide) k) ?_
      refine own_f s₁ (mkF m 24 #[.val (.int p1), .val (.int p2), .val (.int p3), .val (.int p4), .val (.int p5), .val (.int zv), .unset, .unset, .unset, .unset, .unset, .unset] [(.int (0 : Int32))]) (fun t k => XT.iconstV X0.here hx rfl (0 : Int32) (hb hby at_23) (by decide) k) ?_
      exact jn2 (0 : Int32) (by first | exact Or.inl rfl | exact Or.inr rfl)
    · skip
      refine own_f s₁ (mkF m 19 #[.val (.int p1), .val (.int p2), .val (.int p3), .val (.int p4), .val (.int p5), .val (.int zv), .unset, .unset, .unset, .unset, .unset, .unset] []) (fun t k => XS.ifNo X0.here hx rfl (hb hby at_16) rfl (XT.i0_eq_f hc61) k) ?_
      refine own_f s₁ (mkF m 20 #[.val (.int p1), .val (.int p2), .val (.int p3), .val (.int p4), .val (.int p5), .val (.int zv), .unset, .unset, .unset, .unset, .unset, .unset] [(.int (1 : Int32))]) (fun t k => XT.iconstV X0.here hx rfl (1 : Int32) (hb hby at_19) (by decide) k) ?_
      refine own_f s₁ (mkF m 24 #[.val (.int p1), .val (.int p2), .val (.int p3), .val (.int p4), .val (.int p5), .val (.int zv), .unset, .unset, .unset, .unset, .unset, .unset] [(.int (1 : Int32))]) (fun t k => XS.goto X0.here hx rfl (pc0 := 20) (pc' := 24) rfl (hb hby at_20) (by decide) (by decide) k) ?_
      exact jn2 (1 : Int32) (by first | exact Or.inl rfl | exact Or.inr rfl)
  by_cases hc62 : (p1 &&& (1 : Int32)) = 0
  · skip
    refine own_f s₁ (mkF m 10 #[.val (.int p1), .val (.int p2), .val (.int p3), .val (.int p4), .val (.int p5), .unset, .unset, .unset, .unset, .unset, .unset, .unset] []) (fun t k => XS.ifYes X0.here hx rfl (pc0 := 3) (pc' := 10) rfl (hb hby at_3) rfl (XT.i0_eq_t hc62) (by decide) (by decide) k) ?_
    refine own_f s₁ (mkF m 11 #[.val (.int p1), .val (.int p2), .val (.int p3), .val (.int p4), .val (.int p5), .unset, .unset, .unset, .unset, .unset, .unset, .unset] [(.int (0 : Int32))]) (fun t k => XT.iconstV X0.here hx rfl (0 : Int32) (hb hby at_10) (by decide) k) ?_
    exact jn1 (0 : Int32) (by first | exact Or.inl rfl | exact Or.inr rfl)
  · skip
    refine own_f s₁ (mkF m 6 #[.val (.int p1), .val (.int p2), .val (.int p3), .val (.int p4), .val (.int p5), .unset, .unset, .unset, .unset, .unset, .unset, .unset] []) (fun t k => XS.ifNo X0.here hx rfl (hb hby at_3) rfl (XT.i0_eq_f hc62) k) ?_
    refine own_f s₁ (mkF m 7 #[.val (.int p1), .val (.int p2), .val (.int p3), .val (.int p4), .val (.int p5), .unset, .unset, .unset, .unset, .unset, .unset, .unset] [(.int (1 : Int32))]) (fun t k => XT.iconstV X0.here hx rfl (1 : Int32) (hb hby at_6) (by decide) k) ?_
    refine own_f s₁ (mkF m 11 #[.val (.int p1), .val (.int p2), .val (.int p3), .val (.int p4), .val (.int p5), .unset, .unset, .unset, .unset, .unset, .unset, .unset] [(.int (1 : Int32))]) (fun t k => XS.goto X0.here hx rfl (pc0 := 7) (pc' := 11) rfl (hb hby at_7) (by decide) (by decide) k) ?_
    exact jn1 (1 : Int32) (by first | exact Or.inl rfl | exact Or.inr rfl)
set_option maxRecDepth 65536 in
set_option maxHeartbeats 40000000 in
theorem comes_1 {Post : Tables → Env → Array Value → State → Outcome → State → Prop} (hpost : ∀ tb e args s v u, (limb_1_1.after args s (.returned v) u = true ∧ limb_1_2.after args s (.returned v) u = true ∧ True) → ReturnedEndW s (.returned v) u (Jvm.fieldLocs frame_1_writes args s ++ Jvm.arrayLocs frame_1_arrays args s ++ Jvm.staticLocs frame_1_statics s) 24 2176 → Post tb e args s (.returned v) u) :
    ArmFor flags0 classFile x code maxLocals ret World_1 tables_1 room_1 Calls_1 rest_1 Pre_1 Post := by
  intro l hfl _ _ p e ha hc hk s m args below hf hA hF happ hP
  obtain ⟨hcalls, hrest, hpre⟩ := hP
  obtain ⟨-, -, -, hnamed, -, -, -, hat⟩ := (Spec.applies_iff hf).mp happ
  obtain ⟨hg, hn⟩ := and_e (Cond.before_iff.mp (show (Jvm.Cond.and given_1 narrow_1).before args s = true from hpre))
  obtain ⟨g0, r0⟩ := and_e hg
  obtain ⟨g1, r1⟩ := and_e r0
  obtain ⟨g2, r2⟩ := and_e r1
  obtain ⟨g3, r3⟩ := and_e r2
  obtain ⟨g4, r4⟩ := and_e r3
  obtain ⟨w0, w1, w2, w3, w4, rfl⟩ : ∃ w0 w1 w2 w3 w4 : Value, args = #[w0, w1, w2, w3, w4] := by
    have hs : args.size = 5 := by simpa [Cond.value, given_1] using g0
    obtain ⟨L⟩ := args
    match L, hs with
    | [w0, w1, w2, w3, w4], _ => exact ⟨w0, w1, w2, w3, w4, rfl⟩
  have hw := fun d (hd : d ∈ tables_1) => atoms_spec (ws := Jvm.Cond.code x code maxLocals ret :: tables_1) hat d (List.mem_cons_of_mem _ hd)
  obtain ⟨hsets, hown0⟩ := atoms_of _ (rest_1_c_eq ▸ (show rest_1_c.before _ s = true from hrest))
  have hfit : Fit s := fun {y c} hc i hi => by
    obtain ⟨ha, rfl⟩ := Array.getElem?_eq_some_iff.mp hc
    have q := List.all_eq_true.mp ((Array.all_eq_true_iff_forall_mem.mp hF) _ (Array.getElem_mem ha)) i (List.mem_range.mpr hi)
    simpa [Array.getElem?_eq_getElem hi] using q
  obtain ⟨i0, ev0⟩ := is_v g1
  obtain rfl : w0 = (.int i0) := Option.some.inj ev0
  obtain ⟨i1, ev1⟩ := is_v g2
  obtain rfl : w1 = (.int i1) := Option.some.inj ev1
  obtain ⟨i2, ev2⟩ := is_v g3
  obtain rfl : w2 = (.int i2) := Option.some.inj ev2
  obtain ⟨i3, ev3⟩ := is_v g4
  obtain rfl : w3 = (.int i3) := Option.some.inj ev3
  obtain ⟨i4, ev4⟩ := is_v r4
  obtain rfl : w4 = (.int i4) := Option.some.inj ev4
  obtain ⟨n, o, h1, h2, h3, _, L, rfl, ⟨rfl, N⟩, hq⟩ := rm0 l s _ hw tables_1 i0 i1 i2 i3 i4 s.heap s.heap.size (Nat.le_refl _) (Old.start s) (hcalls.1 _ (List.mem_of_getElem? (i := 0) rfl)) (hsets _ (List.mem_of_getElem? (i := 2) rfl)) p e ha hc hk s m _ below hf ((Spec.applies_iff_loose hf).mp happ).1 ⟨rfl, State.Warmed39.refl s, rfl, IB.start⟩ trivial
  refine ⟨n, _, h1, h2, h3, hpost _ _ _ _ _ _ ⟨Cond.after_iff.mpr rfl, Cond.after_iff.mpr (eq_i res_at (Term.int_eval (1)) rfl), trivial⟩ ⟨hq.1, hq.2.1, hq.2.2.1, (hq.2.2.2.sift fun y hy => Or.inr (N y hy)).mono (by decide) (by decide)⟩⟩
theorem main_1_1 : Claimed_1_1 := comes_1 fun _ _ _ _ _ _ h hF => ⟨h.1, hF⟩
theorem main_1_2 : Claimed_1_2 := comes_1 fun _ _ _ _ _ _ h hF => ⟨h.2.1, hF⟩
end Jvm.Pilot.@@N@@
namespace Jvm.Pilot.@@N@@
open Jvm Jvm.ClassFile Sem Op Lib Jvm.Free Jvm.Stand Jvm.Pilot.@@N@@.Jvm.D
/-! MADE BY PROGRAM (witnessworld.py) out of the Statement's table words and the real class files: 23 classes; the members and pool entries that the words name. The judged class is class 1, her method 1. -/
namespace start1
open Jvm.ClassFile
def u (s : String) : CpInfo := .utf8 (stringToUtf16 s)
/-- a pool by its gaps: so many unusable entries, then the entry; so many at the end -/
def gap : Nat → List CpInfo → List CpInfo
  | 0, r => r
  | n + 1, r => .unusable :: gap n r
def poolList (es : List (Nat × CpInfo)) (last : Nat) : List CpInfo := es.foldr (fun e r => gap e.1 (e.2 :: r)) (gap last [])
def pool (es : List (Nat × CpInfo)) (last : Nat) : Array CpInfo := ⟨poolList es last⟩
def fileOf (pool : Array CpInfo) (this : Nat) (attrs : Array Attribute := #[]) (ms : Array MethodInfo := #[]) (fl : Nat := 33) (sup : Nat := 0) (ifs : Array Nat := #[]) (fds : Array FieldInfo := #[]) : ClassFile where
  minorVersion := 0
  majorVersion := 65
  constantPool := pool
  accessFlags := fl
  thisClass := this
  superClass := sup
  interfaces := ifs
  fields := fds
  methods := ms
  attributes := attrs
def plain (name : String) (sup : Option ClassId) : Class where
  name := name
  kind := .ordinary
  loader := none
  accessFlags := 33
  super := sup
  interfaces := #[]
  cf := none
  fields := #[]
  methods := #[]
  instanceTypes := #[]
  staticTypes := #[]
  resolved := #[]
  callSites := []
  init := .initialized
  statics := none
  mirror := none

def pool0 : Array CpInfo := pool [(5, u "<init>"), (0, u "()V"), (1, .class_ 10), (1, u "java/lang/Object")] 113

def k0c0 : Code := { maxStack := 0, maxLocals := 1, code := object_method_1_code, exceptionTable := #[], attributes := #[] }
def k0m0 : Method := { name := "<init>", desc := "()V", sig := { parameters := [], returnType := none }, accessFlags := 1, code := some k0c0 }
/-- java/lang/Object -/
def k0 : Class := { plain "java/lang/Object" none with
  accessFlags := 33
  interfaces := #[]
  cf := some (fileOf pool0 8 #[] #[{ accessFlags := 1, nameIndex := 5, descriptorIndex := 6, attributes := #[] }] 33 0 #[] #[])
  fields := #[]
  methods := #[k0m0]
  instanceTypes := #[]
  staticTypes := #[]
  resolved := Array.replicate 124 none
  statics := none }

def pool1 : Array CpInfo := pool [(2, .class_ 4), (0, .nameAndType 5 6), (0, u "java/lang/Object"), (0, u "<init>"), (0, u "()V"), (0, .class_ 8), (0, u "com/example/modelwright/modelwright/model/SourceLocation"), (0, .string 10), (0, u "f"), (0, .integer 2147483647), (0, .methodref 13 14), (0, .class_ 15), (0, .nameAndType 16 17), (0, u "java/lang/Math"), (0, u "max"), (0, u "(II)I"), (0, .methodref 7 19), (0, .nameAndType 5 20), (0, u "(Ljava/lang/String;II)V"), (0, .class_ 22), (0, u "com/example/modelwright/modelwright/model/BooleanNode"), (0, .methodref 21 24), (0, .nameAndType 5 25), (0, u "(Z)V"), (0, .methodref 21 27), (0, .nameAndType 5 28), (0, u "(ZLcom/example/modelwright/modelwright/model/SourceLocation;)V"), (0, .class_ 30), (0, u "com/example/modelwright/modelwright/model/NullNode"), (0, .methodref 29 3), (0, .methodref 21 33), (0, .nameAndType 34 35), (0, u "equals"), (0, u "(Ljava/lang/Object;)Z"), (0, .class_ 37), (0, u "com/example/modelwright/modelwright/model/BooleanNodeEqualsPinLaw"), (2, u "law"), (0, u "(IIIII)Z")] 3

def k1m0 : Method := { name := "<init>", desc := "()V", sig := { parameters := [], returnType := none }, accessFlags := 1, code := none }
def k1c1 : Code := { maxStack := 7, maxLocals := 12, code := code, exceptionTable := #[], attributes := #[] }
def k1m1 : Method := { name := "law", desc := "(IIIII)Z", sig := { parameters := [.int, .int, .int, .int, .int], returnType := some .boolean }, accessFlags := 9, code := some k1c1 }
/-- com/example/modelwright/modelwright/model/BooleanNodeEqualsPinLaw -/
def k1 : Class := { plain "com/example/modelwright/modelwright/model/BooleanNodeEqualsPinLaw" (some 0) with
  accessFlags := 49
  interfaces := #[]
  cf := some (fileOf pool1 36 #[] #[{ accessFlags := 1, nameIndex := 5, descriptorIndex := 6, attributes := #[] }, { accessFlags := 9, nameIndex := 40, descriptorIndex := 41, attributes := #[] }] 49 2 #[] #[])
  fields := #[]
  methods := #[k1m0, k1m1]
  instanceTypes := #[]
  staticTypes := #[]
  resolved := Array.replicate 45 none
  statics := none }

def pool2 : Array CpInfo := pool [(1, .methodref 2 3), (0, .class_ 4), (0, .nameAndType 5 6), (0, u "java/lang/Object"), (0, u "<init>"), (0, u "()V"), (0, .class_ 8), (0, u "java/lang/Record")] 13

def k2c0 : Code := { maxStack := 1, maxLocals := 1, code := jdk_30_method_1_code, exceptionTable := #[], attributes := #[] }
def k2m0 : Method := { name := "<init>", desc := "()V", sig := { parameters := [], returnType := none }, accessFlags := 4, code := some k2c0 }
/-- java/lang/Record -/
def k2 : Class := { plain "java/lang/Record" (some 0) with
  accessFlags := 1057
  interfaces := #[]
  cf := some (fileOf pool2 7 #[] #[{ accessFlags := 4, nameIndex := 5, descriptorIndex := 6, attributes := #[] }] 1057 2 #[] #[])
  fields := #[]
  methods := #[k2m0]
  instanceTypes := #[]
  staticTypes := #[]
  resolved := Array.replicate 22 none
  statics := none }

def pool3 : Array CpInfo := pool [(1, .methodref 2 3), (0, .class_ 4), (0, .nameAndType 5 6), (0, u "java/lang/Record"), (0, u "<init>"), (0, u "()V"), (0, .string 8), (0, u "path"), (0, .methodref 10 11), (0, .class_ 12), (0, .nameAndType 13 14), (0, u "java/util/Objects"), (0, u "requireNonNull"), (0, u "(Ljava/lang/Object;Ljava/lang/String;)Ljava/lang/Object;"), (0, .methodref 16 17), (0, .class_ 18), (0, .nameAndType 19 20), (0, u "java/lang/String"), (0, u "isEmpty"), (0, u "()Z"), (11, .fieldref 33 34), (0, .class_ 35), (0, .nameAndType 8 36), (0, u "com/example/modelwright/modelwright/model/SourceLocation"), (0, u "Ljava/lang/String;"), (0, .fieldref 33 38), (0, .nameAndType 39 40), (0, u "line"), (0, u "I"), (0, .fieldref 33 42), (0, .nameAndType 43 40), (0, u "column"), (11, u "(Ljava/lang/String;II)V")] 40

def k3c0 : Code := { maxStack := 5, maxLocals := 4, code := prog_77_method_1_code, exceptionTable := #[], attributes := #[] }
def k3m0 : Method := { name := "<init>", desc := "(Ljava/lang/String;II)V", sig := { parameters := [(.object "java/lang/String"), .int, .int], returnType := none }, accessFlags := 1, code := some k3c0 }
/-- com/example/modelwright/modelwright/model/SourceLocation -/
def k3 : Class := { plain "com/example/modelwright/modelwright/model/SourceLocation" (some 2) with
  accessFlags := 49
  interfaces := #[]
  cf := some (fileOf pool3 33 #[] #[{ accessFlags := 1, nameIndex := 5, descriptorIndex := 55, attributes := #[] }] 49 2 #[] #[{ accessFlags := 18, nameIndex := 8, descriptorIndex := 36, attributes := #[] }, { accessFlags := 18, nameIndex := 39, descriptorIndex := 40, attributes := #[] }, { accessFlags := 18, nameIndex := 43, descriptorIndex := 40, attributes := #[] }])
  fields := #[{ name := "path", type := (.object "java/lang/String"), accessFlags := 18, slot := 0, constantValue := 0 }, { name := "line", type := .int, accessFlags := 18, slot := 1, constantValue := 0 }, { name := "column", type := .int, accessFlags := 18, slot := 2, constantValue := 0 }]
  methods := #[k3m0]
  instanceTypes := #[(.object "java/lang/String"), .int, .int]
  staticTypes := #[]
  resolved := Array.replicate 96 none
  statics := none }

def pool4 : Array CpInfo := pool [(1, .class_ 2), (0, u "java/io/Serializable"), (0, .class_ 4), (0, u "java/lang/Object")] 2

/-- java/io/Serializable -/
def k4 : Class := { plain "java/io/Serializable" (some 0) with
  accessFlags := 1537
  interfaces := #[]
  cf := some (fileOf pool4 1 #[] #[] 1537 3 #[] #[])
  fields := #[]
  methods := #[]
  instanceTypes := #[]
  staticTypes := #[]
  resolved := Array.replicate 7 none
  statics := none }

def pool5 : Array CpInfo := pool [(1, .class_ 2), (0, u "java/lang/Comparable"), (0, .class_ 4), (0, u "java/lang/Object")] 7

/-- java/lang/Comparable -/
def k5 : Class := { plain "java/lang/Comparable" (some 0) with
  accessFlags := 1537
  interfaces := #[]
  cf := some (fileOf pool5 1 #[] #[] 1537 3 #[] #[])
  fields := #[]
  methods := #[]
  instanceTypes := #[]
  staticTypes := #[]
  resolved := Array.replicate 12 none
  statics := none }

def pool6 : Array CpInfo := pool [(2, .class_ 4), (1, u "java/lang/CharSequence"), (42, .class_ 48), (0, u "java/lang/CharSequence$1CodePointIterator"), (10, .class_ 60), (0, u "java/lang/CharSequence$1CharIterator"), (5, .class_ 67), (0, u "java/lang/Object")] 63

/-- java/lang/CharSequence -/
def k6 : Class := { plain "java/lang/CharSequence" (some 0) with
  accessFlags := 1537
  interfaces := #[]
  cf := some (fileOf pool6 2 #[.nestMembers #[47, 59]] #[] 1537 66 #[] #[])
  fields := #[]
  methods := #[]
  instanceTypes := #[]
  staticTypes := #[]
  resolved := Array.replicate 131 none
  statics := none }

def pool7 : Array CpInfo := pool [(1, .class_ 2), (0, u "java/lang/constant/Constable"), (0, .class_ 4), (0, u "java/lang/Object")] 6

/-- java/lang/constant/Constable -/
def k7 : Class := { plain "java/lang/constant/Constable" (some 0) with
  accessFlags := 1537
  interfaces := #[]
  cf := some (fileOf pool7 1 #[] #[] 1537 3 #[] #[])
  fields := #[]
  methods := #[]
  instanceTypes := #[]
  staticTypes := #[]
  resolved := Array.replicate 11 none
  statics := none }

def pool8 : Array CpInfo := pool [(1, .class_ 2), (0, u "java/lang/constant/ConstantDesc"), (0, .class_ 4), (0, u "java/lang/Object")] 32

/-- java/lang/constant/ConstantDesc -/
def k8 : Class := { plain "java/lang/constant/ConstantDesc" (some 0) with
  accessFlags := 1537
  interfaces := #[]
  cf := some (fileOf pool8 1 #[] #[] 1537 3 #[] #[])
  fields := #[]
  methods := #[]
  instanceTypes := #[]
  staticTypes := #[]
  resolved := Array.replicate 37 none
  statics := none }

def pool9 : Array CpInfo := pool [(2, .class_ 4), (1, u "java/lang/Object"), (0, u "<init>"), (0, u "()V"), (2, .fieldref 10 11), (0, .class_ 12), (0, .nameAndType 13 14), (0, u "java/lang/String"), (0, u "value"), (0, u "[B"), (2, u "coder"), (0, u "B"), (2, u "hash"), (0, u "I"), (2, u "hashIsZero"), (0, u "Z"), (13, u "COMPACT_STRINGS"), (101, u "()Z"), (432, .class_ 576), (0, u "java/lang/CharSequence"), (22, u "CASE_INSENSITIVE_ORDER"), (0, u "Ljava/util/Comparator;"), (91, u "isEmpty"), (408, u "serialPersistentFields"), (0, u "[Ljava/io/ObjectStreamField;"), (0, .class_ 1104), (0, u "java/lang/String$CaseInsensitiveComparator"), (1, .class_ 1107), (0, u "java/io/Serializable"), (0, .class_ 1109), (0, u "java/lang/Comparable"), (0, .class_ 1111), (0, u "java/lang/constant/Constable"), (0, .class_ 1113), (0, u "java/lang/constant/ConstantDesc"), (2, u "serialVersionUID"), (0, u "J"), (3, u "REPL"), (0, u "C"), (2, u "LATIN1"), (1, u "UTF16")] 323

def k9m0 : Method := { name := "<init>", desc := "()V", sig := { parameters := [], returnType := none }, accessFlags := 1, code := none }
def k9c1 : Code := { maxStack := 1, maxLocals := 1, code := jdk_42_method_55_code, exceptionTable := #[], attributes := #[] }
def k9m1 : Method := { name := "isEmpty", desc := "()Z", sig := { parameters := [], returnType := some .boolean }, accessFlags := 1, code := some k9c1 }
/-- java/lang/String -/
def k9 : Class := { plain "java/lang/String" (some 0) with
  accessFlags := 49
  interfaces := #[4, 5, 6, 7, 8]
  cf := some (fileOf pool9 10 #[.nestMembers #[1103]] #[{ accessFlags := 1, nameIndex := 5, descriptorIndex := 6, attributes := #[] }, { accessFlags := 1, nameIndex := 692, descriptorIndex := 142, attributes := #[] }] 49 2 #[1106, 1108, 575, 1110, 1112] #[{ accessFlags := 18, nameIndex := 13, descriptorIndex := 14, attributes := #[] }, { accessFlags := 18, nameIndex := 17, descriptorIndex := 18, attributes := #[] }, { accessFlags := 2, nameIndex := 21, descriptorIndex := 22, attributes := #[] }, { accessFlags := 2, nameIndex := 25, descriptorIndex := 26, attributes := #[] }, { accessFlags := 26, nameIndex := 1116, descriptorIndex := 1117, attributes := #[] }, { accessFlags := 24, nameIndex := 40, descriptorIndex := 26, attributes := #[] }, { accessFlags := 26, nameIndex := 1101, descriptorIndex := 1102, attributes := #[] }, { accessFlags := 26, nameIndex := 1121, descriptorIndex := 1122, attributes := #[] }, { accessFlags := 25, nameIndex := 599, descriptorIndex := 600, attributes := #[] }, { accessFlags := 24, nameIndex := 1125, descriptorIndex := 18, attributes := #[] }, { accessFlags := 24, nameIndex := 1127, descriptorIndex := 18, attributes := #[] }])
  fields := #[{ name := "value", type := (.array .byte), accessFlags := 18, slot := 0, constantValue := 0 }, { name := "coder", type := .byte, accessFlags := 18, slot := 1, constantValue := 0 }, { name := "hash", type := .int, accessFlags := 2, slot := 2, constantValue := 0 }, { name := "hashIsZero", type := .boolean, accessFlags := 2, slot := 3, constantValue := 0 }, { name := "serialVersionUID", type := .long, accessFlags := 26, slot := 0, constantValue := 0 }, { name := "COMPACT_STRINGS", type := .boolean, accessFlags := 24, slot := 1, constantValue := 0 }, { name := "serialPersistentFields", type := (.array (.object "java/io/ObjectStreamField")), accessFlags := 26, slot := 2, constantValue := 0 }, { name := "REPL", type := .char, accessFlags := 26, slot := 3, constantValue := 0 }, { name := "CASE_INSENSITIVE_ORDER", type := (.object "java/util/Comparator"), accessFlags := 25, slot := 4, constantValue := 0 }, { name := "LATIN1", type := .byte, accessFlags := 24, slot := 5, constantValue := 0 }, { name := "UTF16", type := .byte, accessFlags := 24, slot := 6, constantValue := 0 }]
  methods := #[k9m0, k9m1]
  instanceTypes := #[(.array .byte), .byte, .int, .boolean]
  staticTypes := #[.long, .boolean, (.array (.object "java/io/ObjectStreamField")), .char, (.object "java/util/Comparator"), .byte, .byte]
  resolved := Array.replicate 1451 none
  statics := some 0 }

def pool10 : Array CpInfo := pool [(1, .class_ 2), (0, u "java/lang/Math"), (1, .class_ 6), (1, u "java/lang/Object"), (0, u "<init>"), (0, u "()V"), (89, .class_ 100), (1, u "java/lang/Math$RandomNumberGeneratorHolder"), (71, u "negativeZeroFloatBits"), (0, u "J"), (2, u "negativeZeroDoubleBits"), (21, u "max"), (46, u "$assertionsDisabled"), (0, u "Z"), (88, u "(II)I"), (2, u "twoToTheDoubleScaleDown"), (0, u "D"), (4, u "twoToTheDoubleScaleUp"), (9, u "E"), (3, u "PI"), (2, u "TAU"), (2, u "DEGREES_TO_RADIANS"), (0, u "RADIANS_TO_DEGREES")] 94

def k10m0 : Method := { name := "<init>", desc := "()V", sig := { parameters := [], returnType := none }, accessFlags := 2, code := none }
def k10c1 : Code := { maxStack := 2, maxLocals := 2, code := jdk_29_method_65_code, exceptionTable := #[], attributes := #[] }
def k10m1 : Method := { name := "max", desc := "(II)I", sig := { parameters := [.int, .int], returnType := some .int }, accessFlags := 9, code := some k10c1 }
/-- java/lang/Math -/
def k10 : Class := { plain "java/lang/Math" (some 0) with
  accessFlags := 49
  interfaces := #[]
  cf := some (fileOf pool10 1 #[.nestMembers #[98]] #[{ accessFlags := 2, nameIndex := 7, descriptorIndex := 8, attributes := #[] }, { accessFlags := 9, nameIndex := 198, descriptorIndex := 335, attributes := #[] }] 49 4 #[] #[{ accessFlags := 25, nameIndex := 354, descriptorIndex := 339, attributes := #[] }, { accessFlags := 25, nameIndex := 358, descriptorIndex := 339, attributes := #[] }, { accessFlags := 25, nameIndex := 361, descriptorIndex := 339, attributes := #[] }, { accessFlags := 26, nameIndex := 364, descriptorIndex := 339, attributes := #[] }, { accessFlags := 26, nameIndex := 365, descriptorIndex := 339, attributes := #[] }, { accessFlags := 26, nameIndex := 172, descriptorIndex := 173, attributes := #[] }, { accessFlags := 26, nameIndex := 176, descriptorIndex := 173, attributes := #[] }, { accessFlags := 8, nameIndex := 344, descriptorIndex := 339, attributes := #[] }, { accessFlags := 8, nameIndex := 338, descriptorIndex := 339, attributes := #[] }, { accessFlags := 4120, nameIndex := 245, descriptorIndex := 246, attributes := #[] }])
  fields := #[{ name := "E", type := .double, accessFlags := 25, slot := 0, constantValue := 0 }, { name := "PI", type := .double, accessFlags := 25, slot := 1, constantValue := 0 }, { name := "TAU", type := .double, accessFlags := 25, slot := 2, constantValue := 0 }, { name := "DEGREES_TO_RADIANS", type := .double, accessFlags := 26, slot := 3, constantValue := 0 }, { name := "RADIANS_TO_DEGREES", type := .double, accessFlags := 26, slot := 4, constantValue := 0 }, { name := "negativeZeroFloatBits", type := .long, accessFlags := 26, slot := 5, constantValue := 0 }, { name := "negativeZeroDoubleBits", type := .long, accessFlags := 26, slot := 6, constantValue := 0 }, { name := "twoToTheDoubleScaleUp", type := .double, accessFlags := 8, slot := 7, constantValue := 0 }, { name := "twoToTheDoubleScaleDown", type := .double, accessFlags := 8, slot := 8, constantValue := 0 }, { name := "$assertionsDisabled", type := .boolean, accessFlags := 4120, slot := 9, constantValue := 0 }]
  methods := #[k10m0, k10m1]
  instanceTypes := #[]
  staticTypes := #[.double, .double, .double, .double, .double, .long, .long, .double, .double, .boolean]
  resolved := Array.replicate 460 none
  statics := none }

def pool11 : Array CpInfo := pool [(2, .class_ 4), (1, u "java/lang/Object"), (0, u "<init>"), (0, u "()V"), (35, .class_ 44), (1, u "java/util/Objects"), (0, u "requireNonNull"), (48, u "(Ljava/lang/Object;Ljava/lang/String;)Ljava/lang/Object;")] 89

def k11m0 : Method := { name := "<init>", desc := "()V", sig := { parameters := [], returnType := none }, accessFlags := 2, code := none }
def k11c1 : Code := { maxStack := 3, maxLocals := 2, code := jdk_31_method_11_code, exceptionTable := #[], attributes := #[] }
def k11m1 : Method := { name := "requireNonNull", desc := "(Ljava/lang/Object;Ljava/lang/String;)Ljava/lang/Object;", sig := { parameters := [(.object "java/lang/Object"), (.object "java/lang/String")], returnType := some (.object "java/lang/Object") }, accessFlags := 9, code := some k11c1 }
/-- java/util/Objects -/
def k11 : Class := { plain "java/util/Objects" (some 0) with
  accessFlags := 49
  interfaces := #[]
  cf := some (fileOf pool11 42 #[] #[{ accessFlags := 2, nameIndex := 5, descriptorIndex := 6, attributes := #[] }, { accessFlags := 9, nameIndex := 45, descriptorIndex := 94, attributes := #[] }] 49 2 #[] #[])
  fields := #[]
  methods := #[k11m0, k11m1]
  instanceTypes := #[]
  staticTypes := #[]
  resolved := Array.replicate 184 none
  statics := none }

def pool12 : Array CpInfo := pool [(41, .class_ 43), (1, u "com/example/modelwright/modelwright/model/Node"), (56, .class_ 101), (0, u "java/lang/Object")] 11

/-- com/example/modelwright/modelwright/model/Node -/
def k12 : Class := { plain "com/example/modelwright/modelwright/model/Node" (some 0) with
  accessFlags := 1537
  interfaces := #[]
  cf := some (fileOf pool12 41 #[] #[] 1537 100 #[] #[])
  fields := #[]
  methods := #[]
  instanceTypes := #[]
  staticTypes := #[]
  resolved := Array.replicate 113 none
  statics := none }

def pool13 : Array CpInfo := pool [(1, .methodref 2 3), (0, .class_ 4), (0, .nameAndType 5 6), (0, u "java/lang/Record"), (0, u "<init>"), (0, u "()V"), (0, .fieldref 8 9), (0, .class_ 10), (0, .nameAndType 11 12), (0, u "com/example/modelwright/modelwright/model/BooleanNode"), (0, u "value"), (0, u "Z"), (0, .fieldref 8 14), (0, .nameAndType 15 16), (0, u "location"), (0, u "Lcom/example/modelwright/modelwright/model/SourceLocation;"), (0, .methodref 8 18), (0, .nameAndType 5 19), (0, u "(ZLcom/example/modelwright/modelwright/model/SourceLocation;)V"), (12, .class_ 33), (0, u "com/example/modelwright/modelwright/model/Node"), (0, u "(Z)V"), (5, u "equals"), (0, u "(Ljava/lang/Object;)Z")] 25

def k13c0 : Code := { maxStack := 3, maxLocals := 2, code := prog_45_method_1_code, exceptionTable := #[], attributes := #[] }
def k13m0 : Method := { name := "<init>", desc := "(Z)V", sig := { parameters := [.boolean], returnType := none }, accessFlags := 1, code := some k13c0 }
def k13c1 : Code := { maxStack := 2, maxLocals := 3, code := prog_45_method_2_code, exceptionTable := #[], attributes := #[] }
def k13m1 : Method := { name := "<init>", desc := "(ZLcom/example/modelwright/modelwright/model/SourceLocation;)V", sig := { parameters := [.boolean, (.object "com/example/modelwright/modelwright/model/SourceLocation")], returnType := none }, accessFlags := 1, code := some k13c1 }
def k13c2 : Code := { maxStack := 2, maxLocals := 3, code := prog_45_method_4_code, exceptionTable := #[], attributes := #[] }
def k13m2 : Method := { name := "equals", desc := "(Ljava/lang/Object;)Z", sig := { parameters := [(.object "java/lang/Object")], returnType := some .boolean }, accessFlags := 1, code := some k13c2 }
/-- com/example/modelwright/modelwright/model/BooleanNode -/
def k13 : Class := { plain "com/example/modelwright/modelwright/model/BooleanNode" (some 2) with
  accessFlags := 49
  interfaces := #[12]
  cf := some (fileOf pool13 8 #[] #[{ accessFlags := 1, nameIndex := 5, descriptorIndex := 34, attributes := #[] }, { accessFlags := 1, nameIndex := 5, descriptorIndex := 19, attributes := #[] }, { accessFlags := 1, nameIndex := 40, descriptorIndex := 41, attributes := #[] }] 49 2 #[32] #[{ accessFlags := 18, nameIndex := 11, descriptorIndex := 12, attributes := #[] }, { accessFlags := 18, nameIndex := 15, descriptorIndex := 16, attributes := #[] }])
  fields := #[{ name := "value", type := .boolean, accessFlags := 18, slot := 0, constantValue := 0 }, { name := "location", type := (.object "com/example/modelwright/modelwright/model/SourceLocation"), accessFlags := 18, slot := 1, constantValue := 0 }]
  methods := #[k13m0, k13m1, k13m2]
  instanceTypes := #[.boolean, (.object "com/example/modelwright/modelwright/model/SourceLocation")]
  staticTypes := #[]
  resolved := Array.replicate 67 none
  statics := none }

def pool14 : Array CpInfo := pool [(1, .methodref 2 3), (0, .class_ 4), (0, .nameAndType 5 6), (0, u "java/lang/Record"), (0, u "<init>"), (0, u "()V"), (0, .fieldref 8 9), (0, .class_ 10), (0, .nameAndType 11 12), (0, u "com/example/modelwright/modelwright/model/NullNode"), (0, u "location"), (0, u "Lcom/example/modelwright/modelwright/model/SourceLocation;"), (0, .methodref 8 14), (0, .nameAndType 5 15), (0, u "(Lcom/example/modelwright/modelwright/model/SourceLocation;)V"), (6, .class_ 23), (0, u "com/example/modelwright/modelwright/model/Node")] 29

def k14c0 : Code := { maxStack := 2, maxLocals := 1, code := prog_63_method_1_code, exceptionTable := #[], attributes := #[] }
def k14m0 : Method := { name := "<init>", desc := "()V", sig := { parameters := [], returnType := none }, accessFlags := 1, code := some k14c0 }
def k14c1 : Code := { maxStack := 2, maxLocals := 2, code := prog_63_method_2_code, exceptionTable := #[], attributes := #[] }
def k14m1 : Method := { name := "<init>", desc := "(Lcom/example/modelwright/modelwright/model/SourceLocation;)V", sig := { parameters := [(.object "com/example/modelwright/modelwright/model/SourceLocation")], returnType := none }, accessFlags := 1, code := some k14c1 }
/-- com/example/modelwright/modelwright/model/NullNode -/
def k14 : Class := { plain "com/example/modelwright/modelwright/model/NullNode" (some 2) with
  accessFlags := 49
  interfaces := #[12]
  cf := some (fileOf pool14 8 #[] #[{ accessFlags := 1, nameIndex := 5, descriptorIndex := 6, attributes := #[] }, { accessFlags := 1, nameIndex := 5, descriptorIndex := 15, attributes := #[] }] 49 2 #[22] #[{ accessFlags := 18, nameIndex := 11, descriptorIndex := 12, attributes := #[] }])
  fields := #[{ name := "location", type := (.object "com/example/modelwright/modelwright/model/SourceLocation"), accessFlags := 18, slot := 0, constantValue := 0 }]
  methods := #[k14m0, k14m1]
  instanceTypes := #[(.object "com/example/modelwright/modelwright/model/SourceLocation")]
  staticTypes := #[]
  resolved := Array.replicate 53 none
  statics := none }

def pool15 : Array CpInfo := pool [(4, .class_ 6), (1, u "java/lang/Object"), (0, u "<init>"), (0, u "()V"), (5, .class_ 16), (1, u "java/lang/StringLatin1"), (104, u "$assertionsDisabled"), (0, u "Z"), (98, .class_ 223), (1, u "java/lang/StringLatin1$LinesSpliterator"), (166, .class_ 391), (0, u "java/lang/StringLatin1$CharsSpliterator")] 3

def k15m0 : Method := { name := "<init>", desc := "()V", sig := { parameters := [], returnType := none }, accessFlags := 0, code := none }
/-- java/lang/StringLatin1 -/
def k15 : Class := { plain "java/lang/StringLatin1" (some 0) with
  accessFlags := 48
  interfaces := #[]
  cf := some (fileOf pool15 14 #[.nestMembers #[390, 221]] #[{ accessFlags := 0, nameIndex := 7, descriptorIndex := 8, attributes := #[] }] 48 4 #[] #[{ accessFlags := 4120, nameIndex := 121, descriptorIndex := 122, attributes := #[] }])
  fields := #[{ name := "$assertionsDisabled", type := .boolean, accessFlags := 4120, slot := 0, constantValue := 0 }]
  methods := #[k15m0]
  instanceTypes := #[]
  staticTypes := #[.boolean]
  resolved := Array.replicate 395 none
  statics := none }

def pool16 : Array CpInfo := pool [(2, .class_ 4), (1, u "java/lang/Object"), (0, u "<init>"), (0, u "()V"), (17, .class_ 26), (1, u "jdk/internal/util/Preconditions"), (28, .class_ 56), (0, u "jdk/internal/util/Preconditions$4"), (57, .class_ 115), (0, u "jdk/internal/util/Preconditions$1"), (7, u "SIOOBE_FORMATTER"), (0, u "Ljava/util/function/BiFunction;"), (0, .class_ 126), (0, u "jdk/internal/util/Preconditions$2"), (3, u "AIOOBE_FORMATTER"), (0, .class_ 132), (0, u "jdk/internal/util/Preconditions$3"), (3, u "IOOBE_FORMATTER")] 57

def k16m0 : Method := { name := "<init>", desc := "()V", sig := { parameters := [], returnType := none }, accessFlags := 1, code := none }
/-- jdk/internal/util/Preconditions -/
def k16 : Class := { plain "jdk/internal/util/Preconditions" (some 0) with
  accessFlags := 33
  interfaces := #[]
  cf := some (fileOf pool16 24 #[.nestMembers #[55, 131, 125, 114]] #[{ accessFlags := 1, nameIndex := 5, descriptorIndex := 6, attributes := #[] }] 33 2 #[] #[{ accessFlags := 25, nameIndex := 123, descriptorIndex := 124, attributes := #[] }, { accessFlags := 25, nameIndex := 130, descriptorIndex := 124, attributes := #[] }, { accessFlags := 25, nameIndex := 136, descriptorIndex := 124, attributes := #[] }])
  fields := #[{ name := "SIOOBE_FORMATTER", type := (.object "java/util/function/BiFunction"), accessFlags := 25, slot := 0, constantValue := 0 }, { name := "AIOOBE_FORMATTER", type := (.object "java/util/function/BiFunction"), accessFlags := 25, slot := 1, constantValue := 0 }, { name := "IOOBE_FORMATTER", type := (.object "java/util/function/BiFunction"), accessFlags := 25, slot := 2, constantValue := 0 }]
  methods := #[k16m0]
  instanceTypes := #[]
  staticTypes := #[(.object "java/util/function/BiFunction"), (.object "java/util/function/BiFunction"), (.object "java/util/function/BiFunction")]
  resolved := Array.replicate 194 none
  statics := some 1 }

def pool17 : Array CpInfo := pool [(9, u "<init>"), (6, .class_ 18), (1, u "java/lang/Object"), (0, u "()V"), (1, .class_ 23), (1, u "jdk/internal/util/ArraysSupport"), (0, u "LOG2_ARRAY_LONG_INDEX_SCALE"), (0, u "I"), (2, u "U"), (0, u "Ljdk/internal/misc/Unsafe;"), (8, u "BIG_ENDIAN"), (0, u "Z"), (8, u "LOG2_BYTE_BIT_SIZE"), (4, u "LOG2_ARRAY_INT_INDEX_SCALE"), (54, u "JLA"), (0, u "Ljdk/internal/access/JavaLangAccess;"), (11, u "LOG2_ARRAY_BOOLEAN_INDEX_SCALE"), (9, u "LOG2_ARRAY_BYTE_INDEX_SCALE"), (5, u "LOG2_ARRAY_CHAR_INDEX_SCALE"), (5, u "LOG2_ARRAY_SHORT_INDEX_SCALE"), (18, u "LOG2_ARRAY_FLOAT_INDEX_SCALE"), (24, u "LOG2_ARRAY_DOUBLE_INDEX_SCALE"), (89, u "T_BOOLEAN"), (2, u "T_CHAR"), (1, u "T_FLOAT"), (1, u "T_DOUBLE"), (1, u "T_BYTE"), (1, u "T_SHORT"), (1, u "T_INT"), (1, u "T_LONG"), (1, u "SOFT_MAX_ARRAY_LENGTH")] 83

def k17m0 : Method := { name := "<init>", desc := "()V", sig := { parameters := [], returnType := none }, accessFlags := 2, code := none }
/-- jdk/internal/util/ArraysSupport -/
def k17 : Class := { plain "jdk/internal/util/ArraysSupport" (some 0) with
  accessFlags := 33
  interfaces := #[]
  cf := some (fileOf pool17 21 #[] #[{ accessFlags := 2, nameIndex := 9, descriptorIndex := 19, attributes := #[] }] 33 16 #[] #[{ accessFlags := 24, nameIndex := 28, descriptorIndex := 29, attributes := #[] }, { accessFlags := 26, nameIndex := 38, descriptorIndex := 39, attributes := #[] }, { accessFlags := 25, nameIndex := 121, descriptorIndex := 25, attributes := #[] }, { accessFlags := 25, nameIndex := 131, descriptorIndex := 25, attributes := #[] }, { accessFlags := 25, nameIndex := 137, descriptorIndex := 25, attributes := #[] }, { accessFlags := 25, nameIndex := 143, descriptorIndex := 25, attributes := #[] }, { accessFlags := 25, nameIndex := 53, descriptorIndex := 25, attributes := #[] }, { accessFlags := 25, nameIndex := 24, descriptorIndex := 25, attributes := #[] }, { accessFlags := 25, nameIndex := 162, descriptorIndex := 25, attributes := #[] }, { accessFlags := 25, nameIndex := 187, descriptorIndex := 25, attributes := #[] }, { accessFlags := 26, nameIndex := 48, descriptorIndex := 25, attributes := #[] }, { accessFlags := 25, nameIndex := 277, descriptorIndex := 25, attributes := #[] }, { accessFlags := 25, nameIndex := 280, descriptorIndex := 25, attributes := #[] }, { accessFlags := 25, nameIndex := 282, descriptorIndex := 25, attributes := #[] }, { accessFlags := 25, nameIndex := 284, descriptorIndex := 25, attributes := #[] }, { accessFlags := 25, nameIndex := 286, descriptorIndex := 25, attributes := #[] }, { accessFlags := 25, nameIndex := 288, descriptorIndex := 25, attributes := #[] }, { accessFlags := 25, nameIndex := 290, descriptorIndex := 25, attributes := #[] }, { accessFlags := 25, nameIndex := 292, descriptorIndex := 25, attributes := #[] }, { accessFlags := 26, nameIndex := 108, descriptorIndex := 109, attributes := #[] }, { accessFlags := 25, nameIndex := 294, descriptorIndex := 25, attributes := #[] }])
  fields := #[{ name := "U", type := (.object "jdk/internal/misc/Unsafe"), accessFlags := 24, slot := 0, constantValue := 0 }, { name := "BIG_ENDIAN", type := .boolean, accessFlags := 26, slot := 1, constantValue := 0 }, { name := "LOG2_ARRAY_BOOLEAN_INDEX_SCALE", type := .int, accessFlags := 25, slot := 2, constantValue := 0 }, { name := "LOG2_ARRAY_BYTE_INDEX_SCALE", type := .int, accessFlags := 25, slot := 3, constantValue := 0 }, { name := "LOG2_ARRAY_CHAR_INDEX_SCALE", type := .int, accessFlags := 25, slot := 4, constantValue := 0 }, { name := "LOG2_ARRAY_SHORT_INDEX_SCALE", type := .int, accessFlags := 25, slot := 5, constantValue := 0 }, { name := "LOG2_ARRAY_INT_INDEX_SCALE", type := .int, accessFlags := 25, slot := 6, constantValue := 0 }, { name := "LOG2_ARRAY_LONG_INDEX_SCALE", type := .int, accessFlags := 25, slot := 7, constantValue := 0 }, { name := "LOG2_ARRAY_FLOAT_INDEX_SCALE", type := .int, accessFlags := 25, slot := 8, constantValue := 0 }, { name := "LOG2_ARRAY_DOUBLE_INDEX_SCALE", type := .int, accessFlags := 25, slot := 9, constantValue := 0 }, { name := "LOG2_BYTE_BIT_SIZE", type := .int, accessFlags := 26, slot := 10, constantValue := 0 }, { name := "T_BOOLEAN", type := .int, accessFlags := 25, slot := 11, constantValue := 0 }, { name := "T_CHAR", type := .int, accessFlags := 25, slot := 12, constantValue := 0 }, { name := "T_FLOAT", type := .int, accessFlags := 25, slot := 13, constantValue := 0 }, { name := "T_DOUBLE", type := .int, accessFlags := 25, slot := 14, constantValue := 0 }, { name := "T_BYTE", type := .int, accessFlags := 25, slot := 15, constantValue := 0 }, { name := "T_SHORT", type := .int, accessFlags := 25, slot := 16, constantValue := 0 }, { name := "T_INT", type := .int, accessFlags := 25, slot := 17, constantValue := 0 }, { name := "T_LONG", type := .int, accessFlags := 25, slot := 18, constantValue := 0 }, { name := "JLA", type := (.object "jdk/internal/access/JavaLangAccess"), accessFlags := 26, slot := 19, constantValue := 0 }, { name := "SOFT_MAX_ARRAY_LENGTH", type := .int, accessFlags := 25, slot := 20, constantValue := 0 }]
  methods := #[k17m0]
  instanceTypes := #[]
  staticTypes := #[(.object "jdk/internal/misc/Unsafe"), .boolean, .int, .int, .int, .int, .int, .int, .int, .int, .int, .int, .int, .int, .int, .int, .int, .int, .int, (.object "jdk/internal/access/JavaLangAccess"), .int]
  resolved := Array.replicate 378 none
  statics := none }

def pool18 : Array CpInfo := pool [(1, u "java/lang/Cloneable"), (0, .class_ 1), (0, u "java/lang/Object"), (0, .class_ 3)] 3

/-- java/lang/Cloneable -/
def k18 : Class := { plain "java/lang/Cloneable" (some 0) with
  accessFlags := 1537
  interfaces := #[]
  cf := some (fileOf pool18 2 #[] #[] 1537 4 #[] #[])
  fields := #[]
  methods := #[]
  instanceTypes := #[]
  staticTypes := #[]
  resolved := Array.replicate 8 none
  statics := none }

/-- the primitive byte -/
def k19 : Class := { plain "byte" none with kind := .primitive 'B', accessFlags := 0x411 }
/-- [B -/
def k20 : Class := { plain "[B" (some 0) with kind := .array 19 .byte, interfaces := #[18, 4], accessFlags := 1041 }

/-- the primitive int -/
def k21 : Class := { plain "int" none with kind := .primitive 'I', accessFlags := 0x411 }
/-- [I -/
def k22 : Class := { plain "[I" (some 0) with kind := .array 21 .int, interfaces := #[18, 4], accessFlags := 1041 }

def heap : Heap := #[{ cls := 9, slots := #[.long 0, .int 1, .null, .int 0, .null, .int 0, .int 0], vm := .statics 9 },
  { cls := 16, slots := #[.null, .null, .null], vm := .statics 16 }]
def classes : Array Class := #[k0, k1, k2, k3, k4, k5, k6, k7, k8, k9, k10, k11, k12, k13, k14, k15, k16, k17, k18, k19, k20, k21, k22]
def interned : List (Array UInt16 × Addr) := []
def slotsUsed : Nat := 10
def theMethod : MethodId := ⟨1, 1⟩
def args0 : Array Value := #[.int 5, .int 6, .int 7, .int 8, .int 9]
def aboutOver (below : List Frame) : State where
  vm := { classes := classes, interned := interned.toArray }
  heap := heap
  slotsUsed := slotsUsed
  threads := #[{ frames := .invoking theMethod args0 :: below }]
def below0 : List Frame := [.native { method := ⟨0, 0⟩, args := #[] }]
def about1 : State := aboutOver below0
def p0 : Program := .bare "" "" ""
def e0 : Env := launch0.env 0 0 0
theorem w_frames : about1.frames = Frame.invoking theMethod args0 :: below0 := rfl
set_option maxRecDepth 65536 in
theorem w_args : argsFit about1.vm theMethod args0 = true := by decide +kernel
set_option maxRecDepth 65536 in
theorem w_heap : heapFits about1 = true := by decide +kernel
set_option maxRecDepth 65536 in
theorem w_runnable : about1.curStatus? = some .runnable := by decide +kernel
set_option maxRecDepth 65536 in
theorem w_alone : about1.alone = true := by decide +kernel
set_option maxRecDepth 65536 in
theorem w_named : about1.methodNamed? x = some theMethod := by decide +kernel
set_option maxRecDepth 65536 in
theorem w_hears : about1.hears theMethod below0 = true := by decide +kernel
set_option maxRecDepth 65536 in
theorem w_ripe : about1.ripe theMethod args0 below0 = true := by decide +kernel
theorem w_running : about1.status = .running := rfl
set_option maxRecDepth 65536 in
theorem w_room : about1.hasRoom e0.platform room_1 = true :=
  launch0.hasRoom_least _ room_1 (by decide +kernel) (by decide +kernel) (by decide +kernel) (by decide +kernel) (by decide +kernel) (by decide +kernel)
theorem allAtoms_all (ts : List Jvm.Cond) (a : Array Jvm.Value) (st : Jvm.State) : (allAtoms ts).before a st = ts.all (fun c => c.before a st) := by
  induction ts with
  | nil => rfl
  | cons c t ih =>
    show (Jvm.Cond.and c (allAtoms t)).before a st = _
    rw [Jvm.Cond.before_and, ih, List.all_cons]
def words1 : List Jvm.Cond := Jvm.Cond.code x code maxLocals ret :: tables_1
/-- a 'code' word, met by the world's own term for the bytes: nothing is compared byte by byte -/
theorem code_word {y : MethodName} {bytes : ByteArray} {mx : Nat} {rt : Option FieldType} {a : Array Value} {s : State} {m : MethodId} {meth : Method} {c : Code} (h1 : s.methodNamed? y = some m) (h2 : s.vm.method? m = some meth) (h3 : meth.code = some c) (h4 : c.code = bytes)
    (h5 : (c.maxLocals == mx && c.exceptionTable.isEmpty && decide (c.maxStack ≤ mostOperands) && decide (meth.sig.returnType = rt) && !meth.locks && decide (parseMethodDescriptor y.desc = some meth.sig)) = true) : (Jvm.Cond.code y bytes mx rt).before a s = true := by
  simp only [Bool.and_eq_true, beq_iff_eq, Bool.not_eq_true', decide_eq_true_eq] at h5
  obtain ⟨⟨⟨⟨⟨g1, g2⟩, g3⟩, g4⟩, g5⟩, g6⟩ := h5
  simp [Cond.before, Cond.holds, Cond.value, h1, h2, h3, h4, g1, g2, g3, g4, g5, g6]
def isCode : Jvm.Cond → Bool
  | .code _ _ _ _ => true
  | _ => false
theorem all_split {L : List Jvm.Cond} {P : Jvm.Cond → Bool} (h1 : L.all (fun c => isCode c || P c) = true) (h2 : ∀ c ∈ L.filter isCode, P c = true) : L.all P = true := by
  refine List.all_eq_true.mpr fun c hc => ?_
  have h := List.all_eq_true.mp h1 c hc
  rcases Bool.eq_false_or_eq_true (isCode c) with hi | hi
  · exact h2 c (List.mem_filter.mpr ⟨hc, hi⟩)
  · simpa [hi] using h
set_option maxRecDepth 65536 in
theorem w_c0 : (Jvm.Cond.code x code maxLocals ret).before args0 about1 = true := code_word (m := ⟨1, 1⟩) (meth := k1m1) (c := k1c1) (by decide +kernel) rfl rfl rfl (by decide +kernel)
set_option maxRecDepth 65536 in
theorem w_c1 : (Jvm.Cond.code ({ cls := "java/lang/Math", name := "max", desc := "(II)I" } : Jvm.MethodName) jdk_29_method_65_code (2 : Nat) (Option.some Jvm.ClassFile.FieldType.int)).before args0 about1 = true := code_word (m := ⟨10, 1⟩) (meth := k10m1) (c := k10c1) (by decide +kernel) rfl rfl rfl (by decide +kernel)
set_option maxRecDepth 65536 in
theorem w_c2 : (Jvm.Cond.code ({ cls := "com/example/modelwright/modelwright/model/SourceLocation", name := "<init>", desc := "(Ljava/lang/String;II)V" } : Jvm.MethodName) prog_77_method_1_code (4 : Nat) (Option.none : Option Jvm.ClassFile.FieldType)).before args0 about1 = true := code_word (m := ⟨3, 0⟩) (meth := k3m0) (c := k3c0) (by decide +kernel) rfl rfl rfl (by decide +kernel)
set_option maxRecDepth 65536 in
theorem w_c3 : (Jvm.Cond.code ({ cls := "java/lang/Record", name := "<init>", desc := "()V" } : Jvm.MethodName) jdk_30_method_1_code (1 : Nat) (Option.none : Option Jvm.ClassFile.FieldType)).before args0 about1 = true := code_word (m := ⟨2, 0⟩) (meth := k2m0) (c := k2c0) (by decide +kernel) rfl rfl rfl (by decide +kernel)
set_option maxRecDepth 65536 in
theorem w_c4 : (Jvm.Cond.code ({ cls := "java/lang/Object", name := "<init>", desc := "()V" } : Jvm.MethodName) object_method_1_code (1 : Nat) (Option.none : Option Jvm.ClassFile.FieldType)).before args0 about1 = true := code_word (m := ⟨0, 0⟩) (meth := k0m0) (c := k0c0) (by decide +kernel) rfl rfl rfl (by decide +kernel)
set_option maxRecDepth 65536 in
theorem w_c5 : (Jvm.Cond.code ({ cls := "java/util/Objects", name := "requireNonNull", desc := "(Ljava/lang/Object;Ljava/lang/String;)Ljava/lang/Object;" } : Jvm.MethodName) jdk_31_method_11_code (2 : Nat) (Option.some (Jvm.ClassFile.FieldType.object "java/lang/Object"))).before args0 about1 = true := code_word (m := ⟨11, 1⟩) (meth := k11m1) (c := k11c1) (by decide +kernel) rfl rfl rfl (by decide +kernel)
set_option maxRecDepth 65536 in
theorem w_c6 : (Jvm.Cond.code ({ cls := "java/lang/String", name := "isEmpty", desc := "()Z" } : Jvm.MethodName) jdk_42_method_55_code (1 : Nat) (Option.some Jvm.ClassFile.FieldType.boolean)).before args0 about1 = true := code_word (m := ⟨9, 1⟩) (meth := k9m1) (c := k9c1) (by decide +kernel) rfl rfl rfl (by decide +kernel)
set_option maxRecDepth 65536 in
theorem w_c7 : (Jvm.Cond.code ({ cls := "com/example/modelwright/modelwright/model/BooleanNode", name := "<init>", desc := "(Z)V" } : Jvm.MethodName) prog_45_method_1_code (2 : Nat) (Option.none : Option Jvm.ClassFile.FieldType)).before args0 about1 = true := code_word (m := ⟨13, 0⟩) (meth := k13m0) (c := k13c0) (by decide +kernel) rfl rfl rfl (by decide +kernel)
set_option maxRecDepth 65536 in
theorem w_c8 : (Jvm.Cond.code ({ cls := "com/example/modelwright/modelwright/model/BooleanNode", name := "<init>", desc := "(ZLcom/example/modelwright/modelwright/model/SourceLocation;)V" } : Jvm.MethodName) prog_45_method_2_code (3 : Nat) (Option.none : Option Jvm.ClassFile.FieldType)).before args0 about1 = true := code_word (m := ⟨13, 1⟩) (meth := k13m1) (c := k13c1) (by decide +kernel) rfl rfl rfl (by decide +kernel)
set_option maxRecDepth 65536 in
theorem w_c9 : (Jvm.Cond.code ({ cls := "com/example/modelwright/modelwright/model/NullNode", name := "<init>", desc := "()V" } : Jvm.MethodName) prog_63_method_1_code (1 : Nat) (Option.none : Option Jvm.ClassFile.FieldType)).before args0 about1 = true := code_word (m := ⟨14, 0⟩) (meth := k14m0) (c := k14c0) (by decide +kernel) rfl rfl rfl (by decide +kernel)
set_option maxRecDepth 65536 in
theorem w_c10 : (Jvm.Cond.code ({ cls := "com/example/modelwright/modelwright/model/NullNode", name := "<init>", desc := "(Lcom/example/modelwright/modelwright/model/SourceLocation;)V" } : Jvm.MethodName) prog_63_method_2_code (2 : Nat) (Option.none : Option Jvm.ClassFile.FieldType)).before args0 about1 = true := code_word (m := ⟨14, 1⟩) (meth := k14m1) (c := k14c1) (by decide +kernel) rfl rfl rfl (by decide +kernel)
set_option maxRecDepth 65536 in
theorem w_c11 : (Jvm.Cond.code ({ cls := "com/example/modelwright/modelwright/model/BooleanNode", name := "equals", desc := "(Ljava/lang/Object;)Z" } : Jvm.MethodName) prog_45_method_4_code (3 : Nat) (Option.some Jvm.ClassFile.FieldType.boolean)).before args0 about1 = true := code_word (m := ⟨13, 2⟩) (meth := k13m2) (c := k13c2) (by decide +kernel) rfl rfl rfl (by decide +kernel)
def codes1 : List Jvm.Cond := [Jvm.Cond.code x code maxLocals ret, Jvm.Cond.code ({ cls := "java/lang/Math", name := "max", desc := "(II)I" } : Jvm.MethodName) jdk_29_method_65_code (2 : Nat) (Option.some Jvm.ClassFile.FieldType.int), Jvm.Cond.code ({ cls := "com/example/modelwright/modelwright/model/SourceLocation", name := "<init>", desc := "(Ljava/lang/String;II)V" } : Jvm.MethodName) prog_77_method_1_code (4 : Nat) (Option.none : Option Jvm.ClassFile.FieldType), Jvm.Cond.code ({ cls := "java/lang/Record", name := "<init>", desc := "()V" } : Jvm.MethodName) jdk_30_method_1_code (1 : Nat) (Option.none : Option Jvm.ClassFile.FieldType), Jvm.Cond.code ({ cls := "java/lang/Object", name := "<init>", desc := "()V" } : Jvm.MethodName) object_method_1_code (1 : Nat) (Option.none : Option Jvm.ClassFile.FieldType), Jvm.Cond.code ({ cls := "java/util/Objects", name := "requireNonNull", desc := "(Ljava/lang/Object;Ljava/lang/String;)Ljava/lang/Object;" } : Jvm.MethodName) jdk_31_method_11_code (2 : Nat) (Option.some (Jvm.ClassFile.FieldType.object "java/lang/Object")), Jvm.Cond.code ({ cls := "java/lang/String", name := "isEmpty", desc := "()Z" } : Jvm.MethodName) jdk_42_method_55_code (1 : Nat) (Option.some Jvm.ClassFile.FieldType.boolean), Jvm.Cond.code ({ cls := "com/example/modelwright/modelwright/model/BooleanNode", name := "<init>", desc := "(Z)V" } : Jvm.MethodName) prog_45_method_1_code (2 : Nat) (Option.none : Option Jvm.ClassFile.FieldType), Jvm.Cond.code ({ cls := "com/example/modelwright/modelwright/model/BooleanNode", name := "<init>", desc := "(ZLcom/example/modelwright/modelwright/model/SourceLocation;)V" } : Jvm.MethodName) prog_45_method_2_code (3 : Nat) (Option.none : Option Jvm.ClassFile.FieldType), Jvm.Cond.code ({ cls := "com/example/modelwright/modelwright/model/NullNode", name := "<init>", desc := "()V" } : Jvm.MethodName) prog_63_method_1_code (1 : Nat) (Option.none : Option Jvm.ClassFile.FieldType), Jvm.Cond.code ({ cls := "com/example/modelwright/modelwright/model/NullNode", name := "<init>", desc := "(Lcom/example/modelwright/modelwright/model/SourceLocation;)V" } : Jvm.MethodName) prog_63_method_2_code (2 : Nat) (Option.none : Option Jvm.ClassFile.FieldType), Jvm.Cond.code ({ cls := "com/example/modelwright/modelwright/model/BooleanNode", name := "equals", desc := "(Ljava/lang/Object;)Z" } : Jvm.MethodName) prog_45_method_4_code (3 : Nat) (Option.some Jvm.ClassFile.FieldType.boolean)]
set_option maxRecDepth 65536 in
theorem codes_eq : words1.filter isCode = codes1 := rfl
theorem w_codes : ∀ c ∈ words1.filter isCode, c.before args0 about1 = true := by
  rw [codes_eq]
  intro c hc
  simp only [codes1, List.mem_cons, List.not_mem_nil, or_false] at hc
  rcases hc with rfl | rfl | rfl | rfl | rfl | rfl | rfl | rfl | rfl | rfl | rfl | rfl
  · exact w_c0
  · exact w_c1
  · exact w_c2
  · exact w_c3
  · exact w_c4
  · exact w_c5
  · exact w_c6
  · exact w_c7
  · exact w_c8
  · exact w_c9
  · exact w_c10
  · exact w_c11
set_option maxRecDepth 65536 in
theorem w_t1 : (words1.take 24).all (fun c => isCode c || c.before args0 about1) = true := by decide +kernel
set_option maxRecDepth 65536 in
theorem w_t2 : ((words1.drop 24).take 24).all (fun c => isCode c || c.before args0 about1) = true := by decide +kernel
set_option maxRecDepth 65536 in
theorem w_t3 : (((words1.drop 24).drop 24).take 24).all (fun c => isCode c || c.before args0 about1) = true := by decide +kernel
set_option maxRecDepth 65536 in
theorem w_t4 : (((words1.drop 24).drop 24).drop 24).all (fun c => isCode c || c.before args0 about1) = true := by decide +kernel
theorem w_tables : (allAtoms (Jvm.Cond.code x code maxLocals ret :: tables_1)).before args0 about1 = true := by
  rw [allAtoms_all]
  show words1.all (fun c => c.before args0 about1) = true
  refine all_split ?_ w_codes
  rw [← List.take_append_drop 24 words1, List.all_append, w_t1, ← List.take_append_drop 24 (words1.drop 24), List.all_append, w_t2, ← List.take_append_drop 24 ((words1.drop 24).drop 24), List.all_append, w_t3, w_t4]
  rfl
set_option maxRecDepth 65536 in
theorem w_rest : rest_1_c.before args0 about1 = true := by decide +kernel
set_option maxRecDepth 65536 in
theorem w_case : (Jvm.Cond.and given_1 narrow_1).before args0 about1 = true := by decide +kernel
set_option maxRecDepth 65536 in
theorem w_consts : constsHeld consts_1 about1 := Jvm.Lit.constsHeldB_iff.mp (by decide +kernel)
theorem w_applies : (headSpec (Jvm.Cond.code x code maxLocals ret :: tables_1) room_1).applies x e0.platform about1 = true :=
  (Spec.applies_iff w_frames).mpr ⟨w_running, w_runnable, w_alone, w_named, w_hears, w_ripe, w_room, w_tables⟩
theorem atStart : AtStart classFile x code maxLocals ret World_1 tables_1 room_1 Calls_1 rest_1 Pre_1 launch0 p0 e0 about1 theMethod args0 below0 :=
  ⟨lists_1, trivial, launch0.admits_env _ _ _, launch0.least_env, fairChoices_fair.cas, fairChoices_fair.clock, w_frames, w_args, w_heap, w_applies, ⟨w_consts, trivial⟩, w_rest, w_case⟩
end start1
theorem witness_1 : WitnessClaimed_1 := ⟨start1.p0, start1.e0, start1.about1, start1.theMethod, start1.args0, start1.below0, start1.atStart⟩
end Jvm.Pilot.@@N@@
