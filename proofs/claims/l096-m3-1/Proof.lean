import JvmDerived
import JvmDerived.Pilot.@@N@@Statement
import JvmDerived.Pilot.@@N@@Code
set_option linter.unusedVariables false
set_option linter.unusedSimpArgs false
namespace Jvm.RoadKit
open Sem ClassFile Op Lib Jvm.Stand Jvm.Free Jvm.LawKit
section New
variable {p : Program} {l : Launch} {e : Env} {R : Room} {s : State} {m : MethodId} {args : Array Value} {below : List Frame} {meth : Method} {c : Code} {T : State} {locs : List Loc} {cells slots : Nat}
theorem retI (X : Stand p l e R s m args below meth c T locs cells slots) (hx : p.tables.exec = Jvm.exec) {pc : Nat} {Ls : Array Slot} {z : Int32} {rest : List Value} (hret : meth.sig.returnType = some .int) (hd : decode c.code pc = .ok (.ireturn, 1)) {fs : List Frame}
    (hl : ∀ (f : JFrame) (acts : List Action), f.method = m → f.locked = none → f.entered = [] → (doReturn e (T.setTop f) acts (some (.int z))).1 = T.setFrames fs) : Steps p.tables e below (T.setTop (mkF m pc Ls (.int z :: rest))) (T.setFrames fs) := by
  have hm' : T.vm.method? m = some meth := X.method'
  have hn : narrow .int (.int z) = .int z := rfl
  show Steps p.tables e below (T.setTop { method := m, pc := pc, locals := Ls, stack := _ :: rest, locked := none }) _
  jvm_step X.here [X.here.top, hx, hd, hm', hret, hn]
  first | (intro acts; rw [hl _ acts rfl rfl rfl]) | rw [hl _ _ rfl rfl rfl]
  exact Steps.refl _
/-- a boolean, byte, char or short that is one already -/
theorem own_retB (X : Stand p l e R s m args below meth c T locs cells slots) (hx : p.tables.exec = Jvm.exec) {pc : Nat} {Ls : Array Slot} {z : Int32} {t : FieldType} {rest : List Value} (hret : meth.sig.returnType = some t) (ht : t = .boolean ∨ t = .byte ∨ t = .char ∨ t = .short) (hz : nar t z = z)
    (hd : decode c.code pc = .ok (.ireturn, 1)) {fs : List Frame} (hl : ∀ (f : JFrame) (acts : List Action), f.method = m → f.locked = none → f.entered = [] → (doReturn e (T.setTop f) acts (some (.int z))).1 = T.setFrames fs) :
    Steps p.tables e below (T.setTop (mkF m pc Ls (.int z :: rest))) (T.setFrames fs) := retN X hx hret ht hd (by rw [hz]; exact hl)
theorem own_retL (X : Stand p l e R s m args below meth c T locs cells slots) (hx : p.tables.exec = Jvm.exec) {pc : Nat} {Ls : Array Slot} {z : Int64} {rest : List Value} (hret : meth.sig.returnType = some .long) (hd : decode c.code pc = .ok (.lreturn, 1)) {fs : List Frame}
    (hl : ∀ (f : JFrame) (acts : List Action), f.method = m → f.locked = none → f.entered = [] → (doReturn e (T.setTop f) acts (some (.long z))).1 = T.setFrames fs) : Steps p.tables e below (T.setTop (mkF m pc Ls (.long z :: rest))) (T.setFrames fs) :=
  retOut X hx hret rfl (Or.inr (Or.inl ⟨rfl, rfl, z, rfl⟩)) hd hl
end New
end Jvm.RoadKit
namespace Jvm.Pilot.@@N@@
open Jvm Jvm.ClassFile Sem Op Lib Jvm.Free Jvm.Stand Jvm.LawKit Jvm.RoadKit Bundle Jvm.Pilot.@@N@@.Jvm.D
theorem own_w {a0 : Array Value} {Z : State} (hw : ∀ d ∈ tables_1, d.before a0 Z = true) (i : Nat) {d : Jvm.Cond} (h : tables_1[i]? = some d) : d.before a0 Z = true := hw _ (List.mem_of_getElem? h)
/-- from A the walk comes to an end that P takes -/
abbrev own_R (tb : Tables) (e : Env) (below : List Frame) (P : State → Outcome → Prop) (A : State) : Prop := ∃ t o, Steps tb e below A t ∧ t.status = .running ∧ Ended t below o ∧ P t o
abbrev own_P (s : State) (Q : Option Value → Heap → List Loc → Prop) (k n : Nat) (t : State) (o : Outcome) : Prop := ∃ v L, o = .returned v ∧ Q v t.heap L ∧ FrameEnd s o t L k n
abbrev own_PW (s : State) (Q : Option Value → Heap → List Loc → Prop) (k n : Nat) (t : State) (o : Outcome) : Prop := ∃ v L, o = .returned v ∧ Q v t.heap L ∧ ReturnedEndW s o t L k n
theorem own_step {tb : Tables} {e : Env} {below : List Frame} {P : State → Outcome → Prop} {A A' : State} (st : ∀ t, Steps tb e below A' t → Steps tb e below A t) (h : own_R tb e below P A') : own_R tb e below P A := by
  obtain ⟨t, o, h1, h2⟩ := h
  exact ⟨t, o, st t h1, h2⟩
theorem own_go {tb : Tables} {e : Env} {below : List Frame} {P : State → Outcome → Prop} {A A' : State} (st : Steps tb e below A A') (h : own_R tb e below P A') : own_R tb e below P A := own_step (fun _ k => st.trans k) h
theorem own_f {tb : Tables} {e : Env} {below : List Frame} {P : State → Outcome → Prop} {A : State} (T : State) (g : JFrame) (st : ∀ t, Steps tb e below (T.setTop g) t → Steps tb e below A t) (h : own_R tb e below P (T.setTop g)) : own_R tb e below P A := own_step st h
theorem own_g {tb : Tables} {e : Env} {below : List Frame} {P : State → Outcome → Prop} {A : State} (T : State) (g : JFrame) (st : Steps tb e below A (T.setTop g)) (h : own_R tb e below P (T.setTop g)) : own_R tb e below P A := own_go st h
theorem own_lsw {tb : Tables} [Ours tb] {e : Env} {below : List Frame} {T target : State} {m : MethodId} {c : Code} {g : JFrame} (h : At T m c below) (hx : tb.exec = Jvm.exec) (hg : g.method = m) {df : Int} {ps : Array (Int × Int)} {len : Nat} {o : Int} {pc0 pc' : Nat} (hpc : g.pc = pc0) (hd : decode c.code g.pc = .ok (.lookupswitch df ps, len)) {i : Int32} {rest : List Value} (hs : g.stack = .int i :: rest)
    (hord : (ps.toList.zip (ps.toList.drop 1)).all (fun (a, next) => a.1 < next.1) = true) (hoff : lookupswitch.offset ps.toList df i.toInt = o) (ho : 0 ≤ (pc0 : Int) + o) (hp : ((pc0 : Int) + o).toNat = pc')
    (hr : Steps tb e below (T.setTop { g with pc := pc', stack := rest }) target) : Steps tb e below (T.setTop g) target := by
  subst hg hpc hp
  jvm_step h [h.top, hx, hd, hs, hoff, ho, lookupswitch.wp_chain]
  exact ⟨by simpa using hord, hr⟩
theorem own_len {p : Program} {l : Launch} {e : Env} {R : Room} {s : State} {m : MethodId} {args : Array Value} {below : List Frame} {meth : Method} {c : Code} {T target : State} {locs : List Loc} {cells slots : Nat} {Z : State} {h : Heap} {a : Addr} {k : ClassId} {ty : FieldType} {z : Int32} {vs : List Value} {dv : Value}
    (X : Stand p l e R s m args below meth c T locs cells slots) (hx : p.tables.exec = Jvm.exec) (hZ : Z.Warmed39 s.vm) (eT : T.heap = h) (F : Arv Z h a k ty z vs dv) {g : JFrame} (hg : g.method = m) {rest : List Value} (hs : g.stack = .ref a :: rest) (hd : decode c.code g.pc = .ok (.arraylength, 1))
    (hr : Steps p.tables e below (T.setTop { g with pc := g.pc + 1, stack := .int z :: rest }) target) : Steps p.tables e below (T.setTop g) target := by
  obtain ⟨cl, A, -, S, q, -⟩ := F
  exact X.arraylength hx (by rw [eT]; exact A.1) (State.isArrayOf_alike hZ.alike A.2.1) hg hs hd _ (by rw [len_of S q]; exact hr)
theorem own_arvnew {Z : State} {h : Heap} {a : Addr} {k : ClassId} {ty : FieldType} {z : Int32} (n : Nat) (A : Arr Z h a (newA k ty z) ty) (q : ¬ z < 0) : Arv Z h a k ty z (List.replicate n (defaultValue ty)) (defaultValue ty) := (Arv.new A q).pad fun i => pad_rep [] _ n i
theorem own_narB (x : Int32) : nar .byte x.toInt8.toInt32 = x.toInt8.toInt32 := by show x.toInt8.toInt32.toInt8.toInt32 = _; simp
theorem own_narC (x : Int32) : nar .char x.toUInt32.toUInt16.toUInt32.toInt32 = x.toUInt32.toUInt16.toUInt32.toInt32 := by show x.toUInt32.toUInt16.toUInt32.toInt32.toUInt32.toUInt16.toUInt32.toInt32 = _; simp only [UInt32.toUInt32_toInt32, UInt16.toUInt16_toUInt32]
theorem own_fitB (x : Int32) : fits .byte (.int (nar .byte x)) = true := fits_nar_byte x
theorem own_nb {z : Int32} (h : z = 0 ∨ z = 1) : narrow .boolean (.int z) = .int z := by rcases h with rfl | rfl <;> rfl
theorem own_fb {z : Int32} (h : z = 0 ∨ z = 1) : fits .boolean (.int z) = true := by rcases h with rfl | rfl <;> rfl
theorem own_nar {z : Int32} (h : z = 0 ∨ z = 1) : nar .boolean z = z := by rcases h with rfl | rfl <;> rfl
def own_df (a b : Int32) : Int32 := if a = b then 0 else 1
theorem own_df01 (a b : Int32) : own_df a b = 0 ∨ own_df a b = 1 := by
  by_cases h : a = b
  · exact Or.inl (if_pos h)
  · exact Or.inr (if_neg h)
theorem pd__I : parseMethodDescriptor "()I" = some ⟨[], some .int⟩ := by decide +kernel
theorem pd__Lcom_example_demarcation_demarcation_QueryTimeouts_Keeping_ : parseMethodDescriptor "()Lcom/example/demarcation/demarcation/QueryTimeouts$Keeping;" = some ⟨[], some (.object "com/example/demarcation/demarcation/QueryTimeouts$Keeping")⟩ := by decide +kernel
theorem pd__V : parseMethodDescriptor "()V" = some ⟨[], none⟩ := by decide +kernel
theorem pd__Z : parseMethodDescriptor "()Z" = some ⟨[], some .boolean⟩ := by decide +kernel
theorem pd__II_V : parseMethodDescriptor "(II)V" = some ⟨[.int, .int], none⟩ := by decide +kernel
theorem pd__ZI_V : parseMethodDescriptor "(ZI)V" = some ⟨[.boolean, .int], none⟩ := by decide +kernel
theorem d2_0 : decode jdk_30_method_1_code 0 = .ok (.aload_n 0, 1) := by decide +kernel
theorem d2_1 : decode jdk_30_method_1_code 1 = .ok (.invokespecial 1, 3) := by decide +kernel
theorem d2_4 : decode jdk_30_method_1_code 4 = .ok (.return_, 1) := by decide +kernel
theorem pn_2 : plainName "java/lang/Record" = true := by first | (simp [plainName, overriddenIn]; done) | decide +kernel
theorem ef_2 (m : MethodId) (x0 : Addr) : entryFrame m #[(.ref x0)] 1 = mkF m 0 #[.val (.ref x0)] [] := by first | (simp [entryFrame, mkF, argsToLocals, Value.category]; done) | rfl
def Q2 (Z : State) (a1 : Addr) (h0 : Heap) (n0 : Nat) (v : Option Value) (h : Heap) (L : List Loc) : Prop := v = none ∧ Fr n0 L ∧ h = h0
set_option maxRecDepth 65536 in
set_option maxHeartbeats 40000000 in
theorem rm2 (l : Launch) (Z : State) (a0 : Array Value) (hw : ∀ d ∈ tables_1, d.before a0 Z = true) (ws : List Jvm.Cond) (a1 : Addr) (h0 : Heap) (n0 : Nat) (Z0 : n0 ≤ h0.size) :
    MetFree l (⟨"java/lang/Record", "<init>", "()V"⟩ : MethodName) (head1 (Jvm.Cond.code (⟨"java/lang/Record", "<init>", "()V"⟩ : MethodName) jdk_30_method_1_code 1 none :: ws) ({ frames := 1, cells := 0, slots := 0, locals := 12 } : Room)) (fun a U => a = #[(.ref a1)] ∧ Z.Warmed39 U.vm ∧ U.heap = h0) (fun _ _ _ _ _ => True) (fun _ U o U' => ∃ v L, o = .returned v ∧ Q2 Z a1 h0 n0 v U'.heap L ∧ FrameEnd U o U' L ({ frames := 1, cells := 0, slots := 0, locals := 12 } : Room).cells ({ frames := 1, cells := 0, slots := 0, locals := 12 } : Room).slots) := by
  refine MetFree.of_bodySF (plainFor_of_name pn_2) hisR ?_
  intro p e s m args below meth c s₁ Bd hml0 hP hK
  obtain ⟨rfl, hZ, hh⟩ := hP
  have hx := Bd.exec
  have hby := Bd.bytes
  have hml : c.maxLocals = 1 := hml0
  have hown : s.vm.findClass "java/lang/Record" = some m.cls := findClass_of_methodNamed Bd.named
  have hnm := (name_of_methodNamed Bd.named Bd.method).1
  have X0 : Stand p l e ({ frames := 1, cells := 0, slots := 0, locals := 12 } : Room) s m #[(.ref a1)] below meth c s₁ [] 0 0 := Stand.of_body Bd
  have e0 : s₁.heap = h0 := by rw [← hh, Bd.state]; rfl
  have N0 := Fr.nil n0
  show own_R p.tables e below (own_P s (Q2 Z a1 h0 n0) ({ frames := 1, cells := 0, slots := 0, locals := 12 } : Room).cells ({ frames := 1, cells := 0, slots := 0, locals := 12 } : Room).slots) (s₁.setTop (entryFrame m #[(.ref a1)] 1))
  refine own_f s₁ (mkF m 0 #[.val (.ref a1)] []) (fun t k => castTop (ef_2 m a1) k) ?_
  refine own_f s₁ (mkF m 1 #[.val (.ref a1)] [(.ref a1)]) (fun t k => XS.aloadN X0.here hx rfl (hb hby d2_0) rfl rfl k) ?_
  obtain ⟨T1, X1, e1, st1⟩ := initO X0 hx hZ hown (own_w hw 32 rfl) (own_w hw 7 rfl) (own_w hw 8 rfl) e0 (g := (mkF m 1 #[.val (.ref a1)] [(.ref a1)])) rfl (by rw [hml]; rfl) rfl (hb hby d2_1) (by decide) (W := 0) (by show 2 * 0 + _ ≤ _; exact Nat.le_of_eq rfl) (by decide)
  refine own_f T1 (mkF m 4 #[.val (.ref a1)] []) st1 ?_
  obtain ⟨fs, hr, hrun, hended, hW, hsame⟩ := X1.leave (v := none) (fun _ => rfl)
  refine ⟨_, _, X1.returnOut hx Bd.returns (hb hby d2_4) hr, hrun, hended, _, _, rfl, ?_, ⟨_, rfl⟩, hW, hsame.mono (by decide) (by decide)⟩
  show Q2 Z a1 h0 n0 _ T1.heap _
  rw [e1]
  exact ⟨rfl, N0, rfl⟩
theorem d1_0 : decode prog_33_method_1_code 0 = .ok (.aload_n 0, 1) := by decide +kernel
theorem d1_1 : decode prog_33_method_1_code 1 = .ok (.invokespecial 1, 3) := by decide +kernel
theorem d1_4 : decode prog_33_method_1_code 4 = .ok (.return_, 1) := by decide +kernel
theorem pn_1 : plainName "com/example/demarcation/demarcation/QueryTimeouts" = true := by first | (simp [plainName, overriddenIn]; done) | decide +kernel
theorem ef_1 (m : MethodId) (x0 : Addr) : entryFrame m #[(.ref x0)] 1 = mkF m 0 #[.val (.ref x0)] [] := by first | (simp [entryFrame, mkF, argsToLocals, Value.category]; done) | rfl
def Q1 (Z : State) (a1 : Addr) (h0 : Heap) (n0 : Nat) (v : Option Value) (h : Heap) (L : List Loc) : Prop := v = none ∧ Fr n0 L ∧ h = h0
set_option maxRecDepth 65536 in
set_option maxHeartbeats 40000000 in
theorem rm1 (l : Launch) (Z : State) (a0 : Array Value) (hw : ∀ d ∈ tables_1, d.before a0 Z = true) (ws : List Jvm.Cond) (a1 : Addr) (h0 : Heap) (n0 : Nat) (Z0 : n0 ≤ h0.size) :
    MetFree l (⟨"com/example/demarcation/demarcation/QueryTimeouts", "<init>", "()V"⟩ : MethodName) (head1 (Jvm.Cond.code (⟨"com/example/demarcation/demarcation/QueryTimeouts", "<init>", "()V"⟩ : MethodName) prog_33_method_1_code 1 none :: ws) ({ frames := 1, cells := 0, slots := 0, locals := 12 } : Room)) (fun a U => a = #[(.ref a1)] ∧ Z.Warmed39 U.vm ∧ U.heap = h0) (fun _ _ _ _ _ => True) (fun _ U o U' => ∃ v L, o = .returned v ∧ Q1 Z a1 h0 n0 v U'.heap L ∧ FrameEnd U o U' L ({ frames := 1, cells := 0, slots := 0, locals := 12 } : Room).cells ({ frames := 1, cells := 0, slots := 0, locals := 12 } : Room).slots) := by
  refine MetFree.of_bodySF (plainFor_of_name pn_1) hisR ?_
  intro p e s m args below meth c s₁ Bd hml0 hP hK
  obtain ⟨rfl, hZ, hh⟩ := hP
  have hx := Bd.exec
  have hby := Bd.bytes
  have hml : c.maxLocals = 1 := hml0
  have hown : s.vm.findClass "com/example/demarcation/demarcation/QueryTimeouts" = some m.cls := findClass_of_methodNamed Bd.named
  have hnm := (name_of_methodNamed Bd.named Bd.method).1
  have X0 : Stand p l e ({ frames := 1, cells := 0, slots := 0, locals := 12 } : Room) s m #[(.ref a1)] below meth c s₁ [] 0 0 := Stand.of_body Bd
  have e0 : s₁.heap = h0 := by rw [← hh, Bd.state]; rfl
  have N0 := Fr.nil n0
  show own_R p.tables e below (own_P s (Q1 Z a1 h0 n0) ({ frames := 1, cells := 0, slots := 0, locals := 12 } : Room).cells ({ frames := 1, cells := 0, slots := 0, locals := 12 } : Room).slots) (s₁.setTop (entryFrame m #[(.ref a1)] 1))
  refine own_f s₁ (mkF m 0 #[.val (.ref a1)] []) (fun t k => castTop (ef_1 m a1) k) ?_
  refine own_f s₁ (mkF m 1 #[.val (.ref a1)] [(.ref a1)]) (fun t k => XS.aloadN X0.here hx rfl (hb hby d1_0) rfl rfl k) ?_
  obtain ⟨T1, X1, e1, st1⟩ := initO X0 hx hZ hown (own_w hw 6 rfl) (own_w hw 7 rfl) (own_w hw 8 rfl) e0 (g := (mkF m 1 #[.val (.ref a1)] [(.ref a1)])) rfl (by rw [hml]; rfl) rfl (hb hby d1_1) (by decide) (W := 0) (by show 2 * 0 + _ ≤ _; exact Nat.le_of_eq rfl) (by decide)
  refine own_f T1 (mkF m 4 #[.val (.ref a1)] []) st1 ?_
  obtain ⟨fs, hr, hrun, hended, hW, hsame⟩ := X1.leave (v := none) (fun _ => rfl)
  refine ⟨_, _, X1.returnOut hx Bd.returns (hb hby d1_4) hr, hrun, hended, _, _, rfl, ?_, ⟨_, rfl⟩, hW, hsame.mono (by decide) (by decide)⟩
  show Q1 Z a1 h0 n0 _ T1.heap _
  rw [e1]
  exact ⟨rfl, N0, rfl⟩
theorem d3_0 : decode prog_33_method_2_code 0 = .ok (.aload_n 0, 1) := by decide +kernel
theorem d3_1 : decode prog_33_method_2_code 1 = .ok (.getfield 7, 3) := by decide +kernel
theorem d3_4 : decode prog_33_method_2_code 4 = .ok (.areturn, 1) := by decide +kernel
theorem pn_3 : plainName "com/example/demarcation/demarcation/QueryTimeouts" = true := by first | (simp [plainName, overriddenIn]; done) | decide +kernel
theorem ef_3 (m : MethodId) (x0 : Addr) : entryFrame m #[(.ref x0)] 1 = mkF m 0 #[.val (.ref x0)] [] := by first | (simp [entryFrame, mkF, argsToLocals, Value.category]; done) | rfl
def Q3 (Z : State) (a1 : Addr) (v0 : Value) (h0 : Heap) (n0 : Nat) (v : Option Value) (h : Heap) (L : List Loc) : Prop := v = some v0 ∧ Fr n0 L ∧ h = h0
set_option maxRecDepth 65536 in
set_option maxHeartbeats 40000000 in
theorem rm3 (l : Launch) (Z : State) (a0 : Array Value) (hw : ∀ d ∈ tables_1, d.before a0 Z = true) (ws : List Jvm.Cond) (a1 : Addr) (v0 : Value) (h0 : Heap) (n0 : Nat) (Z0 : n0 ≤ h0.size) (F0 : Fld Z h0 a1 "com/example/demarcation/demarcation/QueryTimeouts" "keeping" "Lcom/example/demarcation/demarcation/QueryTimeouts$Keeping;" v0) (hr0 : v0.isRef = true) :
    MetFree l (⟨"com/example/demarcation/demarcation/QueryTimeouts", "keeping", "()Lcom/example/demarcation/demarcation/QueryTimeouts$Keeping;"⟩ : MethodName) (head1 (Jvm.Cond.code (⟨"com/example/demarcation/demarcation/QueryTimeouts", "keeping", "()Lcom/example/demarcation/demarcation/QueryTimeouts$Keeping;"⟩ : MethodName) prog_33_method_2_code 1 (some (.object "com/example/demarcation/demarcation/QueryTimeouts$Keeping")) :: ws) ({ frames := 0, cells := 0, slots := 0, locals := 0 } : Room)) (fun a U => a = #[(.ref a1)] ∧ Z.Warmed39 U.vm ∧ U.heap = h0) (fun _ _ _ _ _ => True) (fun _ U o U' => ∃ v L, o = .returned v ∧ Q3 Z a1 v0 h0 n0 v U'.heap L ∧ FrameEnd U o U' L ({ frames := 0, cells := 0, slots := 0, locals := 0 } : Room).cells ({ frames := 0, cells := 0, slots := 0, locals := 0 } : Room).slots) := by
  refine MetFree.of_bodySF (plainFor_of_name pn_3) hisR ?_
  intro p e s m args below meth c s₁ Bd hml0 hP hK
  obtain ⟨rfl, hZ, hh⟩ := hP
  have hx := Bd.exec
  have hby := Bd.bytes
  have hml : c.maxLocals = 1 := hml0
  have hown : s.vm.findClass "com/example/demarcation/demarcation/QueryTimeouts" = some m.cls := findClass_of_methodNamed Bd.named
  have hnm := (name_of_methodNamed Bd.named Bd.method).1
  have X0 : Stand p l e ({ frames := 0, cells := 0, slots := 0, locals := 0 } : Room) s m #[(.ref a1)] below meth c s₁ [] 0 0 := Stand.of_body Bd
  have e0 : s₁.heap = h0 := by rw [← hh, Bd.state]; rfl
  have N0 := Fr.nil n0
  show own_R p.tables e below (own_P s (Q3 Z a1 v0 h0 n0) ({ frames := 0, cells := 0, slots := 0, locals := 0 } : Room).cells ({ frames := 0, cells := 0, slots := 0, locals := 0 } : Room).slots) (s₁.setTop (entryFrame m #[(.ref a1)] 1))
  refine own_f s₁ (mkF m 0 #[.val (.ref a1)] []) (fun t k => castTop (ef_3 m a1) k) ?_
  refine own_f s₁ (mkF m 1 #[.val (.ref a1)] [(.ref a1)]) (fun t k => XS.aloadN X0.here hx rfl (hb hby d3_0) rfl rfl k) ?_
  obtain ⟨T1, X1, e1, st1⟩ := getF X0 hx hZ hown (host := "") (Or.inl (own_w hw 14 rfl)) Via.refl e0 F0 (g := (mkF m 1 #[.val (.ref a1)] [(.ref a1)])) rfl rfl (hb hby d3_1)
  refine own_f T1 (mkF m 4 #[.val (.ref a1)] [v0]) st1 ?_
  obtain ⟨fs, hr, hrun, hended, hW, hsame⟩ := X1.leave (v := some v0) (fun h => by rw [Bd.returns] at h; cases h)
  refine ⟨_, _, retOut X1 hx Bd.returns (by rcases ref_cases hr0 with q | ⟨_, q⟩ <;> rw [q] <;> rfl) (Or.inr (Or.inr (Or.inr (Or.inr ⟨rfl, rfl, hr0⟩)))) (hb hby d3_4) hr, hrun, hended, _, _, rfl, ?_, ⟨_, rfl⟩, hW, hsame.mono (by decide) (by decide)⟩
  show Q3 Z a1 v0 h0 n0 _ T1.heap _
  rw [e1]
  exact ⟨rfl, N0, rfl⟩
theorem d4_0 : decode prog_34_method_1_code 0 = .ok (.aload_n 0, 1) := by decide +kernel
theorem d4_1 : decode prog_34_method_1_code 1 = .ok (.invokespecial 1, 3) := by decide +kernel
theorem d4_4 : decode prog_34_method_1_code 4 = .ok (.aload_n 0, 1) := by decide +kernel
theorem d4_5 : decode prog_34_method_1_code 5 = .ok (.iload_n 1, 1) := by decide +kernel
theorem d4_6 : decode prog_34_method_1_code 6 = .ok (.putfield 7, 3) := by decide +kernel
theorem d4_9 : decode prog_34_method_1_code 9 = .ok (.aload_n 0, 1) := by decide +kernel
theorem d4_10 : decode prog_34_method_1_code 10 = .ok (.iload_n 2, 1) := by decide +kernel
theorem d4_11 : decode prog_34_method_1_code 11 = .ok (.putfield 13, 3) := by decide +kernel
theorem d4_14 : decode prog_34_method_1_code 14 = .ok (.return_, 1) := by decide +kernel
theorem pn_4 : plainName "com/example/demarcation/demarcation/QueryTimeouts$Keeping" = true := by first | (simp [plainName, overriddenIn]; done) | decide +kernel
theorem ef_4 (m : MethodId) (x0 : Addr) (x1 : Int32) (x2 : Int32) : entryFrame m #[(.ref x0), (.int x1), (.int x2)] 3 = mkF m 0 #[.val (.ref x0), .val (.int x1), .val (.int x2)] [] := by first | (simp [entryFrame, mkF, argsToLocals, Value.category]; done) | rfl
def Q4 (Z : State) (a1 : Addr) (p2 : Int32) (p3 : Int32) (u0 : Value) (u1 : Value) (h0 : Heap) (n0 : Nat) (v : Option Value) (h : Heap) (L : List Loc) : Prop := v = none ∧ Fr n0 L ∧ Keep h0 h [a1] ∧ Exa Z h a1 "com/example/demarcation/demarcation/QueryTimeouts$Keeping" ∧ Fld Z h a1 "com/example/demarcation/demarcation/QueryTimeouts$Keeping" "forSession" "Z" (.int p2) ∧ Fld Z h a1 "com/example/demarcation/demarcation/QueryTimeouts$Keeping" "cameWith" "I" (.int p3)
set_option maxRecDepth 65536 in
set_option maxHeartbeats 40000000 in
theorem rm4 (l : Launch) (Z : State) (a0 : Array Value) (hw : ∀ d ∈ tables_1, d.before a0 Z = true) (ws : List Jvm.Cond) (a1 : Addr) (p2 : Int32) (p3 : Int32) (u0 : Value) (u1 : Value) (h0 : Heap) (n0 : Nat) (Z0 : n0 ≤ h0.size) (F0 : Exa Z h0 a1 "com/example/demarcation/demarcation/QueryTimeouts$Keeping") (F1 : Fld Z h0 a1 "com/example/demarcation/demarcation/QueryTimeouts$Keeping" "forSession" "Z" u0) (F2 : Fld Z h0 a1 "com/example/demarcation/demarcation/QueryTimeouts$Keeping" "cameWith" "I" u1) (ge_a1 : n0 ≤ a1) (hz : p2 = 0 ∨ p2 = 1) :
    MetFree l (⟨"com/example/demarcation/demarcation/QueryTimeouts$Keeping", "<init>", "(ZI)V"⟩ : MethodName) (head1 (Jvm.Cond.code (⟨"com/example/demarcation/demarcation/QueryTimeouts$Keeping", "<init>", "(ZI)V"⟩ : MethodName) prog_34_method_1_code 3 none :: ws) ({ frames := 2, cells := 0, slots := 0, locals := 24 } : Room)) (fun a U => a = #[(.ref a1), (.int p2), (.int p3)] ∧ Z.Warmed39 U.vm ∧ U.heap = h0) (fun _ _ _ _ _ => True) (fun _ U o U' => ∃ v L, o = .returned v ∧ Q4 Z a1 p2 p3 u0 u1 h0 n0 v U'.heap L ∧ FrameEnd U o U' L ({ frames := 2, cells := 0, slots := 0, locals := 24 } : Room).cells ({ frames := 2, cells := 0, slots := 0, locals := 24 } : Room).slots) := by
  refine MetFree.of_bodySF (plainFor_of_name pn_4) hisR ?_
  intro p e s m args below meth c s₁ Bd hml0 hP hK
  obtain ⟨rfl, hZ, hh⟩ := hP
  have hx := Bd.exec
  have hby := Bd.bytes
  have hml : c.maxLocals = 3 := hml0
  have hown : s.vm.findClass "com/example/demarcation/demarcation/QueryTimeouts$Keeping" = some m.cls := findClass_of_methodNamed Bd.named
  have hnm := (name_of_methodNamed Bd.named Bd.method).1
  have X0 : Stand p l e ({ frames := 2, cells := 0, slots := 0, locals := 24 } : Room) s m #[(.ref a1), (.int p2), (.int p3)] below meth c s₁ [] 0 0 := Stand.of_body Bd
  have e0 : s₁.heap = h0 := by rw [← hh, Bd.state]; rfl
  have N0 := Fr.nil n0
  show own_R p.tables e below (own_P s (Q4 Z a1 p2 p3 u0 u1 h0 n0) ({ frames := 2, cells := 0, slots := 0, locals := 24 } : Room).cells ({ frames := 2, cells := 0, slots := 0, locals := 24 } : Room).slots) (s₁.setTop (entryFrame m #[(.ref a1), (.int p2), (.int p3)] 3))
  refine own_f s₁ (mkF m 0 #[.val (.ref a1), .val (.int p2), .val (.int p3)] []) (fun t k => castTop (ef_4 m a1 p2 p3) k) ?_
  refine own_f s₁ (mkF m 1 #[.val (.ref a1), .val (.int p2), .val (.int p3)] [(.ref a1)]) (fun t k => XS.aloadN X0.here hx rfl (hb hby d4_0) rfl rfl k) ?_
  obtain ⟨_, _, ⟨T1, Lq1, kq_1, nq_1⟩, -, X1, ⟨Lc1, hQ1, lq1, yq1, zq1⟩, st1⟩ := X0.specialBack hx (y := (⟨"java/lang/Record", "<init>", "()V"⟩ : MethodName)) rfl hown (mvT hZ (own_w hw 27 rfl)) (mvT hZ (own_w hw 28 rfl)) (mvT hZ (own_w hw 31 rfl)) (by decide) (backOf (W := 0) (rm2 l Z a0 hw [] a1 h0 n0 Z0 ) hZ (own_w hw 31 rfl) (own_w hw 30 rfl) (by decide) (by decide)) (g := (mkF m 1 #[.val (.ref a1), .val (.int p2), .val (.int p3)] [(.ref a1)])) rfl (by rw [hml]; rfl) (Steps.refl _) (a := a1) (argsL := []) (rest := []) (lenOf pd__V rfl) rfl (by show 2 * 0 + _ ≤ _; exact Nat.le_of_eq rfl) (hb hby d4_1) (fun _ _ => ⟨rfl, e0, (by decide : 0 + 0 ≤ _), (by decide : 0 + 0 ≤ _)⟩)
  dsimp only [Pt.U, Pt.locs, Pt.cells, Pt.slots] at X1 lq1 yq1 zq1 st1 hQ1
  subst lq1 yq1 zq1
  obtain ⟨h1, e1⟩ : ∃ z, T1.heap = z := ⟨_, rfl⟩
  rw [e1] at hQ1
  unfold Q2 at hQ1
  obtain ⟨rfl, Nq1, qh1⟩ := hQ1
  have N1 := Fr.app N0 Nq1
  rw [qh1] at e1
  refine own_g T1 (mkF m 4 #[.val (.ref a1), .val (.int p2), .val (.int p3)] []) st1 ?_
  refine own_f T1 (mkF m 5 #[.val (.ref a1), .val (.int p2), .val (.int p3)] [(.ref a1)]) (fun t k => XS.aloadN X1.here hx rfl (hb hby d4_4) rfl rfl k) ?_
  refine own_f T1 (mkF m 6 #[.val (.ref a1), .val (.int p2), .val (.int p3)] [(.int p2), (.ref a1)]) (fun t k => XS.iloadN X1.here hx rfl (hb hby d4_5) rfl k) ?_
  obtain ⟨T2, h2, X2, e2, W2, st2⟩ := putF X1 hx hZ hown (host := "") (Or.inl (own_w hw 33 rfl)) Via.refl e1 F1 F0 (Or.inr ⟨(own_w hw 34 rfl), rfl, hnm⟩) (own_w hw 22 rfl) (ty := .boolean) (by decide) (own_nb hz) (own_fb hz) (g := (mkF m 6 #[.val (.ref a1), .val (.int p2), .val (.int p3)] [(.int p2), (.ref a1)])) rfl rfl (hb hby d4_6)
  have N2 := Fr.snoc X2 N1 ge_a1
  have Zs2 : n0 ≤ h2.size := by rw [W2.size]; exact Z0
  have K2 : Keep h0 h2 [a1] := (Keep.refl h0 [a1]).wr W2 (Or.inl (by simp))
  have F_3 := F0.wr W2
  have F_4 := F1.same W2
  have F_5 := F2.other W2 (Or.inr (slot_ne (Or.inr (own_w hw 36 rfl)) (Or.inr (own_w hw 34 rfl)) (by decide) (t := .int) (t' := .boolean) (by decide) (by decide)))
  refine own_f T2 (mkF m 9 #[.val (.ref a1), .val (.int p2), .val (.int p3)] []) st2 ?_
  refine own_f T2 (mkF m 10 #[.val (.ref a1), .val (.int p2), .val (.int p3)] [(.ref a1)]) (fun t k => XS.aloadN X2.here hx rfl (hb hby d4_9) rfl rfl k) ?_
  refine own_f T2 (mkF m 11 #[.val (.ref a1), .val (.int p2), .val (.int p3)] [(.int p3), (.ref a1)]) (fun t k => XS.iloadN X2.here hx rfl (hb hby d4_10) rfl k) ?_
  obtain ⟨T6, h6, X6, e6, W6, st6⟩ := putF X2 hx hZ hown (host := "") (Or.inl (own_w hw 35 rfl)) Via.refl e2 F_5 F_3 (Or.inr ⟨(own_w hw 36 rfl), rfl, hnm⟩) (own_w hw 22 rfl) (ty := .int) (by decide) rfl rfl (g := (mkF m 11 #[.val (.ref a1), .val (.int p2), .val (.int p3)] [(.int p3), (.ref a1)])) rfl rfl (hb hby d4_11)
  have N6 := Fr.snoc X6 N2 ge_a1
  have Zs6 : n0 ≤ h6.size := by rw [W6.size]; exact Zs2
  have K6 : Keep h0 h6 [a1] := K2.wr W6 (Or.inl (by simp))
  have F_7 := F_3.wr W6
  have F_8 := F_4.other W6 (Or.inr (slot_ne (Or.inr (own_w hw 34 rfl)) (Or.inr (own_w hw 36 rfl)) (by decide) (t := .boolean) (t' := .int) (by decide) (by decide)))
  have F_9 := F_5.same W6
  refine own_f T6 (mkF m 14 #[.val (.ref a1), .val (.int p2), .val (.int p3)] []) st6 ?_
  obtain ⟨fs, hr, hrun, hended, hW, hsame⟩ := X6.leave (v := none) (fun _ => rfl)
  refine ⟨_, _, X6.returnOut hx Bd.returns (hb hby d4_14) hr, hrun, hended, _, _, rfl, ?_, ⟨_, rfl⟩, hW, hsame.mono (by decide) (by decide)⟩
  show Q4 Z a1 p2 p3 u0 u1 h0 n0 _ T6.heap _
  rw [e6]
  exact ⟨rfl, N6, K6, F_7, F_8, F_9⟩
theorem d5_0 : decode prog_33_method_3_code 0 = .ok (.aload_n 0, 1) := by decide +kernel
theorem d5_1 : decode prog_33_method_3_code 1 = .ok (.new 13, 3) := by decide +kernel
theorem d5_4 : decode prog_33_method_3_code 4 = .ok (.dup, 1) := by decide +kernel
theorem d5_5 : decode prog_33_method_3_code 5 = .ok (.iload_n 2, 1) := by decide +kernel
theorem d5_6 : decode prog_33_method_3_code 6 = .ok (.iload_n 1, 1) := by decide +kernel
theorem d5_7 : decode prog_33_method_3_code 7 = .ok (.if_icmp .eq 7, 3) := by decide +kernel
theorem d5_10 : decode prog_33_method_3_code 10 = .ok (.iconst 1, 1) := by decide +kernel
theorem d5_11 : decode prog_33_method_3_code 11 = .ok (.goto 4, 3) := by decide +kernel
theorem d5_14 : decode prog_33_method_3_code 14 = .ok (.iconst 0, 1) := by decide +kernel
theorem d5_15 : decode prog_33_method_3_code 15 = .ok (.iload_n 1, 1) := by decide +kernel
theorem d5_16 : decode prog_33_method_3_code 16 = .ok (.invokespecial 15, 3) := by decide +kernel
theorem d5_19 : decode prog_33_method_3_code 19 = .ok (.putfield 7, 3) := by decide +kernel
theorem d5_22 : decode prog_33_method_3_code 22 = .ok (.return_, 1) := by decide +kernel
theorem pn_5 : plainName "com/example/demarcation/demarcation/QueryTimeouts" = true := by first | (simp [plainName, overriddenIn]; done) | decide +kernel
theorem ef_5 (m : MethodId) (x0 : Addr) (x1 : Int32) (x2 : Int32) : entryFrame m #[(.ref x0), (.int x1), (.int x2)] 3 = mkF m 0 #[.val (.ref x0), .val (.int x1), .val (.int x2)] [] := by first | (simp [entryFrame, mkF, argsToLocals, Value.category]; done) | rfl
def Q5 (Z : State) (a1 : Addr) (p2 : Int32) (p3 : Int32) (u0 : Value) (h0 : Heap) (n0 : Nat) (v : Option Value) (h : Heap) (L : List Loc) : Prop := ∃ b : Addr, v = none ∧ Fr n0 L ∧ Keep h0 h [a1] ∧ Exa Z h a1 "com/example/demarcation/demarcation/QueryTimeouts" ∧ Fld Z h a1 "com/example/demarcation/demarcation/QueryTimeouts" "keeping" "Lcom/example/demarcation/demarcation/QueryTimeouts$Keeping;" (.ref b) ∧ Exa Z h b "com/example/demarcation/demarcation/QueryTimeouts$Keeping" ∧ Fld Z h b "com/example/demarcation/demarcation/QueryTimeouts$Keeping" "forSession" "Z" (.int (own_df p3 p2)) ∧ Fld Z h b "com/example/demarcation/demarcation/QueryTimeouts$Keeping" "cameWith" "I" (.int p2) ∧ h0.size ≤ b
set_option maxRecDepth 65536 in
set_option maxHeartbeats 40000000 in
theorem rm5 (l : Launch) (Z : State) (a0 : Array Value) (hw : ∀ d ∈ tables_1, d.before a0 Z = true) (ws : List Jvm.Cond) (a1 : Addr) (p2 : Int32) (p3 : Int32) (u0 : Value) (h0 : Heap) (n0 : Nat) (Z0 : n0 ≤ h0.size) (F0 : Exa Z h0 a1 "com/example/demarcation/demarcation/QueryTimeouts") (F1 : Fld Z h0 a1 "com/example/demarcation/demarcation/QueryTimeouts" "keeping" "Lcom/example/demarcation/demarcation/QueryTimeouts$Keeping;" u0) (ge_a1 : n0 ≤ a1) :
    MetFree l (⟨"com/example/demarcation/demarcation/QueryTimeouts", "found", "(II)V"⟩ : MethodName) (head1 (Jvm.Cond.code (⟨"com/example/demarcation/demarcation/QueryTimeouts", "found", "(II)V"⟩ : MethodName) prog_33_method_3_code 3 none :: ws) ({ frames := 3, cells := 1, slots := 2, locals := 48 } : Room)) (fun a U => a = #[(.ref a1), (.int p2), (.int p3)] ∧ Z.Warmed39 U.vm ∧ U.heap = h0) (fun _ _ _ _ _ => True) (fun _ U o U' => ∃ v L, o = .returned v ∧ Q5 Z a1 p2 p3 u0 h0 n0 v U'.heap L ∧ FrameEnd U o U' L ({ frames := 3, cells := 1, slots := 2, locals := 48 } : Room).cells ({ frames := 3, cells := 1, slots := 2, locals := 48 } : Room).slots) := by
  refine MetFree.of_bodySF (plainFor_of_name pn_5) hisR ?_
  intro p e s m args below meth c s₁ Bd hml0 hP hK
  obtain ⟨rfl, hZ, hh⟩ := hP
  have hx := Bd.exec
  have hby := Bd.bytes
  have hml : c.maxLocals = 3 := hml0
  have hown : s.vm.findClass "com/example/demarcation/demarcation/QueryTimeouts" = some m.cls := findClass_of_methodNamed Bd.named
  have hnm := (name_of_methodNamed Bd.named Bd.method).1
  have X0 : Stand p l e ({ frames := 3, cells := 1, slots := 2, locals := 48 } : Room) s m #[(.ref a1), (.int p2), (.int p3)] below meth c s₁ [] 0 0 := Stand.of_body Bd
  have e0 : s₁.heap = h0 := by rw [← hh, Bd.state]; rfl
  have N0 := Fr.nil n0
  show own_R p.tables e below (own_P s (Q5 Z a1 p2 p3 u0 h0 n0) ({ frames := 3, cells := 1, slots := 2, locals := 48 } : Room).cells ({ frames := 3, cells := 1, slots := 2, locals := 48 } : Room).slots) (s₁.setTop (entryFrame m #[(.ref a1), (.int p2), (.int p3)] 3))
  refine own_f s₁ (mkF m 0 #[.val (.ref a1), .val (.int p2), .val (.int p3)] []) (fun t k => castTop (ef_5 m a1 p2 p3) k) ?_
  refine own_f s₁ (mkF m 1 #[.val (.ref a1), .val (.int p2), .val (.int p3)] [(.ref a1)]) (fun t k => XS.aloadN X0.here hx rfl (hb hby d5_0) rfl rfl k) ?_
  obtain ⟨T1, h1, X1, e1, E1, A1, D1, U1, st1⟩ := newO X0 hx hZ hown (own_w hw 21 rfl) (own_w hw 22 rfl) (own_w hw 23 rfl) e0 (g := (mkF m 1 #[.val (.ref a1), .val (.int p2), .val (.int p3)] [(.ref a1)])) rfl (hb hby d5_1) (by decide) (by decide)
  obtain ⟨b1, g1⟩ : ∃ z, z = h0.size := ⟨_, rfl⟩
  rw [← g1] at A1 D1 st1
  have ne1_a1 : a1 ≠ b1 := by rw [g1]; exact Nat.ne_of_lt F0.lt
  have ge1 : n0 ≤ b1 := by rw [g1]; exact Z0
  have gf1 : h0.size ≤ b1 := by rw [g1]; exact (Keep.refl h0 [a1]).1
  have Zs1 : n0 ≤ h1.size := Nat.le_trans Z0 E1.1
  have F_2 := F0.ext E1
  have F_3 := F1.ext E1
  have K1 : Keep h0 h1 [a1] := (Keep.refl h0 [a1]).ext E1
  have F_4 : Fld Z h1 b1 "com/example/demarcation/demarcation/QueryTimeouts$Keeping" "forSession" "Z" (.int 0) := D1 (Or.inr (own_w hw 34 rfl)) (ty := .boolean) (by decide)
  have F_5 : Fld Z h1 b1 "com/example/demarcation/demarcation/QueryTimeouts$Keeping" "cameWith" "I" (.int 0) := D1 (Or.inr (own_w hw 36 rfl)) (ty := .int) (by decide)
  refine own_f T1 (mkF m 4 #[.val (.ref a1), .val (.int p2), .val (.int p3)] [(.ref b1), (.ref a1)]) st1 ?_
  refine own_f T1 (mkF m 5 #[.val (.ref a1), .val (.int p2), .val (.int p3)] [(.ref b1), (.ref b1), (.ref a1)]) (fun t k => XS.dup X1.here hx rfl (hb hby d5_4) rfl rfl k) ?_
  refine own_f T1 (mkF m 6 #[.val (.ref a1), .val (.int p2), .val (.int p3)] [(.int p3), (.ref b1), (.ref b1), (.ref a1)]) (fun t k => XS.iloadN X1.here hx rfl (hb hby d5_5) rfl k) ?_
  refine own_f T1 (mkF m 7 #[.val (.ref a1), .val (.int p2), .val (.int p3)] [(.int p2), (.int p3), (.ref b1), (.ref b1), (.ref a1)]) (fun t k => XS.iloadN X1.here hx rfl (hb hby d5_6) rfl k) ?_
  have jn6 : ∀ (zd : Int32) (jd : zd = own_df p3 p2), own_R p.tables e below (own_P s (Q5 Z a1 p2 p3 u0 h0 n0) ({ frames := 3, cells := 1, slots := 2, locals := 48 } : Room).cells ({ frames := 3, cells := 1, slots := 2, locals := 48 } : Room).slots) (T1.setTop (mkF m 15 #[.val (.ref a1), .val (.int p2), .val (.int p3)] [(.int zd), (.ref b1), (.ref b1), (.ref a1)])) := by
    intro zd jd
    subst jd
    refine own_f T1 (mkF m 16 #[.val (.ref a1), .val (.int p2), .val (.int p3)] [(.int p2), (.int (own_df p3 p2)), (.ref b1), (.ref b1), (.ref a1)]) (fun t k => XS.iloadN X1.here hx rfl (hb hby d5_15) rfl k) ?_
    obtain ⟨_, _, ⟨T7, Lq7, kq_7, nq_7⟩, -, X7, ⟨Lc7, hQ7, lq7, yq7, zq7⟩, st7⟩ := X1.specialBack hx (y := (⟨"com/example/demarcation/demarcation/QueryTimeouts$Keeping", "<init>", "(ZI)V"⟩ : MethodName)) rfl hown (mvT hZ (own_w hw 24 rfl)) (mvT hZ (own_w hw 25 rfl)) (mvT hZ (own_w hw 26 rfl)) (by decide) (backOf (W := 2) (rm4 l Z a0 hw [] b1 (own_df p3 p2) p2 _ _ h1 n0 Zs1 A1 F_4 F_5 ge1 (own_df01 _ _)) hZ (own_w hw 26 rfl) (own_w hw 23 rfl) (by decide) (by decide)) (g := (mkF m 16 #[.val (.ref a1), .val (.int p2), .val (.int p3)] [(.int p2), (.int (own_df p3 p2)), (.ref b1), (.ref b1), (.ref a1)])) rfl (by rw [hml]; rfl) (Steps.refl _) (a := b1) (argsL := [(.int (own_df p3 p2)), (.int p2)]) (rest := [(.ref b1), (.ref a1)]) (lenOf pd__ZI_V rfl) rfl (by show 2 * 0 + _ ≤ _; exact Nat.le_of_eq rfl) (hb hby d5_16) (fun _ _ => ⟨rfl, e1, (by decide : 0 + 1 + 0 ≤ _), (by decide : 0 + 2 + 0 ≤ _)⟩)
    dsimp only [Pt.U, Pt.locs, Pt.cells, Pt.slots] at X7 lq7 yq7 zq7 st7 hQ7
    subst lq7 yq7 zq7
    obtain ⟨h7, e7⟩ : ∃ z, T7.heap = z := ⟨_, rfl⟩
    rw [e7] at hQ7
    unfold Q4 at hQ7
    obtain ⟨rfl, Nq7, qh7, G7_0, G7_1, G7_2⟩ := hQ7
    have N7 := Fr.app N0 Nq7
    have Zs7 : n0 ≤ h7.size := Nat.le_trans Zs1 qh7.1
    have F_8 := F_2.keep qh7
    have F_9 := F_3.keep qh7 (ninS ne1_a1 nin0)
    have K7 : Keep h0 h7 [a1] := K1.trans qh7 (allS (Or.inr gf1) all0)
    refine own_g T7 (mkF m 19 #[.val (.ref a1), .val (.int p2), .val (.int p3)] [(.ref b1), (.ref a1)]) st7 ?_
    obtain ⟨T10, h10, X10, e10, W10, st10⟩ := putF X7 hx hZ hown (host := "") (Or.inl (own_w hw 14 rfl)) Via.refl e7 F_9 F_8 (Or.inl (own_w hw 15 rfl)) (own_w hw 1 rfl) (ty := (.object "com/example/demarcation/demarcation/QueryTimeouts$Keeping")) (by decide) rfl rfl (g := (mkF m 19 #[.val (.ref a1), .val (.int p2), .val (.int p3)] [(.ref b1), (.ref a1)])) rfl rfl (hb hby d5_19)
    have N10 := Fr.snoc X10 N7 ge_a1
    have Zs10 : n0 ≤ h10.size := by rw [W10.size]; exact Zs7
    have K10 : Keep h0 h10 [a1] := K7.wr W10 (Or.inl (by simp))
    have F_11 := F_8.wr W10
    have F_12 := F_9.same W10
    have F_13 := G7_0.wr W10
    have F_14 := G7_1.other W10 (Or.inl (Ne.symm ne1_a1))
    have F_15 := G7_2.other W10 (Or.inl (Ne.symm ne1_a1))
    refine own_f T10 (mkF m 22 #[.val (.ref a1), .val (.int p2), .val (.int p3)] []) st10 ?_
    obtain ⟨fs, hr, hrun, hended, hW, hsame⟩ := X10.leave (v := none) (fun _ => rfl)
    refine ⟨_, _, X10.returnOut hx Bd.returns (hb hby d5_22) hr, hrun, hended, _, _, rfl, ?_, ⟨_, rfl⟩, hW, hsame.mono (by decide) (by decide)⟩
    show Q5 Z a1 p2 p3 u0 h0 n0 _ T10.heap _
    rw [e10]
    exact ⟨b1, rfl, N10, K10, F_11, F_12, F_13, F_14, F_15, gf1⟩
  by_cases hc16 : p3 = p2
  · skip
    refine own_f T1 (mkF m 14 #[.val (.ref a1), .val (.int p2), .val (.int p3)] [(.ref b1), (.ref b1), (.ref a1)]) (fun t k => XS.icmpYes X1.here hx rfl (pc0 := 7) (pc' := 14) rfl (hb hby d5_7) rfl (XT.ii_eq_t hc16) (by decide) (by decide) k) ?_
    refine own_f T1 (mkF m 15 #[.val (.ref a1), .val (.int p2), .val (.int p3)] [(.int (0 : Int32)), (.ref b1), (.ref b1), (.ref a1)]) (fun t k => XT.iconstV X1.here hx rfl (0 : Int32) (hb hby d5_14) (by decide) k) ?_
    exact jn6 (0 : Int32) (by rw [own_df, if_pos hc16] <;> rfl)
  · skip
    refine own_f T1 (mkF m 10 #[.val (.ref a1), .val (.int p2), .val (.int p3)] [(.ref b1), (.ref b1), (.ref a1)]) (fun t k => XS.icmpNo X1.here hx rfl (hb hby d5_7) rfl (XT.ii_eq_f hc16) k) ?_
    refine own_f T1 (mkF m 11 #[.val (.ref a1), .val (.int p2), .val (.int p3)] [(.int (1 : Int32)), (.ref b1), (.ref b1), (.ref a1)]) (fun t k => XT.iconstV X1.here hx rfl (1 : Int32) (hb hby d5_10) (by decide) k) ?_
    refine own_f T1 (mkF m 15 #[.val (.ref a1), .val (.int p2), .val (.int p3)] [(.int (1 : Int32)), (.ref b1), (.ref b1), (.ref a1)]) (fun t k => XS.goto X1.here hx rfl (pc0 := 11) (pc' := 15) rfl (hb hby d5_11) (by decide) (by decide) k) ?_
    exact jn6 (1 : Int32) (by rw [own_df, if_neg hc16] <;> rfl)
theorem d6_0 : decode prog_34_method_6_code 0 = .ok (.aload_n 0, 1) := by decide +kernel
theorem d6_1 : decode prog_34_method_6_code 1 = .ok (.getfield 13, 3) := by decide +kernel
theorem d6_4 : decode prog_34_method_6_code 4 = .ok (.ireturn, 1) := by decide +kernel
theorem pn_6 : plainName "com/example/demarcation/demarcation/QueryTimeouts$Keeping" = true := by first | (simp [plainName, overriddenIn]; done) | decide +kernel
theorem ef_6 (m : MethodId) (x0 : Addr) : entryFrame m #[(.ref x0)] 1 = mkF m 0 #[.val (.ref x0)] [] := by first | (simp [entryFrame, mkF, argsToLocals, Value.category]; done) | rfl
def Q6 (Z : State) (a1 : Addr) (w1 : Int32) (h0 : Heap) (n0 : Nat) (v : Option Value) (h : Heap) (L : List Loc) : Prop := v = some (.int w1) ∧ Fr n0 L ∧ h = h0
set_option maxRecDepth 65536 in
set_option maxHeartbeats 40000000 in
theorem rm6 (l : Launch) (Z : State) (a0 : Array Value) (hw : ∀ d ∈ tables_1, d.before a0 Z = true) (ws : List Jvm.Cond) (a1 : Addr) (w1 : Int32) (h0 : Heap) (n0 : Nat) (Z0 : n0 ≤ h0.size) (F0 : Fld Z h0 a1 "com/example/demarcation/demarcation/QueryTimeouts$Keeping" "cameWith" "I" (.int w1)) :
    MetFree l (⟨"com/example/demarcation/demarcation/QueryTimeouts$Keeping", "cameWith", "()I"⟩ : MethodName) (head1 (Jvm.Cond.code (⟨"com/example/demarcation/demarcation/QueryTimeouts$Keeping", "cameWith", "()I"⟩ : MethodName) prog_34_method_6_code 1 (some .int) :: ws) ({ frames := 0, cells := 0, slots := 0, locals := 0 } : Room)) (fun a U => a = #[(.ref a1)] ∧ Z.Warmed39 U.vm ∧ U.heap = h0) (fun _ _ _ _ _ => True) (fun _ U o U' => ∃ v L, o = .returned v ∧ Q6 Z a1 w1 h0 n0 v U'.heap L ∧ FrameEnd U o U' L ({ frames := 0, cells := 0, slots := 0, locals := 0 } : Room).cells ({ frames := 0, cells := 0, slots := 0, locals := 0 } : Room).slots) := by
  refine MetFree.of_bodySF (plainFor_of_name pn_6) hisR ?_
  intro p e s m args below meth c s₁ Bd hml0 hP hK
  obtain ⟨rfl, hZ, hh⟩ := hP
  have hx := Bd.exec
  have hby := Bd.bytes
  have hml : c.maxLocals = 1 := hml0
  have hown : s.vm.findClass "com/example/demarcation/demarcation/QueryTimeouts$Keeping" = some m.cls := findClass_of_methodNamed Bd.named
  have hnm := (name_of_methodNamed Bd.named Bd.method).1
  have X0 : Stand p l e ({ frames := 0, cells := 0, slots := 0, locals := 0 } : Room) s m #[(.ref a1)] below meth c s₁ [] 0 0 := Stand.of_body Bd
  have e0 : s₁.heap = h0 := by rw [← hh, Bd.state]; rfl
  have N0 := Fr.nil n0
  show own_R p.tables e below (own_P s (Q6 Z a1 w1 h0 n0) ({ frames := 0, cells := 0, slots := 0, locals := 0 } : Room).cells ({ frames := 0, cells := 0, slots := 0, locals := 0 } : Room).slots) (s₁.setTop (entryFrame m #[(.ref a1)] 1))
  refine own_f s₁ (mkF m 0 #[.val (.ref a1)] []) (fun t k => castTop (ef_6 m a1) k) ?_
  refine own_f s₁ (mkF m 1 #[.val (.ref a1)] [(.ref a1)]) (fun t k => XS.aloadN X0.here hx rfl (hb hby d6_0) rfl rfl k) ?_
  obtain ⟨T1, X1, e1, st1⟩ := getF X0 hx hZ hown (host := "") (Or.inl (own_w hw 35 rfl)) Via.refl e0 F0 (g := (mkF m 1 #[.val (.ref a1)] [(.ref a1)])) rfl rfl (hb hby d6_1)
  refine own_f T1 (mkF m 4 #[.val (.ref a1)] [(.int w1)]) st1 ?_
  obtain ⟨fs, hr, hrun, hended, hW, hsame⟩ := X1.leave (v := some (.int w1)) (fun h => by rw [Bd.returns] at h; cases h)
  refine ⟨_, _, retI X1 hx Bd.returns (hb hby d6_4) hr, hrun, hended, _, _, rfl, ?_, ⟨_, rfl⟩, hW, hsame.mono (by decide) (by decide)⟩
  show Q6 Z a1 w1 h0 n0 _ T1.heap _
  rw [e1]
  exact ⟨rfl, N0, rfl⟩
theorem d7_0 : decode prog_34_method_5_code 0 = .ok (.aload_n 0, 1) := by decide +kernel
theorem d7_1 : decode prog_34_method_5_code 1 = .ok (.getfield 7, 3) := by decide +kernel
theorem d7_4 : decode prog_34_method_5_code 4 = .ok (.ireturn, 1) := by decide +kernel
theorem pn_7 : plainName "com/example/demarcation/demarcation/QueryTimeouts$Keeping" = true := by first | (simp [plainName, overriddenIn]; done) | decide +kernel
theorem ef_7 (m : MethodId) (x0 : Addr) : entryFrame m #[(.ref x0)] 1 = mkF m 0 #[.val (.ref x0)] [] := by first | (simp [entryFrame, mkF, argsToLocals, Value.category]; done) | rfl
def Q7 (Z : State) (a1 : Addr) (w1 : Int32) (h0 : Heap) (n0 : Nat) (v : Option Value) (h : Heap) (L : List Loc) : Prop := v = some (.int w1) ∧ Fr n0 L ∧ h = h0
set_option maxRecDepth 65536 in
set_option maxHeartbeats 40000000 in
theorem rm7 (l : Launch) (Z : State) (a0 : Array Value) (hw : ∀ d ∈ tables_1, d.before a0 Z = true) (ws : List Jvm.Cond) (a1 : Addr) (w1 : Int32) (h0 : Heap) (n0 : Nat) (Z0 : n0 ≤ h0.size) (F0 : Fld Z h0 a1 "com/example/demarcation/demarcation/QueryTimeouts$Keeping" "forSession" "Z" (.int w1)) (hz : w1 = 0 ∨ w1 = 1) :
    MetFree l (⟨"com/example/demarcation/demarcation/QueryTimeouts$Keeping", "forSession", "()Z"⟩ : MethodName) (head1 (Jvm.Cond.code (⟨"com/example/demarcation/demarcation/QueryTimeouts$Keeping", "forSession", "()Z"⟩ : MethodName) prog_34_method_5_code 1 (some .boolean) :: ws) ({ frames := 0, cells := 0, slots := 0, locals := 0 } : Room)) (fun a U => a = #[(.ref a1)] ∧ Z.Warmed39 U.vm ∧ U.heap = h0) (fun _ _ _ _ _ => True) (fun _ U o U' => ∃ v L, o = .returned v ∧ Q7 Z a1 w1 h0 n0 v U'.heap L ∧ FrameEnd U o U' L ({ frames := 0, cells := 0, slots := 0, locals := 0 } : Room).cells ({ frames := 0, cells := 0, slots := 0, locals := 0 } : Room).slots) := by
  refine MetFree.of_bodySF (plainFor_of_name pn_7) hisR ?_
  intro p e s m args below meth c s₁ Bd hml0 hP hK
  obtain ⟨rfl, hZ, hh⟩ := hP
  have hx := Bd.exec
  have hby := Bd.bytes
  have hml : c.maxLocals = 1 := hml0
  have hown : s.vm.findClass "com/example/demarcation/demarcation/QueryTimeouts$Keeping" = some m.cls := findClass_of_methodNamed Bd.named
  have hnm := (name_of_methodNamed Bd.named Bd.method).1
  have X0 : Stand p l e ({ frames := 0, cells := 0, slots := 0, locals := 0 } : Room) s m #[(.ref a1)] below meth c s₁ [] 0 0 := Stand.of_body Bd
  have e0 : s₁.heap = h0 := by rw [← hh, Bd.state]; rfl
  have N0 := Fr.nil n0
  show own_R p.tables e below (own_P s (Q7 Z a1 w1 h0 n0) ({ frames := 0, cells := 0, slots := 0, locals := 0 } : Room).cells ({ frames := 0, cells := 0, slots := 0, locals := 0 } : Room).slots) (s₁.setTop (entryFrame m #[(.ref a1)] 1))
  refine own_f s₁ (mkF m 0 #[.val (.ref a1)] []) (fun t k => castTop (ef_7 m a1) k) ?_
  refine own_f s₁ (mkF m 1 #[.val (.ref a1)] [(.ref a1)]) (fun t k => XS.aloadN X0.here hx rfl (hb hby d7_0) rfl rfl k) ?_
  obtain ⟨T1, X1, e1, st1⟩ := getF X0 hx hZ hown (host := "") (Or.inl (own_w hw 33 rfl)) Via.refl e0 F0 (g := (mkF m 1 #[.val (.ref a1)] [(.ref a1)])) rfl rfl (hb hby d7_1)
  refine own_f T1 (mkF m 4 #[.val (.ref a1)] [(.int w1)]) st1 ?_
  obtain ⟨fs, hr, hrun, hended, hW, hsame⟩ := X1.leave (v := some (.int w1)) (fun h => by rw [Bd.returns] at h; cases h)
  refine ⟨_, _, own_retB X1 hx (t := .boolean) Bd.returns (by simp) (own_nar hz) (hb hby d7_4) hr, hrun, hended, _, _, rfl, ?_, ⟨_, rfl⟩, hW, hsame.mono (by decide) (by decide)⟩
  show Q7 Z a1 w1 h0 n0 _ T1.heap _
  rw [e1]
  exact ⟨rfl, N0, rfl⟩
theorem pn_0 : plainName "com/example/demarcation/demarcation/QueryTimeoutsFoundPinLaw" = true := by first | (simp [plainName, overriddenIn]; done) | decide +kernel
theorem ef_0 (m : MethodId) (x0 : Int32) (x1 : Int32) (x2 : Int32) (x3 : Int32) (x4 : Int32) : entryFrame m #[(.int x0), (.int x1), (.int x2), (.int x3), (.int x4)] maxLocals = mkF m 0 #[.val (.int x0), .val (.int x1), .val (.int x2), .val (.int x3), .val (.int x4), .unset, .unset, .unset, .unset, .unset, .unset, .unset, .unset, .unset, .unset, .unset] [] := by first | (simp [entryFrame, mkF, argsToLocals, Value.category, maxLocals]; done) | rfl
def Q0 (Z : State) (p1 : Int32) (p2 : Int32) (p3 : Int32) (p4 : Int32) (p5 : Int32) (h0 : Heap) (n0 : Nat) (v : Option Value) (h : Heap) (L : List Loc) : Prop := v = some (.int 1) ∧ Fr n0 L
set_option maxRecDepth 65536 in
set_option maxHeartbeats 40000000 in
theorem rm0 (l : Launch) (Z : State) (a0 : Array Value) (hw : ∀ d ∈ tables_1, d.before a0 Z = true) (ws : List Jvm.Cond) (p1 : Int32) (p2 : Int32) (p3 : Int32) (p4 : Int32) (p5 : Int32) (h0 : Heap) (n0 : Nat) (Z0 : n0 ≤ h0.size) :
    MetFree l x (head1 (Jvm.Cond.code x code maxLocals ret :: ws) room_1) (fun a U => a = #[(.int p1), (.int p2), (.int p3), (.int p4), (.int p5)] ∧ Z.Warmed39 U.vm ∧ U.heap = h0) (fun _ _ _ _ _ => True) (fun _ U o U' => ∃ v L, o = .returned v ∧ Q0 Z p1 p2 p3 p4 p5 h0 n0 v U'.heap L ∧ FrameEnd U o U' L room_1.cells room_1.slots) := by
  refine MetFree.of_bodySF (plainFor_of_name pn_0) hisR ?_
  intro p e s m args below meth c s₁ Bd hml0 hP hK
  obtain ⟨rfl, hZ, hh⟩ := hP
  have hx := Bd.exec
  have hby := Bd.bytes
  have hml : c.maxLocals = 16 := hml0
  have hown : s.vm.findClass "com/example/demarcation/demarcation/QueryTimeoutsFoundPinLaw" = some m.cls := findClass_of_methodNamed Bd.named
  have hnm := (name_of_methodNamed Bd.named Bd.method).1
  have X0 : Stand p l e room_1 s m #[(.int p1), (.int p2), (.int p3), (.int p4), (.int p5)] below meth c s₁ [] 0 0 := Stand.of_body Bd
  have e0 : s₁.heap = h0 := by rw [← hh, Bd.state]; rfl
  have N0 := Fr.nil n0
  show own_R p.tables e below (own_P s (Q0 Z p1 p2 p3 p4 p5 h0 n0) room_1.cells room_1.slots) (s₁.setTop (entryFrame m #[(.int p1), (.int p2), (.int p3), (.int p4), (.int p5)] maxLocals))
  refine own_f s₁ (mkF m 0 #[.val (.int p1), .val (.int p2), .val (.int p3), .val (.int p4), .val (.int p5), .unset, .unset, .unset, .unset, .unset, .unset, .unset, .unset, .unset, .unset, .unset] []) (fun t k => castTop (ef_0 m p1 p2 p3 p4 p5) k) ?_
  obtain ⟨T1, h1, X1, e1, E1, A1, D1, U1, st1⟩ := newO X0 hx hZ hown (own_w hw 0 rfl) (own_w hw 1 rfl) (own_w hw 2 rfl) e0 (g := (mkF m 0 #[.val (.int p1), .val (.int p2), .val (.int p3), .val (.int p4), .val (.int p5), .unset, .unset, .unset, .unset, .unset, .unset, .unset, .unset, .unset, .unset, .unset] [])) rfl (hb hby at_0) (by decide) (by decide)
  obtain ⟨b1, g1⟩ : ∃ z, z = h0.size := ⟨_, rfl⟩
  rw [← g1] at A1 D1 st1
  have ge1 : n0 ≤ b1 := by rw [g1]; exact Z0
  have Zs1 : n0 ≤ h1.size := Nat.le_trans Z0 E1.1
  have F_2 : Fld Z h1 b1 "com/example/demarcation/demarcation/QueryTimeouts" "keeping" "Lcom/example/demarcation/demarcation/QueryTimeouts$Keeping;" .null := D1 (Or.inl (own_w hw 15 rfl)) (ty := (.object "com/example/demarcation/demarcation/QueryTimeouts$Keeping")) (by decide)
  refine own_f T1 (mkF m 3 #[.val (.int p1), .val (.int p2), .val (.int p3), .val (.int p4), .val (.int p5), .unset, .unset, .unset, .unset, .unset, .unset, .unset, .unset, .unset, .unset, .unset] [(.ref b1)]) st1 ?_
  refine own_f T1 (mkF m 4 #[.val (.int p1), .val (.int p2), .val (.int p3), .val (.int p4), .val (.int p5), .unset, .unset, .unset, .unset, .unset, .unset, .unset, .unset, .unset, .unset, .unset] [(.ref b1), (.ref b1)]) (fun t k => XS.dup X1.here hx rfl (hb hby at_3) rfl rfl k) ?_
  obtain ⟨_, _, ⟨T3, Lq3, kq_3, nq_3⟩, -, X3, ⟨Lc3, hQ3, lq3, yq3, zq3⟩, st3⟩ := X1.specialBack hx (y := (⟨"com/example/demarcation/demarcation/QueryTimeouts", "<init>", "()V"⟩ : MethodName)) rfl hown (mvT hZ (own_w hw 3 rfl)) (mvT hZ (own_w hw 4 rfl)) (mvT hZ (own_w hw 5 rfl)) (by decide) (backOf (W := 1) (rm1 l Z a0 hw [] b1 h1 n0 Zs1 ) hZ (own_w hw 5 rfl) (own_w hw 2 rfl) (by decide) (by decide)) (g := (mkF m 4 #[.val (.int p1), .val (.int p2), .val (.int p3), .val (.int p4), .val (.int p5), .unset, .unset, .unset, .unset, .unset, .unset, .unset, .unset, .unset, .unset, .unset] [(.ref b1), (.ref b1)])) rfl (by rw [hml]; rfl) (Steps.refl _) (a := b1) (argsL := []) (rest := [(.ref b1)]) (lenOf pd__V rfl) rfl (by show 2 * 0 + _ ≤ _; exact Nat.le_of_eq rfl) (hb hby at_4) (fun _ _ => ⟨rfl, e1, (by decide : 0 + 1 + 0 ≤ _), (by decide : 0 + 1 + 0 ≤ _)⟩)
  dsimp only [Pt.U, Pt.locs, Pt.cells, Pt.slots] at X3 lq3 yq3 zq3 st3 hQ3
  subst lq3 yq3 zq3
  obtain ⟨h3, e3⟩ : ∃ z, T3.heap = z := ⟨_, rfl⟩
  rw [e3] at hQ3
  unfold Q1 at hQ3
  obtain ⟨rfl, Nq3, qh3⟩ := hQ3
  have N3 := Fr.app N0 Nq3
  rw [qh3] at e3
  refine own_g T3 (mkF m 7 #[.val (.int p1), .val (.int p2), .val (.int p3), .val (.int p4), .val (.int p5), .unset, .unset, .unset, .unset, .unset, .unset, .unset, .unset, .unset, .unset, .unset] [(.ref b1)]) st3 ?_
  refine own_f T3 (mkF m 9 #[.val (.int p1), .val (.int p2), .val (.int p3), .val (.int p4), .val (.int p5), .val (.ref b1), .unset, .unset, .unset, .unset, .unset, .unset, .unset, .unset, .unset, .unset] []) (fun t k => XS.astore X3.here hx rfl (hb hby at_7) rfl rfl (l' := #[.val (.int p1), .val (.int p2), .val (.int p3), .val (.int p4), .val (.int p5), .val (.ref b1), .unset, .unset, .unset, .unset, .unset, .unset, .unset, .unset, .unset, .unset]) rfl k) ?_
  refine own_f T3 (mkF m 11 #[.val (.int p1), .val (.int p2), .val (.int p3), .val (.int p4), .val (.int p5), .val (.ref b1), .unset, .unset, .unset, .unset, .unset, .unset, .unset, .unset, .unset, .unset] [(.ref b1)]) (fun t k => XS.aload X3.here hx rfl (hb hby at_9) rfl rfl k) ?_
  obtain ⟨cq4, kq4, qa4, qb4, qc4⟩ := isOf hZ e3 A1
  obtain ⟨_, _, ⟨T4, Lq4, kq_4, nq_4⟩, -, X4, ⟨Lc4, hQ4, lq4, yq4, zq4⟩, st4⟩ := X3.virtualBack hx (y := (⟨"com/example/demarcation/demarcation/QueryTimeouts", "keeping", "()Lcom/example/demarcation/demarcation/QueryTimeouts$Keeping;"⟩ : MethodName)) (z := (⟨"com/example/demarcation/demarcation/QueryTimeouts", "keeping", "()Lcom/example/demarcation/demarcation/QueryTimeouts$Keeping;"⟩ : MethodName)) hown (mvT hZ (own_w hw 9 rfl)) (mvT hZ (own_w hw 10 rfl)) (notFace_of_selects (args := #[]) (mvT hZ (own_w hw 12 rfl))) (mvT hZ (own_w hw 12 rfl)) (mvT hZ (own_w hw 11 rfl)) (by decide) (backOf (W := 0) (rm3 l Z a0 hw [] b1 _ h1 n0 Zs1 F_2 rfl) hZ (own_w hw 13 rfl) (own_w hw 2 rfl) (by decide) (by decide)) qa4 qc4 (g := (mkF m 11 #[.val (.int p1), .val (.int p2), .val (.int p3), .val (.int p4), .val (.int p5), .val (.ref b1), .unset, .unset, .unset, .unset, .unset, .unset, .unset, .unset, .unset, .unset] [(.ref b1)])) rfl (by rw [hml]; rfl) (Steps.refl _) (argsL := []) (rest := []) (lenOf pd__Lcom_example_demarcation_demarcation_QueryTimeouts_Keeping_ rfl) rfl (by show 2 * 0 + _ ≤ _; exact Nat.le_of_eq rfl) (hb hby at_11) (fun _ _ => ⟨rfl, e3, (by decide : 0 + 1 + 0 + 0 ≤ _), (by decide : 0 + 1 + 0 + 0 ≤ _)⟩)
  dsimp only [Pt.U, Pt.locs, Pt.cells, Pt.slots] at X4 lq4 yq4 zq4 st4 hQ4
  subst lq4 yq4 zq4
  obtain ⟨h4, e4⟩ : ∃ z, T4.heap = z := ⟨_, rfl⟩
  rw [e4] at hQ4
  unfold Q3 at hQ4
  obtain ⟨rfl, Nq4, qh4⟩ := hQ4
  have N4 := Fr.app N3 Nq4
  rw [qh4] at e4
  refine own_g T4 (mkF m 14 #[.val (.int p1), .val (.int p2), .val (.int p3), .val (.int p4), .val (.int p5), .val (.ref b1), .unset, .unset, .unset, .unset, .unset, .unset, .unset, .unset, .unset, .unset] [.null]) st4 ?_
  refine own_f T4 (mkF m 19 #[.val (.int p1), .val (.int p2), .val (.int p3), .val (.int p4), .val (.int p5), .val (.ref b1), .unset, .unset, .unset, .unset, .unset, .unset, .unset, .unset, .unset, .unset] []) (fun t k => XS.ifnullYes X4.here hx rfl (pc0 := 14) (pc' := 19) rfl (hb hby at_14) rfl (by decide) (by decide) k) ?_
  refine own_f T4 (mkF m 21 #[.val (.int p1), .val (.int p2), .val (.int p3), .val (.int p4), .val (.int p5), .val (.ref b1), .unset, .unset, .unset, .unset, .unset, .unset, .unset, .unset, .unset, .unset] [(.int p5)]) (fun t k => XS.iload X4.here hx rfl (hb hby at_19) rfl k) ?_
  refine own_f T4 (mkF m 22 #[.val (.int p1), .val (.int p2), .val (.int p3), .val (.int p4), .val (.int p5), .val (.ref b1), .unset, .unset, .unset, .unset, .unset, .unset, .unset, .unset, .unset, .unset] [(.int (1 : Int32)), (.int p5)]) (fun t k => XT.iconstV X4.here hx rfl (1 : Int32) (hb hby at_21) (by decide) k) ?_
  refine own_f T4 (mkF m 23 #[.val (.int p1), .val (.int p2), .val (.int p3), .val (.int p4), .val (.int p5), .val (.ref b1), .unset, .unset, .unset, .unset, .unset, .unset, .unset, .unset, .unset, .unset] [(.int (p5 &&& (1 : Int32)))]) (fun t k => XS.iand X4.here hx rfl (hb hby at_22) rfl k) ?_
  have jn5 : ∀ (za1 : Int32), own_R p.tables e below (own_P s (Q0 Z p1 p2 p3 p4 p5 h0 n0) room_1.cells room_1.slots) (T4.setTop (mkF m 31 #[.val (.int p1), .val (.int p2), .val (.int p3), .val (.int p4), .val (.int p5), .val (.ref b1), .unset, .unset, .unset, .unset, .unset, .unset, .unset, .unset, .unset, .unset] [(.int za1)])) := by
    intro za1
    refine own_f T4 (mkF m 33 #[.val (.int p1), .val (.int p2), .val (.int p3), .val (.int p4), .val (.int p5), .val (.ref b1), .val (.int za1), .unset, .unset, .unset, .unset, .unset, .unset, .unset, .unset, .unset] []) (fun t k => XS.istore X4.here hx rfl (hb hby at_31) rfl (l' := #[.val (.int p1), .val (.int p2), .val (.int p3), .val (.int p4), .val (.int p5), .val (.ref b1), .val (.int za1), .unset, .unset, .unset, .unset, .unset, .unset, .unset, .unset, .unset]) rfl k) ?_
    refine own_f T4 (mkF m 35 #[.val (.int p1), .val (.int p2), .val (.int p3), .val (.int p4), .val (.int p5), .val (.ref b1), .val (.int za1), .unset, .unset, .unset, .unset, .unset, .unset, .unset, .unset, .unset] [(.int za1)]) (fun t k => XS.iload X4.here hx rfl (hb hby at_33) rfl k) ?_
    have jn6 : ∀ (xa1 : Int32) (jx1 : za1 = 0 → xa1 = p2) (jw1 : ¬ za1 = 0 → xa1 = p1), own_R p.tables e below (own_P s (Q0 Z p1 p2 p3 p4 p5 h0 n0) room_1.cells room_1.slots) (T4.setTop (mkF m 43 #[.val (.int p1), .val (.int p2), .val (.int p3), .val (.int p4), .val (.int p5), .val (.ref b1), .val (.int za1), .unset, .unset, .unset, .unset, .unset, .unset, .unset, .unset, .unset] [(.int xa1)])) := by
      intro xa1 jx1 jw1
      refine own_f T4 (mkF m 45 #[.val (.int p1), .val (.int p2), .val (.int p3), .val (.int p4), .val (.int p5), .val (.ref b1), .val (.int za1), .val (.int xa1), .unset, .unset, .unset, .unset, .unset, .unset, .unset, .unset] []) (fun t k => XS.istore X4.here hx rfl (hb hby at_43) rfl (l' := #[.val (.int p1), .val (.int p2), .val (.int p3), .val (.int p4), .val (.int p5), .val (.ref b1), .val (.int za1), .val (.int xa1), .unset, .unset, .unset, .unset, .unset, .unset, .unset, .unset]) rfl k) ?_
      refine own_f T4 (mkF m 47 #[.val (.int p1), .val (.int p2), .val (.int p3), .val (.int p4), .val (.int p5), .val (.ref b1), .val (.int za1), .val (.int xa1), .unset, .unset, .unset, .unset, .unset, .unset, .unset, .unset] [(.ref b1)]) (fun t k => XS.aload X4.here hx rfl (hb hby at_45) rfl rfl k) ?_
      refine own_f T4 (mkF m 48 #[.val (.int p1), .val (.int p2), .val (.int p3), .val (.int p4), .val (.int p5), .val (.ref b1), .val (.int za1), .val (.int xa1), .unset, .unset, .unset, .unset, .unset, .unset, .unset, .unset] [(.int p1), (.ref b1)]) (fun t k => XS.iloadN X4.here hx rfl (hb hby at_47) rfl k) ?_
      refine own_f T4 (mkF m 50 #[.val (.int p1), .val (.int p2), .val (.int p3), .val (.int p4), .val (.int p5), .val (.ref b1), .val (.int za1), .val (.int xa1), .unset, .unset, .unset, .unset, .unset, .unset, .unset, .unset] [(.int xa1), (.int p1), (.ref b1)]) (fun t k => XS.iload X4.here hx rfl (hb hby at_48) rfl k) ?_
      obtain ⟨cq7, kq7, qa7, qb7, qc7⟩ := isOf hZ e4 A1
      obtain ⟨_, _, ⟨T7, Lq7, kq_7, nq_7⟩, -, X7, ⟨Lc7, hQ7, lq7, yq7, zq7⟩, st7⟩ := X4.virtualBack hx (y := (⟨"com/example/demarcation/demarcation/QueryTimeouts", "found", "(II)V"⟩ : MethodName)) (z := (⟨"com/example/demarcation/demarcation/QueryTimeouts", "found", "(II)V"⟩ : MethodName)) hown (mvT hZ (own_w hw 16 rfl)) (mvT hZ (own_w hw 17 rfl)) (notFace_of_selects (args := #[]) (mvT hZ (own_w hw 19 rfl))) (mvT hZ (own_w hw 19 rfl)) (mvT hZ (own_w hw 18 rfl)) (by decide) (backOf (W := 0) (rm5 l Z a0 hw [] b1 p1 xa1 _ h1 n0 Zs1 A1 F_2 ge1) hZ (own_w hw 20 rfl) (own_w hw 2 rfl) (by decide) (by decide)) qa7 qc7 (g := (mkF m 50 #[.val (.int p1), .val (.int p2), .val (.int p3), .val (.int p4), .val (.int p5), .val (.ref b1), .val (.int za1), .val (.int xa1), .unset, .unset, .unset, .unset, .unset, .unset, .unset, .unset] [(.int xa1), (.int p1), (.ref b1)])) rfl (by rw [hml]; rfl) (Steps.refl _) (argsL := [(.int p1), (.int xa1)]) (rest := []) (lenOf pd__II_V rfl) rfl (by show 2 * 0 + _ ≤ _; exact Nat.le_of_eq rfl) (hb hby at_50) (fun _ _ => ⟨rfl, e4, (by decide : 0 + 1 + 0 + 0 + 1 ≤ _), (by decide : 0 + 1 + 0 + 0 + 2 ≤ _)⟩)
      dsimp only [Pt.U, Pt.locs, Pt.cells, Pt.slots] at X7 lq7 yq7 zq7 st7 hQ7
      subst lq7 yq7 zq7
      obtain ⟨h7, e7⟩ : ∃ z, T7.heap = z := ⟨_, rfl⟩
      rw [e7] at hQ7
      unfold Q5 at hQ7
      obtain ⟨b7, rfl, Nq7, qh7, G7_0, G7_1, G7_2, G7_3, G7_4, H7_0⟩ := hQ7
      have N7 := Fr.app N4 Nq7
      have Zs7 : n0 ≤ h7.size := Nat.le_trans Zs1 qh7.1
      have ne7_b1 : b1 ≠ b7 := Nat.ne_of_lt (Nat.lt_of_lt_of_le A1.lt H7_0)
      have ge7 : n0 ≤ b7 := Nat.le_trans Zs1 H7_0
      refine own_g T7 (mkF m 53 #[.val (.int p1), .val (.int p2), .val (.int p3), .val (.int p4), .val (.int p5), .val (.ref b1), .val (.int za1), .val (.int xa1), .unset, .unset, .unset, .unset, .unset, .unset, .unset, .unset] []) st7 ?_
      refine own_f T7 (mkF m 55 #[.val (.int p1), .val (.int p2), .val (.int p3), .val (.int p4), .val (.int p5), .val (.ref b1), .val (.int za1), .val (.int xa1), .unset, .unset, .unset, .unset, .unset, .unset, .unset, .unset] [(.ref b1)]) (fun t k => XS.aload X7.here hx rfl (hb hby at_53) rfl rfl k) ?_
      obtain ⟨cq8, kq8, qa8, qb8, qc8⟩ := isOf hZ e7 G7_0
      obtain ⟨_, _, ⟨T8, Lq8, kq_8, nq_8⟩, -, X8, ⟨Lc8, hQ8, lq8, yq8, zq8⟩, st8⟩ := X7.virtualBack hx (y := (⟨"com/example/demarcation/demarcation/QueryTimeouts", "keeping", "()Lcom/example/demarcation/demarcation/QueryTimeouts$Keeping;"⟩ : MethodName)) (z := (⟨"com/example/demarcation/demarcation/QueryTimeouts", "keeping", "()Lcom/example/demarcation/demarcation/QueryTimeouts$Keeping;"⟩ : MethodName)) hown (mvT hZ (own_w hw 9 rfl)) (mvT hZ (own_w hw 10 rfl)) (notFace_of_selects (args := #[]) (mvT hZ (own_w hw 12 rfl))) (mvT hZ (own_w hw 12 rfl)) (mvT hZ (own_w hw 11 rfl)) (by decide) (backOf (W := 0) (rm3 l Z a0 hw [] b1 _ h7 n0 Zs7 G7_1 rfl) hZ (own_w hw 13 rfl) (own_w hw 2 rfl) (by decide) (by decide)) qa8 qc8 (g := (mkF m 55 #[.val (.int p1), .val (.int p2), .val (.int p3), .val (.int p4), .val (.int p5), .val (.ref b1), .val (.int za1), .val (.int xa1), .unset, .unset, .unset, .unset, .unset, .unset, .unset, .unset] [(.ref b1)])) rfl (by rw [hml]; rfl) (Steps.refl _) (argsL := []) (rest := []) (lenOf pd__Lcom_example_demarcation_demarcation_QueryTimeouts_Keeping_ rfl) rfl (by show 2 * 0 + _ ≤ _; exact Nat.le_of_eq rfl) (hb hby at_55) (fun _ _ => ⟨rfl, e7, (by decide : 0 + 1 + 0 + 0 + 1 + 0 ≤ _), (by decide : 0 + 1 + 0 + 0 + 2 + 0 ≤ _)⟩)
      dsimp only [Pt.U, Pt.locs, Pt.cells, Pt.slots] at X8 lq8 yq8 zq8 st8 hQ8
      subst lq8 yq8 zq8
      obtain ⟨h8, e8⟩ : ∃ z, T8.heap = z := ⟨_, rfl⟩
      rw [e8] at hQ8
      unfold Q3 at hQ8
      obtain ⟨rfl, Nq8, qh8⟩ := hQ8
      have N8 := Fr.app N7 Nq8
      rw [qh8] at e8
      refine own_g T8 (mkF m 58 #[.val (.int p1), .val (.int p2), .val (.int p3), .val (.int p4), .val (.int p5), .val (.ref b1), .val (.int za1), .val (.int xa1), .unset, .unset, .unset, .unset, .unset, .unset, .unset, .unset] [(.ref b7)]) st8 ?_
      refine own_f T8 (mkF m 60 #[.val (.int p1), .val (.int p2), .val (.int p3), .val (.int p4), .val (.int p5), .val (.ref b1), .val (.int za1), .val (.int xa1), .val (.ref b7), .unset, .unset, .unset, .unset, .unset, .unset, .unset] []) (fun t k => XS.astore X8.here hx rfl (hb hby at_58) rfl rfl (l' := #[.val (.int p1), .val (.int p2), .val (.int p3), .val (.int p4), .val (.int p5), .val (.ref b1), .val (.int za1), .val (.int xa1), .val (.ref b7), .unset, .unset, .unset, .unset, .unset, .unset, .unset]) rfl k) ?_
      refine own_f T8 (mkF m 62 #[.val (.int p1), .val (.int p2), .val (.int p3), .val (.int p4), .val (.int p5), .val (.ref b1), .val (.int za1), .val (.int xa1), .val (.ref b7), .unset, .unset, .unset, .unset, .unset, .unset, .unset] [(.ref b7)]) (fun t k => XS.aload X8.here hx rfl (hb hby at_60) rfl rfl k) ?_
      refine own_f T8 (mkF m 67 #[.val (.int p1), .val (.int p2), .val (.int p3), .val (.int p4), .val (.int p5), .val (.ref b1), .val (.int za1), .val (.int xa1), .val (.ref b7), .unset, .unset, .unset, .unset, .unset, .unset, .unset] []) (fun t k => XT.ifnonnullYes X8.here hx rfl (pc0 := 62) (pc' := 67) rfl (hb hby at_62) rfl (by decide) (by decide) k) ?_
      refine own_f T8 (mkF m 69 #[.val (.int p1), .val (.int p2), .val (.int p3), .val (.int p4), .val (.int p5), .val (.ref b1), .val (.int za1), .val (.int xa1), .val (.ref b7), .unset, .unset, .unset, .unset, .unset, .unset, .unset] [(.int za1)]) (fun t k => XS.iload X8.here hx rfl (hb hby at_67) rfl k) ?_
      have jn9 : ∀ (ea1 : Int32) (je1 : ea1 = own_df xa1 p1), own_R p.tables e below (own_P s (Q0 Z p1 p2 p3 p4 p5 h0 n0) room_1.cells room_1.slots) (T8.setTop (mkF m 82 #[.val (.int p1), .val (.int p2), .val (.int p3), .val (.int p4), .val (.int p5), .val (.ref b1), .val (.int za1), .val (.int xa1), .val (.ref b7), .unset, .unset, .unset, .unset, .unset, .unset, .unset] [(.int ea1)])) := by
        intro ea1 je1
        subst je1
        refine own_f T8 (mkF m 84 #[.val (.int p1), .val (.int p2), .val (.int p3), .val (.int p4), .val (.int p5), .val (.ref b1), .val (.int za1), .val (.int xa1), .val (.ref b7), .val (.int (own_df xa1 p1)), .unset, .unset, .unset, .unset, .unset, .unset] []) (fun t k => XS.istore X8.here hx rfl (hb hby at_82) rfl (l' := #[.val (.int p1), .val (.int p2), .val (.int p3), .val (.int p4), .val (.int p5), .val (.ref b1), .val (.int za1), .val (.int xa1), .val (.ref b7), .val (.int (own_df xa1 p1)), .unset, .unset, .unset, .unset, .unset, .unset]) rfl k) ?_
        refine own_f T8 (mkF m 86 #[.val (.int p1), .val (.int p2), .val (.int p3), .val (.int p4), .val (.int p5), .val (.ref b1), .val (.int za1), .val (.int xa1), .val (.ref b7), .val (.int (own_df xa1 p1)), .unset, .unset, .unset, .unset, .unset, .unset] [(.ref b7)]) (fun t k => XS.aload X8.here hx rfl (hb hby at_84) rfl rfl k) ?_
        obtain ⟨cq10, kq10, qa10, qb10, qc10⟩ := isOf hZ e8 G7_2
        obtain ⟨_, _, ⟨T10, Lq10, kq_10, nq_10⟩, -, X10, ⟨Lc10, hQ10, lq10, yq10, zq10⟩, st10⟩ := X8.virtualBack hx (y := (⟨"com/example/demarcation/demarcation/QueryTimeouts$Keeping", "cameWith", "()I"⟩ : MethodName)) (z := (⟨"com/example/demarcation/demarcation/QueryTimeouts$Keeping", "cameWith", "()I"⟩ : MethodName)) hown (mvT hZ (own_w hw 37 rfl)) (mvT hZ (own_w hw 38 rfl)) (notFace_of_selects (args := #[]) (mvT hZ (own_w hw 40 rfl))) (mvT hZ (own_w hw 40 rfl)) (mvT hZ (own_w hw 39 rfl)) (by decide) (backOf (W := 0) (rm6 l Z a0 hw [] b7 _ h7 n0 Zs7 G7_4) hZ (own_w hw 41 rfl) (own_w hw 23 rfl) (by decide) (by decide)) qa10 qc10 (g := (mkF m 86 #[.val (.int p1), .val (.int p2), .val (.int p3), .val (.int p4), .val (.int p5), .val (.ref b1), .val (.int za1), .val (.int xa1), .val (.ref b7), .val (.int (own_df xa1 p1)), .unset, .unset, .unset, .unset, .unset, .unset] [(.ref b7)])) rfl (by rw [hml]; rfl) (Steps.refl _) (argsL := []) (rest := []) (lenOf pd__I rfl) rfl (by show 2 * 0 + _ ≤ _; exact Nat.le_of_eq rfl) (hb hby at_86) (fun _ _ => ⟨rfl, e8, (by decide : 0 + 1 + 0 + 0 + 1 + 0 + 0 ≤ _), (by decide : 0 + 1 + 0 + 0 + 2 + 0 + 0 ≤ _)⟩)
        dsimp only [Pt.U, Pt.locs, Pt.cells, Pt.slots] at X10 lq10 yq10 zq10 st10 hQ10
        subst lq10 yq10 zq10
        obtain ⟨h10, e10⟩ : ∃ z, T10.heap = z := ⟨_, rfl⟩
        rw [e10] at hQ10
        unfold Q6 at hQ10
        obtain ⟨rfl, Nq10, qh10⟩ := hQ10
        have N10 := Fr.app N8 Nq10
        rw [qh10] at e10
        refine own_g T10 (mkF m 89 #[.val (.int p1), .val (.int p2), .val (.int p3), .val (.int p4), .val (.int p5), .val (.ref b1), .val (.int za1), .val (.int xa1), .val (.ref b7), .val (.int (own_df xa1 p1)), .unset, .unset, .unset, .unset, .unset, .unset] [(.int p1)]) st10 ?_
        refine own_f T10 (mkF m 90 #[.val (.int p1), .val (.int p2), .val (.int p3), .val (.int p4), .val (.int p5), .val (.ref b1), .val (.int za1), .val (.int xa1), .val (.ref b7), .val (.int (own_df xa1 p1)), .unset, .unset, .unset, .unset, .unset, .unset] [(.int p1), (.int p1)]) (fun t k => XS.iloadN X10.here hx rfl (hb hby at_89) rfl k) ?_
        have hc11 : p1 = p1 := rfl
        refine own_f T10 (mkF m 93 #[.val (.int p1), .val (.int p2), .val (.int p3), .val (.int p4), .val (.int p5), .val (.ref b1), .val (.int za1), .val (.int xa1), .val (.ref b7), .val (.int (own_df xa1 p1)), .unset, .unset, .unset, .unset, .unset, .unset] []) (fun t k => XS.icmpNo X10.here hx rfl (hb hby at_90) rfl (XT.ii_ne_f hc11) k) ?_
        refine own_f T10 (mkF m 95 #[.val (.int p1), .val (.int p2), .val (.int p3), .val (.int p4), .val (.int p5), .val (.ref b1), .val (.int za1), .val (.int xa1), .val (.ref b7), .val (.int (own_df xa1 p1)), .unset, .unset, .unset, .unset, .unset, .unset] [(.ref b7)]) (fun t k => XS.aload X10.here hx rfl (hb hby at_93) rfl rfl k) ?_
        obtain ⟨cq12, kq12, qa12, qb12, qc12⟩ := isOf hZ e10 G7_2
        obtain ⟨_, _, ⟨T12, Lq12, kq_12, nq_12⟩, -, X12, ⟨Lc12, hQ12, lq12, yq12, zq12⟩, st12⟩ := X10.virtualBack hx (y := (⟨"com/example/demarcation/demarcation/QueryTimeouts$Keeping", "forSession", "()Z"⟩ : MethodName)) (z := (⟨"com/example/demarcation/demarcation/QueryTimeouts$Keeping", "forSession", "()Z"⟩ : MethodName)) hown (mvT hZ (own_w hw 42 rfl)) (mvT hZ (own_w hw 43 rfl)) (notFace_of_selects (args := #[]) (mvT hZ (own_w hw 45 rfl))) (mvT hZ (own_w hw 45 rfl)) (mvT hZ (own_w hw 44 rfl)) (by decide) (backOf (W := 0) (rm7 l Z a0 hw [] b7 _ h7 n0 Zs7 G7_3 (own_df01 _ _)) hZ (own_w hw 46 rfl) (own_w hw 23 rfl) (by decide) (by decide)) qa12 qc12 (g := (mkF m 95 #[.val (.int p1), .val (.int p2), .val (.int p3), .val (.int p4), .val (.int p5), .val (.ref b1), .val (.int za1), .val (.int xa1), .val (.ref b7), .val (.int (own_df xa1 p1)), .unset, .unset, .unset, .unset, .unset, .unset] [(.ref b7)])) rfl (by rw [hml]; rfl) (Steps.refl _) (argsL := []) (rest := []) (lenOf pd__Z rfl) rfl (by show 2 * 0 + _ ≤ _; exact Nat.le_of_eq rfl) (hb hby at_95) (fun _ _ => ⟨rfl, e10, (by decide : 0 + 1 + 0 + 0 + 1 + 0 + 0 + 0 ≤ _), (by decide : 0 + 1 + 0 + 0 + 2 + 0 + 0 + 0 ≤ _)⟩)
        dsimp only [Pt.U, Pt.locs, Pt.cells, Pt.slots] at X12 lq12 yq12 zq12 st12 hQ12
        subst lq12 yq12 zq12
        obtain ⟨h12, e12⟩ : ∃ z, T12.heap = z := ⟨_, rfl⟩
        rw [e12] at hQ12
        unfold Q7 at hQ12
        obtain ⟨rfl, Nq12, qh12⟩ := hQ12
        have N12 := Fr.app N10 Nq12
        rw [qh12] at e12
        refine own_g T12 (mkF m 98 #[.val (.int p1), .val (.int p2), .val (.int p3), .val (.int p4), .val (.int p5), .val (.ref b1), .val (.int za1), .val (.int xa1), .val (.ref b7), .val (.int (own_df xa1 p1)), .unset, .unset, .unset, .unset, .unset, .unset] [(.int (own_df xa1 p1))]) st12 ?_
        refine own_f T12 (mkF m 100 #[.val (.int p1), .val (.int p2), .val (.int p3), .val (.int p4), .val (.int p5), .val (.ref b1), .val (.int za1), .val (.int xa1), .val (.ref b7), .val (.int (own_df xa1 p1)), .unset, .unset, .unset, .unset, .unset, .unset] [(.int (own_df xa1 p1)), (.int (own_df xa1 p1))]) (fun t k => XS.iload X12.here hx rfl (hb hby at_98) rfl k) ?_
        have hc13 : (own_df xa1 p1) = (own_df xa1 p1) := rfl
        refine own_f T12 (mkF m 103 #[.val (.int p1), .val (.int p2), .val (.int p3), .val (.int p4), .val (.int p5), .val (.ref b1), .val (.int za1), .val (.int xa1), .val (.ref b7), .val (.int (own_df xa1 p1)), .unset, .unset, .unset, .unset, .unset, .unset] []) (fun t k => XS.icmpNo X12.here hx rfl (hb hby at_100) rfl (XT.ii_ne_f hc13) k) ?_
        refine own_f T12 (mkF m 104 #[.val (.int p1), .val (.int p2), .val (.int p3), .val (.int p4), .val (.int p5), .val (.ref b1), .val (.int za1), .val (.int xa1), .val (.ref b7), .val (.int (own_df xa1 p1)), .unset, .unset, .unset, .unset, .unset, .unset] [(.int (1 : Int32))]) (fun t k => XT.iconstV X12.here hx rfl (1 : Int32) (hb hby at_103) (by decide) k) ?_
        refine own_f T12 (mkF m 108 #[.val (.int p1), .val (.int p2), .val (.int p3), .val (.int p4), .val (.int p5), .val (.ref b1), .val (.int za1), .val (.int xa1), .val (.ref b7), .val (.int (own_df xa1 p1)), .unset, .unset, .unset, .unset, .unset, .unset] [(.int (1 : Int32))]) (fun t k => XS.goto X12.here hx rfl (pc0 := 104) (pc' := 108) rfl (hb hby at_104) (by decide) (by decide) k) ?_
        refine own_f T12 (mkF m 110 #[.val (.int p1), .val (.int p2), .val (.int p3), .val (.int p4), .val (.int p5), .val (.ref b1), .val (.int za1), .val (.int xa1), .val (.ref b7), .val (.int (own_df xa1 p1)), .val (.int (1 : Int32)), .unset, .unset, .unset, .unset, .unset] []) (fun t k => XS.istore X12.here hx rfl (hb hby at_108) rfl (l' := #[.val (.int p1), .val (.int p2), .val (.int p3), .val (.int p4), .val (.int p5), .val (.ref b1), .val (.int za1), .val (.int xa1), .val (.ref b7), .val (.int (own_df xa1 p1)), .val (.int (1 : Int32)), .unset, .unset, .unset, .unset, .unset]) rfl k) ?_
        refine own_f T12 (mkF m 112 #[.val (.int p1), .val (.int p2), .val (.int p3), .val (.int p4), .val (.int p5), .val (.ref b1), .val (.int za1), .val (.int xa1), .val (.ref b7), .val (.int (own_df xa1 p1)), .val (.int (1 : Int32)), .unset, .unset, .unset, .unset, .unset] [(.int p5)]) (fun t k => XS.iload X12.here hx rfl (hb hby at_110) rfl k) ?_
        refine own_f T12 (mkF m 113 #[.val (.int p1), .val (.int p2), .val (.int p3), .val (.int p4), .val (.int p5), .val (.ref b1), .val (.int za1), .val (.int xa1), .val (.ref b7), .val (.int (own_df xa1 p1)), .val (.int (1 : Int32)), .unset, .unset, .unset, .unset, .unset] [(.int (2 : Int32)), (.int p5)]) (fun t k => XT.iconstV X12.here hx rfl (2 : Int32) (hb hby at_112) (by decide) k) ?_
        refine own_f T12 (mkF m 114 #[.val (.int p1), .val (.int p2), .val (.int p3), .val (.int p4), .val (.int p5), .val (.ref b1), .val (.int za1), .val (.int xa1), .val (.ref b7), .val (.int (own_df xa1 p1)), .val (.int (1 : Int32)), .unset, .unset, .unset, .unset, .unset] [(.int (p5 &&& (2 : Int32)))]) (fun t k => XS.iand X12.here hx rfl (hb hby at_113) rfl k) ?_
        have jn14 : ∀ (za2 : Int32), own_R p.tables e below (own_P s (Q0 Z p1 p2 p3 p4 p5 h0 n0) room_1.cells room_1.slots) (T12.setTop (mkF m 122 #[.val (.int p1), .val (.int p2), .val (.int p3), .val (.int p4), .val (.int p5), .val (.ref b1), .val (.int za1), .val (.int xa1), .val (.ref b7), .val (.int (own_df xa1 p1)), .val (.int (1 : Int32)), .unset, .unset, .unset, .unset, .unset] [(.int za2)])) := by
          intro za2
          refine own_f T12 (mkF m 124 #[.val (.int p1), .val (.int p2), .val (.int p3), .val (.int p4), .val (.int p5), .val (.ref b1), .val (.int za1), .val (.int xa1), .val (.ref b7), .val (.int (own_df xa1 p1)), .val (.int (1 : Int32)), .val (.int za2), .unset, .unset, .unset, .unset] []) (fun t k => XS.istore X12.here hx rfl (hb hby at_122) rfl (l' := #[.val (.int p1), .val (.int p2), .val (.int p3), .val (.int p4), .val (.int p5), .val (.ref b1), .val (.int za1), .val (.int xa1), .val (.ref b7), .val (.int (own_df xa1 p1)), .val (.int (1 : Int32)), .val (.int za2), .unset, .unset, .unset, .unset]) rfl k) ?_
          refine own_f T12 (mkF m 126 #[.val (.int p1), .val (.int p2), .val (.int p3), .val (.int p4), .val (.int p5), .val (.ref b1), .val (.int za1), .val (.int xa1), .val (.ref b7), .val (.int (own_df xa1 p1)), .val (.int (1 : Int32)), .val (.int za2), .unset, .unset, .unset, .unset] [(.int za2)]) (fun t k => XS.iload X12.here hx rfl (hb hby at_124) rfl k) ?_
          have jn15 : ∀ (xa2 : Int32) (jx2 : za2 = 0 → xa2 = p4) (jw2 : ¬ za2 = 0 → xa2 = p3), own_R p.tables e below (own_P s (Q0 Z p1 p2 p3 p4 p5 h0 n0) room_1.cells room_1.slots) (T12.setTop (mkF m 134 #[.val (.int p1), .val (.int p2), .val (.int p3), .val (.int p4), .val (.int p5), .val (.ref b1), .val (.int za1), .val (.int xa1), .val (.ref b7), .val (.int (own_df xa1 p1)), .val (.int (1 : Int32)), .val (.int za2), .unset, .unset, .unset, .unset] [(.int xa2)])) := by
            intro xa2 jx2 jw2
            refine own_f T12 (mkF m 136 #[.val (.int p1), .val (.int p2), .val (.int p3), .val (.int p4), .val (.int p5), .val (.ref b1), .val (.int za1), .val (.int xa1), .val (.ref b7), .val (.int (own_df xa1 p1)), .val (.int (1 : Int32)), .val (.int za2), .val (.int xa2), .unset, .unset, .unset] []) (fun t k => XS.istore X12.here hx rfl (hb hby at_134) rfl (l' := #[.val (.int p1), .val (.int p2), .val (.int p3), .val (.int p4), .val (.int p5), .val (.ref b1), .val (.int za1), .val (.int xa1), .val (.ref b7), .val (.int (own_df xa1 p1)), .val (.int (1 : Int32)), .val (.int za2), .val (.int xa2), .unset, .unset, .unset]) rfl k) ?_
            refine own_f T12 (mkF m 138 #[.val (.int p1), .val (.int p2), .val (.int p3), .val (.int p4), .val (.int p5), .val (.ref b1), .val (.int za1), .val (.int xa1), .val (.ref b7), .val (.int (own_df xa1 p1)), .val (.int (1 : Int32)), .val (.int za2), .val (.int xa2), .unset, .unset, .unset] [(.ref b1)]) (fun t k => XS.aload X12.here hx rfl (hb hby at_136) rfl rfl k) ?_
            refine own_f T12 (mkF m 139 #[.val (.int p1), .val (.int p2), .val (.int p3), .val (.int p4), .val (.int p5), .val (.ref b1), .val (.int za1), .val (.int xa1), .val (.ref b7), .val (.int (own_df xa1 p1)), .val (.int (1 : Int32)), .val (.int za2), .val (.int xa2), .unset, .unset, .unset] [(.int p3), (.ref b1)]) (fun t k => XS.iloadN X12.here hx rfl (hb hby at_138) rfl k) ?_
            refine own_f T12 (mkF m 141 #[.val (.int p1), .val (.int p2), .val (.int p3), .val (.int p4), .val (.int p5), .val (.ref b1), .val (.int za1), .val (.int xa1), .val (.ref b7), .val (.int (own_df xa1 p1)), .val (.int (1 : Int32)), .val (.int za2), .val (.int xa2), .unset, .unset, .unset] [(.int xa2), (.int p3), (.ref b1)]) (fun t k => XS.iload X12.here hx rfl (hb hby at_139) rfl k) ?_
            obtain ⟨cq16, kq16, qa16, qb16, qc16⟩ := isOf hZ e12 G7_0
            obtain ⟨_, _, ⟨T16, Lq16, kq_16, nq_16⟩, -, X16, ⟨Lc16, hQ16, lq16, yq16, zq16⟩, st16⟩ := X12.virtualBack hx (y := (⟨"com/example/demarcation/demarcation/QueryTimeouts", "found", "(II)V"⟩ : MethodName)) (z := (⟨"com/example/demarcation/demarcation/QueryTimeouts", "found", "(II)V"⟩ : MethodName)) hown (mvT hZ (own_w hw 16 rfl)) (mvT hZ (own_w hw 17 rfl)) (notFace_of_selects (args := #[]) (mvT hZ (own_w hw 19 rfl))) (mvT hZ (own_w hw 19 rfl)) (mvT hZ (own_w hw 18 rfl)) (by decide) (backOf (W := 0) (rm5 l Z a0 hw [] b1 p3 xa2 _ h7 n0 Zs7 G7_0 G7_1 ge1) hZ (own_w hw 20 rfl) (own_w hw 2 rfl) (by decide) (by decide)) qa16 qc16 (g := (mkF m 141 #[.val (.int p1), .val (.int p2), .val (.int p3), .val (.int p4), .val (.int p5), .val (.ref b1), .val (.int za1), .val (.int xa1), .val (.ref b7), .val (.int (own_df xa1 p1)), .val (.int (1 : Int32)), .val (.int za2), .val (.int xa2), .unset, .unset, .unset] [(.int xa2), (.int p3), (.ref b1)])) rfl (by rw [hml]; rfl) (Steps.refl _) (argsL := [(.int p3), (.int xa2)]) (rest := []) (lenOf pd__II_V rfl) rfl (by show 2 * 0 + _ ≤ _; exact Nat.le_of_eq rfl) (hb hby at_141) (fun _ _ => ⟨rfl, e12, (by decide : 0 + 1 + 0 + 0 + 1 + 0 + 0 + 0 + 1 ≤ _), (by decide : 0 + 1 + 0 + 0 + 2 + 0 + 0 + 0 + 2 ≤ _)⟩)
            dsimp only [Pt.U, Pt.locs, Pt.cells, Pt.slots] at X16 lq16 yq16 zq16 st16 hQ16
            subst lq16 yq16 zq16
            obtain ⟨h16, e16⟩ : ∃ z, T16.heap = z := ⟨_, rfl⟩
            rw [e16] at hQ16
            unfold Q5 at hQ16
            obtain ⟨b16, rfl, Nq16, qh16, G16_0, G16_1, G16_2, G16_3, G16_4, H16_0⟩ := hQ16
            have N16 := Fr.app N12 Nq16
            have Zs16 : n0 ≤ h16.size := Nat.le_trans Zs7 qh16.1
            have F_17 := G7_2.keep qh16
            have F_18 := G7_3.keep qh16 (ninS (Ne.symm ne7_b1) nin0)
            have F_19 := G7_4.keep qh16 (ninS (Ne.symm ne7_b1) nin0)
            have ne16_b1 : b1 ≠ b16 := Nat.ne_of_lt (Nat.lt_of_lt_of_le G7_0.lt H16_0)
            have ne16_b7 : b7 ≠ b16 := Nat.ne_of_lt (Nat.lt_of_lt_of_le G7_2.lt H16_0)
            have ge16 : n0 ≤ b16 := Nat.le_trans Zs7 H16_0
            refine own_g T16 (mkF m 144 #[.val (.int p1), .val (.int p2), .val (.int p3), .val (.int p4), .val (.int p5), .val (.ref b1), .val (.int za1), .val (.int xa1), .val (.ref b7), .val (.int (own_df xa1 p1)), .val (.int (1 : Int32)), .val (.int za2), .val (.int xa2), .unset, .unset, .unset] []) st16 ?_
            refine own_f T16 (mkF m 146 #[.val (.int p1), .val (.int p2), .val (.int p3), .val (.int p4), .val (.int p5), .val (.ref b1), .val (.int za1), .val (.int xa1), .val (.ref b7), .val (.int (own_df xa1 p1)), .val (.int (1 : Int32)), .val (.int za2), .val (.int xa2), .unset, .unset, .unset] [(.ref b1)]) (fun t k => XS.aload X16.here hx rfl (hb hby at_144) rfl rfl k) ?_
            obtain ⟨cq20, kq20, qa20, qb20, qc20⟩ := isOf hZ e16 G16_0
            obtain ⟨_, _, ⟨T20, Lq20, kq_20, nq_20⟩, -, X20, ⟨Lc20, hQ20, lq20, yq20, zq20⟩, st20⟩ := X16.virtualBack hx (y := (⟨"com/example/demarcation/demarcation/QueryTimeouts", "keeping", "()Lcom/example/demarcation/demarcation/QueryTimeouts$Keeping;"⟩ : MethodName)) (z := (⟨"com/example/demarcation/demarcation/QueryTimeouts", "keeping", "()Lcom/example/demarcation/demarcation/QueryTimeouts$Keeping;"⟩ : MethodName)) hown (mvT hZ (own_w hw 9 rfl)) (mvT hZ (own_w hw 10 rfl)) (notFace_of_selects (args := #[]) (mvT hZ (own_w hw 12 rfl))) (mvT hZ (own_w hw 12 rfl)) (mvT hZ (own_w hw 11 rfl)) (by decide) (backOf (W := 0) (rm3 l Z a0 hw [] b1 _ h16 n0 Zs16 G16_1 rfl) hZ (own_w hw 13 rfl) (own_w hw 2 rfl) (by decide) (by decide)) qa20 qc20 (g := (mkF m 146 #[.val (.int p1), .val (.int p2), .val (.int p3), .val (.int p4), .val (.int p5), .val (.ref b1), .val (.int za1), .val (.int xa1), .val (.ref b7), .val (.int (own_df xa1 p1)), .val (.int (1 : Int32)), .val (.int za2), .val (.int xa2), .unset, .unset, .unset] [(.ref b1)])) rfl (by rw [hml]; rfl) (Steps.refl _) (argsL := []) (rest := []) (lenOf pd__Lcom_example_demarcation_demarcation_QueryTimeouts_Keeping_ rfl) rfl (by show 2 * 0 + _ ≤ _; exact Nat.le_of_eq rfl) (hb hby at_146) (fun _ _ => ⟨rfl, e16, (by decide : 0 + 1 + 0 + 0 + 1 + 0 + 0 + 0 + 1 + 0 ≤ _), (by decide : 0 + 1 + 0 + 0 + 2 + 0 + 0 + 0 + 2 + 0 ≤ _)⟩)
            dsimp only [Pt.U, Pt.locs, Pt.cells, Pt.slots] at X20 lq20 yq20 zq20 st20 hQ20
            subst lq20 yq20 zq20
            obtain ⟨h20, e20⟩ : ∃ z, T20.heap = z := ⟨_, rfl⟩
            rw [e20] at hQ20
            unfold Q3 at hQ20
            obtain ⟨rfl, Nq20, qh20⟩ := hQ20
            have N20 := Fr.app N16 Nq20
            rw [qh20] at e20
            refine own_g T20 (mkF m 149 #[.val (.int p1), .val (.int p2), .val (.int p3), .val (.int p4), .val (.int p5), .val (.ref b1), .val (.int za1), .val (.int xa1), .val (.ref b7), .val (.int (own_df xa1 p1)), .val (.int (1 : Int32)), .val (.int za2), .val (.int xa2), .unset, .unset, .unset] [(.ref b16)]) st20 ?_
            refine own_f T20 (mkF m 151 #[.val (.int p1), .val (.int p2), .val (.int p3), .val (.int p4), .val (.int p5), .val (.ref b1), .val (.int za1), .val (.int xa1), .val (.ref b7), .val (.int (own_df xa1 p1)), .val (.int (1 : Int32)), .val (.int za2), .val (.int xa2), .val (.ref b16), .unset, .unset] []) (fun t k => XS.astore X20.here hx rfl (hb hby at_149) rfl rfl (l' := #[.val (.int p1), .val (.int p2), .val (.int p3), .val (.int p4), .val (.int p5), .val (.ref b1), .val (.int za1), .val (.int xa1), .val (.ref b7), .val (.int (own_df xa1 p1)), .val (.int (1 : Int32)), .val (.int za2), .val (.int xa2), .val (.ref b16), .unset, .unset]) rfl k) ?_
            refine own_f T20 (mkF m 153 #[.val (.int p1), .val (.int p2), .val (.int p3), .val (.int p4), .val (.int p5), .val (.ref b1), .val (.int za1), .val (.int xa1), .val (.ref b7), .val (.int (own_df xa1 p1)), .val (.int (1 : Int32)), .val (.int za2), .val (.int xa2), .val (.ref b16), .unset, .unset] [(.ref b16)]) (fun t k => XS.aload X20.here hx rfl (hb hby at_151) rfl rfl k) ?_
            refine own_f T20 (mkF m 158 #[.val (.int p1), .val (.int p2), .val (.int p3), .val (.int p4), .val (.int p5), .val (.ref b1), .val (.int za1), .val (.int xa1), .val (.ref b7), .val (.int (own_df xa1 p1)), .val (.int (1 : Int32)), .val (.int za2), .val (.int xa2), .val (.ref b16), .unset, .unset] []) (fun t k => XT.ifnonnullYes X20.here hx rfl (pc0 := 153) (pc' := 158) rfl (hb hby at_153) rfl (by decide) (by decide) k) ?_
            refine own_f T20 (mkF m 160 #[.val (.int p1), .val (.int p2), .val (.int p3), .val (.int p4), .val (.int p5), .val (.ref b1), .val (.int za1), .val (.int xa1), .val (.ref b7), .val (.int (own_df xa1 p1)), .val (.int (1 : Int32)), .val (.int za2), .val (.int xa2), .val (.ref b16), .unset, .unset] [(.int za2)]) (fun t k => XS.iload X20.here hx rfl (hb hby at_158) rfl k) ?_
            have jn21 : ∀ (ea2 : Int32) (je2 : ea2 = own_df xa2 p3), own_R p.tables e below (own_P s (Q0 Z p1 p2 p3 p4 p5 h0 n0) room_1.cells room_1.slots) (T20.setTop (mkF m 173 #[.val (.int p1), .val (.int p2), .val (.int p3), .val (.int p4), .val (.int p5), .val (.ref b1), .val (.int za1), .val (.int xa1), .val (.ref b7), .val (.int (own_df xa1 p1)), .val (.int (1 : Int32)), .val (.int za2), .val (.int xa2), .val (.ref b16), .unset, .unset] [(.int ea2)])) := by
              intro ea2 je2
              subst je2
              refine own_f T20 (mkF m 175 #[.val (.int p1), .val (.int p2), .val (.int p3), .val (.int p4), .val (.int p5), .val (.ref b1), .val (.int za1), .val (.int xa1), .val (.ref b7), .val (.int (own_df xa1 p1)), .val (.int (1 : Int32)), .val (.int za2), .val (.int xa2), .val (.ref b16), .val (.int (own_df xa2 p3)), .unset] []) (fun t k => XS.istore X20.here hx rfl (hb hby at_173) rfl (l' := #[.val (.int p1), .val (.int p2), .val (.int p3), .val (.int p4), .val (.int p5), .val (.ref b1), .val (.int za1), .val (.int xa1), .val (.ref b7), .val (.int (own_df xa1 p1)), .val (.int (1 : Int32)), .val (.int za2), .val (.int xa2), .val (.ref b16), .val (.int (own_df xa2 p3)), .unset]) rfl k) ?_
              refine own_f T20 (mkF m 177 #[.val (.int p1), .val (.int p2), .val (.int p3), .val (.int p4), .val (.int p5), .val (.ref b1), .val (.int za1), .val (.int xa1), .val (.ref b7), .val (.int (own_df xa1 p1)), .val (.int (1 : Int32)), .val (.int za2), .val (.int xa2), .val (.ref b16), .val (.int (own_df xa2 p3)), .unset] [(.ref b16)]) (fun t k => XS.aload X20.here hx rfl (hb hby at_175) rfl rfl k) ?_
              obtain ⟨cq22, kq22, qa22, qb22, qc22⟩ := isOf hZ e20 G16_2
              obtain ⟨_, _, ⟨T22, Lq22, kq_22, nq_22⟩, -, X22, ⟨Lc22, hQ22, lq22, yq22, zq22⟩, st22⟩ := X20.virtualBack hx (y := (⟨"com/example/demarcation/demarcation/QueryTimeouts$Keeping", "cameWith", "()I"⟩ : MethodName)) (z := (⟨"com/example/demarcation/demarcation/QueryTimeouts$Keeping", "cameWith", "()I"⟩ : MethodName)) hown (mvT hZ (own_w hw 37 rfl)) (mvT hZ (own_w hw 38 rfl)) (notFace_of_selects (args := #[]) (mvT hZ (own_w hw 40 rfl))) (mvT hZ (own_w hw 40 rfl)) (mvT hZ (own_w hw 39 rfl)) (by decide) (backOf (W := 0) (rm6 l Z a0 hw [] b16 _ h16 n0 Zs16 G16_4) hZ (own_w hw 41 rfl) (own_w hw 23 rfl) (by decide) (by decide)) qa22 qc22 (g := (mkF m 177 #[.val (.int p1), .val (.int p2), .val (.int p3), .val (.int p4), .val (.int p5), .val (.ref b1), .val (.int za1), .val (.int xa1), .val (.ref b7), .val (.int (own_df xa1 p1)), .val (.int (1 : Int32)), .val (.int za2), .val (.int xa2), .val (.ref b16), .val (.int (own_df xa2 p3)), .unset] [(.ref b16)])) rfl (by rw [hml]; rfl) (Steps.refl _) (argsL := []) (rest := []) (lenOf pd__I rfl) rfl (by show 2 * 0 + _ ≤ _; exact Nat.le_of_eq rfl) (hb hby at_177) (fun _ _ => ⟨rfl, e20, (by decide : 0 + 1 + 0 + 0 + 1 + 0 + 0 + 0 + 1 + 0 + 0 ≤ _), (by decide : 0 + 1 + 0 + 0 + 2 + 0 + 0 + 0 + 2 + 0 + 0 ≤ _)⟩)
              dsimp only [Pt.U, Pt.locs, Pt.cells, Pt.slots] at X22 lq22 yq22 zq22 st22 hQ22
              subst lq22 yq22 zq22
              obtain ⟨h22, e22⟩ : ∃ z, T22.heap = z := ⟨_, rfl⟩
              rw [e22] at hQ22
              unfold Q6 at hQ22
              obtain ⟨rfl, Nq22, qh22⟩ := hQ22
              have N22 := Fr.app N20 Nq22
              rw [qh22] at e22
              refine own_g T22 (mkF m 180 #[.val (.int p1), .val (.int p2), .val (.int p3), .val (.int p4), .val (.int p5), .val (.ref b1), .val (.int za1), .val (.int xa1), .val (.ref b7), .val (.int (own_df xa1 p1)), .val (.int (1 : Int32)), .val (.int za2), .val (.int xa2), .val (.ref b16), .val (.int (own_df xa2 p3)), .unset] [(.int p3)]) st22 ?_
              refine own_f T22 (mkF m 181 #[.val (.int p1), .val (.int p2), .val (.int p3), .val (.int p4), .val (.int p5), .val (.ref b1), .val (.int za1), .val (.int xa1), .val (.ref b7), .val (.int (own_df xa1 p1)), .val (.int (1 : Int32)), .val (.int za2), .val (.int xa2), .val (.ref b16), .val (.int (own_df xa2 p3)), .unset] [(.int p3), (.int p3)]) (fun t k => XS.iloadN X22.here hx rfl (hb hby at_180) rfl k) ?_
              have hc23 : p3 = p3 := rfl
              refine own_f T22 (mkF m 184 #[.val (.int p1), .val (.int p2), .val (.int p3), .val (.int p4), .val (.int p5), .val (.ref b1), .val (.int za1), .val (.int xa1), .val (.ref b7), .val (.int (own_df xa1 p1)), .val (.int (1 : Int32)), .val (.int za2), .val (.int xa2), .val (.ref b16), .val (.int (own_df xa2 p3)), .unset] []) (fun t k => XS.icmpNo X22.here hx rfl (hb hby at_181) rfl (XT.ii_ne_f hc23) k) ?_
              refine own_f T22 (mkF m 186 #[.val (.int p1), .val (.int p2), .val (.int p3), .val (.int p4), .val (.int p5), .val (.ref b1), .val (.int za1), .val (.int xa1), .val (.ref b7), .val (.int (own_df xa1 p1)), .val (.int (1 : Int32)), .val (.int za2), .val (.int xa2), .val (.ref b16), .val (.int (own_df xa2 p3)), .unset] [(.ref b16)]) (fun t k => XS.aload X22.here hx rfl (hb hby at_184) rfl rfl k) ?_
              obtain ⟨cq24, kq24, qa24, qb24, qc24⟩ := isOf hZ e22 G16_2
              obtain ⟨_, _, ⟨T24, Lq24, kq_24, nq_24⟩, -, X24, ⟨Lc24, hQ24, lq24, yq24, zq24⟩, st24⟩ := X22.virtualBack hx (y := (⟨"com/example/demarcation/demarcation/QueryTimeouts$Keeping", "forSession", "()Z"⟩ : MethodName)) (z := (⟨"com/example/demarcation/demarcation/QueryTimeouts$Keeping", "forSession", "()Z"⟩ : MethodName)) hown (mvT hZ (own_w hw 42 rfl)) (mvT hZ (own_w hw 43 rfl)) (notFace_of_selects (args := #[]) (mvT hZ (own_w hw 45 rfl))) (mvT hZ (own_w hw 45 rfl)) (mvT hZ (own_w hw 44 rfl)) (by decide) (backOf (W := 0) (rm7 l Z a0 hw [] b16 _ h16 n0 Zs16 G16_3 (own_df01 _ _)) hZ (own_w hw 46 rfl) (own_w hw 23 rfl) (by decide) (by decide)) qa24 qc24 (g := (mkF m 186 #[.val (.int p1), .val (.int p2), .val (.int p3), .val (.int p4), .val (.int p5), .val (.ref b1), .val (.int za1), .val (.int xa1), .val (.ref b7), .val (.int (own_df xa1 p1)), .val (.int (1 : Int32)), .val (.int za2), .val (.int xa2), .val (.ref b16), .val (.int (own_df xa2 p3)), .unset] [(.ref b16)])) rfl (by rw [hml]; rfl) (Steps.refl _) (argsL := []) (rest := []) (lenOf pd__Z rfl) rfl (by show 2 * 0 + _ ≤ _; exact Nat.le_of_eq rfl) (hb hby at_186) (fun _ _ => ⟨rfl, e22, (by decide : 0 + 1 + 0 + 0 + 1 + 0 + 0 + 0 + 1 + 0 + 0 + 0 ≤ _), (by decide : 0 + 1 + 0 + 0 + 2 + 0 + 0 + 0 + 2 + 0 + 0 + 0 ≤ _)⟩)
              dsimp only [Pt.U, Pt.locs, Pt.cells, Pt.slots] at X24 lq24 yq24 zq24 st24 hQ24
              subst lq24 yq24 zq24
              obtain ⟨h24, e24⟩ : ∃ z, T24.heap = z := ⟨_, rfl⟩
              rw [e24] at hQ24
              unfold Q7 at hQ24
              obtain ⟨rfl, Nq24, qh24⟩ := hQ24
              have N24 := Fr.app N22 Nq24
              rw [qh24] at e24
              refine own_g T24 (mkF m 189 #[.val (.int p1), .val (.int p2), .val (.int p3), .val (.int p4), .val (.int p5), .val (.ref b1), .val (.int za1), .val (.int xa1), .val (.ref b7), .val (.int (own_df xa1 p1)), .val (.int (1 : Int32)), .val (.int za2), .val (.int xa2), .val (.ref b16), .val (.int (own_df xa2 p3)), .unset] [(.int (own_df xa2 p3))]) st24 ?_
              refine own_f T24 (mkF m 191 #[.val (.int p1), .val (.int p2), .val (.int p3), .val (.int p4), .val (.int p5), .val (.ref b1), .val (.int za1), .val (.int xa1), .val (.ref b7), .val (.int (own_df xa1 p1)), .val (.int (1 : Int32)), .val (.int za2), .val (.int xa2), .val (.ref b16), .val (.int (own_df xa2 p3)), .unset] [(.int (own_df xa2 p3)), (.int (own_df xa2 p3))]) (fun t k => XS.iload X24.here hx rfl (hb hby at_189) rfl k) ?_
              have hc25 : (own_df xa2 p3) = (own_df xa2 p3) := rfl
              refine own_f T24 (mkF m 194 #[.val (.int p1), .val (.int p2), .val (.int p3), .val (.int p4), .val (.int p5), .val (.ref b1), .val (.int za1), .val (.int xa1), .val (.ref b7), .val (.int (own_df xa1 p1)), .val (.int (1 : Int32)), .val (.int za2), .val (.int xa2), .val (.ref b16), .val (.int (own_df xa2 p3)), .unset] []) (fun t k => XS.icmpNo X24.here hx rfl (hb hby at_191) rfl (XT.ii_ne_f hc25) k) ?_
              refine own_f T24 (mkF m 195 #[.val (.int p1), .val (.int p2), .val (.int p3), .val (.int p4), .val (.int p5), .val (.ref b1), .val (.int za1), .val (.int xa1), .val (.ref b7), .val (.int (own_df xa1 p1)), .val (.int (1 : Int32)), .val (.int za2), .val (.int xa2), .val (.ref b16), .val (.int (own_df xa2 p3)), .unset] [(.int (1 : Int32))]) (fun t k => XT.iconstV X24.here hx rfl (1 : Int32) (hb hby at_194) (by decide) k) ?_
              refine own_f T24 (mkF m 199 #[.val (.int p1), .val (.int p2), .val (.int p3), .val (.int p4), .val (.int p5), .val (.ref b1), .val (.int za1), .val (.int xa1), .val (.ref b7), .val (.int (own_df xa1 p1)), .val (.int (1 : Int32)), .val (.int za2), .val (.int xa2), .val (.ref b16), .val (.int (own_df xa2 p3)), .unset] [(.int (1 : Int32))]) (fun t k => XS.goto X24.here hx rfl (pc0 := 195) (pc' := 199) rfl (hb hby at_195) (by decide) (by decide) k) ?_
              refine own_f T24 (mkF m 201 #[.val (.int p1), .val (.int p2), .val (.int p3), .val (.int p4), .val (.int p5), .val (.ref b1), .val (.int za1), .val (.int xa1), .val (.ref b7), .val (.int (own_df xa1 p1)), .val (.int (1 : Int32)), .val (.int za2), .val (.int xa2), .val (.ref b16), .val (.int (own_df xa2 p3)), .val (.int (1 : Int32))] []) (fun t k => XS.istore X24.here hx rfl (hb hby at_199) rfl (l' := #[.val (.int p1), .val (.int p2), .val (.int p3), .val (.int p4), .val (.int p5), .val (.ref b1), .val (.int za1), .val (.int xa1), .val (.ref b7), .val (.int (own_df xa1 p1)), .val (.int (1 : Int32)), .val (.int za2), .val (.int xa2), .val (.ref b16), .val (.int (own_df xa2 p3)), .val (.int (1 : Int32))]) rfl k) ?_
              refine own_f T24 (mkF m 203 #[.val (.int p1), .val (.int p2), .val (.int p3), .val (.int p4), .val (.int p5), .val (.ref b1), .val (.int za1), .val (.int xa1), .val (.ref b7), .val (.int (own_df xa1 p1)), .val (.int (1 : Int32)), .val (.int za2), .val (.int xa2), .val (.ref b16), .val (.int (own_df xa2 p3)), .val (.int (1 : Int32))] [(.int (1 : Int32))]) (fun t k => XS.iload X24.here hx rfl (hb hby at_201) rfl k) ?_
              refine own_f T24 (mkF m 206 #[.val (.int p1), .val (.int p2), .val (.int p3), .val (.int p4), .val (.int p5), .val (.ref b1), .val (.int za1), .val (.int xa1), .val (.ref b7), .val (.int (own_df xa1 p1)), .val (.int (1 : Int32)), .val (.int za2), .val (.int xa2), .val (.ref b16), .val (.int (own_df xa2 p3)), .val (.int (1 : Int32))] []) (fun t k => XS.ifNo X24.here hx rfl (hb hby at_203) rfl (XT.i0_eq_f (by decide)) k) ?_
              refine own_f T24 (mkF m 208 #[.val (.int p1), .val (.int p2), .val (.int p3), .val (.int p4), .val (.int p5), .val (.ref b1), .val (.int za1), .val (.int xa1), .val (.ref b7), .val (.int (own_df xa1 p1)), .val (.int (1 : Int32)), .val (.int za2), .val (.int xa2), .val (.ref b16), .val (.int (own_df xa2 p3)), .val (.int (1 : Int32))] [(.int (1 : Int32))]) (fun t k => XS.iload X24.here hx rfl (hb hby at_206) rfl k) ?_
              refine own_f T24 (mkF m 211 #[.val (.int p1), .val (.int p2), .val (.int p3), .val (.int p4), .val (.int p5), .val (.ref b1), .val (.int za1), .val (.int xa1), .val (.ref b7), .val (.int (own_df xa1 p1)), .val (.int (1 : Int32)), .val (.int za2), .val (.int xa2), .val (.ref b16), .val (.int (own_df xa2 p3)), .val (.int (1 : Int32))] []) (fun t k => XS.ifNo X24.here hx rfl (hb hby at_208) rfl (XT.i0_eq_f (by decide)) k) ?_
              refine own_f T24 (mkF m 212 #[.val (.int p1), .val (.int p2), .val (.int p3), .val (.int p4), .val (.int p5), .val (.ref b1), .val (.int za1), .val (.int xa1), .val (.ref b7), .val (.int (own_df xa1 p1)), .val (.int (1 : Int32)), .val (.int za2), .val (.int xa2), .val (.ref b16), .val (.int (own_df xa2 p3)), .val (.int (1 : Int32))] [(.int (1 : Int32))]) (fun t k => XT.iconstV X24.here hx rfl (1 : Int32) (hb hby at_211) (by decide) k) ?_
              refine own_f T24 (mkF m 216 #[.val (.int p1), .val (.int p2), .val (.int p3), .val (.int p4), .val (.int p5), .val (.ref b1), .val (.int za1), .val (.int xa1), .val (.ref b7), .val (.int (own_df xa1 p1)), .val (.int (1 : Int32)), .val (.int za2), .val (.int xa2), .val (.ref b16), .val (.int (own_df xa2 p3)), .val (.int (1 : Int32))] [(.int (1 : Int32))]) (fun t k => XS.goto X24.here hx rfl (pc0 := 212) (pc' := 216) rfl (hb hby at_212) (by decide) (by decide) k) ?_
              obtain ⟨fs, hr, hrun, hended, hW, hsame⟩ := X24.leave (v := some (.int (1 : Int32))) (fun h => by rw [Bd.returns] at h; cases h)
              refine ⟨_, _, retN X24 hx (t := .boolean) Bd.returns (by simp) (hb hby at_216) hr, hrun, hended, _, _, rfl, ?_, ⟨_, rfl⟩, hW, hsame.mono (by decide) (by decide)⟩
              show Q0 Z p1 p2 p3 p4 p5 h0 n0 _ T24.heap _
              rw [e24]
              exact ⟨rfl, N24⟩
            by_cases hc26 : za2 = 0
            · skip
              refine own_f T20 (mkF m 163 #[.val (.int p1), .val (.int p2), .val (.int p3), .val (.int p4), .val (.int p5), .val (.ref b1), .val (.int za1), .val (.int xa1), .val (.ref b7), .val (.int (own_df xa1 p1)), .val (.int (1 : Int32)), .val (.int za2), .val (.int xa2), .val (.ref b16), .unset, .unset] []) (fun t k => XS.ifNo X20.here hx rfl (hb hby at_160) rfl (XT.i0_ne_f hc26) k) ?_
              refine own_f T20 (mkF m 164 #[.val (.int p1), .val (.int p2), .val (.int p3), .val (.int p4), .val (.int p5), .val (.ref b1), .val (.int za1), .val (.int xa1), .val (.ref b7), .val (.int (own_df xa1 p1)), .val (.int (1 : Int32)), .val (.int za2), .val (.int xa2), .val (.ref b16), .unset, .unset] [(.int p4)]) (fun t k => XS.iloadN X20.here hx rfl (hb hby at_163) rfl k) ?_
              refine own_f T20 (mkF m 165 #[.val (.int p1), .val (.int p2), .val (.int p3), .val (.int p4), .val (.int p5), .val (.ref b1), .val (.int za1), .val (.int xa1), .val (.ref b7), .val (.int (own_df xa1 p1)), .val (.int (1 : Int32)), .val (.int za2), .val (.int xa2), .val (.ref b16), .unset, .unset] [(.int p3), (.int p4)]) (fun t k => XS.iloadN X20.here hx rfl (hb hby at_164) rfl k) ?_
              by_cases hc27 : p4 = p3
              · skip
                refine own_f T20 (mkF m 172 #[.val (.int p1), .val (.int p2), .val (.int p3), .val (.int p4), .val (.int p5), .val (.ref b1), .val (.int za1), .val (.int xa1), .val (.ref b7), .val (.int (own_df xa1 p1)), .val (.int (1 : Int32)), .val (.int za2), .val (.int xa2), .val (.ref b16), .unset, .unset] []) (fun t k => XS.icmpYes X20.here hx rfl (pc0 := 165) (pc' := 172) rfl (hb hby at_165) rfl (XT.ii_eq_t hc27) (by decide) (by decide) k) ?_
                refine own_f T20 (mkF m 173 #[.val (.int p1), .val (.int p2), .val (.int p3), .val (.int p4), .val (.int p5), .val (.ref b1), .val (.int za1), .val (.int xa1), .val (.ref b7), .val (.int (own_df xa1 p1)), .val (.int (1 : Int32)), .val (.int za2), .val (.int xa2), .val (.ref b16), .unset, .unset] [(.int (0 : Int32))]) (fun t k => XT.iconstV X20.here hx rfl (0 : Int32) (hb hby at_172) (by decide) k) ?_
                exact jn21 (0 : Int32) (by rw [jx2 hc26, own_df, if_pos hc27] <;> rfl)
              · skip
                refine own_f T20 (mkF m 168 #[.val (.int p1), .val (.int p2), .val (.int p3), .val (.int p4), .val (.int p5), .val (.ref b1), .val (.int za1), .val (.int xa1), .val (.ref b7), .val (.int (own_df xa1 p1)), .val (.int (1 : Int32)), .val (.int za2), .val (.int xa2), .val (.ref b16), .unset, .unset] []) (fun t k => XS.icmpNo X20.here hx rfl (hb hby at_165) rfl (XT.ii_eq_f hc27) k) ?_
                refine own_f T20 (mkF m 169 #[.val (.int p1), .val (.int p2), .val (.int p3), .val (.int p4), .val (.int p5), .val (.ref b1), .val (.int za1), .val (.int xa1), .val (.ref b7), .val (.int (own_df xa1 p1)), .val (.int (1 : Int32)), .val (.int za2), .val (.int xa2), .val (.ref b16), .unset, .unset] [(.int (1 : Int32))]) (fun t k => XT.iconstV X20.here hx rfl (1 : Int32) (hb hby at_168) (by decide) k) ?_
                refine own_f T20 (mkF m 173 #[.val (.int p1), .val (.int p2), .val (.int p3), .val (.int p4), .val (.int p5), .val (.ref b1), .val (.int za1), .val (.int xa1), .val (.ref b7), .val (.int (own_df xa1 p1)), .val (.int (1 : Int32)), .val (.int za2), .val (.int xa2), .val (.ref b16), .unset, .unset] [(.int (1 : Int32))]) (fun t k => XS.goto X20.here hx rfl (pc0 := 169) (pc' := 173) rfl (hb hby at_169) (by decide) (by decide) k) ?_
                exact jn21 (1 : Int32) (by rw [jx2 hc26, own_df, if_neg hc27] <;> rfl)
            · skip
              refine own_f T20 (mkF m 172 #[.val (.int p1), .val (.int p2), .val (.int p3), .val (.int p4), .val (.int p5), .val (.ref b1), .val (.int za1), .val (.int xa1), .val (.ref b7), .val (.int (own_df xa1 p1)), .val (.int (1 : Int32)), .val (.int za2), .val (.int xa2), .val (.ref b16), .unset, .unset] []) (fun t k => XS.ifYes X20.here hx rfl (pc0 := 160) (pc' := 172) rfl (hb hby at_160) rfl (XT.i0_ne_t hc26) (by decide) (by decide) k) ?_
              refine own_f T20 (mkF m 173 #[.val (.int p1), .val (.int p2), .val (.int p3), .val (.int p4), .val (.int p5), .val (.ref b1), .val (.int za1), .val (.int xa1), .val (.ref b7), .val (.int (own_df xa1 p1)), .val (.int (1 : Int32)), .val (.int za2), .val (.int xa2), .val (.ref b16), .unset, .unset] [(.int (0 : Int32))]) (fun t k => XT.iconstV X20.here hx rfl (0 : Int32) (hb hby at_172) (by decide) k) ?_
              exact jn21 (0 : Int32) (by rw [own_df, if_pos (jw2 hc26)] <;> rfl)
          by_cases hc28 : za2 = 0
          · skip
            refine own_f T12 (mkF m 133 #[.val (.int p1), .val (.int p2), .val (.int p3), .val (.int p4), .val (.int p5), .val (.ref b1), .val (.int za1), .val (.int xa1), .val (.ref b7), .val (.int (own_df xa1 p1)), .val (.int (1 : Int32)), .val (.int za2), .unset, .unset, .unset, .unset] []) (fun t k => XS.ifYes X12.here hx rfl (pc0 := 126) (pc' := 133) rfl (hb hby at_126) rfl (XT.i0_eq_t hc28) (by decide) (by decide) k) ?_
            refine own_f T12 (mkF m 134 #[.val (.int p1), .val (.int p2), .val (.int p3), .val (.int p4), .val (.int p5), .val (.ref b1), .val (.int za1), .val (.int xa1), .val (.ref b7), .val (.int (own_df xa1 p1)), .val (.int (1 : Int32)), .val (.int za2), .unset, .unset, .unset, .unset] [(.int p4)]) (fun t k => XS.iloadN X12.here hx rfl (hb hby at_133) rfl k) ?_
            exact jn15 p4 (by intros; first | rfl | contradiction) (by intros; first | rfl | contradiction)
          · skip
            refine own_f T12 (mkF m 129 #[.val (.int p1), .val (.int p2), .val (.int p3), .val (.int p4), .val (.int p5), .val (.ref b1), .val (.int za1), .val (.int xa1), .val (.ref b7), .val (.int (own_df xa1 p1)), .val (.int (1 : Int32)), .val (.int za2), .unset, .unset, .unset, .unset] []) (fun t k => XS.ifNo X12.here hx rfl (hb hby at_126) rfl (XT.i0_eq_f hc28) k) ?_
            refine own_f T12 (mkF m 130 #[.val (.int p1), .val (.int p2), .val (.int p3), .val (.int p4), .val (.int p5), .val (.ref b1), .val (.int za1), .val (.int xa1), .val (.ref b7), .val (.int (own_df xa1 p1)), .val (.int (1 : Int32)), .val (.int za2), .unset, .unset, .unset, .unset] [(.int p3)]) (fun t k => XS.iloadN X12.here hx rfl (hb hby at_129) rfl k) ?_
            refine own_f T12 (mkF m 134 #[.val (.int p1), .val (.int p2), .val (.int p3), .val (.int p4), .val (.int p5), .val (.ref b1), .val (.int za1), .val (.int xa1), .val (.ref b7), .val (.int (own_df xa1 p1)), .val (.int (1 : Int32)), .val (.int za2), .unset, .unset, .unset, .unset] [(.int p3)]) (fun t k => XS.goto X12.here hx rfl (pc0 := 130) (pc' := 134) rfl (hb hby at_130) (by decide) (by decide) k) ?_
            exact jn15 p3 (by intros; first | rfl | contradiction) (by intros; first | rfl | contradiction)
        by_cases hc29 : (p5 &&& (2 : Int32)) = 0
        · skip
          refine own_f T12 (mkF m 121 #[.val (.int p1), .val (.int p2), .val (.int p3), .val (.int p4), .val (.int p5), .val (.ref b1), .val (.int za1), .val (.int xa1), .val (.ref b7), .val (.int (own_df xa1 p1)), .val (.int (1 : Int32)), .unset, .unset, .unset, .unset, .unset] []) (fun t k => XS.ifYes X12.here hx rfl (pc0 := 114) (pc' := 121) rfl (hb hby at_114) rfl (XT.i0_eq_t hc29) (by decide) (by decide) k) ?_
          refine own_f T12 (mkF m 122 #[.val (.int p1), .val (.int p2), .val (.int p3), .val (.int p4), .val (.int p5), .val (.ref b1), .val (.int za1), .val (.int xa1), .val (.ref b7), .val (.int (own_df xa1 p1)), .val (.int (1 : Int32)), .unset, .unset, .unset, .unset, .unset] [(.int (0 : Int32))]) (fun t k => XT.iconstV X12.here hx rfl (0 : Int32) (hb hby at_121) (by decide) k) ?_
          exact jn14 (0 : Int32)
        · skip
          refine own_f T12 (mkF m 117 #[.val (.int p1), .val (.int p2), .val (.int p3), .val (.int p4), .val (.int p5), .val (.ref b1), .val (.int za1), .val (.int xa1), .val (.ref b7), .val (.int (own_df xa1 p1)), .val (.int (1 : Int32)), .unset, .unset, .unset, .unset, .unset] []) (fun t k => XS.ifNo X12.here hx rfl (hb hby at_114) rfl (XT.i0_eq_f hc29) k) ?_
          refine own_f T12 (mkF m 118 #[.val (.int p1), .val (.int p2), .val (.int p3), .val (.int p4), .val (.int p5), .val (.ref b1), .val (.int za1), .val (.int xa1), .val (.ref b7), .val (.int (own_df xa1 p1)), .val (.int (1 : Int32)), .unset, .unset, .unset, .unset, .unset] [(.int (1 : Int32))]) (fun t k => XT.iconstV X12.here hx rfl (1 : Int32) (hb hby at_117) (by decide) k) ?_
          refine own_f T12 (mkF m 122 #[.val (.int p1), .val (.int p2), .val (.int p3), .val (.int p4), .val (.int p5), .val (.ref b1), .val (.int za1), .val (.int xa1), .val (.ref b7), .val (.int (own_df xa1 p1)), .val (.int (1 : Int32)), .unset, .unset, .unset, .unset, .unset] [(.int (1 : Int32))]) (fun t k => XS.goto X12.here hx rfl (pc0 := 118) (pc' := 122) rfl (hb hby at_118) (by decide) (by decide) k) ?_
          exact jn14 (1 : Int32)
      by_cases hc30 : za1 = 0
      · skip
        refine own_f T8 (mkF m 72 #[.val (.int p1), .val (.int p2), .val (.int p3), .val (.int p4), .val (.int p5), .val (.ref b1), .val (.int za1), .val (.int xa1), .val (.ref b7), .unset, .unset, .unset, .unset, .unset, .unset, .unset] []) (fun t k => XS.ifNo X8.here hx rfl (hb hby at_69) rfl (XT.i0_ne_f hc30) k) ?_
        refine own_f T8 (mkF m 73 #[.val (.int p1), .val (.int p2), .val (.int p3), .val (.int p4), .val (.int p5), .val (.ref b1), .val (.int za1), .val (.int xa1), .val (.ref b7), .unset, .unset, .unset, .unset, .unset, .unset, .unset] [(.int p2)]) (fun t k => XS.iloadN X8.here hx rfl (hb hby at_72) rfl k) ?_
        refine own_f T8 (mkF m 74 #[.val (.int p1), .val (.int p2), .val (.int p3), .val (.int p4), .val (.int p5), .val (.ref b1), .val (.int za1), .val (.int xa1), .val (.ref b7), .unset, .unset, .unset, .unset, .unset, .unset, .unset] [(.int p1), (.int p2)]) (fun t k => XS.iloadN X8.here hx rfl (hb hby at_73) rfl k) ?_
        by_cases hc31 : p2 = p1
        · skip
          refine own_f T8 (mkF m 81 #[.val (.int p1), .val (.int p2), .val (.int p3), .val (.int p4), .val (.int p5), .val (.ref b1), .val (.int za1), .val (.int xa1), .val (.ref b7), .unset, .unset, .unset, .unset, .unset, .unset, .unset] []) (fun t k => XS.icmpYes X8.here hx rfl (pc0 := 74) (pc' := 81) rfl (hb hby at_74) rfl (XT.ii_eq_t hc31) (by decide) (by decide) k) ?_
          refine own_f T8 (mkF m 82 #[.val (.int p1), .val (.int p2), .val (.int p3), .val (.int p4), .val (.int p5), .val (.ref b1), .val (.int za1), .val (.int xa1), .val (.ref b7), .unset, .unset, .unset, .unset, .unset, .unset, .unset] [(.int (0 : Int32))]) (fun t k => XT.iconstV X8.here hx rfl (0 : Int32) (hb hby at_81) (by decide) k) ?_
          exact jn9 (0 : Int32) (by rw [jx1 hc30, own_df, if_pos hc31] <;> rfl)
        · skip
          refine own_f T8 (mkF m 77 #[.val (.int p1), .val (.int p2), .val (.int p3), .val (.int p4), .val (.int p5), .val (.ref b1), .val (.int za1), .val (.int xa1), .val (.ref b7), .unset, .unset, .unset, .unset, .unset, .unset, .unset] []) (fun t k => XS.icmpNo X8.here hx rfl (hb hby at_74) rfl (XT.ii_eq_f hc31) k) ?_
          refine own_f T8 (mkF m 78 #[.val (.int p1), .val (.int p2), .val (.int p3), .val (.int p4), .val (.int p5), .val (.ref b1), .val (.int za1), .val (.int xa1), .val (.ref b7), .unset, .unset, .unset, .unset, .unset, .unset, .unset] [(.int (1 : Int32))]) (fun t k => XT.iconstV X8.here hx rfl (1 : Int32) (hb hby at_77) (by decide) k) ?_
          refine own_f T8 (mkF m 82 #[.val (.int p1), .val (.int p2), .val (.int p3), .val (.int p4), .val (.int p5), .val (.ref b1), .val (.int za1), .val (.int xa1), .val (.ref b7), .unset, .unset, .unset, .unset, .unset, .unset, .unset] [(.int (1 : Int32))]) (fun t k => XS.goto X8.here hx rfl (pc0 := 78) (pc' := 82) rfl (hb hby at_78) (by decide) (by decide) k) ?_
          exact jn9 (1 : Int32) (by rw [jx1 hc30, own_df, if_neg hc31] <;> rfl)
      · skip
        refine own_f T8 (mkF m 81 #[.val (.int p1), .val (.int p2), .val (.int p3), .val (.int p4), .val (.int p5), .val (.ref b1), .val (.int za1), .val (.int xa1), .val (.ref b7), .unset, .unset, .unset, .unset, .unset, .unset, .unset] []) (fun t k => XS.ifYes X8.here hx rfl (pc0 := 69) (pc' := 81) rfl (hb hby at_69) rfl (XT.i0_ne_t hc30) (by decide) (by decide) k) ?_
        refine own_f T8 (mkF m 82 #[.val (.int p1), .val (.int p2), .val (.int p3), .val (.int p4), .val (.int p5), .val (.ref b1), .val (.int za1), .val (.int xa1), .val (.ref b7), .unset, .unset, .unset, .unset, .unset, .unset, .unset] [(.int (0 : Int32))]) (fun t k => XT.iconstV X8.here hx rfl (0 : Int32) (hb hby at_81) (by decide) k) ?_
        exact jn9 (0 : Int32) (by rw [own_df, if_pos (jw1 hc30)] <;> rfl)
    by_cases hc32 : za1 = 0
    · skip
      refine own_f T4 (mkF m 42 #[.val (.int p1), .val (.int p2), .val (.int p3), .val (.int p4), .val (.int p5), .val (.ref b1), .val (.int za1), .unset, .unset, .unset, .unset, .unset, .unset, .unset, .unset, .unset] []) (fun t k => XS.ifYes X4.here hx rfl (pc0 := 35) (pc' := 42) rfl (hb hby at_35) rfl (XT.i0_eq_t hc32) (by decide) (by decide) k) ?_
      refine own_f T4 (mkF m 43 #[.val (.int p1), .val (.int p2), .val (.int p3), .val (.int p4), .val (.int p5), .val (.ref b1), .val (.int za1), .unset, .unset, .unset, .unset, .unset, .unset, .unset, .unset, .unset] [(.int p2)]) (fun t k => XS.iloadN X4.here hx rfl (hb hby at_42) rfl k) ?_
      exact jn6 p2 (by intros; first | rfl | contradiction) (by intros; first | rfl | contradiction)
    · skip
      refine own_f T4 (mkF m 38 #[.val (.int p1), .val (.int p2), .val (.int p3), .val (.int p4), .val (.int p5), .val (.ref b1), .val (.int za1), .unset, .unset, .unset, .unset, .unset, .unset, .unset, .unset, .unset] []) (fun t k => XS.ifNo X4.here hx rfl (hb hby at_35) rfl (XT.i0_eq_f hc32) k) ?_
      refine own_f T4 (mkF m 39 #[.val (.int p1), .val (.int p2), .val (.int p3), .val (.int p4), .val (.int p5), .val (.ref b1), .val (.int za1), .unset, .unset, .unset, .unset, .unset, .unset, .unset, .unset, .unset] [(.int p1)]) (fun t k => XS.iloadN X4.here hx rfl (hb hby at_38) rfl k) ?_
      refine own_f T4 (mkF m 43 #[.val (.int p1), .val (.int p2), .val (.int p3), .val (.int p4), .val (.int p5), .val (.ref b1), .val (.int za1), .unset, .unset, .unset, .unset, .unset, .unset, .unset, .unset, .unset] [(.int p1)]) (fun t k => XS.goto X4.here hx rfl (pc0 := 39) (pc' := 43) rfl (hb hby at_39) (by decide) (by decide) k) ?_
      exact jn6 p1 (by intros; first | rfl | contradiction) (by intros; first | rfl | contradiction)
  by_cases hc33 : (p5 &&& (1 : Int32)) = 0
  · skip
    refine own_f T4 (mkF m 30 #[.val (.int p1), .val (.int p2), .val (.int p3), .val (.int p4), .val (.int p5), .val (.ref b1), .unset, .unset, .unset, .unset, .unset, .unset, .unset, .unset, .unset, .unset] []) (fun t k => XS.ifYes X4.here hx rfl (pc0 := 23) (pc' := 30) rfl (hb hby at_23) rfl (XT.i0_eq_t hc33) (by decide) (by decide) k) ?_
    refine own_f T4 (mkF m 31 #[.val (.int p1), .val (.int p2), .val (.int p3), .val (.int p4), .val (.int p5), .val (.ref b1), .unset, .unset, .unset, .unset, .unset, .unset, .unset, .unset, .unset, .unset] [(.int (0 : Int32))]) (fun t k => XT.iconstV X4.here hx rfl (0 : Int32) (hb hby at_30) (by decide) k) ?_
    exact jn5 (0 : Int32)
  · skip
    refine own_f T4 (mkF m 26 #[.val (.int p1), .val (.int p2), .val (.int p3), .val (.int p4), .val (.int p5), .val (.ref b1), .unset, .unset, .unset, .unset, .unset, .unset, .unset, .unset, .unset, .unset] []) (fun t k => XS.ifNo X4.here hx rfl (hb hby at_23) rfl (XT.i0_eq_f hc33) k) ?_
    refine own_f T4 (mkF m 27 #[.val (.int p1), .val (.int p2), .val (.int p3), .val (.int p4), .val (.int p5), .val (.ref b1), .unset, .unset, .unset, .unset, .unset, .unset, .unset, .unset, .unset, .unset] [(.int (1 : Int32))]) (fun t k => XT.iconstV X4.here hx rfl (1 : Int32) (hb hby at_26) (by decide) k) ?_
    refine own_f T4 (mkF m 31 #[.val (.int p1), .val (.int p2), .val (.int p3), .val (.int p4), .val (.int p5), .val (.ref b1), .unset, .unset, .unset, .unset, .unset, .unset, .unset, .unset, .unset, .unset] [(.int (1 : Int32))]) (fun t k => XS.goto X4.here hx rfl (pc0 := 27) (pc' := 31) rfl (hb hby at_27) (by decide) (by decide) k) ?_
    exact jn5 (1 : Int32)
set_option maxRecDepth 65536 in
set_option maxHeartbeats 40000000 in
theorem comes_1 {Post : Tables → Env → Array Value → State → Outcome → State → Prop} (hpost : ∀ tb e args s v u, (limb_1_1.after args s (.returned v) u = true ∧ limb_1_2.after args s (.returned v) u = true ∧ True) → FrameEnd s (.returned v) u (Jvm.fieldLocs frame_1_writes args s ++ Jvm.arrayLocs frame_1_arrays args s ++ Jvm.staticLocs frame_1_statics s) 16 128 → Post tb e args s (.returned v) u) :
    ArmFor flags0 classFile x code maxLocals ret World_1 tables_1 room_1 Calls_1 rest_1 Pre_1 Post := by
  intro l hfl _ _ p e ha hc hk s m args below hf hA hF happ hP
  obtain ⟨hcalls, hrest, hpre⟩ := hP
  obtain ⟨-, -, -, hnamed, -, -, -, hat⟩ := (Spec.applies_iff hf).mp happ
  obtain ⟨hg, hn⟩ := and_e (Cond.before_iff.mp (show (Jvm.Cond.and given_1 narrow_1).before args s = true from hpre))
  obtain ⟨g0, r0⟩ := and_e hg
  obtain ⟨g1, r1⟩ := and_e r0
  obtain ⟨g2, r2⟩ := and_e r1
  obtain ⟨g3, r3⟩ := and_e r2
  obtain ⟨g4, r4⟩ := and_e r3
  obtain ⟨w0, w1, w2, w3, w4, rfl⟩ : ∃ w0 w1 w2 w3 w4 : Value, args = #[w0, w1, w2, w3, w4] := by
    have hs : args.size = 5 := by simpa [Cond.value, given_1] using g0
    obtain ⟨L⟩ := args
    match L, hs with
    | [w0, w1, w2, w3, w4], _ => exact ⟨w0, w1, w2, w3, w4, rfl⟩
  have hw := fun d (hd : d ∈ tables_1) => atoms_spec (ws := Jvm.Cond.code x code maxLocals ret :: tables_1) hat d (List.mem_cons_of_mem _ hd)
  have hfit : Fit s := fun {y c} hc i hi => by
    obtain ⟨ha, rfl⟩ := Array.getElem?_eq_some_iff.mp hc
    have q := List.all_eq_true.mp ((Array.all_eq_true_iff_forall_mem.mp hF) _ (Array.getElem_mem ha)) i (List.mem_range.mpr hi)
    simpa [Array.getElem?_eq_getElem hi] using q
  obtain ⟨i0, ev0⟩ := is_v g1
  obtain rfl : w0 = (.int i0) := Option.some.inj ev0
  obtain ⟨i1, ev1⟩ := is_v g2
  obtain rfl : w1 = (.int i1) := Option.some.inj ev1
  obtain ⟨i2, ev2⟩ := is_v g3
  obtain rfl : w2 = (.int i2) := Option.some.inj ev2
  obtain ⟨i3, ev3⟩ := is_v g4
  obtain rfl : w3 = (.int i3) := Option.some.inj ev3
  obtain ⟨i4, ev4⟩ := is_v r4
  obtain rfl : w4 = (.int i4) := Option.some.inj ev4
  obtain ⟨n, o, h1, h2, h3, _, L, rfl, ⟨rfl, N⟩, hq⟩ := rm0 l s _ hw tables_1 i0 i1 i2 i3 i4 s.heap s.heap.size (Nat.le_refl _)  p e ha hc hk s m _ below hf ((Spec.applies_iff_loose hf).mp happ).1 ⟨rfl, State.Warmed39.refl s, rfl⟩ trivial
  refine ⟨n, _, h1, h2, h3, hpost _ _ _ _ _ _ ⟨Cond.after_iff.mpr rfl, Cond.after_iff.mpr (eq_i res_at (Term.int_eval (1)) rfl), trivial⟩ ⟨hq.1, hq.2.1, (hq.2.2.sift fun y hy => Or.inr (N y hy)).mono (by decide) (by decide)⟩⟩
theorem main_1_1 : Claimed_1_1 := comes_1 fun _ _ _ _ _ _ h hF => ⟨h.1, hF⟩
theorem main_1_2 : Claimed_1_2 := comes_1 fun _ _ _ _ _ _ h hF => ⟨h.2.1, hF⟩
end Jvm.Pilot.@@N@@
namespace Jvm.Pilot.@@N@@
open Jvm Jvm.ClassFile Sem Op Lib Jvm.Free Jvm.Stand Jvm.Pilot.@@N@@.Jvm.D
/-! MADE BY PROGRAM (witnessworld.py) out of the Statement's table words and the real class files: 11 classes; the members and pool entries that the words name. The judged class is class 1, her method 1. -/
namespace start1
open Jvm.ClassFile
def u (s : String) : CpInfo := .utf8 (stringToUtf16 s)
/-- a pool by its gaps: so many unusable entries, then the entry; so many at the end -/
def gap : Nat → List CpInfo → List CpInfo
  | 0, r => r
  | n + 1, r => .unusable :: gap n r
def poolList (es : List (Nat × CpInfo)) (last : Nat) : List CpInfo := es.foldr (fun e r => gap e.1 (e.2 :: r)) (gap last [])
def pool (es : List (Nat × CpInfo)) (last : Nat) : Array CpInfo := ⟨poolList es last⟩
def fileOf (pool : Array CpInfo) (this : Nat) (attrs : Array Attribute := #[]) (ms : Array MethodInfo := #[]) (fl : Nat := 33) (sup : Nat := 0) (ifs : Array Nat := #[]) (fds : Array FieldInfo := #[]) : ClassFile where
  minorVersion := 0
  majorVersion := 65
  constantPool := pool
  accessFlags := fl
  thisClass := this
  superClass := sup
  interfaces := ifs
  fields := fds
  methods := ms
  attributes := attrs
def plain (name : String) (sup : Option ClassId) : Class where
  name := name
  kind := .ordinary
  loader := none
  accessFlags := 33
  super := sup
  interfaces := #[]
  cf := none
  fields := #[]
  methods := #[]
  instanceTypes := #[]
  staticTypes := #[]
  resolved := #[]
  callSites := []
  init := .initialized
  statics := none
  mirror := none

def pool0 : Array CpInfo := pool [(5, u "<init>"), (0, u "()V"), (1, .class_ 10), (1, u "java/lang/Object")] 113

def k0c0 : Code := { maxStack := 0, maxLocals := 1, code := object_method_1_code, exceptionTable := #[], attributes := #[] }
def k0m0 : Method := { name := "<init>", desc := "()V", sig := { parameters := [], returnType := none }, accessFlags := 1, code := some k0c0 }
/-- java/lang/Object -/
def k0 : Class := { plain "java/lang/Object" none with
  accessFlags := 33
  interfaces := #[]
  cf := some (fileOf pool0 8 #[] #[{ accessFlags := 1, nameIndex := 5, descriptorIndex := 6, attributes := #[] }] 33 0 #[] #[])
  fields := #[]
  methods := #[k0m0]
  instanceTypes := #[]
  staticTypes := #[]
  resolved := Array.replicate 124 none
  statics := none }

def pool1 : Array CpInfo := pool [(2, .class_ 4), (0, .nameAndType 5 6), (0, u "java/lang/Object"), (0, u "<init>"), (0, u "()V"), (0, .class_ 8), (0, u "com/example/demarcation/demarcation/QueryTimeouts"), (0, .methodref 7 3), (0, .methodref 7 11), (0, .nameAndType 12 13), (0, u "keeping"), (0, u "()Lcom/example/demarcation/demarcation/QueryTimeouts$Keeping;"), (0, .methodref 7 15), (0, .nameAndType 16 17), (0, u "found"), (0, u "(II)V"), (0, .methodref 19 20), (0, .class_ 21), (0, .nameAndType 22 23), (0, u "com/example/demarcation/demarcation/QueryTimeouts$Keeping"), (0, u "cameWith"), (0, u "()I"), (0, .methodref 19 25), (0, .nameAndType 26 27), (0, u "forSession"), (0, u "()Z"), (0, .class_ 29), (0, u "com/example/demarcation/demarcation/QueryTimeoutsFoundPinLaw"), (2, u "law"), (0, u "(IIIII)Z")] 5

def k1m0 : Method := { name := "<init>", desc := "()V", sig := { parameters := [], returnType := none }, accessFlags := 1, code := none }
def k1c1 : Code := { maxStack := 3, maxLocals := 16, code := code, exceptionTable := #[], attributes := #[] }
def k1m1 : Method := { name := "law", desc := "(IIIII)Z", sig := { parameters := [.int, .int, .int, .int, .int], returnType := some .boolean }, accessFlags := 9, code := some k1c1 }
/-- com/example/demarcation/demarcation/QueryTimeoutsFoundPinLaw -/
def k1 : Class := { plain "com/example/demarcation/demarcation/QueryTimeoutsFoundPinLaw" (some 0) with
  accessFlags := 49
  interfaces := #[]
  cf := some (fileOf pool1 28 #[] #[{ accessFlags := 1, nameIndex := 5, descriptorIndex := 6, attributes := #[] }, { accessFlags := 9, nameIndex := 32, descriptorIndex := 33, attributes := #[] }] 49 2 #[] #[])
  fields := #[]
  methods := #[k1m0, k1m1]
  instanceTypes := #[]
  staticTypes := #[]
  resolved := Array.replicate 39 none
  statics := none }

def pool2 : Array CpInfo := pool [(1, .methodref 2 3), (0, .class_ 4), (0, .nameAndType 5 6), (0, u "java/lang/Object"), (0, u "<init>"), (0, u "()V"), (0, .fieldref 8 9), (0, .class_ 10), (0, .nameAndType 11 12), (0, u "com/example/demarcation/demarcation/QueryTimeouts"), (0, u "keeping"), (0, u "Lcom/example/demarcation/demarcation/QueryTimeouts$Keeping;"), (0, .class_ 14), (0, u "com/example/demarcation/demarcation/QueryTimeouts$Keeping"), (0, .methodref 13 16), (0, .nameAndType 5 17), (0, u "(ZI)V"), (2, u "()Lcom/example/demarcation/demarcation/QueryTimeouts$Keeping;"), (0, u "found"), (0, u "(II)V")] 6

def k2c0 : Code := { maxStack := 1, maxLocals := 1, code := prog_33_method_1_code, exceptionTable := #[], attributes := #[] }
def k2m0 : Method := { name := "<init>", desc := "()V", sig := { parameters := [], returnType := none }, accessFlags := 0, code := some k2c0 }
def k2c1 : Code := { maxStack := 1, maxLocals := 1, code := prog_33_method_2_code, exceptionTable := #[], attributes := #[] }
def k2m1 : Method := { name := "keeping", desc := "()Lcom/example/demarcation/demarcation/QueryTimeouts$Keeping;", sig := { parameters := [], returnType := some (.object "com/example/demarcation/demarcation/QueryTimeouts$Keeping") }, accessFlags := 0, code := some k2c1 }
def k2c2 : Code := { maxStack := 5, maxLocals := 3, code := prog_33_method_3_code, exceptionTable := #[], attributes := #[] }
def k2m2 : Method := { name := "found", desc := "(II)V", sig := { parameters := [.int, .int], returnType := none }, accessFlags := 0, code := some k2c2 }
/-- com/example/demarcation/demarcation/QueryTimeouts -/
def k2 : Class := { plain "com/example/demarcation/demarcation/QueryTimeouts" (some 0) with
  accessFlags := 32
  interfaces := #[]
  cf := some (fileOf pool2 8 #[.nestMembers #[13]] #[{ accessFlags := 0, nameIndex := 5, descriptorIndex := 6, attributes := #[] }, { accessFlags := 0, nameIndex := 11, descriptorIndex := 20, attributes := #[] }, { accessFlags := 0, nameIndex := 21, descriptorIndex := 22, attributes := #[] }] 32 2 #[] #[{ accessFlags := 66, nameIndex := 11, descriptorIndex := 12, attributes := #[] }])
  fields := #[{ name := "keeping", type := (.object "com/example/demarcation/demarcation/QueryTimeouts$Keeping"), accessFlags := 66, slot := 0, constantValue := 0 }]
  methods := #[k2m0, k2m1, k2m2]
  instanceTypes := #[(.object "com/example/demarcation/demarcation/QueryTimeouts$Keeping")]
  staticTypes := #[]
  resolved := Array.replicate 29 none
  statics := none }

def pool3 : Array CpInfo := pool [(1, .methodref 2 3), (0, .class_ 4), (0, .nameAndType 5 6), (0, u "java/lang/Object"), (0, u "<init>"), (0, u "()V"), (0, .class_ 8), (0, u "java/lang/Record")] 13

def k3c0 : Code := { maxStack := 1, maxLocals := 1, code := jdk_30_method_1_code, exceptionTable := #[], attributes := #[] }
def k3m0 : Method := { name := "<init>", desc := "()V", sig := { parameters := [], returnType := none }, accessFlags := 4, code := some k3c0 }
/-- java/lang/Record -/
def k3 : Class := { plain "java/lang/Record" (some 0) with
  accessFlags := 1057
  interfaces := #[]
  cf := some (fileOf pool3 7 #[] #[{ accessFlags := 4, nameIndex := 5, descriptorIndex := 6, attributes := #[] }] 1057 2 #[] #[])
  fields := #[]
  methods := #[k3m0]
  instanceTypes := #[]
  staticTypes := #[]
  resolved := Array.replicate 22 none
  statics := none }

def pool4 : Array CpInfo := pool [(1, .methodref 2 3), (0, .class_ 4), (0, .nameAndType 5 6), (0, u "java/lang/Record"), (0, u "<init>"), (0, u "()V"), (0, .fieldref 8 9), (0, .class_ 10), (0, .nameAndType 11 12), (0, u "com/example/demarcation/demarcation/QueryTimeouts$Keeping"), (0, u "forSession"), (0, u "Z"), (0, .fieldref 8 14), (0, .nameAndType 15 16), (0, u "cameWith"), (0, u "I"), (12, u "(ZI)V"), (4, u "()I"), (1, u "()Z"), (3, .class_ 41), (0, u "com/example/demarcation/demarcation/QueryTimeouts")] 20

def k4c0 : Code := { maxStack := 2, maxLocals := 3, code := prog_34_method_1_code, exceptionTable := #[], attributes := #[] }
def k4m0 : Method := { name := "<init>", desc := "(ZI)V", sig := { parameters := [.boolean, .int], returnType := none }, accessFlags := 0, code := some k4c0 }
def k4c1 : Code := { maxStack := 1, maxLocals := 1, code := prog_34_method_5_code, exceptionTable := #[], attributes := #[] }
def k4m1 : Method := { name := "forSession", desc := "()Z", sig := { parameters := [], returnType := some .boolean }, accessFlags := 1, code := some k4c1 }
def k4c2 : Code := { maxStack := 1, maxLocals := 1, code := prog_34_method_6_code, exceptionTable := #[], attributes := #[] }
def k4m2 : Method := { name := "cameWith", desc := "()I", sig := { parameters := [], returnType := some .int }, accessFlags := 1, code := some k4c2 }
/-- com/example/demarcation/demarcation/QueryTimeouts$Keeping -/
def k4 : Class := { plain "com/example/demarcation/demarcation/QueryTimeouts$Keeping" (some 3) with
  accessFlags := 48
  interfaces := #[]
  cf := some (fileOf pool4 8 #[.nestHost 40] #[{ accessFlags := 0, nameIndex := 5, descriptorIndex := 29, attributes := #[] }, { accessFlags := 1, nameIndex := 11, descriptorIndex := 36, attributes := #[] }, { accessFlags := 1, nameIndex := 15, descriptorIndex := 34, attributes := #[] }] 48 2 #[] #[{ accessFlags := 18, nameIndex := 11, descriptorIndex := 12, attributes := #[] }, { accessFlags := 18, nameIndex := 15, descriptorIndex := 16, attributes := #[] }])
  fields := #[{ name := "forSession", type := .boolean, accessFlags := 18, slot := 0, constantValue := 0 }, { name := "cameWith", type := .int, accessFlags := 18, slot := 1, constantValue := 0 }]
  methods := #[k4m0, k4m1, k4m2]
  instanceTypes := #[.boolean, .int]
  staticTypes := #[]
  resolved := Array.replicate 62 none
  statics := none }

def pool5 : Array CpInfo := pool [(1, u "java/lang/Cloneable"), (0, .class_ 1), (0, u "java/lang/Object"), (0, .class_ 3)] 3

/-- java/lang/Cloneable -/
def k5 : Class := { plain "java/lang/Cloneable" (some 0) with
  accessFlags := 1537
  interfaces := #[]
  cf := some (fileOf pool5 2 #[] #[] 1537 4 #[] #[])
  fields := #[]
  methods := #[]
  instanceTypes := #[]
  staticTypes := #[]
  resolved := Array.replicate 8 none
  statics := none }

def pool6 : Array CpInfo := pool [(1, u "java/io/Serializable"), (0, .class_ 1), (0, u "java/lang/Object"), (0, .class_ 3)] 3

/-- java/io/Serializable -/
def k6 : Class := { plain "java/io/Serializable" (some 0) with
  accessFlags := 1537
  interfaces := #[]
  cf := some (fileOf pool6 2 #[] #[] 1537 4 #[] #[])
  fields := #[]
  methods := #[]
  instanceTypes := #[]
  staticTypes := #[]
  resolved := Array.replicate 8 none
  statics := none }

/-- the primitive byte -/
def k7 : Class := { plain "byte" none with kind := .primitive 'B', accessFlags := 0x411 }
/-- [B -/
def k8 : Class := { plain "[B" (some 0) with kind := .array 7 .byte, interfaces := #[5, 6], accessFlags := 1041 }

/-- the primitive int -/
def k9 : Class := { plain "int" none with kind := .primitive 'I', accessFlags := 0x411 }
/-- [I -/
def k10 : Class := { plain "[I" (some 0) with kind := .array 9 .int, interfaces := #[5, 6], accessFlags := 1041 }

def heap : Heap := #[]
def classes : Array Class := #[k0, k1, k2, k3, k4, k5, k6, k7, k8, k9, k10]
def interned : List (Array UInt16 × Addr) := []
def slotsUsed : Nat := 0
def theMethod : MethodId := ⟨1, 1⟩
def args0 : Array Value := #[.int 5, .int 6, .int 7, .int 8, .int 1]
def aboutOver (below : List Frame) : State where
  vm := { classes := classes, interned := interned.toArray }
  heap := heap
  slotsUsed := slotsUsed
  threads := #[{ frames := .invoking theMethod args0 :: below }]
def below0 : List Frame := [.native { method := ⟨0, 0⟩, args := #[] }]
def about1 : State := aboutOver below0
def p0 : Program := .bare "" "" ""
def e0 : Env := launch0.env 0 0 0
theorem w_frames : about1.frames = Frame.invoking theMethod args0 :: below0 := rfl
set_option maxRecDepth 65536 in
theorem w_args : argsFit about1.vm theMethod args0 = true := by decide +kernel
set_option maxRecDepth 65536 in
theorem w_heap : heapFits about1 = true := by decide +kernel
set_option maxRecDepth 65536 in
theorem w_runnable : about1.curStatus? = some .runnable := by decide +kernel
set_option maxRecDepth 65536 in
theorem w_alone : about1.alone = true := by decide +kernel
set_option maxRecDepth 65536 in
theorem w_named : about1.methodNamed? x = some theMethod := by decide +kernel
set_option maxRecDepth 65536 in
theorem w_hears : about1.hears theMethod below0 = true := by decide +kernel
set_option maxRecDepth 65536 in
theorem w_ripe : about1.ripe theMethod args0 below0 = true := by decide +kernel
theorem w_running : about1.status = .running := rfl
set_option maxRecDepth 65536 in
theorem w_room : about1.hasRoom e0.platform room_1 = true :=
  launch0.hasRoom_least _ room_1 (by decide +kernel) (by decide +kernel) (by decide +kernel) (by decide +kernel) (by decide +kernel) (by decide +kernel)
theorem allAtoms_all (ts : List Jvm.Cond) (a : Array Jvm.Value) (st : Jvm.State) : (allAtoms ts).before a st = ts.all (fun c => c.before a st) := by
  induction ts with
  | nil => rfl
  | cons c t ih =>
    show (Jvm.Cond.and c (allAtoms t)).before a st = _
    rw [Jvm.Cond.before_and, ih, List.all_cons]
def words1 : List Jvm.Cond := Jvm.Cond.code x code maxLocals ret :: tables_1
/-- a 'code' word, met by the world's own term for the bytes: nothing is compared byte by byte -/
theorem code_word {y : MethodName} {bytes : ByteArray} {mx : Nat} {rt : Option FieldType} {a : Array Value} {s : State} {m : MethodId} {meth : Method} {c : Code} (h1 : s.methodNamed? y = some m) (h2 : s.vm.method? m = some meth) (h3 : meth.code = some c) (h4 : c.code = bytes)
    (h5 : (c.maxLocals == mx && c.exceptionTable.isEmpty && decide (c.maxStack ≤ mostOperands) && decide (meth.sig.returnType = rt) && !meth.locks && decide (parseMethodDescriptor y.desc = some meth.sig)) = true) : (Jvm.Cond.code y bytes mx rt).before a s = true := by
  simp only [Bool.and_eq_true, beq_iff_eq, Bool.not_eq_true', decide_eq_true_eq] at h5
  obtain ⟨⟨⟨⟨⟨g1, g2⟩, g3⟩, g4⟩, g5⟩, g6⟩ := h5
  simp [Cond.before, Cond.holds, Cond.value, h1, h2, h3, h4, g1, g2, g3, g4, g5, g6]
def isCode : Jvm.Cond → Bool
  | .code _ _ _ _ => true
  | _ => false
theorem all_split {L : List Jvm.Cond} {P : Jvm.Cond → Bool} (h1 : L.all (fun c => isCode c || P c) = true) (h2 : ∀ c ∈ L.filter isCode, P c = true) : L.all P = true := by
  refine List.all_eq_true.mpr fun c hc => ?_
  have h := List.all_eq_true.mp h1 c hc
  rcases Bool.eq_false_or_eq_true (isCode c) with hi | hi
  · exact h2 c (List.mem_filter.mpr ⟨hc, hi⟩)
  · simpa [hi] using h
set_option maxRecDepth 65536 in
theorem w_c0 : (Jvm.Cond.code x code maxLocals ret).before args0 about1 = true := code_word (m := ⟨1, 1⟩) (meth := k1m1) (c := k1c1) (by decide +kernel) rfl rfl rfl (by decide +kernel)
set_option maxRecDepth 65536 in
theorem w_c1 : (Jvm.Cond.code ({ cls := "com/example/demarcation/demarcation/QueryTimeouts", name := "<init>", desc := "()V" } : Jvm.MethodName) prog_33_method_1_code (1 : Nat) (Option.none : Option Jvm.ClassFile.FieldType)).before args0 about1 = true := code_word (m := ⟨2, 0⟩) (meth := k2m0) (c := k2c0) (by decide +kernel) rfl rfl rfl (by decide +kernel)
set_option maxRecDepth 65536 in
theorem w_c2 : (Jvm.Cond.code ({ cls := "java/lang/Object", name := "<init>", desc := "()V" } : Jvm.MethodName) object_method_1_code (1 : Nat) (Option.none : Option Jvm.ClassFile.FieldType)).before args0 about1 = true := code_word (m := ⟨0, 0⟩) (meth := k0m0) (c := k0c0) (by decide +kernel) rfl rfl rfl (by decide +kernel)
set_option maxRecDepth 65536 in
theorem w_c3 : (Jvm.Cond.code ({ cls := "com/example/demarcation/demarcation/QueryTimeouts", name := "keeping", desc := "()Lcom/example/demarcation/demarcation/QueryTimeouts$Keeping;" } : Jvm.MethodName) prog_33_method_2_code (1 : Nat) (Option.some (Jvm.ClassFile.FieldType.object "com/example/demarcation/demarcation/QueryTimeouts$Keeping"))).before args0 about1 = true := code_word (m := ⟨2, 1⟩) (meth := k2m1) (c := k2c1) (by decide +kernel) rfl rfl rfl (by decide +kernel)
set_option maxRecDepth 65536 in
theorem w_c4 : (Jvm.Cond.code ({ cls := "com/example/demarcation/demarcation/QueryTimeouts", name := "found", desc := "(II)V" } : Jvm.MethodName) prog_33_method_3_code (3 : Nat) (Option.none : Option Jvm.ClassFile.FieldType)).before args0 about1 = true := code_word (m := ⟨2, 2⟩) (meth := k2m2) (c := k2c2) (by decide +kernel) rfl rfl rfl (by decide +kernel)
set_option maxRecDepth 65536 in
theorem w_c5 : (Jvm.Cond.code ({ cls := "com/example/demarcation/demarcation/QueryTimeouts$Keeping", name := "<init>", desc := "(ZI)V" } : Jvm.MethodName) prog_34_method_1_code (3 : Nat) (Option.none : Option Jvm.ClassFile.FieldType)).before args0 about1 = true := code_word (m := ⟨4, 0⟩) (meth := k4m0) (c := k4c0) (by decide +kernel) rfl rfl rfl (by decide +kernel)
set_option maxRecDepth 65536 in
theorem w_c6 : (Jvm.Cond.code ({ cls := "java/lang/Record", name := "<init>", desc := "()V" } : Jvm.MethodName) jdk_30_method_1_code (1 : Nat) (Option.none : Option Jvm.ClassFile.FieldType)).before args0 about1 = true := code_word (m := ⟨3, 0⟩) (meth := k3m0) (c := k3c0) (by decide +kernel) rfl rfl rfl (by decide +kernel)
set_option maxRecDepth 65536 in
theorem w_c7 : (Jvm.Cond.code ({ cls := "com/example/demarcation/demarcation/QueryTimeouts$Keeping", name := "cameWith", desc := "()I" } : Jvm.MethodName) prog_34_method_6_code (1 : Nat) (Option.some Jvm.ClassFile.FieldType.int)).before args0 about1 = true := code_word (m := ⟨4, 2⟩) (meth := k4m2) (c := k4c2) (by decide +kernel) rfl rfl rfl (by decide +kernel)
set_option maxRecDepth 65536 in
theorem w_c8 : (Jvm.Cond.code ({ cls := "com/example/demarcation/demarcation/QueryTimeouts$Keeping", name := "forSession", desc := "()Z" } : Jvm.MethodName) prog_34_method_5_code (1 : Nat) (Option.some Jvm.ClassFile.FieldType.boolean)).before args0 about1 = true := code_word (m := ⟨4, 1⟩) (meth := k4m1) (c := k4c1) (by decide +kernel) rfl rfl rfl (by decide +kernel)
def codes1 : List Jvm.Cond := [Jvm.Cond.code x code maxLocals ret, Jvm.Cond.code ({ cls := "com/example/demarcation/demarcation/QueryTimeouts", name := "<init>", desc := "()V" } : Jvm.MethodName) prog_33_method_1_code (1 : Nat) (Option.none : Option Jvm.ClassFile.FieldType), Jvm.Cond.code ({ cls := "java/lang/Object", name := "<init>", desc := "()V" } : Jvm.MethodName) object_method_1_code (1 : Nat) (Option.none : Option Jvm.ClassFile.FieldType), Jvm.Cond.code ({ cls := "com/example/demarcation/demarcation/QueryTimeouts", name := "keeping", desc := "()Lcom/example/demarcation/demarcation/QueryTimeouts$Keeping;" } : Jvm.MethodName) prog_33_method_2_code (1 : Nat) (Option.some (Jvm.ClassFile.FieldType.object "com/example/demarcation/demarcation/QueryTimeouts$Keeping")), Jvm.Cond.code ({ cls := "com/example/demarcation/demarcation/QueryTimeouts", name := "found", desc := "(II)V" } : Jvm.MethodName) prog_33_method_3_code (3 : Nat) (Option.none : Option Jvm.ClassFile.FieldType), Jvm.Cond.code ({ cls := "com/example/demarcation/demarcation/QueryTimeouts$Keeping", name := "<init>", desc := "(ZI)V" } : Jvm.MethodName) prog_34_method_1_code (3 : Nat) (Option.none : Option Jvm.ClassFile.FieldType), Jvm.Cond.code ({ cls := "java/lang/Record", name := "<init>", desc := "()V" } : Jvm.MethodName) jdk_30_method_1_code (1 : Nat) (Option.none : Option Jvm.ClassFile.FieldType), Jvm.Cond.code ({ cls := "com/example/demarcation/demarcation/QueryTimeouts$Keeping", name := "cameWith", desc := "()I" } : Jvm.MethodName) prog_34_method_6_code (1 : Nat) (Option.some Jvm.ClassFile.FieldType.int), Jvm.Cond.code ({ cls := "com/example/demarcation/demarcation/QueryTimeouts$Keeping", name := "forSession", desc := "()Z" } : Jvm.MethodName) prog_34_method_5_code (1 : Nat) (Option.some Jvm.ClassFile.FieldType.boolean)]
set_option maxRecDepth 65536 in
theorem codes_eq : words1.filter isCode = codes1 := rfl
theorem w_codes : ∀ c ∈ words1.filter isCode, c.before args0 about1 = true := by
  rw [codes_eq]
  intro c hc
  simp only [codes1, List.mem_cons, List.not_mem_nil, or_false] at hc
  rcases hc with rfl | rfl | rfl | rfl | rfl | rfl | rfl | rfl | rfl
  · exact w_c0
  · exact w_c1
  · exact w_c2
  · exact w_c3
  · exact w_c4
  · exact w_c5
  · exact w_c6
  · exact w_c7
  · exact w_c8
set_option maxRecDepth 65536 in
theorem w_t1 : (words1.take 24).all (fun c => isCode c || c.before args0 about1) = true := by decide +kernel
set_option maxRecDepth 65536 in
theorem w_t2 : (words1.drop 24).all (fun c => isCode c || c.before args0 about1) = true := by decide +kernel
theorem w_tables : (allAtoms (Jvm.Cond.code x code maxLocals ret :: tables_1)).before args0 about1 = true := by
  rw [allAtoms_all]
  show words1.all (fun c => c.before args0 about1) = true
  refine all_split ?_ w_codes
  rw [← List.take_append_drop 24 words1, List.all_append, w_t1, w_t2]
  rfl
set_option maxRecDepth 65536 in
theorem w_case : (Jvm.Cond.and given_1 narrow_1).before args0 about1 = true := by decide +kernel
theorem w_applies : (headSpec (Jvm.Cond.code x code maxLocals ret :: tables_1) room_1).applies x e0.platform about1 = true :=
  (Spec.applies_iff w_frames).mpr ⟨w_running, w_runnable, w_alone, w_named, w_hears, w_ripe, w_room, w_tables⟩
theorem atStart : AtStart classFile x code maxLocals ret World_1 tables_1 room_1 Calls_1 rest_1 Pre_1 launch0 p0 e0 about1 theMethod args0 below0 :=
  ⟨lists_1, trivial, launch0.admits_env _ _ _, launch0.least_env, fairChoices_fair.cas, fairChoices_fair.clock, w_frames, w_args, w_heap, w_applies, trivial, trivial, w_case⟩
end start1
theorem witness_1 : WitnessClaimed_1 := ⟨start1.p0, start1.e0, start1.about1, start1.theMethod, start1.args0, start1.below0, start1.atStart⟩
end Jvm.Pilot.@@N@@
