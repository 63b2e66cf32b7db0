import JvmDerived
import JvmDerived.Pilot.@@N@@Statement
import JvmDerived.Pilot.@@N@@Code
set_option linter.unusedVariables false
set_option linter.unusedSimpArgs false
namespace Jvm.RoadKit
open Sem ClassFile Op Lib Jvm.Stand Jvm.Free Jvm.LawKit
section New
variable {p : Program} {l : Launch} {e : Env} {R : Room} {s : State} {m : MethodId} {args : Array Value} {below : List Frame} {meth : Method} {c : Code} {T : State} {locs : List Loc} {cells slots : Nat}
theorem retI (X : Stand p l e R s m args below meth c T locs cells slots) (hx : p.tables.exec = Jvm.exec) {pc : Nat} {Ls : Array Slot} {z : Int32} {rest : List Value} (hret : meth.sig.returnType = some .int) (hd : decode c.code pc = .ok (.ireturn, 1)) {fs : List Frame}
    (hl : ∀ (f : JFrame) (acts : List Action), f.method = m → f.locked = none → f.entered = [] → (doReturn e (T.setTop f) acts (some (.int z))).1 = T.setFrames fs) : Steps p.tables e below (T.setTop (mkF m pc Ls (.int z :: rest))) (T.setFrames fs) := by
  have hm' : T.vm.method? m = some meth := X.method'
  have hn : narrow .int (.int z) = .int z := rfl
  show Steps p.tables e below (T.setTop { method := m, pc := pc, locals := Ls, stack := _ :: rest, locked := none }) _
  jvm_step X.here [X.here.top, hx, hd, hm', hret, hn]
  first | (intro acts; rw [hl _ acts rfl rfl rfl]) | rw [hl _ _ rfl rfl rfl]
  exact Steps.refl _
/-- a boolean, byte, char or short that is one already -/
theorem own_retB (X : Stand p l e R s m args below meth c T locs cells slots) (hx : p.tables.exec = Jvm.exec) {pc : Nat} {Ls : Array Slot} {z : Int32} {t : FieldType} {rest : List Value} (hret : meth.sig.returnType = some t) (ht : t = .boolean ∨ t = .byte ∨ t = .char ∨ t = .short) (hz : nar t z = z)
    (hd : decode c.code pc = .ok (.ireturn, 1)) {fs : List Frame} (hl : ∀ (f : JFrame) (acts : List Action), f.method = m → f.locked = none → f.entered = [] → (doReturn e (T.setTop f) acts (some (.int z))).1 = T.setFrames fs) :
    Steps p.tables e below (T.setTop (mkF m pc Ls (.int z :: rest))) (T.setFrames fs) := retN X hx hret ht hd (by rw [hz]; exact hl)
theorem own_retL (X : Stand p l e R s m args below meth c T locs cells slots) (hx : p.tables.exec = Jvm.exec) {pc : Nat} {Ls : Array Slot} {z : Int64} {rest : List Value} (hret : meth.sig.returnType = some .long) (hd : decode c.code pc = .ok (.lreturn, 1)) {fs : List Frame}
    (hl : ∀ (f : JFrame) (acts : List Action), f.method = m → f.locked = none → f.entered = [] → (doReturn e (T.setTop f) acts (some (.long z))).1 = T.setFrames fs) : Steps p.tables e below (T.setTop (mkF m pc Ls (.long z :: rest))) (T.setFrames fs) :=
  retOut X hx hret rfl (Or.inr (Or.inl ⟨rfl, rfl, z, rfl⟩)) hd hl
end New
end Jvm.RoadKit
namespace Jvm.Pilot.@@N@@
open Jvm Jvm.ClassFile Sem Op Lib Jvm.Free Jvm.Stand Jvm.LawKit Jvm.RoadKit Bundle Jvm.Pilot.@@N@@.Jvm.D
theorem own_w {a0 : Array Value} {Z : State} (hw : ∀ d ∈ tables_1, d.before a0 Z = true) (i : Nat) {d : Jvm.Cond} (h : tables_1[i]? = some d) : d.before a0 Z = true := hw _ (List.mem_of_getElem? h)
/-- from A the walk comes to an end that P takes -/
abbrev own_R (tb : Tables) (e : Env) (below : List Frame) (P : State → Outcome → Prop) (A : State) : Prop := ∃ t o, Steps tb e below A t ∧ t.status = .running ∧ Ended t below o ∧ P t o
abbrev own_P (s : State) (Q : Option Value → Heap → List Loc → Prop) (k n : Nat) (t : State) (o : Outcome) : Prop := ∃ v L, o = .returned v ∧ Q v t.heap L ∧ FrameEnd s o t L k n
abbrev own_PW (s : State) (Q : Option Value → Heap → List Loc → Prop) (k n : Nat) (t : State) (o : Outcome) : Prop := ∃ v L, o = .returned v ∧ Q v t.heap L ∧ ReturnedEndW s o t L k n
theorem own_step {tb : Tables} {e : Env} {below : List Frame} {P : State → Outcome → Prop} {A A' : State} (st : ∀ t, Steps tb e below A' t → Steps tb e below A t) (h : own_R tb e below P A') : own_R tb e below P A := by
  obtain ⟨t, o, h1, h2⟩ := h
  exact ⟨t, o, st t h1, h2⟩
theorem own_go {tb : Tables} {e : Env} {below : List Frame} {P : State → Outcome → Prop} {A A' : State} (st : Steps tb e below A A') (h : own_R tb e below P A') : own_R tb e below P A := own_step (fun _ k => st.trans k) h
theorem own_f {tb : Tables} {e : Env} {below : List Frame} {P : State → Outcome → Prop} {A : State} (T : State) (g : JFrame) (st : ∀ t, Steps tb e below (T.setTop g) t → Steps tb e below A t) (h : own_R tb e below P (T.setTop g)) : own_R tb e below P A := own_step st h
theorem own_g {tb : Tables} {e : Env} {below : List Frame} {P : State → Outcome → Prop} {A : State} (T : State) (g : JFrame) (st : Steps tb e below A (T.setTop g)) (h : own_R tb e below P (T.setTop g)) : own_R tb e below P A := own_go st h
theorem own_lsw {tb : Tables} [Ours tb] {e : Env} {below : List Frame} {T target : State} {m : MethodId} {c : Code} {g : JFrame} (h : At T m c below) (hx : tb.exec = Jvm.exec) (hg : g.method = m) {df : Int} {ps : Array (Int × Int)} {len : Nat} {o : Int} {pc0 pc' : Nat} (hpc : g.pc = pc0) (hd : decode c.code g.pc = .ok (.lookupswitch df ps, len)) {i : Int32} {rest : List Value} (hs : g.stack = .int i :: rest)
    (hord : (ps.toList.zip (ps.toList.drop 1)).all (fun (a, next) => a.1 < next.1) = true) (hoff : lookupswitch.offset ps.toList df i.toInt = o) (ho : 0 ≤ (pc0 : Int) + o) (hp : ((pc0 : Int) + o).toNat = pc')
    (hr : Steps tb e below (T.setTop { g with pc := pc', stack := rest }) target) : Steps tb e below (T.setTop g) target := by
  subst hg hpc hp
  jvm_step h [h.top, hx, hd, hs, hoff, ho, lookupswitch.wp_chain]
  exact ⟨by simpa using hord, hr⟩
theorem own_len {p : Program} {l : Launch} {e : Env} {R : Room} {s : State} {m : MethodId} {args : Array Value} {below : List Frame} {meth : Method} {c : Code} {T target : State} {locs : List Loc} {cells slots : Nat} {Z : State} {h : Heap} {a : Addr} {k : ClassId} {ty : FieldType} {z : Int32} {vs : List Value} {dv : Value}
    (X : Stand p l e R s m args below meth c T locs cells slots) (hx : p.tables.exec = Jvm.exec) (hZ : Z.Warmed39 s.vm) (eT : T.heap = h) (F : Arv Z h a k ty z vs dv) {g : JFrame} (hg : g.method = m) {rest : List Value} (hs : g.stack = .ref a :: rest) (hd : decode c.code g.pc = .ok (.arraylength, 1))
    (hr : Steps p.tables e below (T.setTop { g with pc := g.pc + 1, stack := .int z :: rest }) target) : Steps p.tables e below (T.setTop g) target := by
  obtain ⟨cl, A, -, S, q, -⟩ := F
  exact X.arraylength hx (by rw [eT]; exact A.1) (State.isArrayOf_alike hZ.alike A.2.1) hg hs hd _ (by rw [len_of S q]; exact hr)
theorem own_arvnew {Z : State} {h : Heap} {a : Addr} {k : ClassId} {ty : FieldType} {z : Int32} (n : Nat) (A : Arr Z h a (newA k ty z) ty) (q : ¬ z < 0) : Arv Z h a k ty z (List.replicate n (defaultValue ty)) (defaultValue ty) := (Arv.new A q).pad fun i => pad_rep [] _ n i
theorem own_narB (x : Int32) : nar .byte x.toInt8.toInt32 = x.toInt8.toInt32 := by show x.toInt8.toInt32.toInt8.toInt32 = _; simp
theorem own_narC (x : Int32) : nar .char x.toUInt32.toUInt16.toUInt32.toInt32 = x.toUInt32.toUInt16.toUInt32.toInt32 := by show x.toUInt32.toUInt16.toUInt32.toInt32.toUInt32.toUInt16.toUInt32.toInt32 = _; simp only [UInt32.toUInt32_toInt32, UInt16.toUInt16_toUInt32]
theorem own_fitB (x : Int32) : fits .byte (.int (nar .byte x)) = true := fits_nar_byte x
theorem own_nb {z : Int32} (h : z = 0 ∨ z = 1) : narrow .boolean (.int z) = .int z := by rcases h with rfl | rfl <;> rfl
theorem own_fb {z : Int32} (h : z = 0 ∨ z = 1) : fits .boolean (.int z) = true := by rcases h with rfl | rfl <;> rfl
theorem own_nar {z : Int32} (h : z = 0 ∨ z = 1) : nar .boolean z = z := by rcases h with rfl | rfl <;> rfl
def own_mn (a b : Int64) : Int64 := if b < a then b else a
def own_mx (a b : Int64) : Int64 := if a < b then b else a
theorem own_mnI (a b : Int64) : (own_mn a b).toInt = if b.toInt < a.toInt then b.toInt else a.toInt := by
  have q : b < a ↔ b.toInt < a.toInt := Int64.lt_iff_toInt_lt
  unfold own_mn
  by_cases h : b < a
  · rw [if_pos h, if_pos (q.mp h)]
  · rw [if_neg h, if_neg (fun z => h (q.mpr z))]
theorem own_mxI (a b : Int64) : (own_mx a b).toInt = if a.toInt < b.toInt then b.toInt else a.toInt := by
  have q : a < b ↔ a.toInt < b.toInt := Int64.lt_iff_toInt_lt
  unfold own_mx
  by_cases h : a < b
  · rw [if_pos h, if_pos (q.mp h)]
  · rw [if_neg h, if_neg (fun z => h (q.mpr z))]
theorem own_lohi (a b c : Int64) : ¬ ((own_mx a (own_mx b c)) < (own_mn a (own_mn b c))) := by
  rw [Int64.lt_iff_toInt_lt, own_mxI, own_mxI, own_mnI, own_mnI]
  generalize a.toInt = x; generalize b.toInt = y; generalize c.toInt = z
  omega
theorem own_vlo {a b c v : Int64} (h : v = (own_mn a (own_mn b c)) ∨ v = (own_mx a (own_mx b c)) ∨ v = (own_mx (own_mn a b) (own_mn (own_mx a b) c))) : ¬ (v < (own_mn a (own_mn b c))) := by
  rcases h with rfl | rfl | rfl <;> (rw [Int64.lt_iff_toInt_lt]; simp only [own_mxI, own_mnI]; generalize a.toInt = x; generalize b.toInt = y; generalize c.toInt = z; omega)
theorem own_vhi {a b c v : Int64} (h : v = (own_mn a (own_mn b c)) ∨ v = (own_mx a (own_mx b c)) ∨ v = (own_mx (own_mn a b) (own_mn (own_mx a b) c))) : ¬ ((own_mx a (own_mx b c)) < v) := by
  rcases h with rfl | rfl | rfl <;> (rw [Int64.lt_iff_toInt_lt]; simp only [own_mxI, own_mnI]; generalize a.toInt = x; generalize b.toInt = y; generalize c.toInt = z; omega)
theorem own_str {a0 : Array Value} {Z : State} (hw : ∀ d ∈ tables_1, d.before a0 Z = true) : ∀ a ∈ Bundle.stringAtoms, a.before a0 Z = true := by
  intro a ha
  simp only [Bundle.stringAtoms, List.mem_cons, List.not_mem_nil, or_false] at ha
  rcases ha with rfl | rfl | rfl | rfl | rfl | rfl | rfl
  · exact (own_w hw 11 rfl)
  · exact (own_w hw 12 rfl)
  · exact (own_w hw 13 rfl)
  · exact (own_w hw 14 rfl)
  · exact (own_w hw 15 rfl)
  · exact (own_w hw 16 rfl)
  · exact (own_w hw 17 rfl)
theorem pd__V : parseMethodDescriptor "()V" = some ⟨[], none⟩ := by decide +kernel
theorem pd__J_J : parseMethodDescriptor "(J)J" = some ⟨[.long], some .long⟩ := by decide +kernel
theorem pd__JJ_J : parseMethodDescriptor "(JJ)J" = some ⟨[.long, .long], some .long⟩ := by decide +kernel
theorem pd__Ljava_lang_Object_Ljava_lang_String_Ljava_lang_Object_ : parseMethodDescriptor "(Ljava/lang/Object;Ljava/lang/String;)Ljava/lang/Object;" = some ⟨[(.object "java/lang/Object"), (.object "java/lang/String")], some (.object "java/lang/Object")⟩ := by decide +kernel
theorem pd__Ljava_lang_String_JJ_V : parseMethodDescriptor "(Ljava/lang/String;JJ)V" = some ⟨[(.object "java/lang/String"), .long, .long], none⟩ := by decide +kernel
theorem d2_0 : decode jdk_30_method_1_code 0 = .ok (.aload_n 0, 1) := by decide +kernel
theorem d2_1 : decode jdk_30_method_1_code 1 = .ok (.invokespecial 1, 3) := by decide +kernel
theorem d2_4 : decode jdk_30_method_1_code 4 = .ok (.return_, 1) := by decide +kernel
theorem pn_2 : plainName "java/lang/Record" = true := by first | (simp [plainName, overriddenIn]; done) | decide +kernel
theorem ef_2 (m : MethodId) (x0 : Addr) : entryFrame m #[(.ref x0)] 1 = mkF m 0 #[.val (.ref x0)] [] := by first | (simp [entryFrame, mkF, argsToLocals, Value.category]; done) | rfl
def Q2 (Z : State) (a1 : Addr) (h0 : Heap) (n0 : Nat) (v : Option Value) (h : Heap) (L : List Loc) : Prop := v = none ∧ Fr n0 L ∧ h = h0
set_option maxRecDepth 65536 in
set_option maxHeartbeats 40000000 in
theorem rm2 (l : Launch) (Z : State) (a0 : Array Value) (hw : ∀ d ∈ tables_1, d.before a0 Z = true) (ws : List Jvm.Cond) (a1 : Addr) (h0 : Heap) (n0 : Nat) (Z0 : n0 ≤ h0.size) :
    MetFree l (⟨"java/lang/Record", "<init>", "()V"⟩ : MethodName) (head1 (Jvm.Cond.code (⟨"java/lang/Record", "<init>", "()V"⟩ : MethodName) jdk_30_method_1_code 1 none :: ws) ({ frames := 1, cells := 0, slots := 0, locals := 12 } : Room)) (fun a U => a = #[(.ref a1)] ∧ Z.Warmed39 U.vm ∧ U.heap = h0) (fun _ _ _ _ _ => True) (fun _ U o U' => ∃ v L, o = .returned v ∧ Q2 Z a1 h0 n0 v U'.heap L ∧ FrameEnd U o U' L ({ frames := 1, cells := 0, slots := 0, locals := 12 } : Room).cells ({ frames := 1, cells := 0, slots := 0, locals := 12 } : Room).slots) := by
  refine MetFree.of_bodySF (plainFor_of_name pn_2) hisR ?_
  intro p e s m args below meth c s₁ Bd hml0 hP hK
  obtain ⟨rfl, hZ, hh⟩ := hP
  have hx := Bd.exec
  have hby := Bd.bytes
  have hml : c.maxLocals = 1 := hml0
  have hown : s.vm.findClass "java/lang/Record" = some m.cls := findClass_of_methodNamed Bd.named
  have hnm := (name_of_methodNamed Bd.named Bd.method).1
  have X0 : Stand p l e ({ frames := 1, cells := 0, slots := 0, locals := 12 } : Room) s m #[(.ref a1)] below meth c s₁ [] 0 0 := Stand.of_body Bd
  have e0 : s₁.heap = h0 := by rw [← hh, Bd.state]; rfl
  have N0 := Fr.nil n0
  show own_R p.tables e below (own_P s (Q2 Z a1 h0 n0) ({ frames := 1, cells := 0, slots := 0, locals := 12 } : Room).cells ({ frames := 1, cells := 0, slots := 0, locals := 12 } : Room).slots) (s₁.setTop (entryFrame m #[(.ref a1)] 1))
  refine own_f s₁ (mkF m 0 #[.val (.ref a1)] []) (fun t k => castTop (ef_2 m a1) k) ?_
  refine own_f s₁ (mkF m 1 #[.val (.ref a1)] [(.ref a1)]) (fun t k => XS.aloadN X0.here hx rfl (hb hby d2_0) rfl rfl k) ?_
  obtain ⟨T1, X1, e1, st1⟩ := initO X0 hx hZ hown (own_w hw 26 rfl) (own_w hw 27 rfl) (own_w hw 28 rfl) e0 (g := (mkF m 1 #[.val (.ref a1)] [(.ref a1)])) rfl (by rw [hml]; rfl) rfl (hb hby d2_1) (by decide) (W := 0) (by show 2 * 0 + _ ≤ _; exact Nat.le_of_eq rfl) (by decide)
  refine own_f T1 (mkF m 4 #[.val (.ref a1)] []) st1 ?_
  obtain ⟨fs, hr, hrun, hended, hW, hsame⟩ := X1.leave (v := none) (fun _ => rfl)
  refine ⟨_, _, X1.returnOut hx Bd.returns (hb hby d2_4) hr, hrun, hended, _, _, rfl, ?_, ⟨_, rfl⟩, hW, hsame.mono (by decide) (by decide)⟩
  show Q2 Z a1 h0 n0 _ T1.heap _
  rw [e1]
  exact ⟨rfl, N0, rfl⟩
theorem d3_0 : decode jdk_29_method_70_code 0 = .ok (.lload_n 0, 1) := by decide +kernel
theorem d3_1 : decode jdk_29_method_70_code 1 = .ok (.lload_n 2, 1) := by decide +kernel
theorem d3_2 : decode jdk_29_method_70_code 2 = .ok (.lcmp, 1) := by decide +kernel
theorem d3_3 : decode jdk_29_method_70_code 3 = .ok (.ifCond .gt 7, 3) := by decide +kernel
theorem d3_6 : decode jdk_29_method_70_code 6 = .ok (.lload_n 0, 1) := by decide +kernel
theorem d3_7 : decode jdk_29_method_70_code 7 = .ok (.goto 4, 3) := by decide +kernel
theorem d3_10 : decode jdk_29_method_70_code 10 = .ok (.lload_n 2, 1) := by decide +kernel
theorem d3_11 : decode jdk_29_method_70_code 11 = .ok (.lreturn, 1) := by decide +kernel
theorem pn_3 : plainFor (⟨"java/lang/Math", "min", "(JJ)J"⟩ : MethodName) = true := by decide +kernel
theorem ef_3 (m : MethodId) (x0 : Int64) (x1 : Int64) : entryFrame m #[(.long x0), (.long x1)] 4 = mkF m 0 #[.val (.long x0), .second, .val (.long x1), .second] [] := by first | (simp [entryFrame, mkF, argsToLocals, Value.category]; done) | rfl
def Q3 (Z : State) (q1 : Int64) (q2 : Int64) (h0 : Heap) (n0 : Nat) (v : Option Value) (h : Heap) (L : List Loc) : Prop := v = some (.long (own_mn q1 q2)) ∧ Fr n0 L ∧ h = h0
set_option maxRecDepth 65536 in
set_option maxHeartbeats 40000000 in
theorem rm3 (l : Launch) (Z : State) (a0 : Array Value) (hw : ∀ d ∈ tables_1, d.before a0 Z = true) (ws : List Jvm.Cond) (q1 : Int64) (q2 : Int64) (h0 : Heap) (n0 : Nat) (Z0 : n0 ≤ h0.size) :
    MetFree l (⟨"java/lang/Math", "min", "(JJ)J"⟩ : MethodName) (head1 (Jvm.Cond.code (⟨"java/lang/Math", "min", "(JJ)J"⟩ : MethodName) jdk_29_method_70_code 4 (some .long) :: ws) ({ frames := 0, cells := 0, slots := 0, locals := 0 } : Room)) (fun a U => a = #[(.long q1), (.long q2)] ∧ Z.Warmed39 U.vm ∧ U.heap = h0) (fun _ _ _ _ _ => True) (fun _ U o U' => ∃ v L, o = .returned v ∧ Q3 Z q1 q2 h0 n0 v U'.heap L ∧ FrameEnd U o U' L ({ frames := 0, cells := 0, slots := 0, locals := 0 } : Room).cells ({ frames := 0, cells := 0, slots := 0, locals := 0 } : Room).slots) := by
  refine MetFree.of_bodySF pn_3 hisR ?_
  intro p e s m args below meth c s₁ Bd hml0 hP hK
  obtain ⟨rfl, hZ, hh⟩ := hP
  have hx := Bd.exec
  have hby := Bd.bytes
  have hml : c.maxLocals = 4 := hml0
  have hown : s.vm.findClass "java/lang/Math" = some m.cls := findClass_of_methodNamed Bd.named
  have hnm := (name_of_methodNamed Bd.named Bd.method).1
  have X0 : Stand p l e ({ frames := 0, cells := 0, slots := 0, locals := 0 } : Room) s m #[(.long q1), (.long q2)] below meth c s₁ [] 0 0 := Stand.of_body Bd
  have e0 : s₁.heap = h0 := by rw [← hh, Bd.state]; rfl
  have N0 := Fr.nil n0
  show own_R p.tables e below (own_P s (Q3 Z q1 q2 h0 n0) ({ frames := 0, cells := 0, slots := 0, locals := 0 } : Room).cells ({ frames := 0, cells := 0, slots := 0, locals := 0 } : Room).slots) (s₁.setTop (entryFrame m #[(.long q1), (.long q2)] 4))
  refine own_f s₁ (mkF m 0 #[.val (.long q1), .second, .val (.long q2), .second] []) (fun t k => castTop (ef_3 m q1 q2) k) ?_
  refine own_f s₁ (mkF m 1 #[.val (.long q1), .second, .val (.long q2), .second] [(.long q1)]) (fun t k => XS.lloadN X0.here hx rfl (hb hby d3_0) rfl k) ?_
  refine own_f s₁ (mkF m 2 #[.val (.long q1), .second, .val (.long q2), .second] [(.long q2), (.long q1)]) (fun t k => XS.lloadN X0.here hx rfl (hb hby d3_1) rfl k) ?_
  refine own_f s₁ (mkF m 3 #[.val (.long q1), .second, .val (.long q2), .second] [(.int (XT.cmpL q1 q2))]) (fun t k => XT.lcmp X0.here hx rfl (hb hby d3_2) rfl k) ?_
  by_cases hc1 : q2 < q1
  · skip
    refine own_f s₁ (mkF m 10 #[.val (.long q1), .second, .val (.long q2), .second] []) (fun t k => XS.ifYes X0.here hx rfl (pc0 := 3) (pc' := 10) rfl (hb hby d3_3) rfl (XT.ll_gt_t hc1) (by decide) (by decide) k) ?_
    refine own_f s₁ (mkF m 11 #[.val (.long q1), .second, .val (.long q2), .second] [(.long q2)]) (fun t k => XS.lloadN X0.here hx rfl (hb hby d3_10) rfl k) ?_
    obtain ⟨fs, hr, hrun, hended, hW, hsame⟩ := X0.leave (v := some (.long q2)) (fun h => by rw [Bd.returns] at h; cases h)
    refine ⟨_, _, own_retL X0 hx Bd.returns (hb hby d3_11) hr, hrun, hended, _, _, rfl, ?_, ⟨_, rfl⟩, hW, hsame.mono (by decide) (by decide)⟩
    show Q3 Z q1 q2 h0 n0 _ s₁.heap _
    rw [e0]
    exact ⟨by rw [own_mn, if_pos hc1], N0, rfl⟩
  · skip
    refine own_f s₁ (mkF m 6 #[.val (.long q1), .second, .val (.long q2), .second] []) (fun t k => XS.ifNo X0.here hx rfl (hb hby d3_3) rfl (XT.ll_gt_f hc1) k) ?_
    refine own_f s₁ (mkF m 7 #[.val (.long q1), .second, .val (.long q2), .second] [(.long q1)]) (fun t k => XS.lloadN X0.here hx rfl (hb hby d3_6) rfl k) ?_
    refine own_f s₁ (mkF m 11 #[.val (.long q1), .second, .val (.long q2), .second] [(.long q1)]) (fun t k => XS.goto X0.here hx rfl (pc0 := 7) (pc' := 11) rfl (hb hby d3_7) (by decide) (by decide) k) ?_
    obtain ⟨fs, hr, hrun, hended, hW, hsame⟩ := X0.leave (v := some (.long q1)) (fun h => by rw [Bd.returns] at h; cases h)
    refine ⟨_, _, own_retL X0 hx Bd.returns (hb hby d3_11) hr, hrun, hended, _, _, rfl, ?_, ⟨_, rfl⟩, hW, hsame.mono (by decide) (by decide)⟩
    show Q3 Z q1 q2 h0 n0 _ s₁.heap _
    rw [e0]
    exact ⟨by rw [own_mn, if_neg hc1], N0, rfl⟩
theorem d4_0 : decode jdk_29_method_66_code 0 = .ok (.lload_n 0, 1) := by decide +kernel
theorem d4_1 : decode jdk_29_method_66_code 1 = .ok (.lload_n 2, 1) := by decide +kernel
theorem d4_2 : decode jdk_29_method_66_code 2 = .ok (.lcmp, 1) := by decide +kernel
theorem d4_3 : decode jdk_29_method_66_code 3 = .ok (.ifCond .lt 7, 3) := by decide +kernel
theorem d4_6 : decode jdk_29_method_66_code 6 = .ok (.lload_n 0, 1) := by decide +kernel
theorem d4_7 : decode jdk_29_method_66_code 7 = .ok (.goto 4, 3) := by decide +kernel
theorem d4_10 : decode jdk_29_method_66_code 10 = .ok (.lload_n 2, 1) := by decide +kernel
theorem d4_11 : decode jdk_29_method_66_code 11 = .ok (.lreturn, 1) := by decide +kernel
theorem pn_4 : plainFor (⟨"java/lang/Math", "max", "(JJ)J"⟩ : MethodName) = true := by decide +kernel
theorem ef_4 (m : MethodId) (x0 : Int64) (x1 : Int64) : entryFrame m #[(.long x0), (.long x1)] 4 = mkF m 0 #[.val (.long x0), .second, .val (.long x1), .second] [] := by first | (simp [entryFrame, mkF, argsToLocals, Value.category]; done) | rfl
def Q4 (Z : State) (q1 : Int64) (q2 : Int64) (h0 : Heap) (n0 : Nat) (v : Option Value) (h : Heap) (L : List Loc) : Prop := v = some (.long (own_mx q1 q2)) ∧ Fr n0 L ∧ h = h0
set_option maxRecDepth 65536 in
set_option maxHeartbeats 40000000 in
theorem rm4 (l : Launch) (Z : State) (a0 : Array Value) (hw : ∀ d ∈ tables_1, d.before a0 Z = true) (ws : List Jvm.Cond) (q1 : Int64) (q2 : Int64) (h0 : Heap) (n0 : Nat) (Z0 : n0 ≤ h0.size) :
    MetFree l (⟨"java/lang/Math", "max", "(JJ)J"⟩ : MethodName) (head1 (Jvm.Cond.code (⟨"java/lang/Math", "max", "(JJ)J"⟩ : MethodName) jdk_29_method_66_code 4 (some .long) :: ws) ({ frames := 0, cells := 0, slots := 0, locals := 0 } : Room)) (fun a U => a = #[(.long q1), (.long q2)] ∧ Z.Warmed39 U.vm ∧ U.heap = h0) (fun _ _ _ _ _ => True) (fun _ U o U' => ∃ v L, o = .returned v ∧ Q4 Z q1 q2 h0 n0 v U'.heap L ∧ FrameEnd U o U' L ({ frames := 0, cells := 0, slots := 0, locals := 0 } : Room).cells ({ frames := 0, cells := 0, slots := 0, locals := 0 } : Room).slots) := by
  refine MetFree.of_bodySF pn_4 hisR ?_
  intro p e s m args below meth c s₁ Bd hml0 hP hK
  obtain ⟨rfl, hZ, hh⟩ := hP
  have hx := Bd.exec
  have hby := Bd.bytes
  have hml : c.maxLocals = 4 := hml0
  have hown : s.vm.findClass "java/lang/Math" = some m.cls := findClass_of_methodNamed Bd.named
  have hnm := (name_of_methodNamed Bd.named Bd.method).1
  have X0 : Stand p l e ({ frames := 0, cells := 0, slots := 0, locals := 0 } : Room) s m #[(.long q1), (.long q2)] below meth c s₁ [] 0 0 := Stand.of_body Bd
  have e0 : s₁.heap = h0 := by rw [← hh, Bd.state]; rfl
  have N0 := Fr.nil n0
  show own_R p.tables e below (own_P s (Q4 Z q1 q2 h0 n0) ({ frames := 0, cells := 0, slots := 0, locals := 0 } : Room).cells ({ frames := 0, cells := 0, slots := 0, locals := 0 } : Room).slots) (s₁.setTop (entryFrame m #[(.long q1), (.long q2)] 4))
  refine own_f s₁ (mkF m 0 #[.val (.long q1), .second, .val (.long q2), .second] []) (fun t k => castTop (ef_4 m q1 q2) k) ?_
  refine own_f s₁ (mkF m 1 #[.val (.long q1), .second, .val (.long q2), .second] [(.long q1)]) (fun t k => XS.lloadN X0.here hx rfl (hb hby d4_0) rfl k) ?_
  refine own_f s₁ (mkF m 2 #[.val (.long q1), .second, .val (.long q2), .second] [(.long q2), (.long q1)]) (fun t k => XS.lloadN X0.here hx rfl (hb hby d4_1) rfl k) ?_
  refine own_f s₁ (mkF m 3 #[.val (.long q1), .second, .val (.long q2), .second] [(.int (XT.cmpL q1 q2))]) (fun t k => XT.lcmp X0.here hx rfl (hb hby d4_2) rfl k) ?_
  by_cases hc1 : q1 < q2
  · skip
    refine own_f s₁ (mkF m 10 #[.val (.long q1), .second, .val (.long q2), .second] []) (fun t k => XS.ifYes X0.here hx rfl (pc0 := 3) (pc' := 10) rfl (hb hby d4_3) rfl (XT.ll_lt_t hc1) (by decide) (by decide) k) ?_
    refine own_f s₁ (mkF m 11 #[.val (.long q1), .second, .val (.long q2), .second] [(.long q2)]) (fun t k => XS.lloadN X0.here hx rfl (hb hby d4_10) rfl k) ?_
    obtain ⟨fs, hr, hrun, hended, hW, hsame⟩ := X0.leave (v := some (.long q2)) (fun h => by rw [Bd.returns] at h; cases h)
    refine ⟨_, _, own_retL X0 hx Bd.returns (hb hby d4_11) hr, hrun, hended, _, _, rfl, ?_, ⟨_, rfl⟩, hW, hsame.mono (by decide) (by decide)⟩
    show Q4 Z q1 q2 h0 n0 _ s₁.heap _
    rw [e0]
    exact ⟨by rw [own_mx, if_pos hc1], N0, rfl⟩
  · skip
    refine own_f s₁ (mkF m 6 #[.val (.long q1), .second, .val (.long q2), .second] []) (fun t k => XS.ifNo X0.here hx rfl (hb hby d4_3) rfl (XT.ll_lt_f hc1) k) ?_
    refine own_f s₁ (mkF m 7 #[.val (.long q1), .second, .val (.long q2), .second] [(.long q1)]) (fun t k => XS.lloadN X0.here hx rfl (hb hby d4_6) rfl k) ?_
    refine own_f s₁ (mkF m 11 #[.val (.long q1), .second, .val (.long q2), .second] [(.long q1)]) (fun t k => XS.goto X0.here hx rfl (pc0 := 7) (pc' := 11) rfl (hb hby d4_7) (by decide) (by decide) k) ?_
    obtain ⟨fs, hr, hrun, hended, hW, hsame⟩ := X0.leave (v := some (.long q1)) (fun h => by rw [Bd.returns] at h; cases h)
    refine ⟨_, _, own_retL X0 hx Bd.returns (hb hby d4_11) hr, hrun, hended, _, _, rfl, ?_, ⟨_, rfl⟩, hW, hsame.mono (by decide) (by decide)⟩
    show Q4 Z q1 q2 h0 n0 _ s₁.heap _
    rw [e0]
    exact ⟨by rw [own_mx, if_neg hc1], N0, rfl⟩
theorem d5_0 : decode jdk_31_method_11_code 0 = .ok (.aload_n 0, 1) := by decide +kernel
theorem d5_1 : decode jdk_31_method_11_code 1 = .ok (.ifnonnull 12, 3) := by decide +kernel
theorem d5_13 : decode jdk_31_method_11_code 13 = .ok (.aload_n 0, 1) := by decide +kernel
theorem d5_14 : decode jdk_31_method_11_code 14 = .ok (.areturn, 1) := by decide +kernel
theorem pn_5 : plainName "java/util/Objects" = true := by first | (simp [plainName, overriddenIn]; done) | decide +kernel
theorem ef_5 (m : MethodId) (x0 : Addr) (x1 : Addr) : entryFrame m #[(.ref x0), (.ref x1)] 2 = mkF m 0 #[.val (.ref x0), .val (.ref x1)] [] := by first | (simp [entryFrame, mkF, argsToLocals, Value.category]; done) | rfl
def Q5 (Z : State) (a1 : Addr) (a2 : Addr) (h0 : Heap) (n0 : Nat) (v : Option Value) (h : Heap) (L : List Loc) : Prop := v = some (.ref a1) ∧ Fr n0 L ∧ h = h0
set_option maxRecDepth 65536 in
set_option maxHeartbeats 40000000 in
theorem rm5 (l : Launch) (Z : State) (a0 : Array Value) (hw : ∀ d ∈ tables_1, d.before a0 Z = true) (ws : List Jvm.Cond) (a1 : Addr) (a2 : Addr) (h0 : Heap) (n0 : Nat) (Z0 : n0 ≤ h0.size) :
    MetFree l (⟨"java/util/Objects", "requireNonNull", "(Ljava/lang/Object;Ljava/lang/String;)Ljava/lang/Object;"⟩ : MethodName) (head1 (Jvm.Cond.code (⟨"java/util/Objects", "requireNonNull", "(Ljava/lang/Object;Ljava/lang/String;)Ljava/lang/Object;"⟩ : MethodName) jdk_31_method_11_code 2 (some (.object "java/lang/Object")) :: ws) ({ frames := 0, cells := 0, slots := 0, locals := 0 } : Room)) (fun a U => a = #[(.ref a1), (.ref a2)] ∧ Z.Warmed39 U.vm ∧ U.heap = h0) (fun _ _ _ _ _ => True) (fun _ U o U' => ∃ v L, o = .returned v ∧ Q5 Z a1 a2 h0 n0 v U'.heap L ∧ FrameEnd U o U' L ({ frames := 0, cells := 0, slots := 0, locals := 0 } : Room).cells ({ frames := 0, cells := 0, slots := 0, locals := 0 } : Room).slots) := by
  refine MetFree.of_bodySF (plainFor_of_name pn_5) hisR ?_
  intro p e s m args below meth c s₁ Bd hml0 hP hK
  obtain ⟨rfl, hZ, hh⟩ := hP
  have hx := Bd.exec
  have hby := Bd.bytes
  have hml : c.maxLocals = 2 := hml0
  have hown : s.vm.findClass "java/util/Objects" = some m.cls := findClass_of_methodNamed Bd.named
  have hnm := (name_of_methodNamed Bd.named Bd.method).1
  have X0 : Stand p l e ({ frames := 0, cells := 0, slots := 0, locals := 0 } : Room) s m #[(.ref a1), (.ref a2)] below meth c s₁ [] 0 0 := Stand.of_body Bd
  have e0 : s₁.heap = h0 := by rw [← hh, Bd.state]; rfl
  have N0 := Fr.nil n0
  show own_R p.tables e below (own_P s (Q5 Z a1 a2 h0 n0) ({ frames := 0, cells := 0, slots := 0, locals := 0 } : Room).cells ({ frames := 0, cells := 0, slots := 0, locals := 0 } : Room).slots) (s₁.setTop (entryFrame m #[(.ref a1), (.ref a2)] 2))
  refine own_f s₁ (mkF m 0 #[.val (.ref a1), .val (.ref a2)] []) (fun t k => castTop (ef_5 m a1 a2) k) ?_
  refine own_f s₁ (mkF m 1 #[.val (.ref a1), .val (.ref a2)] [(.ref a1)]) (fun t k => XS.aloadN X0.here hx rfl (hb hby d5_0) rfl rfl k) ?_
  refine own_f s₁ (mkF m 13 #[.val (.ref a1), .val (.ref a2)] []) (fun t k => XT.ifnonnullYes X0.here hx rfl (pc0 := 1) (pc' := 13) rfl (hb hby d5_1) rfl (by decide) (by decide) k) ?_
  refine own_f s₁ (mkF m 14 #[.val (.ref a1), .val (.ref a2)] [(.ref a1)]) (fun t k => XS.aloadN X0.here hx rfl (hb hby d5_13) rfl rfl k) ?_
  obtain ⟨fs, hr, hrun, hended, hW, hsame⟩ := X0.leave (v := some (.ref a1)) (fun h => by rw [Bd.returns] at h; cases h)
  refine ⟨_, _, retOut X0 hx Bd.returns (by rfl) (Or.inr (Or.inr (Or.inr (Or.inr ⟨rfl, rfl, rfl⟩)))) (hb hby d5_14) hr, hrun, hended, _, _, rfl, ?_, ⟨_, rfl⟩, hW, hsame.mono (by decide) (by decide)⟩
  show Q5 Z a1 a2 h0 n0 _ s₁.heap _
  rw [e0]
  exact ⟨rfl, N0, rfl⟩
theorem d1_0 : decode prog_40_method_1_code 0 = .ok (.aload_n 0, 1) := by decide +kernel
theorem d1_1 : decode prog_40_method_1_code 1 = .ok (.invokespecial 1, 3) := by decide +kernel
theorem d1_4 : decode prog_40_method_1_code 4 = .ok (.aload_n 1, 1) := by decide +kernel
theorem d1_5 : decode prog_40_method_1_code 5 = .ok (.ldc 7, 2) := by decide +kernel
theorem d1_7 : decode prog_40_method_1_code 7 = .ok (.invokestatic 9, 3) := by decide +kernel
theorem d1_10 : decode prog_40_method_1_code 10 = .ok (.pop, 1) := by decide +kernel
theorem d1_11 : decode prog_40_method_1_code 11 = .ok (.lload_n 2, 1) := by decide +kernel
theorem d1_12 : decode prog_40_method_1_code 12 = .ok (.lload 4, 2) := by decide +kernel
theorem d1_14 : decode prog_40_method_1_code 14 = .ok (.lcmp, 1) := by decide +kernel
theorem d1_15 : decode prog_40_method_1_code 15 = .ok (.ifCond .le 20, 3) := by decide +kernel
theorem d1_35 : decode prog_40_method_1_code 35 = .ok (.aload_n 0, 1) := by decide +kernel
theorem d1_36 : decode prog_40_method_1_code 36 = .ok (.aload_n 1, 1) := by decide +kernel
theorem d1_37 : decode prog_40_method_1_code 37 = .ok (.putfield 24, 3) := by decide +kernel
theorem d1_40 : decode prog_40_method_1_code 40 = .ok (.aload_n 0, 1) := by decide +kernel
theorem d1_41 : decode prog_40_method_1_code 41 = .ok (.lload_n 2, 1) := by decide +kernel
theorem d1_42 : decode prog_40_method_1_code 42 = .ok (.putfield 29, 3) := by decide +kernel
theorem d1_45 : decode prog_40_method_1_code 45 = .ok (.aload_n 0, 1) := by decide +kernel
theorem d1_46 : decode prog_40_method_1_code 46 = .ok (.lload 4, 2) := by decide +kernel
theorem d1_48 : decode prog_40_method_1_code 48 = .ok (.putfield 33, 3) := by decide +kernel
theorem d1_51 : decode prog_40_method_1_code 51 = .ok (.return_, 1) := by decide +kernel
theorem pn_1 : plainName "com/example/rulecart/rulecart/IntegerField" = true := by first | (simp [plainName, overriddenIn]; done) | decide +kernel
theorem ef_1 (m : MethodId) (x0 : Addr) (x1 : Addr) (x2 : Int64) (x3 : Int64) : entryFrame m #[(.ref x0), (.ref x1), (.long x2), (.long x3)] 6 = mkF m 0 #[.val (.ref x0), .val (.ref x1), .val (.long x2), .second, .val (.long x3), .second] [] := by first | (simp [entryFrame, mkF, argsToLocals, Value.category]; done) | rfl
def Q1 (Z : State) (a1 : Addr) (a2 : Addr) (q3 : Int64) (q4 : Int64) (u0 : Value) (u1 : Value) (u2 : Value) (h0 : Heap) (n0 : Nat) (v : Option Value) (h : Heap) (L : List Loc) : Prop := v = none ∧ Fr n0 L ∧ Keep h0 h [a1] ∧ Exa Z h a1 "com/example/rulecart/rulecart/IntegerField" ∧ Fld Z h a1 "com/example/rulecart/rulecart/IntegerField" "min" "J" (.long q3) ∧ Fld Z h a1 "com/example/rulecart/rulecart/IntegerField" "max" "J" (.long q4)
set_option maxRecDepth 65536 in
set_option maxHeartbeats 40000000 in
theorem rm1 (l : Launch) (Z : State) (a0 : Array Value) (hw : ∀ d ∈ tables_1, d.before a0 Z = true) (ws : List Jvm.Cond) (a1 : Addr) (a2 : Addr) (q3 : Int64) (q4 : Int64) (u0 : Value) (u1 : Value) (u2 : Value) (h0 : Heap) (n0 : Nat) (Z0 : n0 ≤ h0.size) (F0 : Exa Z h0 a1 "com/example/rulecart/rulecart/IntegerField") (F1 : Fld Z h0 a1 "com/example/rulecart/rulecart/IntegerField" "name" "Ljava/lang/String;" u0) (F2 : Fld Z h0 a1 "com/example/rulecart/rulecart/IntegerField" "min" "J" u1) (F3 : Fld Z h0 a1 "com/example/rulecart/rulecart/IntegerField" "max" "J" u2) (ge_a1 : n0 ≤ a1) (hle : ¬ (q4 < q3)) :
    MetFree l (⟨"com/example/rulecart/rulecart/IntegerField", "<init>", "(Ljava/lang/String;JJ)V"⟩ : MethodName) (head1 (Jvm.Cond.code (⟨"com/example/rulecart/rulecart/IntegerField", "<init>", "(Ljava/lang/String;JJ)V"⟩ : MethodName) prog_40_method_1_code 6 none :: ws) ({ frames := 2, cells := 2, slots := 20, locals := 24 } : Room)) (fun a U => a = #[(.ref a1), (.ref a2), (.long q3), (.long q4)] ∧ Z.Warmed39 U.vm ∧ U.heap = h0) (fun _ _ _ _ _ => True) (fun _ U o U' => ∃ v L, o = .returned v ∧ Q1 Z a1 a2 q3 q4 u0 u1 u2 h0 n0 v U'.heap L ∧ ReturnedEndW U o U' L ({ frames := 2, cells := 2, slots := 20, locals := 24 } : Room).cells ({ frames := 2, cells := 2, slots := 20, locals := 24 } : Room).slots) := by
  refine MetFree.of_bodySF (plainFor_of_name pn_1) hisR ?_
  intro p e s m args below meth c s₁ Bd hml0 hP hK
  obtain ⟨rfl, hZ, hh⟩ := hP
  have hx := Bd.exec
  have hby := Bd.bytes
  have hml : c.maxLocals = 6 := hml0
  have hown : s.vm.findClass "com/example/rulecart/rulecart/IntegerField" = some m.cls := findClass_of_methodNamed Bd.named
  have hnm := (name_of_methodNamed Bd.named Bd.method).1
  have X0 : Stand p l e ({ frames := 2, cells := 2, slots := 20, locals := 24 } : Room) s m #[(.ref a1), (.ref a2), (.long q3), (.long q4)] below meth c s₁ [] 0 0 := Stand.of_body Bd
  have e0 : s₁.heap = h0 := by rw [← hh, Bd.state]; rfl
  have N0 := Fr.nil n0
  have hZ0 := hZ
  have hown0 := hown
  have hS : s.Since s.vm 0 := (State.WarmedH.refl s).since 0
  have hk : 0 ≤ h0.size := Nat.zero_le _
  show own_R p.tables e below (own_PW s (Q1 Z a1 a2 q3 q4 u0 u1 u2 h0 n0) ({ frames := 2, cells := 2, slots := 20, locals := 24 } : Room).cells ({ frames := 2, cells := 2, slots := 20, locals := 24 } : Room).slots) (s₁.setTop (entryFrame m #[(.ref a1), (.ref a2), (.long q3), (.long q4)] 6))
  refine own_f s₁ (mkF m 0 #[.val (.ref a1), .val (.ref a2), .val (.long q3), .second, .val (.long q4), .second] []) (fun t k => castTop (ef_1 m a1 a2 q3 q4) k) ?_
  refine own_f s₁ (mkF m 1 #[.val (.ref a1), .val (.ref a2), .val (.long q3), .second, .val (.long q4), .second] [(.ref a1)]) (fun t k => XS.aloadN X0.here hx rfl (hb hby d1_0) rfl rfl k) ?_
  obtain ⟨_, _, ⟨T1, Lq1, kq_1, nq_1⟩, -, X1, ⟨Lc1, hQ1, lq1, yq1, zq1⟩, st1⟩ := X0.specialBack hx (y := (⟨"java/lang/Record", "<init>", "()V"⟩ : MethodName)) rfl hown (mvT hZ (own_w hw 21 rfl)) (mvT hZ (own_w hw 22 rfl)) (mvT hZ (own_w hw 25 rfl)) (by decide) (backOf (W := 0) (rm2 l Z a0 hw [] a1 h0 n0 Z0 ) hZ (own_w hw 25 rfl) (own_w hw 24 rfl) (by decide) (by decide)) (g := (mkF m 1 #[.val (.ref a1), .val (.ref a2), .val (.long q3), .second, .val (.long q4), .second] [(.ref a1)])) rfl (by rw [hml]; rfl) (Steps.refl _) (a := a1) (argsL := []) (rest := []) (lenOf pd__V rfl) rfl (by show 2 * 0 + _ ≤ _; exact Nat.le_of_eq rfl) (hb hby d1_1) (fun _ _ => ⟨rfl, e0, (by decide : 0 + 0 ≤ _), (by decide : 0 + 0 ≤ _)⟩)
  dsimp only [Pt.U, Pt.locs, Pt.cells, Pt.slots] at X1 lq1 yq1 zq1 st1 hQ1
  subst lq1 yq1 zq1
  obtain ⟨h1, e1⟩ : ∃ z, T1.heap = z := ⟨_, rfl⟩
  rw [e1] at hQ1
  unfold Q2 at hQ1
  obtain ⟨rfl, Nq1, qh1⟩ := hQ1
  have N1 := Fr.app N0 Nq1
  rw [qh1] at e1
  refine own_g T1 (mkF m 4 #[.val (.ref a1), .val (.ref a2), .val (.long q3), .second, .val (.long q4), .second] []) st1 ?_
  refine own_f T1 (mkF m 5 #[.val (.ref a1), .val (.ref a2), .val (.long q3), .second, .val (.long q4), .second] [(.ref a2)]) (fun t k => XS.aloadN X1.here hx rfl (hb hby d1_4) rfl rfl k) ?_
  obtain ⟨b2, T2, h2, ks2, X2, e2, E2, hS, hk, hZ, hown, st2⟩ := ldcS (s := s) (vm0 := s.vm) X1 hx hZ hown (own_w hw 29 rfl) (own_str hw) e1 hS hk (g := (mkF m 5 #[.val (.ref a1), .val (.ref a2), .val (.long q3), .second, .val (.long q4), .second] [(.ref a2)])) rfl (hb hby d1_5) (n := 16) (by decide) (by decide) (by decide) (by decide)
  have Zs2 : n0 ≤ h2.size := Nat.le_trans Z0 E2.1
  have F_3 := F0.ext E2
  have F_4 := F1.ext E2
  have F_5 := F2.ext E2
  have F_6 := F3.ext E2
  have K2 : Keep h0 h2 [a1] := (Keep.refl h0 [a1]).ext E2
  refine own_f T2 (mkF m 7 #[.val (.ref a1), .val (.ref a2), .val (.long q3), .second, .val (.long q4), .second] [(.ref b2), (.ref a2)]) st2 ?_
  obtain ⟨_, _, ⟨T7, Lq7, kq_7, nq_7⟩, -, X7, ⟨Lc7, hQ7, lq7, yq7, zq7⟩, st7⟩ := Jvm.LawKit.callS X2 hx (y := (⟨"java/util/Objects", "requireNonNull", "(Ljava/lang/Object;Ljava/lang/String;)Ljava/lang/Object;"⟩ : MethodName)) hown (mvT hZ (own_w hw 30 rfl)) (mvT hZ (own_w hw 31 rfl)) (mvT hZ (own_w hw 32 rfl)) (mvT hZ (own_w hw 33 rfl)) (by decide) (backOf (W := 0) (rm5 l Z a0 hw [] a2 b2 h2 n0 Zs2 ) hZ (own_w hw 33 rfl) (own_w hw 32 rfl) (by decide) (by decide)) (g := (mkF m 7 #[.val (.ref a1), .val (.ref a2), .val (.long q3), .second, .val (.long q4), .second] [(.ref b2), (.ref a2)])) rfl (by rw [hml]; rfl) (argsL := [(.ref a2), (.ref b2)]) (rest := []) (lenOf pd__Ljava_lang_Object_Ljava_lang_String_Ljava_lang_Object_ rfl) rfl (by show 2 * 0 + _ ≤ _; exact Nat.le_of_eq rfl) (hb hby d1_7) (fun _ _ => ⟨rfl, e2, (by decide : 0 + 0 + 2 + 0 ≤ _), (by decide : 0 + 0 + (16 + 4) + 0 ≤ _)⟩)
  dsimp only [Pt.U, Pt.locs, Pt.cells, Pt.slots] at X7 lq7 yq7 zq7 st7 hQ7
  subst lq7 yq7 zq7
  obtain ⟨h7, e7⟩ : ∃ z, T7.heap = z := ⟨_, rfl⟩
  rw [e7] at hQ7
  unfold Q5 at hQ7
  obtain ⟨rfl, Nq7, qh7⟩ := hQ7
  have N7 := Fr.app N1 Nq7
  rw [qh7] at e7
  refine own_f T7 (mkF m 10 #[.val (.ref a1), .val (.ref a2), .val (.long q3), .second, .val (.long q4), .second] [(.ref a2)]) st7 ?_
  refine own_f T7 (mkF m 11 #[.val (.ref a1), .val (.ref a2), .val (.long q3), .second, .val (.long q4), .second] []) (fun t k => XT.pop X7.here hx rfl (hb hby d1_10) rfl rfl k) ?_
  refine own_f T7 (mkF m 12 #[.val (.ref a1), .val (.ref a2), .val (.long q3), .second, .val (.long q4), .second] [(.long q3)]) (fun t k => XS.lloadN X7.here hx rfl (hb hby d1_11) rfl k) ?_
  refine own_f T7 (mkF m 14 #[.val (.ref a1), .val (.ref a2), .val (.long q3), .second, .val (.long q4), .second] [(.long q4), (.long q3)]) (fun t k => XS.lload X7.here hx rfl (hb hby d1_12) rfl k) ?_
  refine own_f T7 (mkF m 15 #[.val (.ref a1), .val (.ref a2), .val (.long q3), .second, .val (.long q4), .second] [(.int (XT.cmpL q3 q4))]) (fun t k => XT.lcmp X7.here hx rfl (hb hby d1_14) rfl k) ?_
  have hc8 : ¬ (q4 < q3) := hle
  refine own_f T7 (mkF m 35 #[.val (.ref a1), .val (.ref a2), .val (.long q3), .second, .val (.long q4), .second] []) (fun t k => XS.ifYes X7.here hx rfl (pc0 := 15) (pc' := 35) rfl (hb hby d1_15) rfl (XT.ll_le_t hc8) (by decide) (by decide) k) ?_
  refine own_f T7 (mkF m 36 #[.val (.ref a1), .val (.ref a2), .val (.long q3), .second, .val (.long q4), .second] [(.ref a1)]) (fun t k => XS.aloadN X7.here hx rfl (hb hby d1_35) rfl rfl k) ?_
  refine own_f T7 (mkF m 37 #[.val (.ref a1), .val (.ref a2), .val (.long q3), .second, .val (.long q4), .second] [(.ref a2), (.ref a1)]) (fun t k => XS.aloadN X7.here hx rfl (hb hby d1_36) rfl rfl k) ?_
  obtain ⟨T9, h9, X9, e9, W9, st9⟩ := putF X7 hx hZ hown (host := "") (Or.inl (own_w hw 34 rfl)) Via.refl e7 F_4 F_3 (Or.inr ⟨(own_w hw 35 rfl), rfl, hnm⟩) (own_w hw 8 rfl) (ty := (.object "java/lang/String")) (by decide) rfl rfl (g := (mkF m 37 #[.val (.ref a1), .val (.ref a2), .val (.long q3), .second, .val (.long q4), .second] [(.ref a2), (.ref a1)])) rfl rfl (hb hby d1_37)
  have N9 := Fr.snoc X9 N7 ge_a1
  have Zs9 : n0 ≤ h9.size := by rw [W9.size]; exact Zs2
  have hk := Nat.le_trans hk (Nat.le_of_eq W9.size.symm)
  have K9 : Keep h0 h9 [a1] := K2.wr W9 (Or.inl (by simp))
  have F_10 := F_3.wr W9
  have F_11 := F_4.same W9
  have F_12 := F_5.other W9 (Or.inr (slot_ne (Or.inr (own_w hw 37 rfl)) (Or.inr (own_w hw 35 rfl)) (by decide) (t := .long) (t' := (.object "java/lang/String")) (by decide) (by decide)))
  have F_13 := F_6.other W9 (Or.inr (slot_ne (Or.inr (own_w hw 39 rfl)) (Or.inr (own_w hw 35 rfl)) (by decide) (t := .long) (t' := (.object "java/lang/String")) (by decide) (by decide)))
  refine own_f T9 (mkF m 40 #[.val (.ref a1), .val (.ref a2), .val (.long q3), .second, .val (.long q4), .second] []) st9 ?_
  refine own_f T9 (mkF m 41 #[.val (.ref a1), .val (.ref a2), .val (.long q3), .second, .val (.long q4), .second] [(.ref a1)]) (fun t k => XS.aloadN X9.here hx rfl (hb hby d1_40) rfl rfl k) ?_
  refine own_f T9 (mkF m 42 #[.val (.ref a1), .val (.ref a2), .val (.long q3), .second, .val (.long q4), .second] [(.long q3), (.ref a1)]) (fun t k => XS.lloadN X9.here hx rfl (hb hby d1_41) rfl k) ?_
  obtain ⟨T14, h14, X14, e14, W14, st14⟩ := putF X9 hx hZ hown (host := "") (Or.inl (own_w hw 36 rfl)) Via.refl e9 F_12 F_10 (Or.inr ⟨(own_w hw 37 rfl), rfl, hnm⟩) (own_w hw 8 rfl) (ty := .long) (by decide) rfl rfl (g := (mkF m 42 #[.val (.ref a1), .val (.ref a2), .val (.long q3), .second, .val (.long q4), .second] [(.long q3), (.ref a1)])) rfl rfl (hb hby d1_42)
  have N14 := Fr.snoc X14 N9 ge_a1
  have Zs14 : n0 ≤ h14.size := by rw [W14.size]; exact Zs9
  have hk := Nat.le_trans hk (Nat.le_of_eq W14.size.symm)
  have K14 : Keep h0 h14 [a1] := K9.wr W14 (Or.inl (by simp))
  have F_15 := F_10.wr W14
  have F_16 := F_11.other W14 (Or.inr (slot_ne (Or.inr (own_w hw 35 rfl)) (Or.inr (own_w hw 37 rfl)) (by decide) (t := (.object "java/lang/String")) (t' := .long) (by decide) (by decide)))
  have F_17 := F_12.same W14
  have F_18 := F_13.other W14 (Or.inr (slot_ne (Or.inr (own_w hw 39 rfl)) (Or.inr (own_w hw 37 rfl)) (by decide) (t := .long) (t' := .long) (by decide) (by decide)))
  refine own_f T14 (mkF m 45 #[.val (.ref a1), .val (.ref a2), .val (.long q3), .second, .val (.long q4), .second] []) st14 ?_
  refine own_f T14 (mkF m 46 #[.val (.ref a1), .val (.ref a2), .val (.long q3), .second, .val (.long q4), .second] [(.ref a1)]) (fun t k => XS.aloadN X14.here hx rfl (hb hby d1_45) rfl rfl k) ?_
  refine own_f T14 (mkF m 48 #[.val (.ref a1), .val (.ref a2), .val (.long q3), .second, .val (.long q4), .second] [(.long q4), (.ref a1)]) (fun t k => XS.lload X14.here hx rfl (hb hby d1_46) rfl k) ?_
  obtain ⟨T19, h19, X19, e19, W19, st19⟩ := putF X14 hx hZ hown (host := "") (Or.inl (own_w hw 38 rfl)) Via.refl e14 F_18 F_15 (Or.inr ⟨(own_w hw 39 rfl), rfl, hnm⟩) (own_w hw 8 rfl) (ty := .long) (by decide) rfl rfl (g := (mkF m 48 #[.val (.ref a1), .val (.ref a2), .val (.long q3), .second, .val (.long q4), .second] [(.long q4), (.ref a1)])) rfl rfl (hb hby d1_48)
  have N19 := Fr.snoc X19 N14 ge_a1
  have Zs19 : n0 ≤ h19.size := by rw [W19.size]; exact Zs14
  have hk := Nat.le_trans hk (Nat.le_of_eq W19.size.symm)
  have K19 : Keep h0 h19 [a1] := K14.wr W19 (Or.inl (by simp))
  have F_20 := F_15.wr W19
  have F_21 := F_16.other W19 (Or.inr (slot_ne (Or.inr (own_w hw 35 rfl)) (Or.inr (own_w hw 39 rfl)) (by decide) (t := (.object "java/lang/String")) (t' := .long) (by decide) (by decide)))
  have F_22 := F_17.other W19 (Or.inr (slot_ne (Or.inr (own_w hw 37 rfl)) (Or.inr (own_w hw 39 rfl)) (by decide) (t := .long) (t' := .long) (by decide) (by decide)))
  have F_23 := F_18.same W19
  refine own_f T19 (mkF m 51 #[.val (.ref a1), .val (.ref a2), .val (.long q3), .second, .val (.long q4), .second] []) st19 ?_
  obtain ⟨fs, hr, hrun, hended, hW⟩ := Stand.leaveW (s := s) (vm₁ := T2.vm) X19 hS (by rw [e19]; exact hk) (v := none) (fun _ => rfl)
  refine ⟨_, _, X19.returnOut hx Bd.returns (hb hby d1_51) hr, hrun, hended, _, _, rfl, ?_, hW.1, hW.2.1, hW.2.2.1, hW.2.2.2.mono (by decide) (by decide)⟩
  show Q1 Z a1 a2 q3 q4 u0 u1 u2 h0 n0 _ T19.heap _
  rw [e19]
  exact ⟨rfl, N19, K19, F_20, F_22, F_23⟩
theorem d6_0 : decode prog_40_method_3_code 0 = .ok (.lload_n 1, 1) := by decide +kernel
theorem d6_1 : decode prog_40_method_3_code 1 = .ok (.aload_n 0, 1) := by decide +kernel
theorem d6_2 : decode prog_40_method_3_code 2 = .ok (.getfield 29, 3) := by decide +kernel
theorem d6_5 : decode prog_40_method_3_code 5 = .ok (.lcmp, 1) := by decide +kernel
theorem d6_6 : decode prog_40_method_3_code 6 = .ok (.ifCond .lt 12, 3) := by decide +kernel
theorem d6_9 : decode prog_40_method_3_code 9 = .ok (.lload_n 1, 1) := by decide +kernel
theorem d6_10 : decode prog_40_method_3_code 10 = .ok (.aload_n 0, 1) := by decide +kernel
theorem d6_11 : decode prog_40_method_3_code 11 = .ok (.getfield 33, 3) := by decide +kernel
theorem d6_14 : decode prog_40_method_3_code 14 = .ok (.lcmp, 1) := by decide +kernel
theorem d6_15 : decode prog_40_method_3_code 15 = .ok (.ifCond .le 33, 3) := by decide +kernel
theorem d6_48 : decode prog_40_method_3_code 48 = .ok (.lload_n 1, 1) := by decide +kernel
theorem d6_49 : decode prog_40_method_3_code 49 = .ok (.lreturn, 1) := by decide +kernel
theorem pn_6 : plainName "com/example/rulecart/rulecart/IntegerField" = true := by first | (simp [plainName, overriddenIn]; done) | decide +kernel
theorem ef_6 (m : MethodId) (x0 : Addr) (x1 : Int64) : entryFrame m #[(.ref x0), (.long x1)] 3 = mkF m 0 #[.val (.ref x0), .val (.long x1), .second] [] := by first | (simp [entryFrame, mkF, argsToLocals, Value.category]; done) | rfl
def Q6 (Z : State) (a1 : Addr) (q2 : Int64) (lo : Int64) (hi : Int64) (h0 : Heap) (n0 : Nat) (v : Option Value) (h : Heap) (L : List Loc) : Prop := v = some (.long q2) ∧ Fr n0 L ∧ h = h0
set_option maxRecDepth 65536 in
set_option maxHeartbeats 40000000 in
theorem rm6 (l : Launch) (Z : State) (a0 : Array Value) (hw : ∀ d ∈ tables_1, d.before a0 Z = true) (ws : List Jvm.Cond) (a1 : Addr) (q2 : Int64) (lo : Int64) (hi : Int64) (h0 : Heap) (n0 : Nat) (Z0 : n0 ≤ h0.size) (F0 : Fld Z h0 a1 "com/example/rulecart/rulecart/IntegerField" "min" "J" (.long lo)) (F1 : Fld Z h0 a1 "com/example/rulecart/rulecart/IntegerField" "max" "J" (.long hi)) (hl1 : ¬ (q2 < lo)) (hl2 : ¬ (hi < q2)) :
    MetFree l (⟨"com/example/rulecart/rulecart/IntegerField", "check", "(J)J"⟩ : MethodName) (head1 (Jvm.Cond.code (⟨"com/example/rulecart/rulecart/IntegerField", "check", "(J)J"⟩ : MethodName) prog_40_method_3_code 3 (some .long) :: ws) ({ frames := 0, cells := 0, slots := 0, locals := 0 } : Room)) (fun a U => a = #[(.ref a1), (.long q2)] ∧ Z.Warmed39 U.vm ∧ U.heap = h0) (fun _ _ _ _ _ => True) (fun _ U o U' => ∃ v L, o = .returned v ∧ Q6 Z a1 q2 lo hi h0 n0 v U'.heap L ∧ FrameEnd U o U' L ({ frames := 0, cells := 0, slots := 0, locals := 0 } : Room).cells ({ frames := 0, cells := 0, slots := 0, locals := 0 } : Room).slots) := by
  refine MetFree.of_bodySF (plainFor_of_name pn_6) hisR ?_
  intro p e s m args below meth c s₁ Bd hml0 hP hK
  obtain ⟨rfl, hZ, hh⟩ := hP
  have hx := Bd.exec
  have hby := Bd.bytes
  have hml : c.maxLocals = 3 := hml0
  have hown : s.vm.findClass "com/example/rulecart/rulecart/IntegerField" = some m.cls := findClass_of_methodNamed Bd.named
  have hnm := (name_of_methodNamed Bd.named Bd.method).1
  have X0 : Stand p l e ({ frames := 0, cells := 0, slots := 0, locals := 0 } : Room) s m #[(.ref a1), (.long q2)] below meth c s₁ [] 0 0 := Stand.of_body Bd
  have e0 : s₁.heap = h0 := by rw [← hh, Bd.state]; rfl
  have N0 := Fr.nil n0
  show own_R p.tables e below (own_P s (Q6 Z a1 q2 lo hi h0 n0) ({ frames := 0, cells := 0, slots := 0, locals := 0 } : Room).cells ({ frames := 0, cells := 0, slots := 0, locals := 0 } : Room).slots) (s₁.setTop (entryFrame m #[(.ref a1), (.long q2)] 3))
  refine own_f s₁ (mkF m 0 #[.val (.ref a1), .val (.long q2), .second] []) (fun t k => castTop (ef_6 m a1 q2) k) ?_
  refine own_f s₁ (mkF m 1 #[.val (.ref a1), .val (.long q2), .second] [(.long q2)]) (fun t k => XS.lloadN X0.here hx rfl (hb hby d6_0) rfl k) ?_
  refine own_f s₁ (mkF m 2 #[.val (.ref a1), .val (.long q2), .second] [(.ref a1), (.long q2)]) (fun t k => XS.aloadN X0.here hx rfl (hb hby d6_1) rfl rfl k) ?_
  obtain ⟨T1, X1, e1, st1⟩ := getF X0 hx hZ hown (host := "") (Or.inl (own_w hw 36 rfl)) Via.refl e0 F0 (g := (mkF m 2 #[.val (.ref a1), .val (.long q2), .second] [(.ref a1), (.long q2)])) rfl rfl (hb hby d6_2)
  refine own_f T1 (mkF m 5 #[.val (.ref a1), .val (.long q2), .second] [(.long lo), (.long q2)]) st1 ?_
  refine own_f T1 (mkF m 6 #[.val (.ref a1), .val (.long q2), .second] [(.int (XT.cmpL q2 lo))]) (fun t k => XT.lcmp X1.here hx rfl (hb hby d6_5) rfl k) ?_
  have hc2 : ¬ (q2 < lo) := hl1
  refine own_f T1 (mkF m 9 #[.val (.ref a1), .val (.long q2), .second] []) (fun t k => XS.ifNo X1.here hx rfl (hb hby d6_6) rfl (XT.ll_lt_f hc2) k) ?_
  refine own_f T1 (mkF m 10 #[.val (.ref a1), .val (.long q2), .second] [(.long q2)]) (fun t k => XS.lloadN X1.here hx rfl (hb hby d6_9) rfl k) ?_
  refine own_f T1 (mkF m 11 #[.val (.ref a1), .val (.long q2), .second] [(.ref a1), (.long q2)]) (fun t k => XS.aloadN X1.here hx rfl (hb hby d6_10) rfl rfl k) ?_
  obtain ⟨T3, X3, e3, st3⟩ := getF X1 hx hZ hown (host := "") (Or.inl (own_w hw 38 rfl)) Via.refl e1 F1 (g := (mkF m 11 #[.val (.ref a1), .val (.long q2), .second] [(.ref a1), (.long q2)])) rfl rfl (hb hby d6_11)
  refine own_f T3 (mkF m 14 #[.val (.ref a1), .val (.long q2), .second] [(.long hi), (.long q2)]) st3 ?_
  refine own_f T3 (mkF m 15 #[.val (.ref a1), .val (.long q2), .second] [(.int (XT.cmpL q2 hi))]) (fun t k => XT.lcmp X3.here hx rfl (hb hby d6_14) rfl k) ?_
  have hc4 : ¬ (hi < q2) := hl2
  refine own_f T3 (mkF m 48 #[.val (.ref a1), .val (.long q2), .second] []) (fun t k => XS.ifYes X3.here hx rfl (pc0 := 15) (pc' := 48) rfl (hb hby d6_15) rfl (XT.ll_le_t hc4) (by decide) (by decide) k) ?_
  refine own_f T3 (mkF m 49 #[.val (.ref a1), .val (.long q2), .second] [(.long q2)]) (fun t k => XS.lloadN X3.here hx rfl (hb hby d6_48) rfl k) ?_
  obtain ⟨fs, hr, hrun, hended, hW, hsame⟩ := X3.leave (v := some (.long q2)) (fun h => by rw [Bd.returns] at h; cases h)
  refine ⟨_, _, own_retL X3 hx Bd.returns (hb hby d6_49) hr, hrun, hended, _, _, rfl, ?_, ⟨_, rfl⟩, hW, hsame.mono (by decide) (by decide)⟩
  show Q6 Z a1 q2 lo hi h0 n0 _ T3.heap _
  rw [e3]
  exact ⟨rfl, N0, rfl⟩
theorem pn_0 : plainName "com/example/rulecart/rulecart/IntegerFieldCheckPinLaw" = true := by first | (simp [plainName, overriddenIn]; done) | decide +kernel
theorem ef_0 (m : MethodId) (x0 : Int64) (x1 : Int64) (x2 : Int64) (x3 : Int32) : entryFrame m #[(.long x0), (.long x1), (.long x2), (.int x3)] maxLocals = mkF m 0 #[.val (.long x0), .second, .val (.long x1), .second, .val (.long x2), .second, .val (.int x3), .unset, .unset, .unset, .unset, .unset, .unset, .unset, .unset, .unset, .unset] [] := by first | (simp [entryFrame, mkF, argsToLocals, Value.category, maxLocals]; done) | rfl
def Q0 (Z : State) (q1 : Int64) (q2 : Int64) (q3 : Int64) (p4 : Int32) (h0 : Heap) (n0 : Nat) (v : Option Value) (h : Heap) (L : List Loc) : Prop := v = some (.int 1) ∧ Fr n0 L
set_option maxRecDepth 65536 in
set_option maxHeartbeats 40000000 in
theorem rm0 (l : Launch) (Z : State) (a0 : Array Value) (hw : ∀ d ∈ tables_1, d.before a0 Z = true) (ws : List Jvm.Cond) (q1 : Int64) (q2 : Int64) (q3 : Int64) (p4 : Int32) (h0 : Heap) (n0 : Nat) (Z0 : n0 ≤ h0.size) :
    MetFree l x (head1 (Jvm.Cond.code x code maxLocals ret :: ws) room_1) (fun a U => a = #[(.long q1), (.long q2), (.long q3), (.int p4)] ∧ Z.Warmed39 U.vm ∧ U.heap = h0) (fun _ _ _ _ _ => True) (fun _ U o U' => ∃ v L, o = .returned v ∧ Q0 Z q1 q2 q3 p4 h0 n0 v U'.heap L ∧ ReturnedEndW U o U' L room_1.cells room_1.slots) := by
  refine MetFree.of_bodySF (plainFor_of_name pn_0) hisR ?_
  intro p e s m args below meth c s₁ Bd hml0 hP hK
  obtain ⟨rfl, hZ, hh⟩ := hP
  have hx := Bd.exec
  have hby := Bd.bytes
  have hml : c.maxLocals = 17 := hml0
  have hown : s.vm.findClass "com/example/rulecart/rulecart/IntegerFieldCheckPinLaw" = some m.cls := findClass_of_methodNamed Bd.named
  have hnm := (name_of_methodNamed Bd.named Bd.method).1
  have X0 : Stand p l e room_1 s m #[(.long q1), (.long q2), (.long q3), (.int p4)] below meth c s₁ [] 0 0 := Stand.of_body Bd
  have e0 : s₁.heap = h0 := by rw [← hh, Bd.state]; rfl
  have N0 := Fr.nil n0
  have hZ0 := hZ
  have hown0 := hown
  have hS : s.Since s.vm 0 := (State.WarmedH.refl s).since 0
  have hk : 0 ≤ h0.size := Nat.zero_le _
  show own_R p.tables e below (own_PW s (Q0 Z q1 q2 q3 p4 h0 n0) room_1.cells room_1.slots) (s₁.setTop (entryFrame m #[(.long q1), (.long q2), (.long q3), (.int p4)] maxLocals))
  refine own_f s₁ (mkF m 0 #[.val (.long q1), .second, .val (.long q2), .second, .val (.long q3), .second, .val (.int p4), .unset, .unset, .unset, .unset, .unset, .unset, .unset, .unset, .unset, .unset] []) (fun t k => castTop (ef_0 m q1 q2 q3 p4) k) ?_
  refine own_f s₁ (mkF m 1 #[.val (.long q1), .second, .val (.long q2), .second, .val (.long q3), .second, .val (.int p4), .unset, .unset, .unset, .unset, .unset, .unset, .unset, .unset, .unset, .unset] [(.long q1)]) (fun t k => XS.lloadN X0.here hx rfl (hb hby at_0) rfl k) ?_
  refine own_f s₁ (mkF m 2 #[.val (.long q1), .second, .val (.long q2), .second, .val (.long q3), .second, .val (.int p4), .unset, .unset, .unset, .unset, .unset, .unset, .unset, .unset, .unset, .unset] [(.long q2), (.long q1)]) (fun t k => XS.lloadN X0.here hx rfl (hb hby at_1) rfl k) ?_
  refine own_f s₁ (mkF m 4 #[.val (.long q1), .second, .val (.long q2), .second, .val (.long q3), .second, .val (.int p4), .unset, .unset, .unset, .unset, .unset, .unset, .unset, .unset, .unset, .unset] [(.long q3), (.long q2), (.long q1)]) (fun t k => XS.lload X0.here hx rfl (hb hby at_2) rfl k) ?_
  obtain ⟨_, _, ⟨T1, Lq1, kq_1, nq_1⟩, -, X1, ⟨Lc1, hQ1, lq1, yq1, zq1⟩, st1⟩ := Jvm.LawKit.callS X0 hx (y := (⟨"java/lang/Math", "min", "(JJ)J"⟩ : MethodName)) hown (mvT hZ (own_w hw 0 rfl)) (mvT hZ (own_w hw 1 rfl)) (mvT hZ (own_w hw 2 rfl)) (mvT hZ (own_w hw 3 rfl)) (by decide) (backOf (W := 2) (rm3 l Z a0 hw [] q2 q3 h0 n0 Z0 ) hZ (own_w hw 3 rfl) (own_w hw 2 rfl) (by decide) (by decide)) (g := (mkF m 4 #[.val (.long q1), .second, .val (.long q2), .second, .val (.long q3), .second, .val (.int p4), .unset, .unset, .unset, .unset, .unset, .unset, .unset, .unset, .unset, .unset] [(.long q3), (.long q2), (.long q1)])) rfl (by rw [hml]; rfl) (argsL := [(.long q2), (.long q3)]) (rest := [(.long q1)]) (lenOf pd__JJ_J rfl) rfl (by show 2 * 0 + _ ≤ _; exact Nat.le_of_eq rfl) (hb hby at_4) (fun _ _ => ⟨rfl, e0, (by decide : 0 + 0 ≤ _), (by decide : 0 + 0 ≤ _)⟩)
  dsimp only [Pt.U, Pt.locs, Pt.cells, Pt.slots] at X1 lq1 yq1 zq1 st1 hQ1
  subst lq1 yq1 zq1
  obtain ⟨h1, e1⟩ : ∃ z, T1.heap = z := ⟨_, rfl⟩
  rw [e1] at hQ1
  unfold Q3 at hQ1
  obtain ⟨rfl, Nq1, qh1⟩ := hQ1
  have N1 := Fr.app N0 Nq1
  rw [qh1] at e1
  refine own_f T1 (mkF m 7 #[.val (.long q1), .second, .val (.long q2), .second, .val (.long q3), .second, .val (.int p4), .unset, .unset, .unset, .unset, .unset, .unset, .unset, .unset, .unset, .unset] [(.long (own_mn q2 q3)), (.long q1)]) st1 ?_
  obtain ⟨_, _, ⟨T2, Lq2, kq_2, nq_2⟩, -, X2, ⟨Lc2, hQ2, lq2, yq2, zq2⟩, st2⟩ := Jvm.LawKit.callS X1 hx (y := (⟨"java/lang/Math", "min", "(JJ)J"⟩ : MethodName)) hown (mvT hZ (own_w hw 0 rfl)) (mvT hZ (own_w hw 1 rfl)) (mvT hZ (own_w hw 2 rfl)) (mvT hZ (own_w hw 3 rfl)) (by decide) (backOf (W := 0) (rm3 l Z a0 hw [] q1 (own_mn q2 q3) h0 n0 Z0 ) hZ (own_w hw 3 rfl) (own_w hw 2 rfl) (by decide) (by decide)) (g := (mkF m 7 #[.val (.long q1), .second, .val (.long q2), .second, .val (.long q3), .second, .val (.int p4), .unset, .unset, .unset, .unset, .unset, .unset, .unset, .unset, .unset, .unset] [(.long (own_mn q2 q3)), (.long q1)])) rfl (by rw [hml]; rfl) (argsL := [(.long q1), (.long (own_mn q2 q3))]) (rest := []) (lenOf pd__JJ_J rfl) rfl (by show 2 * 0 + _ ≤ _; exact Nat.le_of_eq rfl) (hb hby at_7) (fun _ _ => ⟨rfl, e1, (by decide : 0 + 0 + 0 ≤ _), (by decide : 0 + 0 + 0 ≤ _)⟩)
  dsimp only [Pt.U, Pt.locs, Pt.cells, Pt.slots] at X2 lq2 yq2 zq2 st2 hQ2
  subst lq2 yq2 zq2
  obtain ⟨h2, e2⟩ : ∃ z, T2.heap = z := ⟨_, rfl⟩
  rw [e2] at hQ2
  unfold Q3 at hQ2
  obtain ⟨rfl, Nq2, qh2⟩ := hQ2
  have N2 := Fr.app N1 Nq2
  rw [qh2] at e2
  refine own_f T2 (mkF m 10 #[.val (.long q1), .second, .val (.long q2), .second, .val (.long q3), .second, .val (.int p4), .unset, .unset, .unset, .unset, .unset, .unset, .unset, .unset, .unset, .unset] [(.long (own_mn q1 (own_mn q2 q3)))]) st2 ?_
  refine own_f T2 (mkF m 12 #[.val (.long q1), .second, .val (.long q2), .second, .val (.long q3), .second, .val (.int p4), .val (.long (own_mn q1 (own_mn q2 q3))), .second, .unset, .unset, .unset, .unset, .unset, .unset, .unset, .unset] []) (fun t k => XS.lstore X2.here hx rfl (hb hby at_10) rfl (l' := #[.val (.long q1), .second, .val (.long q2), .second, .val (.long q3), .second, .val (.int p4), .val (.long (own_mn q1 (own_mn q2 q3))), .second, .unset, .unset, .unset, .unset, .unset, .unset, .unset, .unset]) rfl k) ?_
  refine own_f T2 (mkF m 13 #[.val (.long q1), .second, .val (.long q2), .second, .val (.long q3), .second, .val (.int p4), .val (.long (own_mn q1 (own_mn q2 q3))), .second, .unset, .unset, .unset, .unset, .unset, .unset, .unset, .unset] [(.long q1)]) (fun t k => XS.lloadN X2.here hx rfl (hb hby at_12) rfl k) ?_
  refine own_f T2 (mkF m 14 #[.val (.long q1), .second, .val (.long q2), .second, .val (.long q3), .second, .val (.int p4), .val (.long (own_mn q1 (own_mn q2 q3))), .second, .unset, .unset, .unset, .unset, .unset, .unset, .unset, .unset] [(.long q2), (.long q1)]) (fun t k => XS.lloadN X2.here hx rfl (hb hby at_13) rfl k) ?_
  refine own_f T2 (mkF m 16 #[.val (.long q1), .second, .val (.long q2), .second, .val (.long q3), .second, .val (.int p4), .val (.long (own_mn q1 (own_mn q2 q3))), .second, .unset, .unset, .unset, .unset, .unset, .unset, .unset, .unset] [(.long q3), (.long q2), (.long q1)]) (fun t k => XS.lload X2.here hx rfl (hb hby at_14) rfl k) ?_
  obtain ⟨_, _, ⟨T3, Lq3, kq_3, nq_3⟩, -, X3, ⟨Lc3, hQ3, lq3, yq3, zq3⟩, st3⟩ := Jvm.LawKit.callS X2 hx (y := (⟨"java/lang/Math", "max", "(JJ)J"⟩ : MethodName)) hown (mvT hZ (own_w hw 4 rfl)) (mvT hZ (own_w hw 5 rfl)) (mvT hZ (own_w hw 2 rfl)) (mvT hZ (own_w hw 6 rfl)) (by decide) (backOf (W := 2) (rm4 l Z a0 hw [] q2 q3 h0 n0 Z0 ) hZ (own_w hw 6 rfl) (own_w hw 2 rfl) (by decide) (by decide)) (g := (mkF m 16 #[.val (.long q1), .second, .val (.long q2), .second, .val (.long q3), .second, .val (.int p4), .val (.long (own_mn q1 (own_mn q2 q3))), .second, .unset, .unset, .unset, .unset, .unset, .unset, .unset, .unset] [(.long q3), (.long q2), (.long q1)])) rfl (by rw [hml]; rfl) (argsL := [(.long q2), (.long q3)]) (rest := [(.long q1)]) (lenOf pd__JJ_J rfl) rfl (by show 2 * 0 + _ ≤ _; exact Nat.le_of_eq rfl) (hb hby at_16) (fun _ _ => ⟨rfl, e2, (by decide : 0 + 0 + 0 + 0 ≤ _), (by decide : 0 + 0 + 0 + 0 ≤ _)⟩)
  dsimp only [Pt.U, Pt.locs, Pt.cells, Pt.slots] at X3 lq3 yq3 zq3 st3 hQ3
  subst lq3 yq3 zq3
  obtain ⟨h3, e3⟩ : ∃ z, T3.heap = z := ⟨_, rfl⟩
  rw [e3] at hQ3
  unfold Q4 at hQ3
  obtain ⟨rfl, Nq3, qh3⟩ := hQ3
  have N3 := Fr.app N2 Nq3
  rw [qh3] at e3
  refine own_f T3 (mkF m 19 #[.val (.long q1), .second, .val (.long q2), .second, .val (.long q3), .second, .val (.int p4), .val (.long (own_mn q1 (own_mn q2 q3))), .second, .unset, .unset, .unset, .unset, .unset, .unset, .unset, .unset] [(.long (own_mx q2 q3)), (.long q1)]) st3 ?_
  obtain ⟨_, _, ⟨T4, Lq4, kq_4, nq_4⟩, -, X4, ⟨Lc4, hQ4, lq4, yq4, zq4⟩, st4⟩ := Jvm.LawKit.callS X3 hx (y := (⟨"java/lang/Math", "max", "(JJ)J"⟩ : MethodName)) hown (mvT hZ (own_w hw 4 rfl)) (mvT hZ (own_w hw 5 rfl)) (mvT hZ (own_w hw 2 rfl)) (mvT hZ (own_w hw 6 rfl)) (by decide) (backOf (W := 0) (rm4 l Z a0 hw [] q1 (own_mx q2 q3) h0 n0 Z0 ) hZ (own_w hw 6 rfl) (own_w hw 2 rfl) (by decide) (by decide)) (g := (mkF m 19 #[.val (.long q1), .second, .val (.long q2), .second, .val (.long q3), .second, .val (.int p4), .val (.long (own_mn q1 (own_mn q2 q3))), .second, .unset, .unset, .unset, .unset, .unset, .unset, .unset, .unset] [(.long (own_mx q2 q3)), (.long q1)])) rfl (by rw [hml]; rfl) (argsL := [(.long q1), (.long (own_mx q2 q3))]) (rest := []) (lenOf pd__JJ_J rfl) rfl (by show 2 * 0 + _ ≤ _; exact Nat.le_of_eq rfl) (hb hby at_19) (fun _ _ => ⟨rfl, e3, (by decide : 0 + 0 + 0 + 0 + 0 ≤ _), (by decide : 0 + 0 + 0 + 0 + 0 ≤ _)⟩)
  dsimp only [Pt.U, Pt.locs, Pt.cells, Pt.slots] at X4 lq4 yq4 zq4 st4 hQ4
  subst lq4 yq4 zq4
  obtain ⟨h4, e4⟩ : ∃ z, T4.heap = z := ⟨_, rfl⟩
  rw [e4] at hQ4
  unfold Q4 at hQ4
  obtain ⟨rfl, Nq4, qh4⟩ := hQ4
  have N4 := Fr.app N3 Nq4
  rw [qh4] at e4
  refine own_f T4 (mkF m 22 #[.val (.long q1), .second, .val (.long q2), .second, .val (.long q3), .second, .val (.int p4), .val (.long (own_mn q1 (own_mn q2 q3))), .second, .unset, .unset, .unset, .unset, .unset, .unset, .unset, .unset] [(.long (own_mx q1 (own_mx q2 q3)))]) st4 ?_
  refine own_f T4 (mkF m 24 #[.val (.long q1), .second, .val (.long q2), .second, .val (.long q3), .second, .val (.int p4), .val (.long (own_mn q1 (own_mn q2 q3))), .second, .val (.long (own_mx q1 (own_mx q2 q3))), .second, .unset, .unset, .unset, .unset, .unset, .unset] []) (fun t k => XS.lstore X4.here hx rfl (hb hby at_22) rfl (l' := #[.val (.long q1), .second, .val (.long q2), .second, .val (.long q3), .second, .val (.int p4), .val (.long (own_mn q1 (own_mn q2 q3))), .second, .val (.long (own_mx q1 (own_mx q2 q3))), .second, .unset, .unset, .unset, .unset, .unset, .unset]) rfl k) ?_
  refine own_f T4 (mkF m 25 #[.val (.long q1), .second, .val (.long q2), .second, .val (.long q3), .second, .val (.int p4), .val (.long (own_mn q1 (own_mn q2 q3))), .second, .val (.long (own_mx q1 (own_mx q2 q3))), .second, .unset, .unset, .unset, .unset, .unset, .unset] [(.long q1)]) (fun t k => XS.lloadN X4.here hx rfl (hb hby at_24) rfl k) ?_
  refine own_f T4 (mkF m 26 #[.val (.long q1), .second, .val (.long q2), .second, .val (.long q3), .second, .val (.int p4), .val (.long (own_mn q1 (own_mn q2 q3))), .second, .val (.long (own_mx q1 (own_mx q2 q3))), .second, .unset, .unset, .unset, .unset, .unset, .unset] [(.long q2), (.long q1)]) (fun t k => XS.lloadN X4.here hx rfl (hb hby at_25) rfl k) ?_
  obtain ⟨_, _, ⟨T5, Lq5, kq_5, nq_5⟩, -, X5, ⟨Lc5, hQ5, lq5, yq5, zq5⟩, st5⟩ := Jvm.LawKit.callS X4 hx (y := (⟨"java/lang/Math", "min", "(JJ)J"⟩ : MethodName)) hown (mvT hZ (own_w hw 0 rfl)) (mvT hZ (own_w hw 1 rfl)) (mvT hZ (own_w hw 2 rfl)) (mvT hZ (own_w hw 3 rfl)) (by decide) (backOf (W := 0) (rm3 l Z a0 hw [] q1 q2 h0 n0 Z0 ) hZ (own_w hw 3 rfl) (own_w hw 2 rfl) (by decide) (by decide)) (g := (mkF m 26 #[.val (.long q1), .second, .val (.long q2), .second, .val (.long q3), .second, .val (.int p4), .val (.long (own_mn q1 (own_mn q2 q3))), .second, .val (.long (own_mx q1 (own_mx q2 q3))), .second, .unset, .unset, .unset, .unset, .unset, .unset] [(.long q2), (.long q1)])) rfl (by rw [hml]; rfl) (argsL := [(.long q1), (.long q2)]) (rest := []) (lenOf pd__JJ_J rfl) rfl (by show 2 * 0 + _ ≤ _; exact Nat.le_of_eq rfl) (hb hby at_26) (fun _ _ => ⟨rfl, e4, (by decide : 0 + 0 + 0 + 0 + 0 + 0 ≤ _), (by decide : 0 + 0 + 0 + 0 + 0 + 0 ≤ _)⟩)
  dsimp only [Pt.U, Pt.locs, Pt.cells, Pt.slots] at X5 lq5 yq5 zq5 st5 hQ5
  subst lq5 yq5 zq5
  obtain ⟨h5, e5⟩ : ∃ z, T5.heap = z := ⟨_, rfl⟩
  rw [e5] at hQ5
  unfold Q3 at hQ5
  obtain ⟨rfl, Nq5, qh5⟩ := hQ5
  have N5 := Fr.app N4 Nq5
  rw [qh5] at e5
  refine own_f T5 (mkF m 29 #[.val (.long q1), .second, .val (.long q2), .second, .val (.long q3), .second, .val (.int p4), .val (.long (own_mn q1 (own_mn q2 q3))), .second, .val (.long (own_mx q1 (own_mx q2 q3))), .second, .unset, .unset, .unset, .unset, .unset, .unset] [(.long (own_mn q1 q2))]) st5 ?_
  refine own_f T5 (mkF m 30 #[.val (.long q1), .second, .val (.long q2), .second, .val (.long q3), .second, .val (.int p4), .val (.long (own_mn q1 (own_mn q2 q3))), .second, .val (.long (own_mx q1 (own_mx q2 q3))), .second, .unset, .unset, .unset, .unset, .unset, .unset] [(.long q1), (.long (own_mn q1 q2))]) (fun t k => XS.lloadN X5.here hx rfl (hb hby at_29) rfl k) ?_
  refine own_f T5 (mkF m 31 #[.val (.long q1), .second, .val (.long q2), .second, .val (.long q3), .second, .val (.int p4), .val (.long (own_mn q1 (own_mn q2 q3))), .second, .val (.long (own_mx q1 (own_mx q2 q3))), .second, .unset, .unset, .unset, .unset, .unset, .unset] [(.long q2), (.long q1), (.long (own_mn q1 q2))]) (fun t k => XS.lloadN X5.here hx rfl (hb hby at_30) rfl k) ?_
  obtain ⟨_, _, ⟨T6, Lq6, kq_6, nq_6⟩, -, X6, ⟨Lc6, hQ6, lq6, yq6, zq6⟩, st6⟩ := Jvm.LawKit.callS X5 hx (y := (⟨"java/lang/Math", "max", "(JJ)J"⟩ : MethodName)) hown (mvT hZ (own_w hw 4 rfl)) (mvT hZ (own_w hw 5 rfl)) (mvT hZ (own_w hw 2 rfl)) (mvT hZ (own_w hw 6 rfl)) (by decide) (backOf (W := 2) (rm4 l Z a0 hw [] q1 q2 h0 n0 Z0 ) hZ (own_w hw 6 rfl) (own_w hw 2 rfl) (by decide) (by decide)) (g := (mkF m 31 #[.val (.long q1), .second, .val (.long q2), .second, .val (.long q3), .second, .val (.int p4), .val (.long (own_mn q1 (own_mn q2 q3))), .second, .val (.long (own_mx q1 (own_mx q2 q3))), .second, .unset, .unset, .unset, .unset, .unset, .unset] [(.long q2), (.long q1), (.long (own_mn q1 q2))])) rfl (by rw [hml]; rfl) (argsL := [(.long q1), (.long q2)]) (rest := [(.long (own_mn q1 q2))]) (lenOf pd__JJ_J rfl) rfl (by show 2 * 0 + _ ≤ _; exact Nat.le_of_eq rfl) (hb hby at_31) (fun _ _ => ⟨rfl, e5, (by decide : 0 + 0 + 0 + 0 + 0 + 0 + 0 ≤ _), (by decide : 0 + 0 + 0 + 0 + 0 + 0 + 0 ≤ _)⟩)
  dsimp only [Pt.U, Pt.locs, Pt.cells, Pt.slots] at X6 lq6 yq6 zq6 st6 hQ6
  subst lq6 yq6 zq6
  obtain ⟨h6, e6⟩ : ∃ z, T6.heap = z := ⟨_, rfl⟩
  rw [e6] at hQ6
  unfold Q4 at hQ6
  obtain ⟨rfl, Nq6, qh6⟩ := hQ6
  have N6 := Fr.app N5 Nq6
  rw [qh6] at e6
  refine own_f T6 (mkF m 34 #[.val (.long q1), .second, .val (.long q2), .second, .val (.long q3), .second, .val (.int p4), .val (.long (own_mn q1 (own_mn q2 q3))), .second, .val (.long (own_mx q1 (own_mx q2 q3))), .second, .unset, .unset, .unset, .unset, .unset, .unset] [(.long (own_mx q1 q2)), (.long (own_mn q1 q2))]) st6 ?_
  refine own_f T6 (mkF m 36 #[.val (.long q1), .second, .val (.long q2), .second, .val (.long q3), .second, .val (.int p4), .val (.long (own_mn q1 (own_mn q2 q3))), .second, .val (.long (own_mx q1 (own_mx q2 q3))), .second, .unset, .unset, .unset, .unset, .unset, .unset] [(.long q3), (.long (own_mx q1 q2)), (.long (own_mn q1 q2))]) (fun t k => XS.lload X6.here hx rfl (hb hby at_34) rfl k) ?_
  obtain ⟨_, _, ⟨T7, Lq7, kq_7, nq_7⟩, -, X7, ⟨Lc7, hQ7, lq7, yq7, zq7⟩, st7⟩ := Jvm.LawKit.callS X6 hx (y := (⟨"java/lang/Math", "min", "(JJ)J"⟩ : MethodName)) hown (mvT hZ (own_w hw 0 rfl)) (mvT hZ (own_w hw 1 rfl)) (mvT hZ (own_w hw 2 rfl)) (mvT hZ (own_w hw 3 rfl)) (by decide) (backOf (W := 2) (rm3 l Z a0 hw [] (own_mx q1 q2) q3 h0 n0 Z0 ) hZ (own_w hw 3 rfl) (own_w hw 2 rfl) (by decide) (by decide)) (g := (mkF m 36 #[.val (.long q1), .second, .val (.long q2), .second, .val (.long q3), .second, .val (.int p4), .val (.long (own_mn q1 (own_mn q2 q3))), .second, .val (.long (own_mx q1 (own_mx q2 q3))), .second, .unset, .unset, .unset, .unset, .unset, .unset] [(.long q3), (.long (own_mx q1 q2)), (.long (own_mn q1 q2))])) rfl (by rw [hml]; rfl) (argsL := [(.long (own_mx q1 q2)), (.long q3)]) (rest := [(.long (own_mn q1 q2))]) (lenOf pd__JJ_J rfl) rfl (by show 2 * 0 + _ ≤ _; exact Nat.le_of_eq rfl) (hb hby at_36) (fun _ _ => ⟨rfl, e6, (by decide : 0 + 0 + 0 + 0 + 0 + 0 + 0 + 0 ≤ _), (by decide : 0 + 0 + 0 + 0 + 0 + 0 + 0 + 0 ≤ _)⟩)
  dsimp only [Pt.U, Pt.locs, Pt.cells, Pt.slots] at X7 lq7 yq7 zq7 st7 hQ7
  subst lq7 yq7 zq7
  obtain ⟨h7, e7⟩ : ∃ z, T7.heap = z := ⟨_, rfl⟩
  rw [e7] at hQ7
  unfold Q3 at hQ7
  obtain ⟨rfl, Nq7, qh7⟩ := hQ7
  have N7 := Fr.app N6 Nq7
  rw [qh7] at e7
  refine own_f T7 (mkF m 39 #[.val (.long q1), .second, .val (.long q2), .second, .val (.long q3), .second, .val (.int p4), .val (.long (own_mn q1 (own_mn q2 q3))), .second, .val (.long (own_mx q1 (own_mx q2 q3))), .second, .unset, .unset, .unset, .unset, .unset, .unset] [(.long (own_mn (own_mx q1 q2) q3)), (.long (own_mn q1 q2))]) st7 ?_
  obtain ⟨_, _, ⟨T8, Lq8, kq_8, nq_8⟩, -, X8, ⟨Lc8, hQ8, lq8, yq8, zq8⟩, st8⟩ := Jvm.LawKit.callS X7 hx (y := (⟨"java/lang/Math", "max", "(JJ)J"⟩ : MethodName)) hown (mvT hZ (own_w hw 4 rfl)) (mvT hZ (own_w hw 5 rfl)) (mvT hZ (own_w hw 2 rfl)) (mvT hZ (own_w hw 6 rfl)) (by decide) (backOf (W := 0) (rm4 l Z a0 hw [] (own_mn q1 q2) (own_mn (own_mx q1 q2) q3) h0 n0 Z0 ) hZ (own_w hw 6 rfl) (own_w hw 2 rfl) (by decide) (by decide)) (g := (mkF m 39 #[.val (.long q1), .second, .val (.long q2), .second, .val (.long q3), .second, .val (.int p4), .val (.long (own_mn q1 (own_mn q2 q3))), .second, .val (.long (own_mx q1 (own_mx q2 q3))), .second, .unset, .unset, .unset, .unset, .unset, .unset] [(.long (own_mn (own_mx q1 q2) q3)), (.long (own_mn q1 q2))])) rfl (by rw [hml]; rfl) (argsL := [(.long (own_mn q1 q2)), (.long (own_mn (own_mx q1 q2) q3))]) (rest := []) (lenOf pd__JJ_J rfl) rfl (by show 2 * 0 + _ ≤ _; exact Nat.le_of_eq rfl) (hb hby at_39) (fun _ _ => ⟨rfl, e7, (by decide : 0 + 0 + 0 + 0 + 0 + 0 + 0 + 0 + 0 ≤ _), (by decide : 0 + 0 + 0 + 0 + 0 + 0 + 0 + 0 + 0 ≤ _)⟩)
  dsimp only [Pt.U, Pt.locs, Pt.cells, Pt.slots] at X8 lq8 yq8 zq8 st8 hQ8
  subst lq8 yq8 zq8
  obtain ⟨h8, e8⟩ : ∃ z, T8.heap = z := ⟨_, rfl⟩
  rw [e8] at hQ8
  unfold Q4 at hQ8
  obtain ⟨rfl, Nq8, qh8⟩ := hQ8
  have N8 := Fr.app N7 Nq8
  rw [qh8] at e8
  refine own_f T8 (mkF m 42 #[.val (.long q1), .second, .val (.long q2), .second, .val (.long q3), .second, .val (.int p4), .val (.long (own_mn q1 (own_mn q2 q3))), .second, .val (.long (own_mx q1 (own_mx q2 q3))), .second, .unset, .unset, .unset, .unset, .unset, .unset] [(.long (own_mx (own_mn q1 q2) (own_mn (own_mx q1 q2) q3)))]) st8 ?_
  refine own_f T8 (mkF m 44 #[.val (.long q1), .second, .val (.long q2), .second, .val (.long q3), .second, .val (.int p4), .val (.long (own_mn q1 (own_mn q2 q3))), .second, .val (.long (own_mx q1 (own_mx q2 q3))), .second, .val (.long (own_mx (own_mn q1 q2) (own_mn (own_mx q1 q2) q3))), .second, .unset, .unset, .unset, .unset] []) (fun t k => XS.lstore X8.here hx rfl (hb hby at_42) rfl (l' := #[.val (.long q1), .second, .val (.long q2), .second, .val (.long q3), .second, .val (.int p4), .val (.long (own_mn q1 (own_mn q2 q3))), .second, .val (.long (own_mx q1 (own_mx q2 q3))), .second, .val (.long (own_mx (own_mn q1 q2) (own_mn (own_mx q1 q2) q3))), .second, .unset, .unset, .unset, .unset]) rfl k) ?_
  refine own_f T8 (mkF m 46 #[.val (.long q1), .second, .val (.long q2), .second, .val (.long q3), .second, .val (.int p4), .val (.long (own_mn q1 (own_mn q2 q3))), .second, .val (.long (own_mx q1 (own_mx q2 q3))), .second, .val (.long (own_mx (own_mn q1 q2) (own_mn (own_mx q1 q2) q3))), .second, .unset, .unset, .unset, .unset] [(.int p4)]) (fun t k => XS.iload X8.here hx rfl (hb hby at_44) rfl k) ?_
  refine own_f T8 (mkF m 47 #[.val (.long q1), .second, .val (.long q2), .second, .val (.long q3), .second, .val (.int p4), .val (.long (own_mn q1 (own_mn q2 q3))), .second, .val (.long (own_mx q1 (own_mx q2 q3))), .second, .val (.long (own_mx (own_mn q1 q2) (own_mn (own_mx q1 q2) q3))), .second, .unset, .unset, .unset, .unset] [(.int (3 : Int32)), (.int p4)]) (fun t k => XT.iconstV X8.here hx rfl (3 : Int32) (hb hby at_46) (by decide) k) ?_
  refine own_f T8 (mkF m 48 #[.val (.long q1), .second, .val (.long q2), .second, .val (.long q3), .second, .val (.int p4), .val (.long (own_mn q1 (own_mn q2 q3))), .second, .val (.long (own_mx q1 (own_mx q2 q3))), .second, .val (.long (own_mx (own_mn q1 q2) (own_mn (own_mx q1 q2) q3))), .second, .unset, .unset, .unset, .unset] [(.int (p4 &&& (3 : Int32)))]) (fun t k => XS.iand X8.here hx rfl (hb hby at_47) rfl k) ?_
  refine own_f T8 (mkF m 50 #[.val (.long q1), .second, .val (.long q2), .second, .val (.long q3), .second, .val (.int p4), .val (.long (own_mn q1 (own_mn q2 q3))), .second, .val (.long (own_mx q1 (own_mx q2 q3))), .second, .val (.long (own_mx (own_mn q1 q2) (own_mn (own_mx q1 q2) q3))), .second, .val (.int (p4 &&& (3 : Int32))), .unset, .unset, .unset] []) (fun t k => XS.istore X8.here hx rfl (hb hby at_48) rfl (l' := #[.val (.long q1), .second, .val (.long q2), .second, .val (.long q3), .second, .val (.int p4), .val (.long (own_mn q1 (own_mn q2 q3))), .second, .val (.long (own_mx q1 (own_mx q2 q3))), .second, .val (.long (own_mx (own_mn q1 q2) (own_mn (own_mx q1 q2) q3))), .second, .val (.int (p4 &&& (3 : Int32))), .unset, .unset, .unset]) rfl k) ?_
  refine own_f T8 (mkF m 52 #[.val (.long q1), .second, .val (.long q2), .second, .val (.long q3), .second, .val (.int p4), .val (.long (own_mn q1 (own_mn q2 q3))), .second, .val (.long (own_mx q1 (own_mx q2 q3))), .second, .val (.long (own_mx (own_mn q1 q2) (own_mn (own_mx q1 q2) q3))), .second, .val (.int (p4 &&& (3 : Int32))), .unset, .unset, .unset] [(.int (p4 &&& (3 : Int32)))]) (fun t k => XS.iload X8.here hx rfl (hb hby at_50) rfl k) ?_
  have jn9 : ∀ (vv : Int64) (jv : vv = (own_mn q1 (own_mn q2 q3)) ∨ vv = (own_mx q1 (own_mx q2 q3)) ∨ vv = (own_mx (own_mn q1 q2) (own_mn (own_mx q1 q2) q3))), own_R p.tables e below (own_PW s (Q0 Z q1 q2 q3 p4 h0 n0) room_1.cells room_1.slots) (T8.setTop (mkF m 79 #[.val (.long q1), .second, .val (.long q2), .second, .val (.long q3), .second, .val (.int p4), .val (.long (own_mn q1 (own_mn q2 q3))), .second, .val (.long (own_mx q1 (own_mx q2 q3))), .second, .val (.long (own_mx (own_mn q1 q2) (own_mn (own_mx q1 q2) q3))), .second, .val (.int (p4 &&& (3 : Int32))), .val (.long vv), .second, .unset] [])) := by
    intro vv jv
    obtain ⟨T10, h10, X10, e10, E10, A10, D10, U10, st10⟩ := newO X8 hx hZ hown (own_w hw 7 rfl) (own_w hw 8 rfl) (own_w hw 9 rfl) e8 (g := (mkF m 79 #[.val (.long q1), .second, .val (.long q2), .second, .val (.long q3), .second, .val (.int p4), .val (.long (own_mn q1 (own_mn q2 q3))), .second, .val (.long (own_mx q1 (own_mx q2 q3))), .second, .val (.long (own_mx (own_mn q1 q2) (own_mn (own_mx q1 q2) q3))), .second, .val (.int (p4 &&& (3 : Int32))), .val (.long vv), .second, .unset] [])) rfl (hb hby at_79) (by decide) (by decide)
    obtain ⟨b10, g10⟩ : ∃ z, z = h0.size := ⟨_, rfl⟩
    rw [← g10] at A10 D10 st10
    have ge10 : n0 ≤ b10 := by rw [g10]; exact Z0
    have Zs10 : n0 ≤ h10.size := Nat.le_trans Z0 E10.1
    have hk := Nat.le_trans hk E10.1
    have F_11 : Fld Z h10 b10 "com/example/rulecart/rulecart/IntegerField" "name" "Ljava/lang/String;" .null := D10 (Or.inr (own_w hw 35 rfl)) (ty := (.object "java/lang/String")) (by decide)
    have F_12 : Fld Z h10 b10 "com/example/rulecart/rulecart/IntegerField" "min" "J" (.long 0) := D10 (Or.inr (own_w hw 37 rfl)) (ty := .long) (by decide)
    have F_13 : Fld Z h10 b10 "com/example/rulecart/rulecart/IntegerField" "max" "J" (.long 0) := D10 (Or.inr (own_w hw 39 rfl)) (ty := .long) (by decide)
    refine own_f T10 (mkF m 82 #[.val (.long q1), .second, .val (.long q2), .second, .val (.long q3), .second, .val (.int p4), .val (.long (own_mn q1 (own_mn q2 q3))), .second, .val (.long (own_mx q1 (own_mx q2 q3))), .second, .val (.long (own_mx (own_mn q1 q2) (own_mn (own_mx q1 q2) q3))), .second, .val (.int (p4 &&& (3 : Int32))), .val (.long vv), .second, .unset] [(.ref b10)]) st10 ?_
    refine own_f T10 (mkF m 83 #[.val (.long q1), .second, .val (.long q2), .second, .val (.long q3), .second, .val (.int p4), .val (.long (own_mn q1 (own_mn q2 q3))), .second, .val (.long (own_mx q1 (own_mx q2 q3))), .second, .val (.long (own_mx (own_mn q1 q2) (own_mn (own_mx q1 q2) q3))), .second, .val (.int (p4 &&& (3 : Int32))), .val (.long vv), .second, .unset] [(.ref b10), (.ref b10)]) (fun t k => XS.dup X10.here hx rfl (hb hby at_82) rfl rfl k) ?_
    obtain ⟨b14, T14, h14, ks14, X14, e14, E14, hS, hk, hZ, hown, st14⟩ := ldcS (s := s) (vm0 := s.vm) X10 hx hZ hown (own_w hw 10 rfl) (own_str hw) e10 hS hk (g := (mkF m 83 #[.val (.long q1), .second, .val (.long q2), .second, .val (.long q3), .second, .val (.int p4), .val (.long (own_mn q1 (own_mn q2 q3))), .second, .val (.long (own_mx q1 (own_mx q2 q3))), .second, .val (.long (own_mx (own_mn q1 q2) (own_mn (own_mx q1 q2) q3))), .second, .val (.int (p4 &&& (3 : Int32))), .val (.long vv), .second, .unset] [(.ref b10), (.ref b10)])) rfl (hb hby at_83) (n := 4) (by decide) (by decide) (by decide) (by decide)
    have Zs14 : n0 ≤ h14.size := Nat.le_trans Zs10 E14.1
    have F_15 := A10.ext E14
    have F_16 := F_11.ext E14
    have F_17 := F_12.ext E14
    have F_18 := F_13.ext E14
    refine own_f T14 (mkF m 85 #[.val (.long q1), .second, .val (.long q2), .second, .val (.long q3), .second, .val (.int p4), .val (.long (own_mn q1 (own_mn q2 q3))), .second, .val (.long (own_mx q1 (own_mx q2 q3))), .second, .val (.long (own_mx (own_mn q1 q2) (own_mn (own_mx q1 q2) q3))), .second, .val (.int (p4 &&& (3 : Int32))), .val (.long vv), .second, .unset] [(.ref b14), (.ref b10), (.ref b10)]) st14 ?_
    refine own_f T14 (mkF m 87 #[.val (.long q1), .second, .val (.long q2), .second, .val (.long q3), .second, .val (.int p4), .val (.long (own_mn q1 (own_mn q2 q3))), .second, .val (.long (own_mx q1 (own_mx q2 q3))), .second, .val (.long (own_mx (own_mn q1 q2) (own_mn (own_mx q1 q2) q3))), .second, .val (.int (p4 &&& (3 : Int32))), .val (.long vv), .second, .unset] [(.long (own_mn q1 (own_mn q2 q3))), (.ref b14), (.ref b10), (.ref b10)]) (fun t k => XS.lload X14.here hx rfl (hb hby at_85) rfl k) ?_
    refine own_f T14 (mkF m 89 #[.val (.long q1), .second, .val (.long q2), .second, .val (.long q3), .second, .val (.int p4), .val (.long (own_mn q1 (own_mn q2 q3))), .second, .val (.long (own_mx q1 (own_mx q2 q3))), .second, .val (.long (own_mx (own_mn q1 q2) (own_mn (own_mx q1 q2) q3))), .second, .val (.int (p4 &&& (3 : Int32))), .val (.long vv), .second, .unset] [(.long (own_mx q1 (own_mx q2 q3))), (.long (own_mn q1 (own_mn q2 q3))), (.ref b14), (.ref b10), (.ref b10)]) (fun t k => XS.lload X14.here hx rfl (hb hby at_87) rfl k) ?_
    obtain ⟨_, _, ⟨T19, Lq19, kq_19, nq_19⟩, -, X19, hSn19, hgr19, ⟨Lc19, hQ19, lq19, yq19, zq19⟩, st19⟩ := X14.specialBackS hx (y := (⟨"com/example/rulecart/rulecart/IntegerField", "<init>", "(Ljava/lang/String;JJ)V"⟩ : MethodName)) rfl hown (mvT hZ (own_w hw 18 rfl)) (mvT hZ (own_w hw 19 rfl)) (mvT hZ (own_w hw 20 rfl)) (by decide) (backOfS (W := 1) (rm1 l Z a0 hw [] b10 b14 (own_mn q1 (own_mn q2 q3)) (own_mx q1 (own_mx q2 q3)) _ _ _ h14 n0 Zs14 F_15 F_16 F_17 F_18 ge10 (own_lohi _ _ _)) hZ (own_w hw 20 rfl) (own_w hw 9 rfl) (by decide) (by decide)) (g := (mkF m 89 #[.val (.long q1), .second, .val (.long q2), .second, .val (.long q3), .second, .val (.int p4), .val (.long (own_mn q1 (own_mn q2 q3))), .second, .val (.long (own_mx q1 (own_mx q2 q3))), .second, .val (.long (own_mx (own_mn q1 q2) (own_mn (own_mx q1 q2) q3))), .second, .val (.int (p4 &&& (3 : Int32))), .val (.long vv), .second, .unset] [(.long (own_mx q1 (own_mx q2 q3))), (.long (own_mn q1 (own_mn q2 q3))), (.ref b14), (.ref b10), (.ref b10)])) rfl (by rw [hml]; rfl) (Steps.refl _) (a := b10) (argsL := [(.ref b14), (.long (own_mn q1 (own_mn q2 q3))), (.long (own_mx q1 (own_mx q2 q3)))]) (rest := [(.ref b10)]) (lenOf pd__Ljava_lang_String_JJ_V rfl) rfl (by show 2 * 0 + _ ≤ _; exact Nat.le_of_eq rfl) (hb hby at_89) (fun _ _ => ⟨rfl, e14, (by decide : 0 + 0 + 0 + 0 + 0 + 0 + 0 + 0 + 0 + 1 + 2 + 2 ≤ _), (by decide : 0 + 0 + 0 + 0 + 0 + 0 + 0 + 0 + 0 + 3 + (4 + 4) + 20 ≤ _)⟩)
    dsimp only [Pt.U, Pt.locs, Pt.cells, Pt.slots] at X19 lq19 yq19 zq19 st19 hQ19 hSn19 hgr19
    subst lq19 yq19 zq19
    obtain ⟨h19, e19⟩ : ∃ z, T19.heap = z := ⟨_, rfl⟩
    rw [e19] at hQ19
    have hS : s.Since T19.vm T19.heap.size := foldS (T := T14) (U := T19) hS (by rw [e14]; exact hk) hSn19 hgr19
    have hZ : Z.Warmed39 (s.setVm T19.vm).vm := State.Warmed39.trans hZ0 hS.1
    have hown : (s.setVm T19.vm).vm.findClass "com/example/rulecart/rulecart/IntegerFieldCheckPinLaw" = some m.cls := by rw [show (s.setVm T19.vm).vm = T19.vm from rfl, hS.1.alike.findClass]; exact hown0
    have X19 : Stand p l e room_1 (s.setVm T19.vm) m #[(.long q1), (.long q2), (.long q3), (.int p4)] below meth c T19 _ _ _ := X19
    have hk : T19.heap.size ≤ h19.size := Nat.le_of_eq (by rw [e19])
    unfold Q1 at hQ19
    obtain ⟨rfl, Nq19, qh19, G19_0, G19_1, G19_2⟩ := hQ19
    have N19 := Fr.app N8 Nq19
    have Zs19 : n0 ≤ h19.size := Nat.le_trans Zs14 qh19.1
    refine own_g T19 (mkF m 92 #[.val (.long q1), .second, .val (.long q2), .second, .val (.long q3), .second, .val (.int p4), .val (.long (own_mn q1 (own_mn q2 q3))), .second, .val (.long (own_mx q1 (own_mx q2 q3))), .second, .val (.long (own_mx (own_mn q1 q2) (own_mn (own_mx q1 q2) q3))), .second, .val (.int (p4 &&& (3 : Int32))), .val (.long vv), .second, .unset] [(.ref b10)]) st19 ?_
    refine own_f T19 (mkF m 94 #[.val (.long q1), .second, .val (.long q2), .second, .val (.long q3), .second, .val (.int p4), .val (.long (own_mn q1 (own_mn q2 q3))), .second, .val (.long (own_mx q1 (own_mx q2 q3))), .second, .val (.long (own_mx (own_mn q1 q2) (own_mn (own_mx q1 q2) q3))), .second, .val (.int (p4 &&& (3 : Int32))), .val (.long vv), .second, .val (.ref b10)] []) (fun t k => XS.astore X19.here hx rfl (hb hby at_92) rfl rfl (l' := #[.val (.long q1), .second, .val (.long q2), .second, .val (.long q3), .second, .val (.int p4), .val (.long (own_mn q1 (own_mn q2 q3))), .second, .val (.long (own_mx q1 (own_mx q2 q3))), .second, .val (.long (own_mx (own_mn q1 q2) (own_mn (own_mx q1 q2) q3))), .second, .val (.int (p4 &&& (3 : Int32))), .val (.long vv), .second, .val (.ref b10)]) rfl k) ?_
    refine own_f T19 (mkF m 96 #[.val (.long q1), .second, .val (.long q2), .second, .val (.long q3), .second, .val (.int p4), .val (.long (own_mn q1 (own_mn q2 q3))), .second, .val (.long (own_mx q1 (own_mx q2 q3))), .second, .val (.long (own_mx (own_mn q1 q2) (own_mn (own_mx q1 q2) q3))), .second, .val (.int (p4 &&& (3 : Int32))), .val (.long vv), .second, .val (.ref b10)] [(.ref b10)]) (fun t k => XS.aload X19.here hx rfl (hb hby at_94) rfl rfl k) ?_
    refine own_f T19 (mkF m 98 #[.val (.long q1), .second, .val (.long q2), .second, .val (.long q3), .second, .val (.int p4), .val (.long (own_mn q1 (own_mn q2 q3))), .second, .val (.long (own_mx q1 (own_mx q2 q3))), .second, .val (.long (own_mx (own_mn q1 q2) (own_mn (own_mx q1 q2) q3))), .second, .val (.int (p4 &&& (3 : Int32))), .val (.long vv), .second, .val (.ref b10)] [(.long vv), (.ref b10)]) (fun t k => XS.lload X19.here hx rfl (hb hby at_96) rfl k) ?_
    obtain ⟨cq20, kq20, qa20, qb20, qc20⟩ := isOf hZ e19 G19_0
    obtain ⟨_, _, ⟨T20, Lq20, kq_20, nq_20⟩, -, X20, ⟨Lc20, hQ20, lq20, yq20, zq20⟩, st20⟩ := X19.virtualBack hx (y := (⟨"com/example/rulecart/rulecart/IntegerField", "check", "(J)J"⟩ : MethodName)) (z := (⟨"com/example/rulecart/rulecart/IntegerField", "check", "(J)J"⟩ : MethodName)) hown (mvT hZ (own_w hw 40 rfl)) (mvT hZ (own_w hw 41 rfl)) (notFace_of_selects (args := #[]) (mvT hZ (own_w hw 43 rfl))) (mvT hZ (own_w hw 43 rfl)) (mvT hZ (own_w hw 42 rfl)) (by decide) (backOf (W := 0) (rm6 l Z a0 hw [] b10 vv _ _ h19 n0 Zs19 G19_1 G19_2 (own_vlo jv) (own_vhi jv)) hZ (own_w hw 44 rfl) (own_w hw 9 rfl) (by decide) (by decide)) qa20 qc20 (g := (mkF m 98 #[.val (.long q1), .second, .val (.long q2), .second, .val (.long q3), .second, .val (.int p4), .val (.long (own_mn q1 (own_mn q2 q3))), .second, .val (.long (own_mx q1 (own_mx q2 q3))), .second, .val (.long (own_mx (own_mn q1 q2) (own_mn (own_mx q1 q2) q3))), .second, .val (.int (p4 &&& (3 : Int32))), .val (.long vv), .second, .val (.ref b10)] [(.long vv), (.ref b10)])) rfl (by rw [hml]; rfl) (Steps.refl _) (argsL := [(.long vv)]) (rest := []) (lenOf pd__J_J rfl) rfl (by show 2 * 0 + _ ≤ _; exact Nat.le_of_eq rfl) (hb hby at_98) (fun _ _ => ⟨rfl, e19, (by decide : 0 + 0 + 0 + 0 + 0 + 0 + 0 + 0 + 0 + 1 + 2 + 2 + 0 ≤ _), (by decide : 0 + 0 + 0 + 0 + 0 + 0 + 0 + 0 + 0 + 3 + (4 + 4) + 20 + 0 ≤ _)⟩)
    dsimp only [Pt.U, Pt.locs, Pt.cells, Pt.slots] at X20 lq20 yq20 zq20 st20 hQ20
    subst lq20 yq20 zq20
    obtain ⟨h20, e20⟩ : ∃ z, T20.heap = z := ⟨_, rfl⟩
    rw [e20] at hQ20
    unfold Q6 at hQ20
    obtain ⟨rfl, Nq20, qh20⟩ := hQ20
    have N20 := Fr.app N19 Nq20
    rw [qh20] at e20
    refine own_g T20 (mkF m 101 #[.val (.long q1), .second, .val (.long q2), .second, .val (.long q3), .second, .val (.int p4), .val (.long (own_mn q1 (own_mn q2 q3))), .second, .val (.long (own_mx q1 (own_mx q2 q3))), .second, .val (.long (own_mx (own_mn q1 q2) (own_mn (own_mx q1 q2) q3))), .second, .val (.int (p4 &&& (3 : Int32))), .val (.long vv), .second, .val (.ref b10)] [(.long vv)]) st20 ?_
    refine own_f T20 (mkF m 103 #[.val (.long q1), .second, .val (.long q2), .second, .val (.long q3), .second, .val (.int p4), .val (.long (own_mn q1 (own_mn q2 q3))), .second, .val (.long (own_mx q1 (own_mx q2 q3))), .second, .val (.long (own_mx (own_mn q1 q2) (own_mn (own_mx q1 q2) q3))), .second, .val (.int (p4 &&& (3 : Int32))), .val (.long vv), .second, .val (.ref b10)] [(.long vv), (.long vv)]) (fun t k => XS.lload X20.here hx rfl (hb hby at_101) rfl k) ?_
    refine own_f T20 (mkF m 104 #[.val (.long q1), .second, .val (.long q2), .second, .val (.long q3), .second, .val (.int p4), .val (.long (own_mn q1 (own_mn q2 q3))), .second, .val (.long (own_mx q1 (own_mx q2 q3))), .second, .val (.long (own_mx (own_mn q1 q2) (own_mn (own_mx q1 q2) q3))), .second, .val (.int (p4 &&& (3 : Int32))), .val (.long vv), .second, .val (.ref b10)] [(.int (XT.cmpL vv vv))]) (fun t k => XT.lcmp X20.here hx rfl (hb hby at_103) rfl k) ?_
    have hc21 : vv = vv := rfl
    refine own_f T20 (mkF m 107 #[.val (.long q1), .second, .val (.long q2), .second, .val (.long q3), .second, .val (.int p4), .val (.long (own_mn q1 (own_mn q2 q3))), .second, .val (.long (own_mx q1 (own_mx q2 q3))), .second, .val (.long (own_mx (own_mn q1 q2) (own_mn (own_mx q1 q2) q3))), .second, .val (.int (p4 &&& (3 : Int32))), .val (.long vv), .second, .val (.ref b10)] []) (fun t k => XS.ifNo X20.here hx rfl (hb hby at_104) rfl (XT.ll_ne_f hc21) k) ?_
    refine own_f T20 (mkF m 108 #[.val (.long q1), .second, .val (.long q2), .second, .val (.long q3), .second, .val (.int p4), .val (.long (own_mn q1 (own_mn q2 q3))), .second, .val (.long (own_mx q1 (own_mx q2 q3))), .second, .val (.long (own_mx (own_mn q1 q2) (own_mn (own_mx q1 q2) q3))), .second, .val (.int (p4 &&& (3 : Int32))), .val (.long vv), .second, .val (.ref b10)] [(.int (1 : Int32))]) (fun t k => XT.iconstV X20.here hx rfl (1 : Int32) (hb hby at_107) (by decide) k) ?_
    refine own_f T20 (mkF m 112 #[.val (.long q1), .second, .val (.long q2), .second, .val (.long q3), .second, .val (.int p4), .val (.long (own_mn q1 (own_mn q2 q3))), .second, .val (.long (own_mx q1 (own_mx q2 q3))), .second, .val (.long (own_mx (own_mn q1 q2) (own_mn (own_mx q1 q2) q3))), .second, .val (.int (p4 &&& (3 : Int32))), .val (.long vv), .second, .val (.ref b10)] [(.int (1 : Int32))]) (fun t k => XS.goto X20.here hx rfl (pc0 := 108) (pc' := 112) rfl (hb hby at_108) (by decide) (by decide) k) ?_
    obtain ⟨fs, hr, hrun, hended, hW⟩ := Stand.leaveW (s := s) (vm₁ := T19.vm) X20 hS (by rw [e20]; exact hk) (v := some (.int (1 : Int32))) (fun h => by rw [Bd.returns] at h; cases h)
    refine ⟨_, _, retN X20 hx (t := .boolean) Bd.returns (by simp) (hb hby at_112) hr, hrun, hended, _, _, rfl, ?_, hW.1, hW.2.1, hW.2.2.1, hW.2.2.2.mono (by decide) (by decide)⟩
    show Q0 Z q1 q2 q3 p4 h0 n0 _ T20.heap _
    rw [e20]
    exact ⟨rfl, N20⟩
  by_cases hc22 : (p4 &&& (3 : Int32)) = 0
  · skip
    refine own_f T8 (mkF m 55 #[.val (.long q1), .second, .val (.long q2), .second, .val (.long q3), .second, .val (.int p4), .val (.long (own_mn q1 (own_mn q2 q3))), .second, .val (.long (own_mx q1 (own_mx q2 q3))), .second, .val (.long (own_mx (own_mn q1 q2) (own_mn (own_mx q1 q2) q3))), .second, .val (.int (p4 &&& (3 : Int32))), .unset, .unset, .unset] []) (fun t k => XS.ifNo X8.here hx rfl (hb hby at_52) rfl (XT.i0_ne_f hc22) k) ?_
    refine own_f T8 (mkF m 57 #[.val (.long q1), .second, .val (.long q2), .second, .val (.long q3), .second, .val (.int p4), .val (.long (own_mn q1 (own_mn q2 q3))), .second, .val (.long (own_mx q1 (own_mx q2 q3))), .second, .val (.long (own_mx (own_mn q1 q2) (own_mn (own_mx q1 q2) q3))), .second, .val (.int (p4 &&& (3 : Int32))), .unset, .unset, .unset] [(.long (own_mn q1 (own_mn q2 q3)))]) (fun t k => XS.lload X8.here hx rfl (hb hby at_55) rfl k) ?_
    refine own_f T8 (mkF m 59 #[.val (.long q1), .second, .val (.long q2), .second, .val (.long q3), .second, .val (.int p4), .val (.long (own_mn q1 (own_mn q2 q3))), .second, .val (.long (own_mx q1 (own_mx q2 q3))), .second, .val (.long (own_mx (own_mn q1 q2) (own_mn (own_mx q1 q2) q3))), .second, .val (.int (p4 &&& (3 : Int32))), .val (.long (own_mn q1 (own_mn q2 q3))), .second, .unset] []) (fun t k => XS.lstore X8.here hx rfl (hb hby at_57) rfl (l' := #[.val (.long q1), .second, .val (.long q2), .second, .val (.long q3), .second, .val (.int p4), .val (.long (own_mn q1 (own_mn q2 q3))), .second, .val (.long (own_mx q1 (own_mx q2 q3))), .second, .val (.long (own_mx (own_mn q1 q2) (own_mn (own_mx q1 q2) q3))), .second, .val (.int (p4 &&& (3 : Int32))), .val (.long (own_mn q1 (own_mn q2 q3))), .second, .unset]) rfl k) ?_
    refine own_f T8 (mkF m 79 #[.val (.long q1), .second, .val (.long q2), .second, .val (.long q3), .second, .val (.int p4), .val (.long (own_mn q1 (own_mn q2 q3))), .second, .val (.long (own_mx q1 (own_mx q2 q3))), .second, .val (.long (own_mx (own_mn q1 q2) (own_mn (own_mx q1 q2) q3))), .second, .val (.int (p4 &&& (3 : Int32))), .val (.long (own_mn q1 (own_mn q2 q3))), .second, .unset] []) (fun t k => XS.goto X8.here hx rfl (pc0 := 59) (pc' := 79) rfl (hb hby at_59) (by decide) (by decide) k) ?_
    exact jn9 (own_mn q1 (own_mn q2 q3)) (by first | exact Or.inl rfl | exact Or.inr (Or.inl rfl) | exact Or.inr (Or.inr rfl))
  · skip
    refine own_f T8 (mkF m 62 #[.val (.long q1), .second, .val (.long q2), .second, .val (.long q3), .second, .val (.int p4), .val (.long (own_mn q1 (own_mn q2 q3))), .second, .val (.long (own_mx q1 (own_mx q2 q3))), .second, .val (.long (own_mx (own_mn q1 q2) (own_mn (own_mx q1 q2) q3))), .second, .val (.int (p4 &&& (3 : Int32))), .unset, .unset, .unset] []) (fun t k => XS.ifYes X8.here hx rfl (pc0 := 52) (pc' := 62) rfl (hb hby at_52) rfl (XT.i0_ne_t hc22) (by decide) (by decide) k) ?_
    refine own_f T8 (mkF m 64 #[.val (.long q1), .second, .val (.long q2), .second, .val (.long q3), .second, .val (.int p4), .val (.long (own_mn q1 (own_mn q2 q3))), .second, .val (.long (own_mx q1 (own_mx q2 q3))), .second, .val (.long (own_mx (own_mn q1 q2) (own_mn (own_mx q1 q2) q3))), .second, .val (.int (p4 &&& (3 : Int32))), .unset, .unset, .unset] [(.int (p4 &&& (3 : Int32)))]) (fun t k => XS.iload X8.here hx rfl (hb hby at_62) rfl k) ?_
    refine own_f T8 (mkF m 65 #[.val (.long q1), .second, .val (.long q2), .second, .val (.long q3), .second, .val (.int p4), .val (.long (own_mn q1 (own_mn q2 q3))), .second, .val (.long (own_mx q1 (own_mx q2 q3))), .second, .val (.long (own_mx (own_mn q1 q2) (own_mn (own_mx q1 q2) q3))), .second, .val (.int (p4 &&& (3 : Int32))), .unset, .unset, .unset] [(.int (1 : Int32)), (.int (p4 &&& (3 : Int32)))]) (fun t k => XT.iconstV X8.here hx rfl (1 : Int32) (hb hby at_64) (by decide) k) ?_
    by_cases hc23 : (p4 &&& (3 : Int32)) = (1 : Int32)
    · skip
      refine own_f T8 (mkF m 68 #[.val (.long q1), .second, .val (.long q2), .second, .val (.long q3), .second, .val (.int p4), .val (.long (own_mn q1 (own_mn q2 q3))), .second, .val (.long (own_mx q1 (own_mx q2 q3))), .second, .val (.long (own_mx (own_mn q1 q2) (own_mn (own_mx q1 q2) q3))), .second, .val (.int (p4 &&& (3 : Int32))), .unset, .unset, .unset] []) (fun t k => XS.icmpNo X8.here hx rfl (hb hby at_65) rfl (XT.ii_ne_f hc23) k) ?_
      refine own_f T8 (mkF m 70 #[.val (.long q1), .second, .val (.long q2), .second, .val (.long q3), .second, .val (.int p4), .val (.long (own_mn q1 (own_mn q2 q3))), .second, .val (.long (own_mx q1 (own_mx q2 q3))), .second, .val (.long (own_mx (own_mn q1 q2) (own_mn (own_mx q1 q2) q3))), .second, .val (.int (p4 &&& (3 : Int32))), .unset, .unset, .unset] [(.long (own_mx q1 (own_mx q2 q3)))]) (fun t k => XS.lload X8.here hx rfl (hb hby at_68) rfl k) ?_
      refine own_f T8 (mkF m 72 #[.val (.long q1), .second, .val (.long q2), .second, .val (.long q3), .second, .val (.int p4), .val (.long (own_mn q1 (own_mn q2 q3))), .second, .val (.long (own_mx q1 (own_mx q2 q3))), .second, .val (.long (own_mx (own_mn q1 q2) (own_mn (own_mx q1 q2) q3))), .second, .val (.int (p4 &&& (3 : Int32))), .val (.long (own_mx q1 (own_mx q2 q3))), .second, .unset] []) (fun t k => XS.lstore X8.here hx rfl (hb hby at_70) rfl (l' := #[.val (.long q1), .second, .val (.long q2), .second, .val (.long q3), .second, .val (.int p4), .val (.long (own_mn q1 (own_mn q2 q3))), .second, .val (.long (own_mx q1 (own_mx q2 q3))), .second, .val (.long (own_mx (own_mn q1 q2) (own_mn (own_mx q1 q2) q3))), .second, .val (.int (p4 &&& (3 : Int32))), .val (.long (own_mx q1 (own_mx q2 q3))), .second, .unset]) rfl k) ?_
      refine own_f T8 (mkF m 79 #[.val (.long q1), .second, .val (.long q2), .second, .val (.long q3), .second, .val (.int p4), .val (.long (own_mn q1 (own_mn q2 q3))), .second, .val (.long (own_mx q1 (own_mx q2 q3))), .second, .val (.long (own_mx (own_mn q1 q2) (own_mn (own_mx q1 q2) q3))), .second, .val (.int (p4 &&& (3 : Int32))), .val (.long (own_mx q1 (own_mx q2 q3))), .second, .unset] []) (fun t k => XS.goto X8.here hx rfl (pc0 := 72) (pc' := 79) rfl (hb hby at_72) (by decide) (by decide) k) ?_
      exact jn9 (own_mx q1 (own_mx q2 q3)) (by first | exact Or.inl rfl | exact Or.inr (Or.inl rfl) | exact Or.inr (Or.inr rfl))
    · skip
      refine own_f T8 (mkF m 75 #[.val (.long q1), .second, .val (.long q2), .second, .val (.long q3), .second, .val (.int p4), .val (.long (own_mn q1 (own_mn q2 q3))), .second, .val (.long (own_mx q1 (own_mx q2 q3))), .second, .val (.long (own_mx (own_mn q1 q2) (own_mn (own_mx q1 q2) q3))), .second, .val (.int (p4 &&& (3 : Int32))), .unset, .unset, .unset] []) (fun t k => XS.icmpYes X8.here hx rfl (pc0 := 65) (pc' := 75) rfl (hb hby at_65) rfl (XT.ii_ne_t hc23) (by decide) (by decide) k) ?_
      refine own_f T8 (mkF m 77 #[.val (.long q1), .second, .val (.long q2), .second, .val (.long q3), .second, .val (.int p4), .val (.long (own_mn q1 (own_mn q2 q3))), .second, .val (.long (own_mx q1 (own_mx q2 q3))), .second, .val (.long (own_mx (own_mn q1 q2) (own_mn (own_mx q1 q2) q3))), .second, .val (.int (p4 &&& (3 : Int32))), .unset, .unset, .unset] [(.long (own_mx (own_mn q1 q2) (own_mn (own_mx q1 q2) q3)))]) (fun t k => XS.lload X8.here hx rfl (hb hby at_75) rfl k) ?_
      refine own_f T8 (mkF m 79 #[.val (.long q1), .second, .val (.long q2), .second, .val (.long q3), .second, .val (.int p4), .val (.long (own_mn q1 (own_mn q2 q3))), .second, .val (.long (own_mx q1 (own_mx q2 q3))), .second, .val (.long (own_mx (own_mn q1 q2) (own_mn (own_mx q1 q2) q3))), .second, .val (.int (p4 &&& (3 : Int32))), .val (.long (own_mx (own_mn q1 q2) (own_mn (own_mx q1 q2) q3))), .second, .unset] []) (fun t k => XS.lstore X8.here hx rfl (hb hby at_77) rfl (l' := #[.val (.long q1), .second, .val (.long q2), .second, .val (.long q3), .second, .val (.int p4), .val (.long (own_mn q1 (own_mn q2 q3))), .second, .val (.long (own_mx q1 (own_mx q2 q3))), .second, .val (.long (own_mx (own_mn q1 q2) (own_mn (own_mx q1 q2) q3))), .second, .val (.int (p4 &&& (3 : Int32))), .val (.long (own_mx (own_mn q1 q2) (own_mn (own_mx q1 q2) q3))), .second, .unset]) rfl k) ?_
      exact jn9 (own_mx (own_mn q1 q2) (own_mn (own_mx q1 q2) q3)) (by first | exact Or.inl rfl | exact Or.inr (Or.inl rfl) | exact Or.inr (Or.inr rfl))
set_option maxRecDepth 65536 in
set_option maxHeartbeats 40000000 in
theorem comes_1 {Post : Tables → Env → Array Value → State → Outcome → State → Prop} (hpost : ∀ tb e args s v u, (limb_1_1.after args s (.returned v) u = true ∧ limb_1_2.after args s (.returned v) u = true ∧ True) → ReturnedEndW s (.returned v) u (Jvm.fieldLocs frame_1_writes args s ++ Jvm.arrayLocs frame_1_arrays args s ++ Jvm.staticLocs frame_1_statics s) 16 2176 → Post tb e args s (.returned v) u) :
    ArmFor flags0 classFile x code maxLocals ret World_1 tables_1 room_1 Calls_1 rest_1 Pre_1 Post := by
  intro l hfl _ _ p e ha hc hk s m args below hf hA hF happ hP
  obtain ⟨hcalls, hrest, hpre⟩ := hP
  obtain ⟨-, -, -, hnamed, -, -, -, hat⟩ := (Spec.applies_iff hf).mp happ
  obtain ⟨hg, hn⟩ := and_e (Cond.before_iff.mp (show (Jvm.Cond.and given_1 narrow_1).before args s = true from hpre))
  obtain ⟨g0, r0⟩ := and_e hg
  obtain ⟨g1, r1⟩ := and_e r0
  obtain ⟨g2, r2⟩ := and_e r1
  obtain ⟨g3, r3⟩ := and_e r2
  obtain ⟨w0, w1, w2, w3, rfl⟩ : ∃ w0 w1 w2 w3 : Value, args = #[w0, w1, w2, w3] := by
    have hs : args.size = 4 := by simpa [Cond.value, given_1] using g0
    obtain ⟨L⟩ := args
    match L, hs with
    | [w0, w1, w2, w3], _ => exact ⟨w0, w1, w2, w3, rfl⟩
  have hw := fun d (hd : d ∈ tables_1) => atoms_spec (ws := Jvm.Cond.code x code maxLocals ret :: tables_1) hat d (List.mem_cons_of_mem _ hd)
  have hfit : Fit s := fun {y c} hc i hi => by
    obtain ⟨ha, rfl⟩ := Array.getElem?_eq_some_iff.mp hc
    have q := List.all_eq_true.mp ((Array.all_eq_true_iff_forall_mem.mp hF) _ (Array.getElem_mem ha)) i (List.mem_range.mpr hi)
    simpa [Array.getElem?_eq_getElem hi] using q
  obtain ⟨i0, ev0⟩ := isL_v g1
  obtain rfl : w0 = (.long i0) := Option.some.inj ev0
  obtain ⟨i1, ev1⟩ := isL_v g2
  obtain rfl : w1 = (.long i1) := Option.some.inj ev1
  obtain ⟨i2, ev2⟩ := isL_v g3
  obtain rfl : w2 = (.long i2) := Option.some.inj ev2
  obtain ⟨i3, ev3⟩ := is_v r3
  obtain rfl : w3 = (.int i3) := Option.some.inj ev3
  obtain ⟨n, o, h1, h2, h3, _, L, rfl, ⟨rfl, N⟩, hq⟩ := rm0 l s _ hw tables_1 i0 i1 i2 i3 s.heap s.heap.size (Nat.le_refl _)  p e ha hc hk s m _ below hf ((Spec.applies_iff_loose hf).mp happ).1 ⟨rfl, State.Warmed39.refl s, rfl⟩ trivial
  refine ⟨n, _, h1, h2, h3, hpost _ _ _ _ _ _ ⟨Cond.after_iff.mpr rfl, Cond.after_iff.mpr (eq_i res_at (Term.int_eval (1)) rfl), trivial⟩ ⟨hq.1, hq.2.1, hq.2.2.1, (hq.2.2.2.sift fun y hy => Or.inr (N y hy)).mono (by decide) (by decide)⟩⟩
theorem main_1_1 : Claimed_1_1 := comes_1 fun _ _ _ _ _ _ h hF => ⟨h.1, hF⟩
theorem main_1_2 : Claimed_1_2 := comes_1 fun _ _ _ _ _ _ h hF => ⟨h.2.1, hF⟩
end Jvm.Pilot.@@N@@
namespace Jvm.Pilot.@@N@@
open Jvm Jvm.ClassFile Sem Op Lib Jvm.Free Jvm.Stand Jvm.Pilot.@@N@@.Jvm.D
/-! MADE BY PROGRAM (witnessworld.py) out of the Statement's table words and the real class files: 17 classes; the members and pool entries that the words name. The judged class is class 1, her method 1. -/
namespace start1
open Jvm.ClassFile
def u (s : String) : CpInfo := .utf8 (stringToUtf16 s)
/-- a pool by its gaps: so many unusable entries, then the entry; so many at the end -/
def gap : Nat → List CpInfo → List CpInfo
  | 0, r => r
  | n + 1, r => .unusable :: gap n r
def poolList (es : List (Nat × CpInfo)) (last : Nat) : List CpInfo := es.foldr (fun e r => gap e.1 (e.2 :: r)) (gap last [])
def pool (es : List (Nat × CpInfo)) (last : Nat) : Array CpInfo := ⟨poolList es last⟩
def fileOf (pool : Array CpInfo) (this : Nat) (attrs : Array Attribute := #[]) (ms : Array MethodInfo := #[]) (fl : Nat := 33) (sup : Nat := 0) (ifs : Array Nat := #[]) (fds : Array FieldInfo := #[]) : ClassFile where
  minorVersion := 0
  majorVersion := 65
  constantPool := pool
  accessFlags := fl
  thisClass := this
  superClass := sup
  interfaces := ifs
  fields := fds
  methods := ms
  attributes := attrs
def plain (name : String) (sup : Option ClassId) : Class where
  name := name
  kind := .ordinary
  loader := none
  accessFlags := 33
  super := sup
  interfaces := #[]
  cf := none
  fields := #[]
  methods := #[]
  instanceTypes := #[]
  staticTypes := #[]
  resolved := #[]
  callSites := []
  init := .initialized
  statics := none
  mirror := none

def pool0 : Array CpInfo := pool [(5, u "<init>"), (0, u "()V"), (1, .class_ 10), (1, u "java/lang/Object")] 113

def k0c0 : Code := { maxStack := 0, maxLocals := 1, code := object_method_1_code, exceptionTable := #[], attributes := #[] }
def k0m0 : Method := { name := "<init>", desc := "()V", sig := { parameters := [], returnType := none }, accessFlags := 1, code := some k0c0 }
/-- java/lang/Object -/
def k0 : Class := { plain "java/lang/Object" none with
  accessFlags := 33
  interfaces := #[]
  cf := some (fileOf pool0 8 #[] #[{ accessFlags := 1, nameIndex := 5, descriptorIndex := 6, attributes := #[] }] 33 0 #[] #[])
  fields := #[]
  methods := #[k0m0]
  instanceTypes := #[]
  staticTypes := #[]
  resolved := Array.replicate 124 none
  statics := none }

def pool1 : Array CpInfo := pool [(2, .class_ 4), (1, u "java/lang/Object"), (0, u "<init>"), (0, u "()V"), (0, .methodref 8 9), (0, .class_ 10), (0, .nameAndType 11 12), (0, u "java/lang/Math"), (0, u "min"), (0, u "(JJ)J"), (0, .methodref 8 14), (0, .nameAndType 15 12), (0, u "max"), (0, .class_ 17), (0, u "com/example/rulecart/rulecart/IntegerField"), (0, .string 19), (0, u "n"), (0, .methodref 16 21), (0, .nameAndType 5 22), (0, u "(Ljava/lang/String;JJ)V"), (0, .methodref 16 24), (0, .nameAndType 25 26), (0, u "check"), (0, u "(J)J"), (0, .class_ 28), (0, u "com/example/rulecart/rulecart/IntegerFieldCheckPinLaw"), (2, u "law"), (0, u "(JJJI)Z")] 3

def k1m0 : Method := { name := "<init>", desc := "()V", sig := { parameters := [], returnType := none }, accessFlags := 1, code := none }
def k1c1 : Code := { maxStack := 7, maxLocals := 17, code := code, exceptionTable := #[], attributes := #[] }
def k1m1 : Method := { name := "law", desc := "(JJJI)Z", sig := { parameters := [.long, .long, .long, .int], returnType := some .boolean }, accessFlags := 9, code := some k1c1 }
/-- com/example/rulecart/rulecart/IntegerFieldCheckPinLaw -/
def k1 : Class := { plain "com/example/rulecart/rulecart/IntegerFieldCheckPinLaw" (some 0) with
  accessFlags := 49
  interfaces := #[]
  cf := some (fileOf pool1 27 #[] #[{ accessFlags := 1, nameIndex := 5, descriptorIndex := 6, attributes := #[] }, { accessFlags := 9, nameIndex := 31, descriptorIndex := 32, attributes := #[] }] 49 2 #[] #[])
  fields := #[]
  methods := #[k1m0, k1m1]
  instanceTypes := #[]
  staticTypes := #[]
  resolved := Array.replicate 36 none
  statics := none }

def pool2 : Array CpInfo := pool [(1, .class_ 2), (0, u "java/lang/Math"), (1, .class_ 6), (1, u "java/lang/Object"), (0, u "<init>"), (0, u "()V"), (89, .class_ 100), (1, u "java/lang/Math$RandomNumberGeneratorHolder"), (20, u "(JJ)J"), (50, u "negativeZeroFloatBits"), (0, u "J"), (2, u "negativeZeroDoubleBits"), (21, u "max"), (2, u "min"), (43, u "$assertionsDisabled"), (0, u "Z"), (91, u "twoToTheDoubleScaleDown"), (0, u "D"), (4, u "twoToTheDoubleScaleUp"), (9, u "E"), (3, u "PI"), (2, u "TAU"), (2, u "DEGREES_TO_RADIANS"), (0, u "RADIANS_TO_DEGREES")] 94

def k2m0 : Method := { name := "<init>", desc := "()V", sig := { parameters := [], returnType := none }, accessFlags := 2, code := none }
def k2c1 : Code := { maxStack := 4, maxLocals := 4, code := jdk_29_method_66_code, exceptionTable := #[], attributes := #[] }
def k2m1 : Method := { name := "max", desc := "(JJ)J", sig := { parameters := [.long, .long], returnType := some .long }, accessFlags := 9, code := some k2c1 }
def k2c2 : Code := { maxStack := 4, maxLocals := 4, code := jdk_29_method_70_code, exceptionTable := #[], attributes := #[] }
def k2m2 : Method := { name := "min", desc := "(JJ)J", sig := { parameters := [.long, .long], returnType := some .long }, accessFlags := 9, code := some k2c2 }
/-- java/lang/Math -/
def k2 : Class := { plain "java/lang/Math" (some 0) with
  accessFlags := 49
  interfaces := #[]
  cf := some (fileOf pool2 1 #[.nestMembers #[98]] #[{ accessFlags := 2, nameIndex := 7, descriptorIndex := 8, attributes := #[] }, { accessFlags := 9, nameIndex := 198, descriptorIndex := 121, attributes := #[] }, { accessFlags := 9, nameIndex := 201, descriptorIndex := 121, attributes := #[] }] 49 4 #[] #[{ accessFlags := 25, nameIndex := 354, descriptorIndex := 339, attributes := #[] }, { accessFlags := 25, nameIndex := 358, descriptorIndex := 339, attributes := #[] }, { accessFlags := 25, nameIndex := 361, descriptorIndex := 339, attributes := #[] }, { accessFlags := 26, nameIndex := 364, descriptorIndex := 339, attributes := #[] }, { accessFlags := 26, nameIndex := 365, descriptorIndex := 339, attributes := #[] }, { accessFlags := 26, nameIndex := 172, descriptorIndex := 173, attributes := #[] }, { accessFlags := 26, nameIndex := 176, descriptorIndex := 173, attributes := #[] }, { accessFlags := 8, nameIndex := 344, descriptorIndex := 339, attributes := #[] }, { accessFlags := 8, nameIndex := 338, descriptorIndex := 339, attributes := #[] }, { accessFlags := 4120, nameIndex := 245, descriptorIndex := 246, attributes := #[] }])
  fields := #[{ name := "E", type := .double, accessFlags := 25, slot := 0, constantValue := 0 }, { name := "PI", type := .double, accessFlags := 25, slot := 1, constantValue := 0 }, { name := "TAU", type := .double, accessFlags := 25, slot := 2, constantValue := 0 }, { name := "DEGREES_TO_RADIANS", type := .double, accessFlags := 26, slot := 3, constantValue := 0 }, { name := "RADIANS_TO_DEGREES", type := .double, accessFlags := 26, slot := 4, constantValue := 0 }, { name := "negativeZeroFloatBits", type := .long, accessFlags := 26, slot := 5, constantValue := 0 }, { name := "negativeZeroDoubleBits", type := .long, accessFlags := 26, slot := 6, constantValue := 0 }, { name := "twoToTheDoubleScaleUp", type := .double, accessFlags := 8, slot := 7, constantValue := 0 }, { name := "twoToTheDoubleScaleDown", type := .double, accessFlags := 8, slot := 8, constantValue := 0 }, { name := "$assertionsDisabled", type := .boolean, accessFlags := 4120, slot := 9, constantValue := 0 }]
  methods := #[k2m0, k2m1, k2m2]
  instanceTypes := #[]
  staticTypes := #[.double, .double, .double, .double, .double, .long, .long, .double, .double, .boolean]
  resolved := Array.replicate 460 none
  statics := none }

def pool3 : Array CpInfo := pool [(1, .methodref 2 3), (0, .class_ 4), (0, .nameAndType 5 6), (0, u "java/lang/Object"), (0, u "<init>"), (0, u "()V"), (0, .class_ 8), (0, u "java/lang/Record")] 13

def k3c0 : Code := { maxStack := 1, maxLocals := 1, code := jdk_30_method_1_code, exceptionTable := #[], attributes := #[] }
def k3m0 : Method := { name := "<init>", desc := "()V", sig := { parameters := [], returnType := none }, accessFlags := 4, code := some k3c0 }
/-- java/lang/Record -/
def k3 : Class := { plain "java/lang/Record" (some 0) with
  accessFlags := 1057
  interfaces := #[]
  cf := some (fileOf pool3 7 #[] #[{ accessFlags := 4, nameIndex := 5, descriptorIndex := 6, attributes := #[] }] 1057 2 #[] #[])
  fields := #[]
  methods := #[k3m0]
  instanceTypes := #[]
  staticTypes := #[]
  resolved := Array.replicate 22 none
  statics := none }

def pool4 : Array CpInfo := pool [(1, .methodref 2 3), (0, .class_ 4), (0, .nameAndType 5 6), (0, u "java/lang/Record"), (0, u "<init>"), (0, u "()V"), (0, .string 8), (0, u "name"), (0, .methodref 10 11), (0, .class_ 12), (0, .nameAndType 13 14), (0, u "java/util/Objects"), (0, u "requireNonNull"), (0, u "(Ljava/lang/Object;Ljava/lang/String;)Ljava/lang/Object;"), (9, .fieldref 25 26), (0, .class_ 27), (0, .nameAndType 8 28), (0, u "com/example/rulecart/rulecart/IntegerField"), (0, u "Ljava/lang/String;"), (0, .fieldref 25 30), (0, .nameAndType 31 32), (0, u "min"), (0, u "J"), (0, .fieldref 25 34), (0, .nameAndType 35 32), (0, u "max"), (8, u "(Ljava/lang/String;JJ)V"), (46, u "check"), (0, u "(J)J")] 41

def k4c0 : Code := { maxStack := 7, maxLocals := 6, code := prog_40_method_1_code, exceptionTable := #[], attributes := #[] }
def k4m0 : Method := { name := "<init>", desc := "(Ljava/lang/String;JJ)V", sig := { parameters := [(.object "java/lang/String"), .long, .long], returnType := none }, accessFlags := 1, code := some k4c0 }
def k4c1 : Code := { maxStack := 8, maxLocals := 3, code := prog_40_method_3_code, exceptionTable := #[], attributes := #[] }
def k4m1 : Method := { name := "check", desc := "(J)J", sig := { parameters := [.long], returnType := some .long }, accessFlags := 1, code := some k4c1 }
/-- com/example/rulecart/rulecart/IntegerField -/
def k4 : Class := { plain "com/example/rulecart/rulecart/IntegerField" (some 3) with
  accessFlags := 49
  interfaces := #[]
  cf := some (fileOf pool4 25 #[] #[{ accessFlags := 1, nameIndex := 5, descriptorIndex := 44, attributes := #[] }, { accessFlags := 1, nameIndex := 91, descriptorIndex := 92, attributes := #[] }] 49 2 #[] #[{ accessFlags := 18, nameIndex := 8, descriptorIndex := 28, attributes := #[] }, { accessFlags := 18, nameIndex := 31, descriptorIndex := 32, attributes := #[] }, { accessFlags := 18, nameIndex := 35, descriptorIndex := 32, attributes := #[] }])
  fields := #[{ name := "name", type := (.object "java/lang/String"), accessFlags := 18, slot := 0, constantValue := 0 }, { name := "min", type := .long, accessFlags := 18, slot := 1, constantValue := 0 }, { name := "max", type := .long, accessFlags := 18, slot := 2, constantValue := 0 }]
  methods := #[k4m0, k4m1]
  instanceTypes := #[(.object "java/lang/String"), .long, .long]
  staticTypes := #[]
  resolved := Array.replicate 134 none
  statics := none }

def pool5 : Array CpInfo := pool [(1, .class_ 2), (0, u "java/io/Serializable"), (0, .class_ 4), (0, u "java/lang/Object")] 2

/-- java/io/Serializable -/
def k5 : Class := { plain "java/io/Serializable" (some 0) with
  accessFlags := 1537
  interfaces := #[]
  cf := some (fileOf pool5 1 #[] #[] 1537 3 #[] #[])
  fields := #[]
  methods := #[]
  instanceTypes := #[]
  staticTypes := #[]
  resolved := Array.replicate 7 none
  statics := none }

def pool6 : Array CpInfo := pool [(1, .class_ 2), (0, u "java/lang/Comparable"), (0, .class_ 4), (0, u "java/lang/Object")] 7

/-- java/lang/Comparable -/
def k6 : Class := { plain "java/lang/Comparable" (some 0) with
  accessFlags := 1537
  interfaces := #[]
  cf := some (fileOf pool6 1 #[] #[] 1537 3 #[] #[])
  fields := #[]
  methods := #[]
  instanceTypes := #[]
  staticTypes := #[]
  resolved := Array.replicate 12 none
  statics := none }

def pool7 : Array CpInfo := pool [(2, .class_ 4), (1, u "java/lang/CharSequence"), (42, .class_ 48), (0, u "java/lang/CharSequence$1CodePointIterator"), (10, .class_ 60), (0, u "java/lang/CharSequence$1CharIterator"), (5, .class_ 67), (0, u "java/lang/Object")] 63

/-- java/lang/CharSequence -/
def k7 : Class := { plain "java/lang/CharSequence" (some 0) with
  accessFlags := 1537
  interfaces := #[]
  cf := some (fileOf pool7 2 #[.nestMembers #[47, 59]] #[] 1537 66 #[] #[])
  fields := #[]
  methods := #[]
  instanceTypes := #[]
  staticTypes := #[]
  resolved := Array.replicate 131 none
  statics := none }

def pool8 : Array CpInfo := pool [(1, .class_ 2), (0, u "java/lang/constant/Constable"), (0, .class_ 4), (0, u "java/lang/Object")] 6

/-- java/lang/constant/Constable -/
def k8 : Class := { plain "java/lang/constant/Constable" (some 0) with
  accessFlags := 1537
  interfaces := #[]
  cf := some (fileOf pool8 1 #[] #[] 1537 3 #[] #[])
  fields := #[]
  methods := #[]
  instanceTypes := #[]
  staticTypes := #[]
  resolved := Array.replicate 11 none
  statics := none }

def pool9 : Array CpInfo := pool [(1, .class_ 2), (0, u "java/lang/constant/ConstantDesc"), (0, .class_ 4), (0, u "java/lang/Object")] 32

/-- java/lang/constant/ConstantDesc -/
def k9 : Class := { plain "java/lang/constant/ConstantDesc" (some 0) with
  accessFlags := 1537
  interfaces := #[]
  cf := some (fileOf pool9 1 #[] #[] 1537 3 #[] #[])
  fields := #[]
  methods := #[]
  instanceTypes := #[]
  staticTypes := #[]
  resolved := Array.replicate 37 none
  statics := none }

def pool10 : Array CpInfo := pool [(2, .class_ 4), (1, u "java/lang/Object"), (0, u "<init>"), (0, u "()V"), (3, .class_ 12), (1, u "java/lang/String"), (0, u "value"), (0, u "[B"), (2, u "coder"), (0, u "B"), (2, u "hash"), (0, u "I"), (2, u "hashIsZero"), (0, u "Z"), (13, u "COMPACT_STRINGS"), (534, .class_ 576), (0, u "java/lang/CharSequence"), (22, u "CASE_INSENSITIVE_ORDER"), (0, u "Ljava/util/Comparator;"), (500, u "serialPersistentFields"), (0, u "[Ljava/io/ObjectStreamField;"), (0, .class_ 1104), (0, u "java/lang/String$CaseInsensitiveComparator"), (1, .class_ 1107), (0, u "java/io/Serializable"), (0, .class_ 1109), (0, u "java/lang/Comparable"), (0, .class_ 1111), (0, u "java/lang/constant/Constable"), (0, .class_ 1113), (0, u "java/lang/constant/ConstantDesc"), (2, u "serialVersionUID"), (0, u "J"), (3, u "REPL"), (0, u "C"), (2, u "LATIN1"), (1, u "UTF16")] 323

def k10m0 : Method := { name := "<init>", desc := "()V", sig := { parameters := [], returnType := none }, accessFlags := 1, code := none }
/-- java/lang/String -/
def k10 : Class := { plain "java/lang/String" (some 0) with
  accessFlags := 49
  interfaces := #[5, 6, 7, 8, 9]
  cf := some (fileOf pool10 10 #[.nestMembers #[1103]] #[{ accessFlags := 1, nameIndex := 5, descriptorIndex := 6, attributes := #[] }] 49 2 #[1106, 1108, 575, 1110, 1112] #[{ accessFlags := 18, nameIndex := 13, descriptorIndex := 14, attributes := #[] }, { accessFlags := 18, nameIndex := 17, descriptorIndex := 18, attributes := #[] }, { accessFlags := 2, nameIndex := 21, descriptorIndex := 22, attributes := #[] }, { accessFlags := 2, nameIndex := 25, descriptorIndex := 26, attributes := #[] }, { accessFlags := 26, nameIndex := 1116, descriptorIndex := 1117, attributes := #[] }, { accessFlags := 24, nameIndex := 40, descriptorIndex := 26, attributes := #[] }, { accessFlags := 26, nameIndex := 1101, descriptorIndex := 1102, attributes := #[] }, { accessFlags := 26, nameIndex := 1121, descriptorIndex := 1122, attributes := #[] }, { accessFlags := 25, nameIndex := 599, descriptorIndex := 600, attributes := #[] }, { accessFlags := 24, nameIndex := 1125, descriptorIndex := 18, attributes := #[] }, { accessFlags := 24, nameIndex := 1127, descriptorIndex := 18, attributes := #[] }])
  fields := #[{ name := "value", type := (.array .byte), accessFlags := 18, slot := 0, constantValue := 0 }, { name := "coder", type := .byte, accessFlags := 18, slot := 1, constantValue := 0 }, { name := "hash", type := .int, accessFlags := 2, slot := 2, constantValue := 0 }, { name := "hashIsZero", type := .boolean, accessFlags := 2, slot := 3, constantValue := 0 }, { name := "serialVersionUID", type := .long, accessFlags := 26, slot := 0, constantValue := 0 }, { name := "COMPACT_STRINGS", type := .boolean, accessFlags := 24, slot := 1, constantValue := 0 }, { name := "serialPersistentFields", type := (.array (.object "java/io/ObjectStreamField")), accessFlags := 26, slot := 2, constantValue := 0 }, { name := "REPL", type := .char, accessFlags := 26, slot := 3, constantValue := 0 }, { name := "CASE_INSENSITIVE_ORDER", type := (.object "java/util/Comparator"), accessFlags := 25, slot := 4, constantValue := 0 }, { name := "LATIN1", type := .byte, accessFlags := 24, slot := 5, constantValue := 0 }, { name := "UTF16", type := .byte, accessFlags := 24, slot := 6, constantValue := 0 }]
  methods := #[k10m0]
  instanceTypes := #[(.array .byte), .byte, .int, .boolean]
  staticTypes := #[.long, .boolean, (.array (.object "java/io/ObjectStreamField")), .char, (.object "java/util/Comparator"), .byte, .byte]
  resolved := Array.replicate 1451 none
  statics := none }

def pool11 : Array CpInfo := pool [(2, .class_ 4), (1, u "java/lang/Object"), (0, u "<init>"), (0, u "()V"), (35, .class_ 44), (1, u "java/util/Objects"), (0, u "requireNonNull"), (48, u "(Ljava/lang/Object;Ljava/lang/String;)Ljava/lang/Object;")] 89

def k11m0 : Method := { name := "<init>", desc := "()V", sig := { parameters := [], returnType := none }, accessFlags := 2, code := none }
def k11c1 : Code := { maxStack := 3, maxLocals := 2, code := jdk_31_method_11_code, exceptionTable := #[], attributes := #[] }
def k11m1 : Method := { name := "requireNonNull", desc := "(Ljava/lang/Object;Ljava/lang/String;)Ljava/lang/Object;", sig := { parameters := [(.object "java/lang/Object"), (.object "java/lang/String")], returnType := some (.object "java/lang/Object") }, accessFlags := 9, code := some k11c1 }
/-- java/util/Objects -/
def k11 : Class := { plain "java/util/Objects" (some 0) with
  accessFlags := 49
  interfaces := #[]
  cf := some (fileOf pool11 42 #[] #[{ accessFlags := 2, nameIndex := 5, descriptorIndex := 6, attributes := #[] }, { accessFlags := 9, nameIndex := 45, descriptorIndex := 94, attributes := #[] }] 49 2 #[] #[])
  fields := #[]
  methods := #[k11m0, k11m1]
  instanceTypes := #[]
  staticTypes := #[]
  resolved := Array.replicate 184 none
  statics := none }

def pool12 : Array CpInfo := pool [(1, u "java/lang/Cloneable"), (0, .class_ 1), (0, u "java/lang/Object"), (0, .class_ 3)] 3

/-- java/lang/Cloneable -/
def k12 : Class := { plain "java/lang/Cloneable" (some 0) with
  accessFlags := 1537
  interfaces := #[]
  cf := some (fileOf pool12 2 #[] #[] 1537 4 #[] #[])
  fields := #[]
  methods := #[]
  instanceTypes := #[]
  staticTypes := #[]
  resolved := Array.replicate 8 none
  statics := none }

/-- the primitive byte -/
def k13 : Class := { plain "byte" none with kind := .primitive 'B', accessFlags := 0x411 }
/-- [B -/
def k14 : Class := { plain "[B" (some 0) with kind := .array 13 .byte, interfaces := #[12, 5], accessFlags := 1041 }

/-- the primitive int -/
def k15 : Class := { plain "int" none with kind := .primitive 'I', accessFlags := 0x411 }
/-- [I -/
def k16 : Class := { plain "[I" (some 0) with kind := .array 15 .int, interfaces := #[12, 5], accessFlags := 1041 }

def heap : Heap := #[]
def classes : Array Class := #[k0, k1, k2, k3, k4, k5, k6, k7, k8, k9, k10, k11, k12, k13, k14, k15, k16]
def interned : List (Array UInt16 × Addr) := []
def slotsUsed : Nat := 0
def theMethod : MethodId := ⟨1, 1⟩
def args0 : Array Value := #[.long 5, .long 6, .long 7, .int 2]
def aboutOver (below : List Frame) : State where
  vm := { classes := classes, interned := interned.toArray }
  heap := heap
  slotsUsed := slotsUsed
  threads := #[{ frames := .invoking theMethod args0 :: below }]
def below0 : List Frame := [.native { method := ⟨0, 0⟩, args := #[] }]
def about1 : State := aboutOver below0
def p0 : Program := .bare "" "" ""
def e0 : Env := launch0.env 0 0 0
theorem w_frames : about1.frames = Frame.invoking theMethod args0 :: below0 := rfl
set_option maxRecDepth 65536 in
theorem w_args : argsFit about1.vm theMethod args0 = true := by decide +kernel
set_option maxRecDepth 65536 in
theorem w_heap : heapFits about1 = true := by decide +kernel
set_option maxRecDepth 65536 in
theorem w_runnable : about1.curStatus? = some .runnable := by decide +kernel
set_option maxRecDepth 65536 in
theorem w_alone : about1.alone = true := by decide +kernel
set_option maxRecDepth 65536 in
theorem w_named : about1.methodNamed? x = some theMethod := by decide +kernel
set_option maxRecDepth 65536 in
theorem w_hears : about1.hears theMethod below0 = true := by decide +kernel
set_option maxRecDepth 65536 in
theorem w_ripe : about1.ripe theMethod args0 below0 = true := by decide +kernel
theorem w_running : about1.status = .running := rfl
set_option maxRecDepth 65536 in
theorem w_room : about1.hasRoom e0.platform room_1 = true :=
  launch0.hasRoom_least _ room_1 (by decide +kernel) (by decide +kernel) (by decide +kernel) (by decide +kernel) (by decide +kernel) (by decide +kernel)
theorem allAtoms_all (ts : List Jvm.Cond) (a : Array Jvm.Value) (st : Jvm.State) : (allAtoms ts).before a st = ts.all (fun c => c.before a st) := by
  induction ts with
  | nil => rfl
  | cons c t ih =>
    show (Jvm.Cond.and c (allAtoms t)).before a st = _
    rw [Jvm.Cond.before_and, ih, List.all_cons]
def words1 : List Jvm.Cond := Jvm.Cond.code x code maxLocals ret :: tables_1
/-- a 'code' word, met by the world's own term for the bytes: nothing is compared byte by byte -/
theorem code_word {y : MethodName} {bytes : ByteArray} {mx : Nat} {rt : Option FieldType} {a : Array Value} {s : State} {m : MethodId} {meth : Method} {c : Code} (h1 : s.methodNamed? y = some m) (h2 : s.vm.method? m = some meth) (h3 : meth.code = some c) (h4 : c.code = bytes)
    (h5 : (c.maxLocals == mx && c.exceptionTable.isEmpty && decide (c.maxStack ≤ mostOperands) && decide (meth.sig.returnType = rt) && !meth.locks && decide (parseMethodDescriptor y.desc = some meth.sig)) = true) : (Jvm.Cond.code y bytes mx rt).before a s = true := by
  simp only [Bool.and_eq_true, beq_iff_eq, Bool.not_eq_true', decide_eq_true_eq] at h5
  obtain ⟨⟨⟨⟨⟨g1, g2⟩, g3⟩, g4⟩, g5⟩, g6⟩ := h5
  simp [Cond.before, Cond.holds, Cond.value, h1, h2, h3, h4, g1, g2, g3, g4, g5, g6]
def isCode : Jvm.Cond → Bool
  | .code _ _ _ _ => true
  | _ => false
theorem all_split {L : List Jvm.Cond} {P : Jvm.Cond → Bool} (h1 : L.all (fun c => isCode c || P c) = true) (h2 : ∀ c ∈ L.filter isCode, P c = true) : L.all P = true := by
  refine List.all_eq_true.mpr fun c hc => ?_
  have h := List.all_eq_true.mp h1 c hc
  rcases Bool.eq_false_or_eq_true (isCode c) with hi | hi
  · exact h2 c (List.mem_filter.mpr ⟨hc, hi⟩)
  · simpa [hi] using h
set_option maxRecDepth 65536 in
theorem w_c0 : (Jvm.Cond.code x code maxLocals ret).before args0 about1 = true := code_word (m := ⟨1, 1⟩) (meth := k1m1) (c := k1c1) (by decide +kernel) rfl rfl rfl (by decide +kernel)
set_option maxRecDepth 65536 in
theorem w_c1 : (Jvm.Cond.code ({ cls := "java/lang/Math", name := "min", desc := "(JJ)J" } : Jvm.MethodName) jdk_29_method_70_code (4 : Nat) (Option.some Jvm.ClassFile.FieldType.long)).before args0 about1 = true := code_word (m := ⟨2, 2⟩) (meth := k2m2) (c := k2c2) (by decide +kernel) rfl rfl rfl (by decide +kernel)
set_option maxRecDepth 65536 in
theorem w_c2 : (Jvm.Cond.code ({ cls := "java/lang/Math", name := "max", desc := "(JJ)J" } : Jvm.MethodName) jdk_29_method_66_code (4 : Nat) (Option.some Jvm.ClassFile.FieldType.long)).before args0 about1 = true := code_word (m := ⟨2, 1⟩) (meth := k2m1) (c := k2c1) (by decide +kernel) rfl rfl rfl (by decide +kernel)
set_option maxRecDepth 65536 in
theorem w_c3 : (Jvm.Cond.code ({ cls := "com/example/rulecart/rulecart/IntegerField", name := "<init>", desc := "(Ljava/lang/String;JJ)V" } : Jvm.MethodName) prog_40_method_1_code (6 : Nat) (Option.none : Option Jvm.ClassFile.FieldType)).before args0 about1 = true := code_word (m := ⟨4, 0⟩) (meth := k4m0) (c := k4c0) (by decide +kernel) rfl rfl rfl (by decide +kernel)
set_option maxRecDepth 65536 in
theorem w_c4 : (Jvm.Cond.code ({ cls := "java/lang/Record", name := "<init>", desc := "()V" } : Jvm.MethodName) jdk_30_method_1_code (1 : Nat) (Option.none : Option Jvm.ClassFile.FieldType)).before args0 about1 = true := code_word (m := ⟨3, 0⟩) (meth := k3m0) (c := k3c0) (by decide +kernel) rfl rfl rfl (by decide +kernel)
set_option maxRecDepth 65536 in
theorem w_c5 : (Jvm.Cond.code ({ cls := "java/lang/Object", name := "<init>", desc := "()V" } : Jvm.MethodName) object_method_1_code (1 : Nat) (Option.none : Option Jvm.ClassFile.FieldType)).before args0 about1 = true := code_word (m := ⟨0, 0⟩) (meth := k0m0) (c := k0c0) (by decide +kernel) rfl rfl rfl (by decide +kernel)
set_option maxRecDepth 65536 in
theorem w_c6 : (Jvm.Cond.code ({ cls := "java/util/Objects", name := "requireNonNull", desc := "(Ljava/lang/Object;Ljava/lang/String;)Ljava/lang/Object;" } : Jvm.MethodName) jdk_31_method_11_code (2 : Nat) (Option.some (Jvm.ClassFile.FieldType.object "java/lang/Object"))).before args0 about1 = true := code_word (m := ⟨11, 1⟩) (meth := k11m1) (c := k11c1) (by decide +kernel) rfl rfl rfl (by decide +kernel)
set_option maxRecDepth 65536 in
theorem w_c7 : (Jvm.Cond.code ({ cls := "com/example/rulecart/rulecart/IntegerField", name := "check", desc := "(J)J" } : Jvm.MethodName) prog_40_method_3_code (3 : Nat) (Option.some Jvm.ClassFile.FieldType.long)).before args0 about1 = true := code_word (m := ⟨4, 1⟩) (meth := k4m1) (c := k4c1) (by decide +kernel) rfl rfl rfl (by decide +kernel)
def codes1 : List Jvm.Cond := [Jvm.Cond.code x code maxLocals ret, Jvm.Cond.code ({ cls := "java/lang/Math", name := "min", desc := "(JJ)J" } : Jvm.MethodName) jdk_29_method_70_code (4 : Nat) (Option.some Jvm.ClassFile.FieldType.long), Jvm.Cond.code ({ cls := "java/lang/Math", name := "max", desc := "(JJ)J" } : Jvm.MethodName) jdk_29_method_66_code (4 : Nat) (Option.some Jvm.ClassFile.FieldType.long), Jvm.Cond.code ({ cls := "com/example/rulecart/rulecart/IntegerField", name := "<init>", desc := "(Ljava/lang/String;JJ)V" } : Jvm.MethodName) prog_40_method_1_code (6 : Nat) (Option.none : Option Jvm.ClassFile.FieldType), Jvm.Cond.code ({ cls := "java/lang/Record", name := "<init>", desc := "()V" } : Jvm.MethodName) jdk_30_method_1_code (1 : Nat) (Option.none : Option Jvm.ClassFile.FieldType), Jvm.Cond.code ({ cls := "java/lang/Object", name := "<init>", desc := "()V" } : Jvm.MethodName) object_method_1_code (1 : Nat) (Option.none : Option Jvm.ClassFile.FieldType), Jvm.Cond.code ({ cls := "java/util/Objects", name := "requireNonNull", desc := "(Ljava/lang/Object;Ljava/lang/String;)Ljava/lang/Object;" } : Jvm.MethodName) jdk_31_method_11_code (2 : Nat) (Option.some (Jvm.ClassFile.FieldType.object "java/lang/Object")), Jvm.Cond.code ({ cls := "com/example/rulecart/rulecart/IntegerField", name := "check", desc := "(J)J" } : Jvm.MethodName) prog_40_method_3_code (3 : Nat) (Option.some Jvm.ClassFile.FieldType.long)]
set_option maxRecDepth 65536 in
theorem codes_eq : words1.filter isCode = codes1 := rfl
theorem w_codes : ∀ c ∈ words1.filter isCode, c.before args0 about1 = true := by
  rw [codes_eq]
  intro c hc
  simp only [codes1, List.mem_cons, List.not_mem_nil, or_false] at hc
  rcases hc with rfl | rfl | rfl | rfl | rfl | rfl | rfl | rfl
  · exact w_c0
  · exact w_c1
  · exact w_c2
  · exact w_c3
  · exact w_c4
  · exact w_c5
  · exact w_c6
  · exact w_c7
set_option maxRecDepth 65536 in
theorem w_t1 : (words1.take 24).all (fun c => isCode c || c.before args0 about1) = true := by decide +kernel
set_option maxRecDepth 65536 in
theorem w_t2 : (words1.drop 24).all (fun c => isCode c || c.before args0 about1) = true := by decide +kernel
theorem w_tables : (allAtoms (Jvm.Cond.code x code maxLocals ret :: tables_1)).before args0 about1 = true := by
  rw [allAtoms_all]
  show words1.all (fun c => c.before args0 about1) = true
  refine all_split ?_ w_codes
  rw [← List.take_append_drop 24 words1, List.all_append, w_t1, w_t2]
  rfl
set_option maxRecDepth 65536 in
theorem w_case : (Jvm.Cond.and given_1 narrow_1).before args0 about1 = true := by decide +kernel
theorem w_applies : (headSpec (Jvm.Cond.code x code maxLocals ret :: tables_1) room_1).applies x e0.platform about1 = true :=
  (Spec.applies_iff w_frames).mpr ⟨w_running, w_runnable, w_alone, w_named, w_hears, w_ripe, w_room, w_tables⟩
theorem atStart : AtStart classFile x code maxLocals ret World_1 tables_1 room_1 Calls_1 rest_1 Pre_1 launch0 p0 e0 about1 theMethod args0 below0 :=
  ⟨lists_1, trivial, launch0.admits_env _ _ _, launch0.least_env, fairChoices_fair.cas, fairChoices_fair.clock, w_frames, w_args, w_heap, w_applies, trivial, trivial, w_case⟩
end start1
theorem witness_1 : WitnessClaimed_1 := ⟨start1.p0, start1.e0, start1.about1, start1.theMethod, start1.args0, start1.below0, start1.atStart⟩
end Jvm.Pilot.@@N@@
